import JvmDerived
import JvmDerived.Pilot.@@N@@Statement
import JvmDerived.Pilot.@@N@@Code
set_option linter.unusedVariables false
set_option linter.unusedSimpArgs false
namespace Jvm.RoadKit
open Sem ClassFile Op Lib Jvm.Stand Jvm.Free Jvm.LawKit
section New
variable {p : Program} {l : Launch} {e : Env} {R : Room} {s : State} {m : MethodId} {args : Array Value} {below : List Frame} {meth : Method} {c : Code} {T : State} {locs : List Loc} {cells slots : Nat}
theorem retI (X : Stand p l e R s m args below meth c T locs cells slots) (hx : p.tables.exec = Jvm.exec) {pc : Nat} {Ls : Array Slot} {z : Int32} {rest : List Value} (hret : meth.sig.returnType = some .int) (hd : decode c.code pc = .ok (.ireturn, 1)) {fs : List Frame}
    (hl : ∀ (f : JFrame) (acts : List Action), f.method = m → f.locked = none → f.entered = [] → (doReturn e (T.setTop f) acts (some (.int z))).1 = T.setFrames fs) : Steps p.tables e below (T.setTop (mkF m pc Ls (.int z :: rest))) (T.setFrames fs) := by
  have hm' : T.vm.method? m = some meth := X.method'
  have hn : narrow .int (.int z) = .int z := rfl
  show Steps p.tables e below (T.setTop { method := m, pc := pc, locals := Ls, stack := _ :: rest, locked := none }) _
  jvm_step X.here [X.here.top, hx, hd, hm', hret, hn]
  first | (intro acts; rw [hl _ acts rfl rfl rfl]) | rw [hl _ _ rfl rfl rfl]
  exact Steps.refl _
end New
end Jvm.RoadKit
namespace Jvm.Pilot.@@N@@
open Jvm Jvm.ClassFile Sem Op Lib Jvm.Free Jvm.Stand Jvm.LawKit Jvm.RoadKit Bundle Jvm.Pilot.@@N@@.Jvm.D
section OwnCalls
theorem own_retD {p : Program} {l : Launch} {e : Env} {R : Room} {s : State} {m : MethodId} {args : Array Value} {below : List Frame} {meth : Method} {c : Code} {T : State} {locs : List Loc} {cells slots : Nat} (X : Stand p l e R s m args below meth c T locs cells slots) (hx : p.tables.exec = Jvm.exec) {pc : Nat} {Ls : Array Slot} {z : UInt64} {rest : List Value} (hret : meth.sig.returnType = some .double) (hd : decode c.code pc = .ok (.dreturn, 1)) {fs : List Frame}
    (hl : ∀ (f : JFrame) (acts : List Action), f.method = m → f.locked = none → f.entered = [] → (doReturn e (T.setTop f) acts (some (.double z))).1 = T.setFrames fs) : Steps p.tables e below (T.setTop (mkF m pc Ls (.double z :: rest))) (T.setFrames fs) := by
  have hm' : T.vm.method? m = some meth := X.method'
  have hn : narrow .double (.double z) = .double z := rfl
  show Steps p.tables e below (T.setTop { method := m, pc := pc, locals := Ls, stack := _ :: rest, locked := none }) _
  jvm_step X.here [X.here.top, hx, hd, hm', hret, hn]
  first | (intro acts; rw [hl _ acts rfl rfl rfl]) | rw [hl _ _ rfl rfl rfl]
  exact Steps.refl _
theorem own_retJ {p : Program} {l : Launch} {e : Env} {R : Room} {s : State} {m : MethodId} {args : Array Value} {below : List Frame} {meth : Method} {c : Code} {T : State} {locs : List Loc} {cells slots : Nat} (X : Stand p l e R s m args below meth c T locs cells slots) (hx : p.tables.exec = Jvm.exec) {pc : Nat} {Ls : Array Slot} {z : Int64} {rest : List Value} (hret : meth.sig.returnType = some .long) (hd : decode c.code pc = .ok (.lreturn, 1)) {fs : List Frame}
    (hl : ∀ (f : JFrame) (acts : List Action), f.method = m → f.locked = none → f.entered = [] → (doReturn e (T.setTop f) acts (some (.long z))).1 = T.setFrames fs) : Steps p.tables e below (T.setTop (mkF m pc Ls (.long z :: rest))) (T.setFrames fs) := by
  have hm' : T.vm.method? m = some meth := X.method'
  have hn : narrow .long (.long z) = .long z := rfl
  show Steps p.tables e below (T.setTop { method := m, pc := pc, locals := Ls, stack := _ :: rest, locked := none }) _
  jvm_step X.here [X.here.top, hx, hd, hm', hret, hn]
  first | (intro acts; rw [hl _ acts rfl rfl rfl]) | rw [hl _ _ rfl rfl rfl]
  exact Steps.refl _
variable {p : Program} {l : Launch} {e : Env} {R : Room} {s : State} {m : MethodId} {args : Array Value} {below : List Frame} {meth : Method} {c : Code} {T : State} {locs : List Loc} {cells slots : Nat} {Z : State} {a0 : Array Value} {h : Heap}
/-- a static call, by the callee's contract, that answers with a value and leaves all as it was -/
theorem own_pureS (X : Stand p l e R s m args below meth c T locs cells slots) (hx : p.tables.exec = Jvm.exec) (hZ : Z.Warmed39 s.vm) {own : String} {index : Nat} {y : MethodName} {bytes : ByteArray} {maxL : Nat} {ret : Option FieldType} {rm : Room} {argsL rest : List Value} {val : Value} {W : Nat}
    (hM : MetFree l y (head1 [Cond.code y bytes maxL ret] rm) (fun a U => a = argsL.toArray ∧ Z.Warmed39 U.vm ∧ U.heap = h) (fun _ _ _ _ _ => True) (fun _ U o U' => ∃ v L, o = .returned v ∧ (v = some val ∧ L = [] ∧ U'.heap = h) ∧ FrameEnd U o U' L rm.cells rm.slots))
    (hown : s.vm.findClass own = some m.cls) (w1 : (Cond.methodLink own index y).before a0 Z = true) (w2 : (Cond.static y).before a0 Z = true) (w3 : (Cond.initialized y.cls).before a0 Z = true) (w4 : (Cond.code y bytes maxL ret).before a0 Z = true) (hy : y.cls ≠ "java/lang/invoke/MethodHandle" ∧ y.cls ≠ "java/lang/invoke/VarHandle")
    (hf : rm.frames + 1 ≤ R.frames) (hl : W + (maxL + 11) + rm.locals ≤ R.locals) (eT : T.heap = h) {g : JFrame} (hg : g.method = m) (hsize : g.locals.size = c.maxLocals) (hlen : ∀ sig, parseMethodDescriptor y.desc = some sig → argsL.length = sig.parameters.length)
    (hst : g.stack = argsL.reverse ++ rest) (hW : 2 * g.monitorRoom + (rest.map fun v => v.category).sum ≤ W) (hd : decode c.code g.pc = .ok (.invokestatic index, 3)) (hc : cells + rm.cells ≤ R.cells) (hs : slots + rm.slots ≤ R.slots) (hc0 : rm.cells = 0 := by rfl) (hs0 : rm.slots = 0 := by rfl) :
    ∃ T', Stand p l e R s m args below meth c T' locs cells slots ∧ T'.heap = h ∧ ∀ target, Steps p.tables e below (T'.setTop { g with pc := g.pc + 3, stack := val :: rest }) target → Steps p.tables e below (T.setTop g) target := by
  obtain ⟨_, _, ⟨T1, L1, k1, n1⟩, -, X1, ⟨Lc, hQ, l1, y1, z1⟩, st⟩ := Jvm.LawKit.callS X hx (y := y) hown (mvT hZ w1) (mvT hZ w2) (mvT hZ w3) (mvT hZ w4) hy (backOf (W := W) (Q := fun v h' L => v = some val ∧ L = [] ∧ h' = h) hM hZ w4 w3 hf hl) hg hsize (argsL := argsL) (rest := rest) hlen hst hW hd (fun _ _ => ⟨rfl, eT, hc, hs⟩)
  dsimp only [Pt.U, Pt.locs, Pt.cells, Pt.slots] at X1 l1 y1 z1 st hQ
  obtain ⟨rfl, rfl, hh⟩ := hQ
  rw [hc0] at y1; rw [hs0] at z1
  subst l1 y1 z1
  rw [List.append_nil] at X1
  exact ⟨T1, X1, hh, st⟩
/-- an instance call, by the contract of the body that the receiver's class selects, that answers with a value and leaves all as it was -/
theorem own_pureV (X : Stand p l e R s m args below meth c T locs cells slots) (hx : p.tables.exec = Jvm.exec) (hZ : Z.Warmed39 s.vm) {own C : String} {index : Nat} {y : MethodName} {bytes : ByteArray} {maxL : Nat} {ret : Option FieldType} {rm : Room} {a : Addr} {argsL rest : List Value} {val : Value} {W : Nat}
    (hM : MetFree l y (head1 [Cond.code y bytes maxL ret] rm) (fun a' U => a' = (.ref a :: argsL).toArray ∧ Z.Warmed39 U.vm ∧ U.heap = h) (fun _ _ _ _ _ => True) (fun _ U o U' => ∃ v L, o = .returned v ∧ (v = some val ∧ L = [] ∧ U'.heap = h) ∧ FrameEnd U o U' L rm.cells rm.slots))
    (hown : s.vm.findClass own = some m.cls) (w1 : (Cond.methodLink own index y).before a0 Z = true) (w2 : (Cond.declares y).before a0 Z = true) (w5 : (Cond.instanceMethod y).before a0 Z = true) (w6 : (Cond.selects C y y).before a0 Z = true) (w3 : (Cond.initialized y.cls).before a0 Z = true) (w4 : (Cond.code y bytes maxL ret).before a0 Z = true) (hy : y.cls ≠ "java/lang/invoke/MethodHandle" ∧ y.cls ≠ "java/lang/invoke/VarHandle") (E : Exa Z h a C)
    (hf : rm.frames + 1 ≤ R.frames) (hl : W + (maxL + 11) + rm.locals ≤ R.locals) (eT : T.heap = h) {g : JFrame} (hg : g.method = m) (hsize : g.locals.size = c.maxLocals) (hlen : ∀ sig, parseMethodDescriptor y.desc = some sig → argsL.length = sig.parameters.length)
    (hst : g.stack = argsL.reverse ++ .ref a :: rest) (hW : 2 * g.monitorRoom + (rest.map fun v => v.category).sum ≤ W) (hd : decode c.code g.pc = .ok (.invokevirtual index, 3)) (hc : cells + rm.cells ≤ R.cells) (hs : slots + rm.slots ≤ R.slots) (hc0 : rm.cells = 0 := by rfl) (hs0 : rm.slots = 0 := by rfl) :
    ∃ T', Stand p l e R s m args below meth c T' locs cells slots ∧ T'.heap = h ∧ ∀ target, Steps p.tables e below (T'.setTop { g with pc := g.pc + 3, stack := val :: rest }) target → Steps p.tables e below (T.setTop g) target := by
  obtain ⟨cq, kq, qa, qb, qc⟩ := isOf hZ eT E
  obtain ⟨_, _, ⟨T1, L1, k1, n1⟩, -, X1, ⟨Lc, hQ, l1, y1, z1⟩, st⟩ := X.virtualBack hx (y := y) (z := y) hown (mvT hZ w1) (mvT hZ w2) (notFace_of_selects (args := #[]) (mvT hZ w6)) (mvT hZ w6) (mvT hZ w5) hy (backOf (W := W) (Q := fun v h' L => v = some val ∧ L = [] ∧ h' = h) hM hZ w4 w3 hf hl) qa qc hg hsize (Steps.refl _) (argsL := argsL) (rest := rest) hlen hst hW hd (fun _ _ => ⟨rfl, eT, hc, hs⟩)
  dsimp only [Pt.U, Pt.locs, Pt.cells, Pt.slots] at X1 l1 y1 z1 st hQ
  obtain ⟨rfl, rfl, hh⟩ := hQ
  rw [hc0] at y1; rw [hs0] at z1
  subst l1 y1 z1
  rw [List.append_nil] at X1
  exact ⟨T1, X1, hh, fun target k => st.trans k⟩
end OwnCalls
section OwnArr
variable {p : Program} {l : Launch} {e : Env} {R : Room} {s : State} {m : MethodId} {args : Array Value} {below : List Frame} {meth : Method} {c : Code} {T : State} {locs : List Loc} {cells slots : Nat} {Z : State} {a0 : Array Value} {h : Heap}
/-- an int[] | a double[] by the list of what it holds (the list may be longer than the array) -/
def own_I (Z : State) (h : Heap) (a : Addr) (z : Int32) (L : List Int32) : Prop := ∃ k, Arv Z h a k .int z (L.map Value.int) (.int 0)
def own_D (Z : State) (h : Heap) (a : Addr) (z : Int32) (L : List UInt64) : Prop := ∃ k, Arv Z h a k .double z (L.map Value.double) (.double 0)
theorem own_I.lt {a : Addr} {z : Int32} {L : List Int32} (V : own_I Z h a z L) : a < h.size := by obtain ⟨k, V⟩ := V; exact V.lt
theorem own_D.lt {a : Addr} {z : Int32} {L : List UInt64} (V : own_D Z h a z L) : a < h.size := by obtain ⟨k, V⟩ := V; exact V.lt
theorem own_I.ext {h' : Heap} {a : Addr} {z : Int32} {L : List Int32} (V : own_I Z h a z L) (E : Ext h h') : own_I Z h' a z L := by obtain ⟨k, V⟩ := V; exact ⟨k, V.ext E⟩
theorem own_D.ext {h' : Heap} {a : Addr} {z : Int32} {L : List UInt64} (V : own_D Z h a z L) (E : Ext h h') : own_D Z h' a z L := by obtain ⟨k, V⟩ := V; exact ⟨k, V.ext E⟩
theorem own_I.other {h' : Heap} {a b : Addr} {sl : Nat} {v : Value} {z : Int32} {L : List Int32} (V : own_I Z h b z L) (W : Wr h h' a sl v) (q : b ≠ a) : own_I Z h' b z L := by obtain ⟨k, V⟩ := V; exact ⟨k, V.other W q⟩
theorem own_D.other {h' : Heap} {a b : Addr} {sl : Nat} {v : Value} {z : Int32} {L : List UInt64} (V : own_D Z h b z L) (W : Wr h h' a sl v) (q : b ≠ a) : own_D Z h' b z L := by obtain ⟨k, V⟩ := V; exact ⟨k, V.other W q⟩
theorem own_I.keep {h' : Heap} {a : Addr} {ws : List Addr} {z : Int32} {L : List Int32} (V : own_I Z h a z L) (K : Keep h h' ws) (q : a ∉ ws) : own_I Z h' a z L := by obtain ⟨k, V⟩ := V; exact ⟨k, V.keep K q⟩
theorem own_D.keep {h' : Heap} {a : Addr} {ws : List Addr} {z : Int32} {L : List UInt64} (V : own_D Z h a z L) (K : Keep h h' ws) (q : a ∉ ws) : own_D Z h' a z L := by obtain ⟨k, V⟩ := V; exact ⟨k, V.keep K q⟩
theorem own_getI (L : List Int32) (i : Nat) : (L.map Value.int).getD i (.int 0) = .int (L.getD i 0) := by
  simp only [List.getD_eq_getElem?_getD, List.getElem?_map]
  cases L[i]? <;> rfl
theorem own_getDb (L : List UInt64) (i : Nat) : (L.map Value.double).getD i (.double 0) = .double (L.getD i 0) := by
  simp only [List.getD_eq_getElem?_getD, List.getElem?_map]
  cases L[i]? <;> rfl
theorem own_iald (X : Stand p l e R s m args below meth c T locs cells slots) (hx : p.tables.exec = Jvm.exec) (hZ : Z.Warmed39 s.vm) (eT : T.heap = h) {a : Addr} {z j : Int32} {L : List Int32} (V : own_I Z h a z L) (hj : ¬ j < 0 ∧ j < z) {g : JFrame} (hg : g.method = m) {rest : List Value} (hs : g.stack = .int j :: .ref a :: rest) (hd : decode c.code g.pc = .ok (.iaload, 1)) :
    ∀ target, Steps p.tables e below (T.setTop { g with pc := g.pc + 1, stack := .int (L.getD j.toNatClampNeg 0) :: rest }) target → Steps p.tables e below (T.setTop g) target := by
  obtain ⟨k, cl, Ar, q, S, N, H, G⟩ := V
  have hin := inb_of S hj
  exact X.iaload hx (j := j) (v := .int (L.getD j.toNatClampNeg 0)) (by rw [eT]; exact Ar.1) (State.isArrayOf_alike hZ.alike Ar.2.1) Ar.2.2 hin (Has.at H hin (own_getI L _)) hg hs hd
theorem own_dald (X : Stand p l e R s m args below meth c T locs cells slots) (hx : p.tables.exec = Jvm.exec) (hZ : Z.Warmed39 s.vm) (eT : T.heap = h) {a : Addr} {z j : Int32} {L : List UInt64} (V : own_D Z h a z L) (hj : ¬ j < 0 ∧ j < z) {g : JFrame} (hg : g.method = m) {rest : List Value} (hs : g.stack = .int j :: .ref a :: rest) (hd : decode c.code g.pc = .ok (.daload, 1)) :
    ∀ target, Steps p.tables e below (T.setTop { g with pc := g.pc + 1, stack := .double (L.getD j.toNatClampNeg 0) :: rest }) target → Steps p.tables e below (T.setTop g) target := by
  obtain ⟨k, cl, Ar, q, S, N, H, G⟩ := V
  have hin := inb_of S hj
  exact X.daload hx (j := j) (v := .double (L.getD j.toNatClampNeg 0)) (by rw [eT]; exact Ar.1) (State.isArrayOf_alike hZ.alike Ar.2.1) Ar.2.2 hin (Has.at H hin (own_getDb L _)) hg hs hd
theorem own_iast (X : Stand p l e R s m args below meth c T locs cells slots) (hx : p.tables.exec = Jvm.exec) (hZ : Z.Warmed39 s.vm) (eT : T.heap = h) {a : Addr} {z j x : Int32} {L : List Int32} (V : own_I Z h a z L) (hj : ¬ j < 0 ∧ j < z) (hL : j.toNatClampNeg < L.length) {g : JFrame} (hg : g.method = m) {rest : List Value} (hs : g.stack = .int x :: .int j :: .ref a :: rest) (hd : decode c.code g.pc = .ok (.iastore, 1)) :
    ∃ T' h', Stand p l e R s m args below meth c T' (locs ++ [⟨a, j.toNatClampNeg⟩]) cells slots ∧ T'.heap = h' ∧ Wr h h' a j.toNatClampNeg (.int x) ∧ own_I Z h' a z (L.set j.toNatClampNeg x) ∧ ∀ target, Steps p.tables e below (T'.setTop { g with pc := g.pc + 1, stack := rest }) target → Steps p.tables e below (T.setTop g) target := by
  obtain ⟨k, cl, Ar, q, S, N, H, G⟩ := V
  have hin := inb_of S hj
  obtain ⟨T', h', X', e', W', st⟩ := stI X hx hZ eT Ar (j := j) hin hg hs hd
  refine ⟨T', h', X', e', W', ⟨k, ?_⟩, st⟩
  rw [List.map_set]
  exact Arv.set Ar q S N H G rfl W' _ rfl (by rw [List.length_map]; exact hL)
theorem own_dast (X : Stand p l e R s m args below meth c T locs cells slots) (hx : p.tables.exec = Jvm.exec) (hZ : Z.Warmed39 s.vm) (eT : T.heap = h) {a : Addr} {z j : Int32} {x : UInt64} {L : List UInt64} (V : own_D Z h a z L) (hj : ¬ j < 0 ∧ j < z) (hL : j.toNatClampNeg < L.length) {g : JFrame} (hg : g.method = m) {rest : List Value} (hs : g.stack = .double x :: .int j :: .ref a :: rest) (hd : decode c.code g.pc = .ok (.dastore, 1)) :
    ∃ T' h', Stand p l e R s m args below meth c T' (locs ++ [⟨a, j.toNatClampNeg⟩]) cells slots ∧ T'.heap = h' ∧ Wr h h' a j.toNatClampNeg (.double x) ∧ own_D Z h' a z (L.set j.toNatClampNeg x) ∧ ∀ target, Steps p.tables e below (T'.setTop { g with pc := g.pc + 1, stack := rest }) target → Steps p.tables e below (T.setTop g) target := by
  obtain ⟨k, cl, Ar, q, S, N, H, G⟩ := V
  have hin := inb_of S hj
  obtain ⟨T', h', X', e', W', st⟩ := stD X hx hZ eT Ar (j := j) hin hg hs hd
  refine ⟨T', h', X', e', W', ⟨k, ?_⟩, st⟩
  rw [List.map_set]
  exact Arv.set Ar q S N H G rfl W' _ rfl (by rw [List.length_map]; exact hL)
theorem own_inew (X : Stand p l e R s m args below meth c T locs cells slots) (hx : p.tables.exec = Jvm.exec) (hZ : Z.Warmed39 s.vm) (w : (Cond.arrayClass .int).before a0 Z = true) (eT : T.heap = h) {g : JFrame} (hg : g.method = m) (hd : decode c.code g.pc = .ok (.newarray .int, 2)) {n : Int32} {rest : List Value} (hs : g.stack = .int n :: rest) (hn : ¬ n < 0) {cap : Nat} (hcap : n.toNatClampNeg ≤ cap) (hb : cap * 8 ≤ 536870912) (hc : cells + 1 ≤ R.cells) (hl : slots + cap ≤ R.slots) :
    ∃ T' h' a, Stand p l e R s m args below meth c T' locs (cells + 1) (slots + cap) ∧ T'.heap = h' ∧ Ext h h' ∧ a = h.size ∧ own_I Z h' a n (List.replicate cap 0) ∧ ∀ target, Steps p.tables e below (T'.setTop { g with pc := g.pc + 2, stack := .ref a :: rest }) target → Steps p.tables e below (T.setTop g) target := by
  obtain ⟨T', h', k, X', e', E', A', st⟩ := newP X hx hZ (aty := .int) w eT hg hd hs hn hcap hb hc hl
  refine ⟨T', h', h.size, X', e', E', rfl, ⟨k, ?_⟩, st⟩
  rw [List.map_replicate]
  exact (Arv.new A' hn).pad (pad_rep [] (.int 0) cap)
theorem own_dnew (X : Stand p l e R s m args below meth c T locs cells slots) (hx : p.tables.exec = Jvm.exec) (hZ : Z.Warmed39 s.vm) (w : (Cond.arrayClass .double).before a0 Z = true) (eT : T.heap = h) {g : JFrame} (hg : g.method = m) (hd : decode c.code g.pc = .ok (.newarray .double, 2)) {n : Int32} {rest : List Value} (hs : g.stack = .int n :: rest) (hn : ¬ n < 0) {cap : Nat} (hcap : n.toNatClampNeg ≤ cap) (hb : cap * 8 ≤ 536870912) (hc : cells + 1 ≤ R.cells) (hl : slots + cap ≤ R.slots) :
    ∃ T' h' a, Stand p l e R s m args below meth c T' locs (cells + 1) (slots + cap) ∧ T'.heap = h' ∧ Ext h h' ∧ a = h.size ∧ own_D Z h' a n (List.replicate cap 0) ∧ ∀ target, Steps p.tables e below (T'.setTop { g with pc := g.pc + 2, stack := .ref a :: rest }) target → Steps p.tables e below (T.setTop g) target := by
  obtain ⟨T', h', k, X', e', E', A', st⟩ := newP X hx hZ (aty := .double) w eT hg hd hs hn hcap hb hc hl
  refine ⟨T', h', h.size, X', e', E', rfl, ⟨k, ?_⟩, st⟩
  rw [List.map_replicate]
  exact (Arv.new A' hn).pad (pad_rep [] (.double 0) cap)
theorem own_ilen (X : Stand p l e R s m args below meth c T locs cells slots) (hx : p.tables.exec = Jvm.exec) (hZ : Z.Warmed39 s.vm) (eT : T.heap = h) {a : Addr} {z : Int32} {L : List Int32} (V : own_I Z h a z L) {g : JFrame} (hg : g.method = m) {rest : List Value} (hs : g.stack = .ref a :: rest) (hd : decode c.code g.pc = .ok (.arraylength, 1)) :
    ∀ target, Steps p.tables e below (T.setTop { g with pc := g.pc + 1, stack := .int z :: rest }) target → Steps p.tables e below (T.setTop g) target := by
  obtain ⟨k, cl, Ar, q, S, N, H, G⟩ := V
  intro target k
  rw [← len_of S N] at k
  exact X.arraylength hx (by rw [eT]; exact Ar.1) (State.isArrayOf_alike hZ.alike Ar.2.1) hg hs hd target k
theorem own_dlen (X : Stand p l e R s m args below meth c T locs cells slots) (hx : p.tables.exec = Jvm.exec) (hZ : Z.Warmed39 s.vm) (eT : T.heap = h) {a : Addr} {z : Int32} {L : List UInt64} (V : own_D Z h a z L) {g : JFrame} (hg : g.method = m) {rest : List Value} (hs : g.stack = .ref a :: rest) (hd : decode c.code g.pc = .ok (.arraylength, 1)) :
    ∀ target, Steps p.tables e below (T.setTop { g with pc := g.pc + 1, stack := .int z :: rest }) target → Steps p.tables e below (T.setTop g) target := by
  obtain ⟨k, cl, Ar, q, S, N, H, G⟩ := V
  intro target k
  rw [← len_of S N] at k
  exact X.arraylength hx (by rw [eT]; exact Ar.1) (State.isArrayOf_alike hZ.alike Ar.2.1) hg hs hd target k
end OwnArr
def own_draw (p1 p2 : Int32) : Int32 := ((((p1.toUInt32 >>> (((3 : Int32) * p2) &&& 31).toUInt32).toInt32) &&& (7 : Int32)) - (3 : Int32))
def own_td (p1 p2 p3 : Int32) : UInt64 := if p1 = (0 : Int32) then (if (((p2.toUInt32 >>> (p3 &&& 31).toUInt32).toInt32) &&& (1 : Int32)) = (0 : Int32) then FP.i2d p1 else FP.dneg (FP.i2d p1)) else FP.i2d p1
theorem d1_0 : decode method_3_code 0 = .ok (.iload_n 0, 1) := by decide +kernel
theorem d1_1 : decode method_3_code 1 = .ok (.iconst 3, 1) := by decide +kernel
theorem d1_2 : decode method_3_code 2 = .ok (.iload_n 1, 1) := by decide +kernel
theorem d1_3 : decode method_3_code 3 = .ok (.imul, 1) := by decide +kernel
theorem d1_4 : decode method_3_code 4 = .ok (.iushr, 1) := by decide +kernel
theorem d1_5 : decode method_3_code 5 = .ok (.bipush 7, 2) := by decide +kernel
theorem d1_7 : decode method_3_code 7 = .ok (.iand, 1) := by decide +kernel
theorem d1_8 : decode method_3_code 8 = .ok (.iconst 3, 1) := by decide +kernel
theorem d1_9 : decode method_3_code 9 = .ok (.isub, 1) := by decide +kernel
theorem d1_10 : decode method_3_code 10 = .ok (.ireturn, 1) := by decide +kernel
theorem pn_1 : plainName "com/example/wakelaw/wakelaw/RingClosedPinLaw" = true := by first | (simp [plainName, overriddenIn]; done) | decide +kernel
theorem ef_1 (m : MethodId) (x0 : Int32) (x1 : Int32) : entryFrame m #[(.int x0), (.int x1)] 2 = mkF m 0 #[.val (.int x0), .val (.int x1)] [] := by first | (simp [entryFrame, mkF, argsToLocals, Value.category]; done) | rfl
set_option maxRecDepth 65536 in
set_option maxHeartbeats 40000000 in
theorem rm1 (l : Launch) (Z : State) (a0 : Array Value) (hw : ∀ d ∈ tables_1, d.before a0 Z = true) (ws : List Jvm.Cond) (p1 : Int32) (p2 : Int32) (h0 : Heap) (n0 : Nat) (Z0 : n0 ≤ h0.size) :
    MetFree l (⟨"com/example/wakelaw/wakelaw/RingClosedPinLaw", "draw", "(II)I"⟩ : MethodName) (head1 (Jvm.Cond.code (⟨"com/example/wakelaw/wakelaw/RingClosedPinLaw", "draw", "(II)I"⟩ : MethodName) method_3_code 2 (some .int) :: ws) ({ frames := 0, cells := 0, slots := 0, locals := 0 } : Room)) (fun a U => a = #[(.int p1), (.int p2)] ∧ Z.Warmed39 U.vm ∧ U.heap = h0) (fun _ _ _ _ _ => True) (fun _ U o U' => ∃ v L, o = .returned v ∧ (v = some (.int (own_draw p1 p2)) ∧ L = [] ∧ U'.heap = h0) ∧ FrameEnd U o U' L ({ frames := 0, cells := 0, slots := 0, locals := 0 } : Room).cells ({ frames := 0, cells := 0, slots := 0, locals := 0 } : Room).slots) := by
  refine MetFree.of_bodySF (plainFor_of_name pn_1) hisR ?_
  intro p e s m args below meth c s₁ Bd hml0 hP hK
  obtain ⟨rfl, hZ, hh⟩ := hP
  have hx := Bd.exec
  have hby := Bd.bytes
  have hml : c.maxLocals = 2 := hml0
  have hown : s.vm.findClass "com/example/wakelaw/wakelaw/RingClosedPinLaw" = some m.cls := findClass_of_methodNamed Bd.named
  have hnm := (name_of_methodNamed Bd.named Bd.method).1
  have X0 : Stand p l e ({ frames := 0, cells := 0, slots := 0, locals := 0 } : Room) s m #[(.int p1), (.int p2)] below meth c s₁ [] 0 0 := Stand.of_body Bd
  have e0 : s₁.heap = h0 := by rw [← hh, Bd.state]; rfl
  have N0 := Fr.nil n0
  have pre0 : ∀ t, Steps p.tables e below (s₁.setTop (mkF m 0 #[.val (.int p1), .val (.int p2)] [])) t → Steps p.tables e below (s₁.setTop (entryFrame m #[(.int p1), (.int p2)] 2)) t := fun t k => castTop (ef_1 m p1 p2) k
  -- 3. LAWS

  obtain ⟨fs, hr, hrun, hended, hW, hsame⟩ := X0.leave (v := some (.int ((((p1.toUInt32 >>> (((3 : Int32) * p2) &&& 31).toUInt32).toInt32) &&& (7 : Int32)) - (3 : Int32)))) (fun h => by rw [Bd.returns] at h; cases h)
  refine ⟨_, _, pre0 _ ?_, hrun, hended, _, _, rfl, ?_, ⟨_, rfl⟩, hW, hsame.mono (by decide) (by decide)⟩
  -- 4. STEPS
  · show Steps p.tables e below (s₁.setTop (mkF m 0 #[.val (.int p1), .val (.int p2)] [])) _
    refine XS.iloadN X0.here hx rfl (hb hby d1_0) rfl ?_
    show Steps p.tables e below (s₁.setTop (mkF m 1 #[.val (.int p1), .val (.int p2)] [(.int p1)])) _
    refine XS.iconst X0.here hx rfl (hb hby d1_1) ?_
    show Steps p.tables e below (s₁.setTop (mkF m 2 #[.val (.int p1), .val (.int p2)] [(.int (3 : Int32)), (.int p1)])) _
    refine XS.iloadN X0.here hx rfl (hb hby d1_2) rfl ?_
    show Steps p.tables e below (s₁.setTop (mkF m 3 #[.val (.int p1), .val (.int p2)] [(.int p2), (.int (3 : Int32)), (.int p1)])) _
    refine XS.imul X0.here hx rfl (hb hby d1_3) rfl ?_
    show Steps p.tables e below (s₁.setTop (mkF m 4 #[.val (.int p1), .val (.int p2)] [(.int ((3 : Int32) * p2)), (.int p1)])) _
    refine XS.iushr X0.here hx rfl (hb hby d1_4) rfl ?_
    show Steps p.tables e below (s₁.setTop (mkF m 5 #[.val (.int p1), .val (.int p2)] [(.int ((p1.toUInt32 >>> (((3 : Int32) * p2) &&& 31).toUInt32).toInt32))])) _
    refine XS.bipush X0.here hx rfl (hb hby d1_5) ?_
    show Steps p.tables e below (s₁.setTop (mkF m 7 #[.val (.int p1), .val (.int p2)] [(.int (7 : Int32)), (.int ((p1.toUInt32 >>> (((3 : Int32) * p2) &&& 31).toUInt32).toInt32))])) _
    refine XS.iand X0.here hx rfl (hb hby d1_7) rfl ?_
    show Steps p.tables e below (s₁.setTop (mkF m 8 #[.val (.int p1), .val (.int p2)] [(.int (((p1.toUInt32 >>> (((3 : Int32) * p2) &&& 31).toUInt32).toInt32) &&& (7 : Int32)))])) _
    refine XS.iconst X0.here hx rfl (hb hby d1_8) ?_
    show Steps p.tables e below (s₁.setTop (mkF m 9 #[.val (.int p1), .val (.int p2)] [(.int (3 : Int32)), (.int (((p1.toUInt32 >>> (((3 : Int32) * p2) &&& 31).toUInt32).toInt32) &&& (7 : Int32)))])) _
    refine XS.isub X0.here hx rfl (hb hby d1_9) rfl ?_
    show Steps p.tables e below (s₁.setTop (mkF m 10 #[.val (.int p1), .val (.int p2)] [(.int ((((p1.toUInt32 >>> (((3 : Int32) * p2) &&& 31).toUInt32).toInt32) &&& (7 : Int32)) - (3 : Int32)))])) _
    exact retI X0 hx Bd.returns (hb hby d1_10) hr      -- retI stands in the head ('lawwalk <made dir>' prints it)
  · exact ⟨rfl, rfl, e0⟩
theorem pd_draw : parseMethodDescriptor "(II)I" = some ⟨[.int, .int], some .int⟩ := by decide +kernel
theorem own_call_draw {p : Program} {l : Launch} {e : Env} {R : Room} {s : State} {m : MethodId} {args : Array Value} {below : List Frame} {meth : Method} {c : Code} {T : State} {locs : List Loc} {cells slots : Nat} {Z : State} {a0 : Array Value} {h : Heap} {own : String} {index : Nat}
    (X : Stand p l e R s m args below meth c T locs cells slots) (hx : p.tables.exec = Jvm.exec) (hZ : Z.Warmed39 s.vm) (hw : ∀ d ∈ tables_1, d.before a0 Z = true) (hown : s.vm.findClass own = some m.cls) (w1 : (Cond.methodLink own index (⟨"com/example/wakelaw/wakelaw/RingClosedPinLaw", "draw", "(II)I"⟩ : MethodName)).before a0 Z = true) (x : Int32) (i : Int32)
    {W : Nat} {g : JFrame} (hg : g.method = m) (hsize : g.locals.size = c.maxLocals) {rest : List Value} (hst : g.stack = .int i :: .int x :: rest) (hW : 2 * g.monitorRoom + (rest.map fun v => v.category).sum ≤ W) (hd : decode c.code g.pc = .ok (.invokestatic index, 3)) (hf : 1 ≤ R.frames) (hl : W + 13 ≤ R.locals) (eT : T.heap = h) (hc : cells ≤ R.cells := by decide) (hs : slots ≤ R.slots := by decide) :
    ∃ T', Stand p l e R s m args below meth c T' locs cells slots ∧ T'.heap = h ∧ ∀ target, Steps p.tables e below (T'.setTop { g with pc := g.pc + 3, stack := .int (own_draw x i) :: rest }) target → Steps p.tables e below (T.setTop g) target :=
  own_pureS X hx hZ (rm1 l Z a0 hw [] x i h 0 (Nat.zero_le _)) hown w1 (hw _ (List.mem_of_getElem? (i := 2) rfl)) (hw _ (List.mem_of_getElem? (i := 3) rfl)) (hw _ (List.mem_of_getElem? (i := 4) rfl)) (by decide) hf hl eT hg hsize (argsL := [.int x, .int i]) (lenOf pd_draw rfl) hst hW hd hc hs
theorem d6_0 : decode method_4_code 0 = .ok (.iload_n 0, 1) := by decide +kernel
theorem d6_1 : decode method_4_code 1 = .ok (.i2d, 1) := by decide +kernel
theorem d6_2 : decode method_4_code 2 = .ok (.dstore_n 3, 1) := by decide +kernel
theorem d6_3 : decode method_4_code 3 = .ok (.iload_n 0, 1) := by decide +kernel
theorem d6_4 : decode method_4_code 4 = .ok (.ifCond .ne 14, 3) := by decide +kernel
theorem d6_18 : decode method_4_code 18 = .ok (.dload_n 3, 1) := by decide +kernel
theorem d6_19 : decode method_4_code 19 = .ok (.dreturn, 1) := by decide +kernel
theorem pn_6 : plainName "com/example/wakelaw/wakelaw/RingClosedPinLaw" = true := by first | (simp [plainName, overriddenIn]; done) | decide +kernel
theorem ef_6 (m : MethodId) (x0 : Int32) (x1 : Int32) (x2 : Int32) : entryFrame m #[(.int x0), (.int x1), (.int x2)] 5 = mkF m 0 #[.val (.int x0), .val (.int x1), .val (.int x2), .unset, .unset] [] := by first | (simp [entryFrame, mkF, argsToLocals, Value.category]; done) | rfl
set_option maxRecDepth 65536 in
set_option maxHeartbeats 40000000 in
theorem rm6_t (l : Launch) (Z : State) (a0 : Array Value) (hw : ∀ d ∈ tables_1, d.before a0 Z = true) (ws : List Jvm.Cond) (p1 : Int32) (p2 : Int32) (p3 : Int32) (t1 : UInt64) (h0 : Heap) (n0 : Nat) (Z0 : n0 ≤ h0.size) (ht1 : FP.i2d p1 = t1) (hc4 : ¬ (p1 = (0 : Int32))) :
    MetFree l (⟨"com/example/wakelaw/wakelaw/RingClosedPinLaw", "toDouble", "(III)D"⟩ : MethodName) (head1 (Jvm.Cond.code (⟨"com/example/wakelaw/wakelaw/RingClosedPinLaw", "toDouble", "(III)D"⟩ : MethodName) method_4_code 5 (some .double) :: ws) ({ frames := 0, cells := 0, slots := 0, locals := 0 } : Room)) (fun a U => a = #[(.int p1), (.int p2), (.int p3)] ∧ Z.Warmed39 U.vm ∧ U.heap = h0) (fun _ _ _ _ _ => True) (fun _ U o U' => ∃ v L, o = .returned v ∧ (v = some (.double (own_td p1 p2 p3)) ∧ L = [] ∧ U'.heap = h0) ∧ FrameEnd U o U' L ({ frames := 0, cells := 0, slots := 0, locals := 0 } : Room).cells ({ frames := 0, cells := 0, slots := 0, locals := 0 } : Room).slots) := by
  refine MetFree.of_bodySF (plainFor_of_name pn_6) hisR ?_
  intro p e s m args below meth c s₁ Bd hml0 hP hK
  obtain ⟨rfl, hZ, hh⟩ := hP
  have hx := Bd.exec
  have hby := Bd.bytes
  have hml : c.maxLocals = 5 := hml0
  have hown : s.vm.findClass "com/example/wakelaw/wakelaw/RingClosedPinLaw" = some m.cls := findClass_of_methodNamed Bd.named
  have hnm := (name_of_methodNamed Bd.named Bd.method).1
  have X0 : Stand p l e ({ frames := 0, cells := 0, slots := 0, locals := 0 } : Room) s m #[(.int p1), (.int p2), (.int p3)] below meth c s₁ [] 0 0 := Stand.of_body Bd
  have e0 : s₁.heap = h0 := by rw [← hh, Bd.state]; rfl
  have N0 := Fr.nil n0
  have pre0 : ∀ t, Steps p.tables e below (s₁.setTop (mkF m 0 #[.val (.int p1), .val (.int p2), .val (.int p3), .unset, .unset] [])) t → Steps p.tables e below (s₁.setTop (entryFrame m #[(.int p1), (.int p2), (.int p3)] 5)) t := fun t k => castTop (ef_6 m p1 p2 p3) k
  -- 3. LAWS

  obtain ⟨fs, hr, hrun, hended, hW, hsame⟩ := X0.leave (v := some (.double t1)) (fun h => by rw [Bd.returns] at h; cases h)
  refine ⟨_, _, pre0 _ ?_, hrun, hended, _, _, rfl, ?_, ⟨_, rfl⟩, hW, hsame.mono (by decide) (by decide)⟩
  -- 4. STEPS
  · show Steps p.tables e below (s₁.setTop (mkF m 0 #[.val (.int p1), .val (.int p2), .val (.int p3), .unset, .unset] [])) _
    refine XS.iloadN X0.here hx rfl (hb hby d6_0) rfl ?_
    show Steps p.tables e below (s₁.setTop (mkF m 1 #[.val (.int p1), .val (.int p2), .val (.int p3), .unset, .unset] [(.int p1)])) _
    refine XS.i2dS X0.here hx rfl (hb hby d6_1) rfl ht1 ?_
    show Steps p.tables e below (s₁.setTop (mkF m 2 #[.val (.int p1), .val (.int p2), .val (.int p3), .unset, .unset] [(.double t1)])) _
    refine XS.dstoreN X0.here hx rfl (hb hby d6_2) rfl (l' := #[.val (.int p1), .val (.int p2), .val (.int p3), .val (.double t1), .second]) rfl ?_
    show Steps p.tables e below (s₁.setTop (mkF m 3 #[.val (.int p1), .val (.int p2), .val (.int p3), .val (.double t1), .second] [])) _
    refine XS.iloadN X0.here hx rfl (hb hby d6_3) rfl ?_
    show Steps p.tables e below (s₁.setTop (mkF m 4 #[.val (.int p1), .val (.int p2), .val (.int p3), .val (.double t1), .second] [(.int p1)])) _
    refine XS.ifYes X0.here hx rfl (pc0 := 4) (pc' := 18) rfl (hb hby d6_4) rfl ((if0 _ _).trans (feq hc4).2) (by decide) (by decide) ?_
    show Steps p.tables e below (s₁.setTop (mkF m 18 #[.val (.int p1), .val (.int p2), .val (.int p3), .val (.double t1), .second] [])) _
    refine XS.dloadN X0.here hx rfl (hb hby d6_18) rfl ?_
    show Steps p.tables e below (s₁.setTop (mkF m 19 #[.val (.int p1), .val (.int p2), .val (.int p3), .val (.double t1), .second] [(.double t1)])) _
    exact own_retD X0 hx Bd.returns (hb hby d6_19) hr
  · exact ⟨by rw [own_td, if_neg hc4, ht1], rfl, e0⟩
theorem d6_7 : decode method_4_code 7 = .ok (.iload_n 1, 1) := by decide +kernel
theorem d6_8 : decode method_4_code 8 = .ok (.iload_n 2, 1) := by decide +kernel
theorem d6_9 : decode method_4_code 9 = .ok (.iushr, 1) := by decide +kernel
theorem d6_10 : decode method_4_code 10 = .ok (.iconst 1, 1) := by decide +kernel
theorem d6_11 : decode method_4_code 11 = .ok (.iand, 1) := by decide +kernel
theorem d6_12 : decode method_4_code 12 = .ok (.ifCond .eq 6, 3) := by decide +kernel
set_option maxRecDepth 65536 in
set_option maxHeartbeats 40000000 in
theorem rm6_ft (l : Launch) (Z : State) (a0 : Array Value) (hw : ∀ d ∈ tables_1, d.before a0 Z = true) (ws : List Jvm.Cond) (p1 : Int32) (p2 : Int32) (p3 : Int32) (t1 : UInt64) (h0 : Heap) (n0 : Nat) (Z0 : n0 ≤ h0.size) (ht1 : FP.i2d p1 = t1) (hc4 : p1 = (0 : Int32)) (hc12 : (((p2.toUInt32 >>> (p3 &&& 31).toUInt32).toInt32) &&& (1 : Int32)) = (0 : Int32)) :
    MetFree l (⟨"com/example/wakelaw/wakelaw/RingClosedPinLaw", "toDouble", "(III)D"⟩ : MethodName) (head1 (Jvm.Cond.code (⟨"com/example/wakelaw/wakelaw/RingClosedPinLaw", "toDouble", "(III)D"⟩ : MethodName) method_4_code 5 (some .double) :: ws) ({ frames := 0, cells := 0, slots := 0, locals := 0 } : Room)) (fun a U => a = #[(.int p1), (.int p2), (.int p3)] ∧ Z.Warmed39 U.vm ∧ U.heap = h0) (fun _ _ _ _ _ => True) (fun _ U o U' => ∃ v L, o = .returned v ∧ (v = some (.double (own_td p1 p2 p3)) ∧ L = [] ∧ U'.heap = h0) ∧ FrameEnd U o U' L ({ frames := 0, cells := 0, slots := 0, locals := 0 } : Room).cells ({ frames := 0, cells := 0, slots := 0, locals := 0 } : Room).slots) := by
  refine MetFree.of_bodySF (plainFor_of_name pn_6) hisR ?_
  intro p e s m args below meth c s₁ Bd hml0 hP hK
  obtain ⟨rfl, hZ, hh⟩ := hP
  have hx := Bd.exec
  have hby := Bd.bytes
  have hml : c.maxLocals = 5 := hml0
  have hown : s.vm.findClass "com/example/wakelaw/wakelaw/RingClosedPinLaw" = some m.cls := findClass_of_methodNamed Bd.named
  have hnm := (name_of_methodNamed Bd.named Bd.method).1
  have X0 : Stand p l e ({ frames := 0, cells := 0, slots := 0, locals := 0 } : Room) s m #[(.int p1), (.int p2), (.int p3)] below meth c s₁ [] 0 0 := Stand.of_body Bd
  have e0 : s₁.heap = h0 := by rw [← hh, Bd.state]; rfl
  have N0 := Fr.nil n0
  have pre0 : ∀ t, Steps p.tables e below (s₁.setTop (mkF m 0 #[.val (.int p1), .val (.int p2), .val (.int p3), .unset, .unset] [])) t → Steps p.tables e below (s₁.setTop (entryFrame m #[(.int p1), (.int p2), (.int p3)] 5)) t := fun t k => castTop (ef_6 m p1 p2 p3) k
  -- 3. LAWS

  obtain ⟨fs, hr, hrun, hended, hW, hsame⟩ := X0.leave (v := some (.double t1)) (fun h => by rw [Bd.returns] at h; cases h)
  refine ⟨_, _, pre0 _ ?_, hrun, hended, _, _, rfl, ?_, ⟨_, rfl⟩, hW, hsame.mono (by decide) (by decide)⟩
  -- 4. STEPS
  · show Steps p.tables e below (s₁.setTop (mkF m 0 #[.val (.int p1), .val (.int p2), .val (.int p3), .unset, .unset] [])) _
    refine XS.iloadN X0.here hx rfl (hb hby d6_0) rfl ?_
    show Steps p.tables e below (s₁.setTop (mkF m 1 #[.val (.int p1), .val (.int p2), .val (.int p3), .unset, .unset] [(.int p1)])) _
    refine XS.i2dS X0.here hx rfl (hb hby d6_1) rfl ht1 ?_
    show Steps p.tables e below (s₁.setTop (mkF m 2 #[.val (.int p1), .val (.int p2), .val (.int p3), .unset, .unset] [(.double t1)])) _
    refine XS.dstoreN X0.here hx rfl (hb hby d6_2) rfl (l' := #[.val (.int p1), .val (.int p2), .val (.int p3), .val (.double t1), .second]) rfl ?_
    show Steps p.tables e below (s₁.setTop (mkF m 3 #[.val (.int p1), .val (.int p2), .val (.int p3), .val (.double t1), .second] [])) _
    refine XS.iloadN X0.here hx rfl (hb hby d6_3) rfl ?_
    show Steps p.tables e below (s₁.setTop (mkF m 4 #[.val (.int p1), .val (.int p2), .val (.int p3), .val (.double t1), .second] [(.int p1)])) _
    refine XS.ifNo X0.here hx rfl (hb hby d6_4) rfl ((if0 _ _).trans (teq hc4).2) ?_
    show Steps p.tables e below (s₁.setTop (mkF m 7 #[.val (.int p1), .val (.int p2), .val (.int p3), .val (.double t1), .second] [])) _
    refine XS.iloadN X0.here hx rfl (hb hby d6_7) rfl ?_
    show Steps p.tables e below (s₁.setTop (mkF m 8 #[.val (.int p1), .val (.int p2), .val (.int p3), .val (.double t1), .second] [(.int p2)])) _
    refine XS.iloadN X0.here hx rfl (hb hby d6_8) rfl ?_
    show Steps p.tables e below (s₁.setTop (mkF m 9 #[.val (.int p1), .val (.int p2), .val (.int p3), .val (.double t1), .second] [(.int p3), (.int p2)])) _
    refine XS.iushr X0.here hx rfl (hb hby d6_9) rfl ?_
    show Steps p.tables e below (s₁.setTop (mkF m 10 #[.val (.int p1), .val (.int p2), .val (.int p3), .val (.double t1), .second] [(.int ((p2.toUInt32 >>> (p3 &&& 31).toUInt32).toInt32))])) _
    refine XS.iconst X0.here hx rfl (hb hby d6_10) ?_
    show Steps p.tables e below (s₁.setTop (mkF m 11 #[.val (.int p1), .val (.int p2), .val (.int p3), .val (.double t1), .second] [(.int (1 : Int32)), (.int ((p2.toUInt32 >>> (p3 &&& 31).toUInt32).toInt32))])) _
    refine XS.iand X0.here hx rfl (hb hby d6_11) rfl ?_
    show Steps p.tables e below (s₁.setTop (mkF m 12 #[.val (.int p1), .val (.int p2), .val (.int p3), .val (.double t1), .second] [(.int (((p2.toUInt32 >>> (p3 &&& 31).toUInt32).toInt32) &&& (1 : Int32)))])) _
    refine XS.ifYes X0.here hx rfl (pc0 := 12) (pc' := 18) rfl (hb hby d6_12) rfl ((if0 _ _).trans (teq hc12).1) (by decide) (by decide) ?_
    show Steps p.tables e below (s₁.setTop (mkF m 18 #[.val (.int p1), .val (.int p2), .val (.int p3), .val (.double t1), .second] [])) _
    refine XS.dloadN X0.here hx rfl (hb hby d6_18) rfl ?_
    show Steps p.tables e below (s₁.setTop (mkF m 19 #[.val (.int p1), .val (.int p2), .val (.int p3), .val (.double t1), .second] [(.double t1)])) _
    exact own_retD X0 hx Bd.returns (hb hby d6_19) hr
  · exact ⟨by rw [own_td, if_pos hc4, if_pos hc12, ht1], rfl, e0⟩
theorem d6_15 : decode method_4_code 15 = .ok (.dload_n 3, 1) := by decide +kernel
theorem d6_16 : decode method_4_code 16 = .ok (.dneg, 1) := by decide +kernel
theorem d6_17 : decode method_4_code 17 = .ok (.dstore_n 3, 1) := by decide +kernel
set_option maxRecDepth 65536 in
set_option maxHeartbeats 40000000 in
theorem rm6_ff (l : Launch) (Z : State) (a0 : Array Value) (hw : ∀ d ∈ tables_1, d.before a0 Z = true) (ws : List Jvm.Cond) (p1 : Int32) (p2 : Int32) (p3 : Int32) (t1 : UInt64) (t16 : UInt64) (h0 : Heap) (n0 : Nat) (Z0 : n0 ≤ h0.size) (ht1 : FP.i2d p1 = t1) (hc4 : p1 = (0 : Int32)) (hc12 : ¬ ((((p2.toUInt32 >>> (p3 &&& 31).toUInt32).toInt32) &&& (1 : Int32)) = (0 : Int32))) (ht16 : FP.dneg t1 = t16) :
    MetFree l (⟨"com/example/wakelaw/wakelaw/RingClosedPinLaw", "toDouble", "(III)D"⟩ : MethodName) (head1 (Jvm.Cond.code (⟨"com/example/wakelaw/wakelaw/RingClosedPinLaw", "toDouble", "(III)D"⟩ : MethodName) method_4_code 5 (some .double) :: ws) ({ frames := 0, cells := 0, slots := 0, locals := 0 } : Room)) (fun a U => a = #[(.int p1), (.int p2), (.int p3)] ∧ Z.Warmed39 U.vm ∧ U.heap = h0) (fun _ _ _ _ _ => True) (fun _ U o U' => ∃ v L, o = .returned v ∧ (v = some (.double (own_td p1 p2 p3)) ∧ L = [] ∧ U'.heap = h0) ∧ FrameEnd U o U' L ({ frames := 0, cells := 0, slots := 0, locals := 0 } : Room).cells ({ frames := 0, cells := 0, slots := 0, locals := 0 } : Room).slots) := by
  refine MetFree.of_bodySF (plainFor_of_name pn_6) hisR ?_
  intro p e s m args below meth c s₁ Bd hml0 hP hK
  obtain ⟨rfl, hZ, hh⟩ := hP
  have hx := Bd.exec
  have hby := Bd.bytes
  have hml : c.maxLocals = 5 := hml0
  have hown : s.vm.findClass "com/example/wakelaw/wakelaw/RingClosedPinLaw" = some m.cls := findClass_of_methodNamed Bd.named
  have hnm := (name_of_methodNamed Bd.named Bd.method).1
  have X0 : Stand p l e ({ frames := 0, cells := 0, slots := 0, locals := 0 } : Room) s m #[(.int p1), (.int p2), (.int p3)] below meth c s₁ [] 0 0 := Stand.of_body Bd
  have e0 : s₁.heap = h0 := by rw [← hh, Bd.state]; rfl
  have N0 := Fr.nil n0
  have pre0 : ∀ t, Steps p.tables e below (s₁.setTop (mkF m 0 #[.val (.int p1), .val (.int p2), .val (.int p3), .unset, .unset] [])) t → Steps p.tables e below (s₁.setTop (entryFrame m #[(.int p1), (.int p2), (.int p3)] 5)) t := fun t k => castTop (ef_6 m p1 p2 p3) k
  -- 3. LAWS

  obtain ⟨fs, hr, hrun, hended, hW, hsame⟩ := X0.leave (v := some (.double t16)) (fun h => by rw [Bd.returns] at h; cases h)
  refine ⟨_, _, pre0 _ ?_, hrun, hended, _, _, rfl, ?_, ⟨_, rfl⟩, hW, hsame.mono (by decide) (by decide)⟩
  -- 4. STEPS
  · show Steps p.tables e below (s₁.setTop (mkF m 0 #[.val (.int p1), .val (.int p2), .val (.int p3), .unset, .unset] [])) _
    refine XS.iloadN X0.here hx rfl (hb hby d6_0) rfl ?_
    show Steps p.tables e below (s₁.setTop (mkF m 1 #[.val (.int p1), .val (.int p2), .val (.int p3), .unset, .unset] [(.int p1)])) _
    refine XS.i2dS X0.here hx rfl (hb hby d6_1) rfl ht1 ?_
    show Steps p.tables e below (s₁.setTop (mkF m 2 #[.val (.int p1), .val (.int p2), .val (.int p3), .unset, .unset] [(.double t1)])) _
    refine XS.dstoreN X0.here hx rfl (hb hby d6_2) rfl (l' := #[.val (.int p1), .val (.int p2), .val (.int p3), .val (.double t1), .second]) rfl ?_
    show Steps p.tables e below (s₁.setTop (mkF m 3 #[.val (.int p1), .val (.int p2), .val (.int p3), .val (.double t1), .second] [])) _
    refine XS.iloadN X0.here hx rfl (hb hby d6_3) rfl ?_
    show Steps p.tables e below (s₁.setTop (mkF m 4 #[.val (.int p1), .val (.int p2), .val (.int p3), .val (.double t1), .second] [(.int p1)])) _
    refine XS.ifNo X0.here hx rfl (hb hby d6_4) rfl ((if0 _ _).trans (teq hc4).2) ?_
    show Steps p.tables e below (s₁.setTop (mkF m 7 #[.val (.int p1), .val (.int p2), .val (.int p3), .val (.double t1), .second] [])) _
    refine XS.iloadN X0.here hx rfl (hb hby d6_7) rfl ?_
    show Steps p.tables e below (s₁.setTop (mkF m 8 #[.val (.int p1), .val (.int p2), .val (.int p3), .val (.double t1), .second] [(.int p2)])) _
    refine XS.iloadN X0.here hx rfl (hb hby d6_8) rfl ?_
    show Steps p.tables e below (s₁.setTop (mkF m 9 #[.val (.int p1), .val (.int p2), .val (.int p3), .val (.double t1), .second] [(.int p3), (.int p2)])) _
    refine XS.iushr X0.here hx rfl (hb hby d6_9) rfl ?_
    show Steps p.tables e below (s₁.setTop (mkF m 10 #[.val (.int p1), .val (.int p2), .val (.int p3), .val (.double t1), .second] [(.int ((p2.toUInt32 >>> (p3 &&& 31).toUInt32).toInt32))])) _
    refine XS.iconst X0.here hx rfl (hb hby d6_10) ?_
    show Steps p.tables e below (s₁.setTop (mkF m 11 #[.val (.int p1), .val (.int p2), .val (.int p3), .val (.double t1), .second] [(.int (1 : Int32)), (.int ((p2.toUInt32 >>> (p3 &&& 31).toUInt32).toInt32))])) _
    refine XS.iand X0.here hx rfl (hb hby d6_11) rfl ?_
    show Steps p.tables e below (s₁.setTop (mkF m 12 #[.val (.int p1), .val (.int p2), .val (.int p3), .val (.double t1), .second] [(.int (((p2.toUInt32 >>> (p3 &&& 31).toUInt32).toInt32) &&& (1 : Int32)))])) _
    refine XS.ifNo X0.here hx rfl (hb hby d6_12) rfl ((if0 _ _).trans (feq hc12).1) ?_
    show Steps p.tables e below (s₁.setTop (mkF m 15 #[.val (.int p1), .val (.int p2), .val (.int p3), .val (.double t1), .second] [])) _
    refine XS.dloadN X0.here hx rfl (hb hby d6_15) rfl ?_
    show Steps p.tables e below (s₁.setTop (mkF m 16 #[.val (.int p1), .val (.int p2), .val (.int p3), .val (.double t1), .second] [(.double t1)])) _
    refine XS.dnegS X0.here hx rfl (hb hby d6_16) rfl ht16 ?_
    show Steps p.tables e below (s₁.setTop (mkF m 17 #[.val (.int p1), .val (.int p2), .val (.int p3), .val (.double t1), .second] [(.double t16)])) _
    refine XS.dstoreN X0.here hx rfl (hb hby d6_17) rfl (l' := #[.val (.int p1), .val (.int p2), .val (.int p3), .val (.double t16), .second]) rfl ?_
    show Steps p.tables e below (s₁.setTop (mkF m 18 #[.val (.int p1), .val (.int p2), .val (.int p3), .val (.double t16), .second] [])) _
    refine XS.dloadN X0.here hx rfl (hb hby d6_18) rfl ?_
    show Steps p.tables e below (s₁.setTop (mkF m 19 #[.val (.int p1), .val (.int p2), .val (.int p3), .val (.double t16), .second] [(.double t16)])) _
    exact own_retD X0 hx Bd.returns (hb hby d6_19) hr
  · exact ⟨by rw [own_td, if_pos hc4, if_neg hc12, ht1, ht16], rfl, e0⟩
theorem rm6 (l : Launch) (Z : State) (a0 : Array Value) (hw : ∀ d ∈ tables_1, d.before a0 Z = true) (ws : List Jvm.Cond) (p1 : Int32) (p2 : Int32) (p3 : Int32) (h0 : Heap) (n0 : Nat) (Z0 : n0 ≤ h0.size) :
    MetFree l (⟨"com/example/wakelaw/wakelaw/RingClosedPinLaw", "toDouble", "(III)D"⟩ : MethodName) (head1 (Jvm.Cond.code (⟨"com/example/wakelaw/wakelaw/RingClosedPinLaw", "toDouble", "(III)D"⟩ : MethodName) method_4_code 5 (some .double) :: ws) ({ frames := 0, cells := 0, slots := 0, locals := 0 } : Room)) (fun a U => a = #[(.int p1), (.int p2), (.int p3)] ∧ Z.Warmed39 U.vm ∧ U.heap = h0) (fun _ _ _ _ _ => True) (fun _ U o U' => ∃ v L, o = .returned v ∧ (v = some (.double (own_td p1 p2 p3)) ∧ L = [] ∧ U'.heap = h0) ∧ FrameEnd U o U' L ({ frames := 0, cells := 0, slots := 0, locals := 0 } : Room).cells ({ frames := 0, cells := 0, slots := 0, locals := 0 } : Room).slots) := by
  by_cases h : p1 = (0 : Int32)
  · by_cases h' : (((p2.toUInt32 >>> (p3 &&& 31).toUInt32).toInt32) &&& (1 : Int32)) = (0 : Int32)
    · exact rm6_ft l Z a0 hw ws p1 p2 p3 _ h0 n0 Z0 rfl h h'
    · exact rm6_ff l Z a0 hw ws p1 p2 p3 _ _ h0 n0 Z0 rfl h h' rfl
  · exact rm6_t l Z a0 hw ws p1 p2 p3 _ h0 n0 Z0 rfl h
theorem pd_td : parseMethodDescriptor "(III)D" = some ⟨[.int, .int, .int], some .double⟩ := by decide +kernel
theorem own_call_td {p : Program} {l : Launch} {e : Env} {R : Room} {s : State} {m : MethodId} {args : Array Value} {below : List Frame} {meth : Method} {c : Code} {T : State} {locs : List Loc} {cells slots : Nat} {Z : State} {a0 : Array Value} {h : Heap} {own : String} {index : Nat}
    (X : Stand p l e R s m args below meth c T locs cells slots) (hx : p.tables.exec = Jvm.exec) (hZ : Z.Warmed39 s.vm) (hw : ∀ d ∈ tables_1, d.before a0 Z = true) (hown : s.vm.findClass own = some m.cls) (w1 : (Cond.methodLink own index (⟨"com/example/wakelaw/wakelaw/RingClosedPinLaw", "toDouble", "(III)D"⟩ : MethodName)).before a0 Z = true) (x : Int32) (y : Int32) (i : Int32)
    {W : Nat} {g : JFrame} (hg : g.method = m) (hsize : g.locals.size = c.maxLocals) {rest : List Value} (hst : g.stack = .int i :: .int y :: .int x :: rest) (hW : 2 * g.monitorRoom + (rest.map fun v => v.category).sum ≤ W) (hd : decode c.code g.pc = .ok (.invokestatic index, 3)) (hf : 1 ≤ R.frames) (hl : W + 16 ≤ R.locals) (eT : T.heap = h) (hc : cells ≤ R.cells := by decide) (hs : slots ≤ R.slots := by decide) :
    ∃ T', Stand p l e R s m args below meth c T' locs cells slots ∧ T'.heap = h ∧ ∀ target, Steps p.tables e below (T'.setTop { g with pc := g.pc + 3, stack := .double (own_td x y i) :: rest }) target → Steps p.tables e below (T.setTop g) target :=
  own_pureS X hx hZ (rm6 l Z a0 hw [] x y i h 0 (Nat.zero_le _)) hown w1 (hw _ (List.mem_of_getElem? (i := 28) rfl)) (hw _ (List.mem_of_getElem? (i := 3) rfl)) (hw _ (List.mem_of_getElem? (i := 29) rfl)) (by decide) hf hl eT hg hsize (argsL := [.int x, .int y, .int i]) (lenOf pd_td rfl) hst hW hd hc hs
theorem d2_0 : decode prog_44_method_1_code 0 = .ok (.aload_n 0, 1) := by decide +kernel
theorem d2_1 : decode prog_44_method_1_code 1 = .ok (.invokespecial 1, 3) := by decide +kernel
theorem d2_4 : decode prog_44_method_1_code 4 = .ok (.aload_n 0, 1) := by decide +kernel
theorem d2_5 : decode prog_44_method_1_code 5 = .ok (.aload_n 1, 1) := by decide +kernel
theorem d2_6 : decode prog_44_method_1_code 6 = .ok (.putfield 7, 3) := by decide +kernel
theorem d2_9 : decode prog_44_method_1_code 9 = .ok (.return_, 1) := by decide +kernel
theorem pn_2 : plainName "com/example/wakelaw/wakelaw/Ring" = true := by first | (simp [plainName, overriddenIn]; done) | decide +kernel
theorem ef_2 (m : MethodId) (x0 : Addr) (x1 : Addr) : entryFrame m #[(.ref x0), (.ref x1)] 2 = mkF m 0 #[.val (.ref x0), .val (.ref x1)] [] := by first | (simp [entryFrame, mkF, argsToLocals, Value.category]; done) | rfl
def Q2 (Z : State) (a1 : Addr) (a2 : Addr) (u_degrees_a1 : Value) (h0 : Heap) (n0 : Nat) (v : Option Value) (h : Heap) (L : List Loc) : Prop := v = none ∧ Fr n0 L ∧ Keep h0 h [a1] ∧ Exa Z h a1 "com/example/wakelaw/wakelaw/Ring" ∧ Fld Z h a1 "com/example/wakelaw/wakelaw/Ring" "degrees" "[D" (.ref a2)
set_option maxRecDepth 65536 in
set_option maxHeartbeats 40000000 in
theorem rm2 (l : Launch) (Z : State) (a0 : Array Value) (hw : ∀ d ∈ tables_1, d.before a0 Z = true) (ws : List Jvm.Cond) (a1 : Addr) (a2 : Addr) (u_degrees_a1 : Value) (h0 : Heap) (n0 : Nat) (Z0 : n0 ≤ h0.size) (E_a1 : Exa Z h0 a1 "com/example/wakelaw/wakelaw/Ring") (F_degrees_a1 : Fld Z h0 a1 "com/example/wakelaw/wakelaw/Ring" "degrees" "[D" u_degrees_a1) (g_a1 : n0 ≤ a1) :
    MetFree l (⟨"com/example/wakelaw/wakelaw/Ring", "<init>", "([D)V"⟩ : MethodName) (head1 (Jvm.Cond.code (⟨"com/example/wakelaw/wakelaw/Ring", "<init>", "([D)V"⟩ : MethodName) prog_44_method_1_code 2 none :: ws) ({ frames := 1, cells := 0, slots := 0, locals := 12 } : Room)) (fun a U => a = #[(.ref a1), (.ref a2)] ∧ Z.Warmed39 U.vm ∧ U.heap = h0) (fun _ _ _ _ _ => True) (fun _ U o U' => ∃ v L, o = .returned v ∧ Q2 Z a1 a2 u_degrees_a1 h0 n0 v U'.heap L ∧ FrameEnd U o U' L ({ frames := 1, cells := 0, slots := 0, locals := 12 } : Room).cells ({ frames := 1, cells := 0, slots := 0, locals := 12 } : Room).slots) := by
  refine MetFree.of_bodySF (plainFor_of_name pn_2) hisR ?_
  intro p e s m args below meth c s₁ Bd hml0 hP hK
  obtain ⟨rfl, hZ, hh⟩ := hP
  have hx := Bd.exec
  have hby := Bd.bytes
  have hml : c.maxLocals = 2 := hml0
  have hown : s.vm.findClass "com/example/wakelaw/wakelaw/Ring" = some m.cls := findClass_of_methodNamed Bd.named
  have hnm := (name_of_methodNamed Bd.named Bd.method).1
  have X0 : Stand p l e ({ frames := 1, cells := 0, slots := 0, locals := 12 } : Room) s m #[(.ref a1), (.ref a2)] below meth c s₁ [] 0 0 := Stand.of_body Bd
  have e0 : s₁.heap = h0 := by rw [← hh, Bd.state]; rfl
  have N0 := Fr.nil n0
  have pre0 : ∀ t, Steps p.tables e below (s₁.setTop (mkF m 0 #[.val (.ref a1), .val (.ref a2)] [])) t → Steps p.tables e below (s₁.setTop (entryFrame m #[(.ref a1), (.ref a2)] 2)) t := fun t k => castTop (ef_2 m a1 a2) k
  -- 3. LAWS
  obtain ⟨T3, X3, e3, st3⟩ := initO X0 hx hZ hown (hw _ (List.mem_of_getElem? (i := 12) rfl)) (hw _ (List.mem_of_getElem? (i := 13) rfl)) (hw _ (List.mem_of_getElem? (i := 14) rfl)) e0 (g := (mkF m 1 #[.val (.ref a1), .val (.ref a2)] [(.ref a1)])) rfl (by rw [hml]; rfl) rfl (hb hby d2_1) (by decide) (W := 0) (by show 2 * 0 + _ ≤ _; exact Nat.le_of_eq rfl) (by decide)
  obtain ⟨T4, h4, X4, e4, W4, st4⟩ := putF X3 hx hZ hown (host := "") (Or.inl (hw _ (List.mem_of_getElem? (i := 15) rfl))) Via.refl e3 F_degrees_a1 E_a1 (Or.inr ⟨(hw _ (List.mem_of_getElem? (i := 16) rfl)), rfl, hnm⟩) (hw _ (List.mem_of_getElem? (i := 7) rfl)) (ty := (.array .double)) (by decide) rfl rfl (g := (mkF m 6 #[.val (.ref a1), .val (.ref a2)] [(.ref a2), (.ref a1)])) rfl rfl (hb hby d2_6)
  have Fw4 := F_degrees_a1.same W4      -- the field now holds (.ref a2)
  have K4 : Keep h0 h4 [a1] := (Keep.refl h0 [a1]).wr W4 (Or.inl (List.mem_of_getElem? (i := 0) rfl))
  have N4 := Fr.snoc X4 N0 g_a1
  obtain ⟨fs, hr, hrun, hended, hW, hsame⟩ := X4.leave (v := none) (fun _ => rfl)
  refine ⟨_, _, pre0 _ ?_, hrun, hended, _, _, rfl, ?_, ⟨_, rfl⟩, hW, hsame.mono (by decide) (by decide)⟩
  -- 4. STEPS
  · show Steps p.tables e below (s₁.setTop (mkF m 0 #[.val (.ref a1), .val (.ref a2)] [])) _
    refine XS.aloadN X0.here hx rfl (hb hby d2_0) rfl rfl ?_
    show Steps p.tables e below (s₁.setTop (mkF m 1 #[.val (.ref a1), .val (.ref a2)] [(.ref a1)])) _
    refine st3 _ ?_
    show Steps p.tables e below (T3.setTop (mkF m 4 #[.val (.ref a1), .val (.ref a2)] [])) _
    refine XS.aloadN X3.here hx rfl (hb hby d2_4) rfl rfl ?_
    show Steps p.tables e below (T3.setTop (mkF m 5 #[.val (.ref a1), .val (.ref a2)] [(.ref a1)])) _
    refine XS.aloadN X3.here hx rfl (hb hby d2_5) rfl rfl ?_
    show Steps p.tables e below (T3.setTop (mkF m 6 #[.val (.ref a1), .val (.ref a2)] [(.ref a2), (.ref a1)])) _
    refine st4 _ ?_
    show Steps p.tables e below (T4.setTop (mkF m 9 #[.val (.ref a1), .val (.ref a2)] [])) _
    exact X4.returnOut hx Bd.returns (hb hby d2_9) hr
  · show Q2 Z a1 a2 u_degrees_a1 h0 n0 _ T4.heap _
    rw [e4]
    exact ⟨rfl, N4, K4, (E_a1.wr W4), Fw4⟩
theorem d5_0 : decode prog_44_method_3_code 0 = .ok (.aload_n 0, 1) := by decide +kernel
theorem d5_1 : decode prog_44_method_3_code 1 = .ok (.getfield 7, 3) := by decide +kernel
theorem d5_4 : decode prog_44_method_3_code 4 = .ok (.arraylength, 1) := by decide +kernel
theorem d5_5 : decode prog_44_method_3_code 5 = .ok (.iconst 2, 1) := by decide +kernel
theorem d5_6 : decode prog_44_method_3_code 6 = .ok (.idiv, 1) := by decide +kernel
theorem d5_7 : decode prog_44_method_3_code 7 = .ok (.ireturn, 1) := by decide +kernel
theorem pn_5 : plainName "com/example/wakelaw/wakelaw/Ring" = true := by first | (simp [plainName, overriddenIn]; done) | decide +kernel
theorem ef_5 (m : MethodId) (x0 : Addr) : entryFrame m #[(.ref x0)] 1 = mkF m 0 #[.val (.ref x0)] [] := by first | (simp [entryFrame, mkF, argsToLocals, Value.category]; done) | rfl
set_option maxRecDepth 65536 in
set_option maxHeartbeats 40000000 in
theorem rm5 (l : Launch) (Z : State) (a0 : Array Value) (hw : ∀ d ∈ tables_1, d.before a0 Z = true) (ws : List Jvm.Cond) (a1 : Addr) (zl : Int32) (dl : List UInt64) (c_degrees : Addr) (h0 : Heap) (n0 : Nat) (Z0 : n0 ≤ h0.size) (V_c_degrees : own_D Z h0 c_degrees zl dl) (F_degrees_a1 : Fld Z h0 a1 "com/example/wakelaw/wakelaw/Ring" "degrees" "[D" (.ref c_degrees)) :
    MetFree l (⟨"com/example/wakelaw/wakelaw/Ring", "size", "()I"⟩ : MethodName) (head1 (Jvm.Cond.code (⟨"com/example/wakelaw/wakelaw/Ring", "size", "()I"⟩ : MethodName) prog_44_method_3_code 1 (some .int) :: ws) ({ frames := 0, cells := 0, slots := 0, locals := 0 } : Room)) (fun a U => a = #[(.ref a1)] ∧ Z.Warmed39 U.vm ∧ U.heap = h0) (fun _ _ _ _ _ => True) (fun _ U o U' => ∃ v L, o = .returned v ∧ (v = some (.int (zl / (2 : Int32))) ∧ L = [] ∧ U'.heap = h0) ∧ FrameEnd U o U' L ({ frames := 0, cells := 0, slots := 0, locals := 0 } : Room).cells ({ frames := 0, cells := 0, slots := 0, locals := 0 } : Room).slots) := by
  refine MetFree.of_bodySF (plainFor_of_name pn_5) hisR ?_
  intro p e s m args below meth c s₁ Bd hml0 hP hK
  obtain ⟨rfl, hZ, hh⟩ := hP
  have hx := Bd.exec
  have hby := Bd.bytes
  have hml : c.maxLocals = 1 := hml0
  have hown : s.vm.findClass "com/example/wakelaw/wakelaw/Ring" = some m.cls := findClass_of_methodNamed Bd.named
  have hnm := (name_of_methodNamed Bd.named Bd.method).1
  have X0 : Stand p l e ({ frames := 0, cells := 0, slots := 0, locals := 0 } : Room) s m #[(.ref a1)] below meth c s₁ [] 0 0 := Stand.of_body Bd
  have e0 : s₁.heap = h0 := by rw [← hh, Bd.state]; rfl
  have N0 := Fr.nil n0
  have pre0 : ∀ t, Steps p.tables e below (s₁.setTop (mkF m 0 #[.val (.ref a1)] [])) t → Steps p.tables e below (s₁.setTop (entryFrame m #[(.ref a1)] 1)) t := fun t k => castTop (ef_5 m a1) k
  -- 3. LAWS
  obtain ⟨T2, X2, e2, st2⟩ := getF X0 hx hZ hown (host := "") (Or.inl (hw _ (List.mem_of_getElem? (i := 15) rfl))) Via.refl e0 F_degrees_a1 (g := (mkF m 1 #[.val (.ref a1)] [(.ref a1)])) rfl rfl (hb hby d5_1)
  obtain ⟨fs, hr, hrun, hended, hW, hsame⟩ := X2.leave (v := some (.int (zl / (2 : Int32)))) (fun h => by rw [Bd.returns] at h; cases h)
  refine ⟨_, _, pre0 _ ?_, hrun, hended, _, _, rfl, ?_, ⟨_, rfl⟩, hW, hsame.mono (by decide) (by decide)⟩
  -- 4. STEPS
  · show Steps p.tables e below (s₁.setTop (mkF m 0 #[.val (.ref a1)] [])) _
    refine XS.aloadN X0.here hx rfl (hb hby d5_0) rfl rfl ?_
    show Steps p.tables e below (s₁.setTop (mkF m 1 #[.val (.ref a1)] [(.ref a1)])) _
    refine st2 _ ?_
    show Steps p.tables e below (T2.setTop (mkF m 4 #[.val (.ref a1)] [(.ref c_degrees)])) _
    refine own_dlen X2 hx hZ e2 V_c_degrees (g := (mkF m 4 #[.val (.ref a1)] [(.ref c_degrees)])) rfl rfl (hb hby d5_4) _ ?_
    show Steps p.tables e below (T2.setTop (mkF m 5 #[.val (.ref a1)] [(.int zl)])) _
    refine XS.iconst X2.here hx rfl (hb hby d5_5) ?_
    show Steps p.tables e below (T2.setTop (mkF m 6 #[.val (.ref a1)] [(.int (2 : Int32)), (.int zl)])) _
    refine XS.idiv X2.here hx rfl (hb hby d5_6) rfl (by decide) ?_
    show Steps p.tables e below (T2.setTop (mkF m 7 #[.val (.ref a1)] [(.int (zl / (2 : Int32)))])) _
    exact retI X2 hx Bd.returns (hb hby d5_7) hr      -- retI stands in the head ('lawwalk <made dir>' prints it)
  · exact ⟨rfl, rfl, e2⟩
theorem d7_0 : decode prog_44_method_4_code 0 = .ok (.aload_n 0, 1) := by decide +kernel
theorem d7_1 : decode prog_44_method_4_code 1 = .ok (.getfield 7, 3) := by decide +kernel
theorem d7_4 : decode prog_44_method_4_code 4 = .ok (.iconst 2, 1) := by decide +kernel
theorem d7_5 : decode prog_44_method_4_code 5 = .ok (.iload_n 1, 1) := by decide +kernel
theorem d7_6 : decode prog_44_method_4_code 6 = .ok (.imul, 1) := by decide +kernel
theorem d7_7 : decode prog_44_method_4_code 7 = .ok (.daload, 1) := by decide +kernel
theorem d7_8 : decode prog_44_method_4_code 8 = .ok (.dreturn, 1) := by decide +kernel
theorem pn_7 : plainName "com/example/wakelaw/wakelaw/Ring" = true := by first | (simp [plainName, overriddenIn]; done) | decide +kernel
theorem ef_7 (m : MethodId) (x0 : Addr) (x1 : Int32) : entryFrame m #[(.ref x0), (.int x1)] 2 = mkF m 0 #[.val (.ref x0), .val (.int x1)] [] := by first | (simp [entryFrame, mkF, argsToLocals, Value.category]; done) | rfl
set_option maxRecDepth 65536 in
set_option maxHeartbeats 40000000 in
theorem rm7 (l : Launch) (Z : State) (a0 : Array Value) (hw : ∀ d ∈ tables_1, d.before a0 Z = true) (ws : List Jvm.Cond) (a1 : Addr) (p2 : Int32) (zl : Int32) (dl : List UInt64) (c_degrees : Addr) (h0 : Heap) (n0 : Nat) (Z0 : n0 ≤ h0.size) (V_c_degrees : own_D Z h0 c_degrees zl dl) (F_degrees_a1 : Fld Z h0 a1 "com/example/wakelaw/wakelaw/Ring" "degrees" "[D" (.ref c_degrees)) (hj7 : ¬ ((2 : Int32) * p2) < 0 ∧ ((2 : Int32) * p2) < zl) :
    MetFree l (⟨"com/example/wakelaw/wakelaw/Ring", "longitude", "(I)D"⟩ : MethodName) (head1 (Jvm.Cond.code (⟨"com/example/wakelaw/wakelaw/Ring", "longitude", "(I)D"⟩ : MethodName) prog_44_method_4_code 2 (some .double) :: ws) ({ frames := 0, cells := 0, slots := 0, locals := 0 } : Room)) (fun a U => a = #[(.ref a1), (.int p2)] ∧ Z.Warmed39 U.vm ∧ U.heap = h0) (fun _ _ _ _ _ => True) (fun _ U o U' => ∃ v L, o = .returned v ∧ (v = some (.double (dl.getD (((2 : Int32) * p2)).toNatClampNeg 0)) ∧ L = [] ∧ U'.heap = h0) ∧ FrameEnd U o U' L ({ frames := 0, cells := 0, slots := 0, locals := 0 } : Room).cells ({ frames := 0, cells := 0, slots := 0, locals := 0 } : Room).slots) := by
  refine MetFree.of_bodySF (plainFor_of_name pn_7) hisR ?_
  intro p e s m args below meth c s₁ Bd hml0 hP hK
  obtain ⟨rfl, hZ, hh⟩ := hP
  have hx := Bd.exec
  have hby := Bd.bytes
  have hml : c.maxLocals = 2 := hml0
  have hown : s.vm.findClass "com/example/wakelaw/wakelaw/Ring" = some m.cls := findClass_of_methodNamed Bd.named
  have hnm := (name_of_methodNamed Bd.named Bd.method).1
  have X0 : Stand p l e ({ frames := 0, cells := 0, slots := 0, locals := 0 } : Room) s m #[(.ref a1), (.int p2)] below meth c s₁ [] 0 0 := Stand.of_body Bd
  have e0 : s₁.heap = h0 := by rw [← hh, Bd.state]; rfl
  have N0 := Fr.nil n0
  have pre0 : ∀ t, Steps p.tables e below (s₁.setTop (mkF m 0 #[.val (.ref a1), .val (.int p2)] [])) t → Steps p.tables e below (s₁.setTop (entryFrame m #[(.ref a1), (.int p2)] 2)) t := fun t k => castTop (ef_7 m a1 p2) k
  -- 3. LAWS
  obtain ⟨T3, X3, e3, st3⟩ := getF X0 hx hZ hown (host := "") (Or.inl (hw _ (List.mem_of_getElem? (i := 15) rfl))) Via.refl e0 F_degrees_a1 (g := (mkF m 1 #[.val (.ref a1), .val (.int p2)] [(.ref a1)])) rfl rfl (hb hby d7_1)
  obtain ⟨fs, hr, hrun, hended, hW, hsame⟩ := X3.leave (v := some (.double (dl.getD (((2 : Int32) * p2)).toNatClampNeg 0))) (fun h => by rw [Bd.returns] at h; cases h)
  refine ⟨_, _, pre0 _ ?_, hrun, hended, _, _, rfl, ?_, ⟨_, rfl⟩, hW, hsame.mono (by decide) (by decide)⟩
  -- 4. STEPS
  · show Steps p.tables e below (s₁.setTop (mkF m 0 #[.val (.ref a1), .val (.int p2)] [])) _
    refine XS.aloadN X0.here hx rfl (hb hby d7_0) rfl rfl ?_
    show Steps p.tables e below (s₁.setTop (mkF m 1 #[.val (.ref a1), .val (.int p2)] [(.ref a1)])) _
    refine st3 _ ?_
    show Steps p.tables e below (T3.setTop (mkF m 4 #[.val (.ref a1), .val (.int p2)] [(.ref c_degrees)])) _
    refine XS.iconst X3.here hx rfl (hb hby d7_4) ?_
    show Steps p.tables e below (T3.setTop (mkF m 5 #[.val (.ref a1), .val (.int p2)] [(.int (2 : Int32)), (.ref c_degrees)])) _
    refine XS.iloadN X3.here hx rfl (hb hby d7_5) rfl ?_
    show Steps p.tables e below (T3.setTop (mkF m 6 #[.val (.ref a1), .val (.int p2)] [(.int p2), (.int (2 : Int32)), (.ref c_degrees)])) _
    refine XS.imul X3.here hx rfl (hb hby d7_6) rfl ?_
    show Steps p.tables e below (T3.setTop (mkF m 7 #[.val (.ref a1), .val (.int p2)] [(.int ((2 : Int32) * p2)), (.ref c_degrees)])) _
    refine own_dald X3 hx hZ e3 V_c_degrees hj7 (g := (mkF m 7 #[.val (.ref a1), .val (.int p2)] [(.int ((2 : Int32) * p2)), (.ref c_degrees)])) rfl rfl (hb hby d7_7) _ ?_
    show Steps p.tables e below (T3.setTop (mkF m 8 #[.val (.ref a1), .val (.int p2)] [(.double (dl.getD (((2 : Int32) * p2)).toNatClampNeg 0))])) _
    exact own_retD X3 hx Bd.returns (hb hby d7_8) hr
  · exact ⟨rfl, rfl, e3⟩
theorem d8_0 : decode prog_44_method_5_code 0 = .ok (.aload_n 0, 1) := by decide +kernel
theorem d8_1 : decode prog_44_method_5_code 1 = .ok (.getfield 7, 3) := by decide +kernel
theorem d8_4 : decode prog_44_method_5_code 4 = .ok (.iconst 2, 1) := by decide +kernel
theorem d8_5 : decode prog_44_method_5_code 5 = .ok (.iload_n 1, 1) := by decide +kernel
theorem d8_6 : decode prog_44_method_5_code 6 = .ok (.imul, 1) := by decide +kernel
theorem d8_7 : decode prog_44_method_5_code 7 = .ok (.iconst 1, 1) := by decide +kernel
theorem d8_8 : decode prog_44_method_5_code 8 = .ok (.iadd, 1) := by decide +kernel
theorem d8_9 : decode prog_44_method_5_code 9 = .ok (.daload, 1) := by decide +kernel
theorem d8_10 : decode prog_44_method_5_code 10 = .ok (.dreturn, 1) := by decide +kernel
theorem pn_8 : plainName "com/example/wakelaw/wakelaw/Ring" = true := by first | (simp [plainName, overriddenIn]; done) | decide +kernel
theorem ef_8 (m : MethodId) (x0 : Addr) (x1 : Int32) : entryFrame m #[(.ref x0), (.int x1)] 2 = mkF m 0 #[.val (.ref x0), .val (.int x1)] [] := by first | (simp [entryFrame, mkF, argsToLocals, Value.category]; done) | rfl
set_option maxRecDepth 65536 in
set_option maxHeartbeats 40000000 in
theorem rm8 (l : Launch) (Z : State) (a0 : Array Value) (hw : ∀ d ∈ tables_1, d.before a0 Z = true) (ws : List Jvm.Cond) (a1 : Addr) (p2 : Int32) (zl : Int32) (dl : List UInt64) (c_degrees : Addr) (h0 : Heap) (n0 : Nat) (Z0 : n0 ≤ h0.size) (V_c_degrees : own_D Z h0 c_degrees zl dl) (F_degrees_a1 : Fld Z h0 a1 "com/example/wakelaw/wakelaw/Ring" "degrees" "[D" (.ref c_degrees)) (hj9 : ¬ (((2 : Int32) * p2) + (1 : Int32)) < 0 ∧ (((2 : Int32) * p2) + (1 : Int32)) < zl) :
    MetFree l (⟨"com/example/wakelaw/wakelaw/Ring", "latitude", "(I)D"⟩ : MethodName) (head1 (Jvm.Cond.code (⟨"com/example/wakelaw/wakelaw/Ring", "latitude", "(I)D"⟩ : MethodName) prog_44_method_5_code 2 (some .double) :: ws) ({ frames := 0, cells := 0, slots := 0, locals := 0 } : Room)) (fun a U => a = #[(.ref a1), (.int p2)] ∧ Z.Warmed39 U.vm ∧ U.heap = h0) (fun _ _ _ _ _ => True) (fun _ U o U' => ∃ v L, o = .returned v ∧ (v = some (.double (dl.getD ((((2 : Int32) * p2) + (1 : Int32))).toNatClampNeg 0)) ∧ L = [] ∧ U'.heap = h0) ∧ FrameEnd U o U' L ({ frames := 0, cells := 0, slots := 0, locals := 0 } : Room).cells ({ frames := 0, cells := 0, slots := 0, locals := 0 } : Room).slots) := by
  refine MetFree.of_bodySF (plainFor_of_name pn_8) hisR ?_
  intro p e s m args below meth c s₁ Bd hml0 hP hK
  obtain ⟨rfl, hZ, hh⟩ := hP
  have hx := Bd.exec
  have hby := Bd.bytes
  have hml : c.maxLocals = 2 := hml0
  have hown : s.vm.findClass "com/example/wakelaw/wakelaw/Ring" = some m.cls := findClass_of_methodNamed Bd.named
  have hnm := (name_of_methodNamed Bd.named Bd.method).1
  have X0 : Stand p l e ({ frames := 0, cells := 0, slots := 0, locals := 0 } : Room) s m #[(.ref a1), (.int p2)] below meth c s₁ [] 0 0 := Stand.of_body Bd
  have e0 : s₁.heap = h0 := by rw [← hh, Bd.state]; rfl
  have N0 := Fr.nil n0
  have pre0 : ∀ t, Steps p.tables e below (s₁.setTop (mkF m 0 #[.val (.ref a1), .val (.int p2)] [])) t → Steps p.tables e below (s₁.setTop (entryFrame m #[(.ref a1), (.int p2)] 2)) t := fun t k => castTop (ef_8 m a1 p2) k
  -- 3. LAWS
  obtain ⟨T3, X3, e3, st3⟩ := getF X0 hx hZ hown (host := "") (Or.inl (hw _ (List.mem_of_getElem? (i := 15) rfl))) Via.refl e0 F_degrees_a1 (g := (mkF m 1 #[.val (.ref a1), .val (.int p2)] [(.ref a1)])) rfl rfl (hb hby d8_1)
  obtain ⟨fs, hr, hrun, hended, hW, hsame⟩ := X3.leave (v := some (.double (dl.getD ((((2 : Int32) * p2) + (1 : Int32))).toNatClampNeg 0))) (fun h => by rw [Bd.returns] at h; cases h)
  refine ⟨_, _, pre0 _ ?_, hrun, hended, _, _, rfl, ?_, ⟨_, rfl⟩, hW, hsame.mono (by decide) (by decide)⟩
  -- 4. STEPS
  · show Steps p.tables e below (s₁.setTop (mkF m 0 #[.val (.ref a1), .val (.int p2)] [])) _
    refine XS.aloadN X0.here hx rfl (hb hby d8_0) rfl rfl ?_
    show Steps p.tables e below (s₁.setTop (mkF m 1 #[.val (.ref a1), .val (.int p2)] [(.ref a1)])) _
    refine st3 _ ?_
    show Steps p.tables e below (T3.setTop (mkF m 4 #[.val (.ref a1), .val (.int p2)] [(.ref c_degrees)])) _
    refine XS.iconst X3.here hx rfl (hb hby d8_4) ?_
    show Steps p.tables e below (T3.setTop (mkF m 5 #[.val (.ref a1), .val (.int p2)] [(.int (2 : Int32)), (.ref c_degrees)])) _
    refine XS.iloadN X3.here hx rfl (hb hby d8_5) rfl ?_
    show Steps p.tables e below (T3.setTop (mkF m 6 #[.val (.ref a1), .val (.int p2)] [(.int p2), (.int (2 : Int32)), (.ref c_degrees)])) _
    refine XS.imul X3.here hx rfl (hb hby d8_6) rfl ?_
    show Steps p.tables e below (T3.setTop (mkF m 7 #[.val (.ref a1), .val (.int p2)] [(.int ((2 : Int32) * p2)), (.ref c_degrees)])) _
    refine XS.iconst X3.here hx rfl (hb hby d8_7) ?_
    show Steps p.tables e below (T3.setTop (mkF m 8 #[.val (.ref a1), .val (.int p2)] [(.int (1 : Int32)), (.int ((2 : Int32) * p2)), (.ref c_degrees)])) _
    refine XS.iadd X3.here hx rfl (hb hby d8_8) rfl ?_
    show Steps p.tables e below (T3.setTop (mkF m 9 #[.val (.ref a1), .val (.int p2)] [(.int (((2 : Int32) * p2) + (1 : Int32))), (.ref c_degrees)])) _
    refine own_dald X3 hx hZ e3 V_c_degrees hj9 (g := (mkF m 9 #[.val (.ref a1), .val (.int p2)] [(.int (((2 : Int32) * p2) + (1 : Int32))), (.ref c_degrees)])) rfl rfl (hb hby d8_9) _ ?_
    show Steps p.tables e below (T3.setTop (mkF m 10 #[.val (.ref a1), .val (.int p2)] [(.double (dl.getD ((((2 : Int32) * p2) + (1 : Int32))).toNatClampNeg 0))])) _
    exact own_retD X3 hx Bd.returns (hb hby d8_10) hr
  · exact ⟨rfl, rfl, e3⟩
def own_closed (zl : Int32) (dl : List UInt64) : Int32 := if ((zl / (2 : Int32)) - (1 : Int32)) < (0 : Int32) then 0 else if cmpValue (FP.dcmp (dl.getD ((2 : Int32) * (0 : Int32)).toNatClampNeg 0) (dl.getD ((2 : Int32) * ((zl / (2 : Int32)) - (1 : Int32))).toNatClampNeg 0)) .l = (0 : Int32) then (if cmpValue (FP.dcmp (dl.getD (((2 : Int32) * (0 : Int32)) + (1 : Int32)).toNatClampNeg 0) (dl.getD (((2 : Int32) * ((zl / (2 : Int32)) - (1 : Int32))) + (1 : Int32)).toNatClampNeg 0)) .l = (0 : Int32) then 1 else 0) else 0
/-- what closed() asks of the array's length -/
def own_ok (zl : Int32) : Prop := ¬ (((zl / (2 : Int32)) - (1 : Int32)) < (0 : Int32)) → (¬ ((2 : Int32) * (0 : Int32)) < 0 ∧ ((2 : Int32) * (0 : Int32)) < zl) ∧ (¬ ((2 : Int32) * ((zl / (2 : Int32)) - (1 : Int32))) < 0 ∧ ((2 : Int32) * ((zl / (2 : Int32)) - (1 : Int32))) < zl) ∧ (¬ (((2 : Int32) * (0 : Int32)) + (1 : Int32)) < 0 ∧ (((2 : Int32) * (0 : Int32)) + (1 : Int32)) < zl) ∧ (¬ (((2 : Int32) * ((zl / (2 : Int32)) - (1 : Int32))) + (1 : Int32)) < 0 ∧ (((2 : Int32) * ((zl / (2 : Int32)) - (1 : Int32))) + (1 : Int32)) < zl)
theorem d4_0 : decode prog_44_method_6_code 0 = .ok (.aload_n 0, 1) := by decide +kernel
theorem d4_1 : decode prog_44_method_6_code 1 = .ok (.invokevirtual 13, 3) := by decide +kernel
theorem d4_4 : decode prog_44_method_6_code 4 = .ok (.iconst 1, 1) := by decide +kernel
theorem d4_5 : decode prog_44_method_6_code 5 = .ok (.isub, 1) := by decide +kernel
theorem d4_6 : decode prog_44_method_6_code 6 = .ok (.istore_n 1, 1) := by decide +kernel
theorem d4_7 : decode prog_44_method_6_code 7 = .ok (.iload_n 1, 1) := by decide +kernel
theorem d4_8 : decode prog_44_method_6_code 8 = .ok (.ifCond .lt 35, 3) := by decide +kernel
theorem d4_43 : decode prog_44_method_6_code 43 = .ok (.iconst 0, 1) := by decide +kernel
theorem d4_44 : decode prog_44_method_6_code 44 = .ok (.ireturn, 1) := by decide +kernel
theorem pn_4 : plainName "com/example/wakelaw/wakelaw/Ring" = true := by first | (simp [plainName, overriddenIn]; done) | decide +kernel
theorem pd_4_4 : parseMethodDescriptor "()I" = some ⟨[], some .int⟩ := by decide +kernel
theorem ef_4 (m : MethodId) (x0 : Addr) : entryFrame m #[(.ref x0)] 2 = mkF m 0 #[.val (.ref x0), .unset] [] := by first | (simp [entryFrame, mkF, argsToLocals, Value.category]; done) | rfl
set_option maxRecDepth 65536 in
set_option maxHeartbeats 40000000 in
theorem rm4_t (l : Launch) (Z : State) (a0 : Array Value) (hw : ∀ d ∈ tables_1, d.before a0 Z = true) (ws : List Jvm.Cond) (a1 : Addr) (zl : Int32) (dl : List UInt64) (c_degrees : Addr) (h0 : Heap) (n0 : Nat) (Z0 : n0 ≤ h0.size) (V_c_degrees : own_D Z h0 c_degrees zl dl) (F_degrees_a1 : Fld Z h0 a1 "com/example/wakelaw/wakelaw/Ring" "degrees" "[D" (.ref c_degrees)) (E_a1 : Exa Z h0 a1 "com/example/wakelaw/wakelaw/Ring") (hc8 : ((zl / (2 : Int32)) - (1 : Int32)) < (0 : Int32)) :
    MetFree l (⟨"com/example/wakelaw/wakelaw/Ring", "closed", "()Z"⟩ : MethodName) (head1 (Jvm.Cond.code (⟨"com/example/wakelaw/wakelaw/Ring", "closed", "()Z"⟩ : MethodName) prog_44_method_6_code 2 (some .boolean) :: ws) ({ frames := 1, cells := 0, slots := 0, locals := 15 } : Room)) (fun a U => a = #[(.ref a1)] ∧ Z.Warmed39 U.vm ∧ U.heap = h0) (fun _ _ _ _ _ => True) (fun _ U o U' => ∃ v L, o = .returned v ∧ (v = some (.int (own_closed zl dl)) ∧ L = [] ∧ U'.heap = h0) ∧ FrameEnd U o U' L ({ frames := 1, cells := 0, slots := 0, locals := 15 } : Room).cells ({ frames := 1, cells := 0, slots := 0, locals := 15 } : Room).slots) := by
  refine MetFree.of_bodySF (plainFor_of_name pn_4) hisR ?_
  intro p e s m args below meth c s₁ Bd hml0 hP hK
  obtain ⟨rfl, hZ, hh⟩ := hP
  have hx := Bd.exec
  have hby := Bd.bytes
  have hml : c.maxLocals = 2 := hml0
  have hown : s.vm.findClass "com/example/wakelaw/wakelaw/Ring" = some m.cls := findClass_of_methodNamed Bd.named
  have hnm := (name_of_methodNamed Bd.named Bd.method).1
  have X0 : Stand p l e ({ frames := 1, cells := 0, slots := 0, locals := 15 } : Room) s m #[(.ref a1)] below meth c s₁ [] 0 0 := Stand.of_body Bd
  have e0 : s₁.heap = h0 := by rw [← hh, Bd.state]; rfl
  have N0 := Fr.nil n0
  have pre0 : ∀ t, Steps p.tables e below (s₁.setTop (mkF m 0 #[.val (.ref a1), .unset] [])) t → Steps p.tables e below (s₁.setTop (entryFrame m #[(.ref a1)] 2)) t := fun t k => castTop (ef_4 m a1) k
  -- 3. LAWS
  -- pc 1: com/example/wakelaw/wakelaw/Ring.size
  obtain ⟨T2, X2, e2, st2⟩ := own_pureV X0 hx hZ (val := (.int (zl / (2 : Int32)))) (W := 0) (rm5 l Z a0 hw [] a1 zl dl c_degrees h0 n0 Z0 V_c_degrees F_degrees_a1) hown (hw _ (List.mem_of_getElem? (i := 22) rfl)) (hw _ (List.mem_of_getElem? (i := 23) rfl)) (hw _ (List.mem_of_getElem? (i := 24) rfl)) (hw _ (List.mem_of_getElem? (i := 25) rfl)) (hw _ (List.mem_of_getElem? (i := 8) rfl)) (hw _ (List.mem_of_getElem? (i := 26) rfl)) (by decide) E_a1 (by decide) (by decide) e0 (g := (mkF m 1 #[.val (.ref a1), .unset] [(.ref a1)])) rfl (by rw [hml]; rfl) (argsL := []) (rest := []) (lenOf pd_4_4 rfl) rfl (by show 2 * 0 + _ ≤ _; exact Nat.le_of_eq rfl) (hb hby d4_1) (by decide) (by decide)
  obtain ⟨fs, hr, hrun, hended, hW, hsame⟩ := X2.leave (v := some (.int (0 : Int32))) (fun h => by rw [Bd.returns] at h; cases h)
  refine ⟨_, _, pre0 _ ?_, hrun, hended, _, _, rfl, ?_, ⟨_, rfl⟩, hW, hsame.mono (by decide) (by decide)⟩
  -- 4. STEPS
  · show Steps p.tables e below (s₁.setTop (mkF m 0 #[.val (.ref a1), .unset] [])) _
    refine XS.aloadN X0.here hx rfl (hb hby d4_0) rfl rfl ?_
    show Steps p.tables e below (s₁.setTop (mkF m 1 #[.val (.ref a1), .unset] [(.ref a1)])) _
    refine st2 _ ?_
    show Steps p.tables e below (T2.setTop (mkF m 4 #[.val (.ref a1), .unset] [(.int (zl / (2 : Int32)))])) _
    refine XS.iconst X2.here hx rfl (hb hby d4_4) ?_
    show Steps p.tables e below (T2.setTop (mkF m 5 #[.val (.ref a1), .unset] [(.int (1 : Int32)), (.int (zl / (2 : Int32)))])) _
    refine XS.isub X2.here hx rfl (hb hby d4_5) rfl ?_
    show Steps p.tables e below (T2.setTop (mkF m 6 #[.val (.ref a1), .unset] [(.int ((zl / (2 : Int32)) - (1 : Int32)))])) _
    refine XS.istoreN X2.here hx rfl (hb hby d4_6) rfl (l' := #[.val (.ref a1), .val (.int ((zl / (2 : Int32)) - (1 : Int32)))]) rfl ?_
    show Steps p.tables e below (T2.setTop (mkF m 7 #[.val (.ref a1), .val (.int ((zl / (2 : Int32)) - (1 : Int32)))] [])) _
    refine XS.iloadN X2.here hx rfl (hb hby d4_7) rfl ?_
    show Steps p.tables e below (T2.setTop (mkF m 8 #[.val (.ref a1), .val (.int ((zl / (2 : Int32)) - (1 : Int32)))] [(.int ((zl / (2 : Int32)) - (1 : Int32)))])) _
    refine XS.ifYes X2.here hx rfl (pc0 := 8) (pc' := 43) rfl (hb hby d4_8) rfl ((if0 _ _).trans (tlt hc8).1) (by decide) (by decide) ?_
    show Steps p.tables e below (T2.setTop (mkF m 43 #[.val (.ref a1), .val (.int ((zl / (2 : Int32)) - (1 : Int32)))] [])) _
    refine XS.iconst X2.here hx rfl (hb hby d4_43) ?_
    show Steps p.tables e below (T2.setTop (mkF m 44 #[.val (.ref a1), .val (.int ((zl / (2 : Int32)) - (1 : Int32)))] [(.int (0 : Int32))])) _
    exact retN X2 hx (t := .boolean) Bd.returns (by simp) (hb hby d4_44) hr
  · exact ⟨by rw [own_closed, if_pos hc8], rfl, e2⟩
theorem d4_11 : decode prog_44_method_6_code 11 = .ok (.aload_n 0, 1) := by decide +kernel
theorem d4_12 : decode prog_44_method_6_code 12 = .ok (.iconst 0, 1) := by decide +kernel
theorem d4_13 : decode prog_44_method_6_code 13 = .ok (.invokevirtual 17, 3) := by decide +kernel
theorem d4_16 : decode prog_44_method_6_code 16 = .ok (.aload_n 0, 1) := by decide +kernel
theorem d4_17 : decode prog_44_method_6_code 17 = .ok (.iload_n 1, 1) := by decide +kernel
theorem d4_18 : decode prog_44_method_6_code 18 = .ok (.invokevirtual 17, 3) := by decide +kernel
theorem d4_21 : decode prog_44_method_6_code 21 = .ok (.dcmp .l, 1) := by decide +kernel
theorem d4_22 : decode prog_44_method_6_code 22 = .ok (.ifCond .ne 21, 3) := by decide +kernel
theorem pd_4_6 : parseMethodDescriptor "(I)D" = some ⟨[.int], some .double⟩ := by decide +kernel
set_option maxRecDepth 65536 in
set_option maxHeartbeats 40000000 in
theorem rm4_ft (l : Launch) (Z : State) (a0 : Array Value) (hw : ∀ d ∈ tables_1, d.before a0 Z = true) (ws : List Jvm.Cond) (a1 : Addr) (zl : Int32) (dl : List UInt64) (c_degrees : Addr) (t21 : Int32) (h0 : Heap) (n0 : Nat) (Z0 : n0 ≤ h0.size) (V_c_degrees : own_D Z h0 c_degrees zl dl) (F_degrees_a1 : Fld Z h0 a1 "com/example/wakelaw/wakelaw/Ring" "degrees" "[D" (.ref c_degrees)) (E_a1 : Exa Z h0 a1 "com/example/wakelaw/wakelaw/Ring") (hc8 : ¬ (((zl / (2 : Int32)) - (1 : Int32)) < (0 : Int32))) (hk13 : ¬ ((2 : Int32) * (0 : Int32)) < 0 ∧ ((2 : Int32) * (0 : Int32)) < zl) (hk18 : ¬ ((2 : Int32) * ((zl / (2 : Int32)) - (1 : Int32))) < 0 ∧ ((2 : Int32) * ((zl / (2 : Int32)) - (1 : Int32))) < zl) (ht21 : cmpValue (FP.dcmp (dl.getD ((2 : Int32) * (0 : Int32)).toNatClampNeg 0) (dl.getD ((2 : Int32) * ((zl / (2 : Int32)) - (1 : Int32))).toNatClampNeg 0)) .l = t21) (hc22 : ¬ (t21 = (0 : Int32))) :
    MetFree l (⟨"com/example/wakelaw/wakelaw/Ring", "closed", "()Z"⟩ : MethodName) (head1 (Jvm.Cond.code (⟨"com/example/wakelaw/wakelaw/Ring", "closed", "()Z"⟩ : MethodName) prog_44_method_6_code 2 (some .boolean) :: ws) ({ frames := 1, cells := 0, slots := 0, locals := 15 } : Room)) (fun a U => a = #[(.ref a1)] ∧ Z.Warmed39 U.vm ∧ U.heap = h0) (fun _ _ _ _ _ => True) (fun _ U o U' => ∃ v L, o = .returned v ∧ (v = some (.int (own_closed zl dl)) ∧ L = [] ∧ U'.heap = h0) ∧ FrameEnd U o U' L ({ frames := 1, cells := 0, slots := 0, locals := 15 } : Room).cells ({ frames := 1, cells := 0, slots := 0, locals := 15 } : Room).slots) := by
  refine MetFree.of_bodySF (plainFor_of_name pn_4) hisR ?_
  intro p e s m args below meth c s₁ Bd hml0 hP hK
  obtain ⟨rfl, hZ, hh⟩ := hP
  have hx := Bd.exec
  have hby := Bd.bytes
  have hml : c.maxLocals = 2 := hml0
  have hown : s.vm.findClass "com/example/wakelaw/wakelaw/Ring" = some m.cls := findClass_of_methodNamed Bd.named
  have hnm := (name_of_methodNamed Bd.named Bd.method).1
  have X0 : Stand p l e ({ frames := 1, cells := 0, slots := 0, locals := 15 } : Room) s m #[(.ref a1)] below meth c s₁ [] 0 0 := Stand.of_body Bd
  have e0 : s₁.heap = h0 := by rw [← hh, Bd.state]; rfl
  have N0 := Fr.nil n0
  have pre0 : ∀ t, Steps p.tables e below (s₁.setTop (mkF m 0 #[.val (.ref a1), .unset] [])) t → Steps p.tables e below (s₁.setTop (entryFrame m #[(.ref a1)] 2)) t := fun t k => castTop (ef_4 m a1) k
  -- 3. LAWS
  -- pc 1: com/example/wakelaw/wakelaw/Ring.size
  obtain ⟨T2, X2, e2, st2⟩ := own_pureV X0 hx hZ (val := (.int (zl / (2 : Int32)))) (W := 0) (rm5 l Z a0 hw [] a1 zl dl c_degrees h0 n0 Z0 V_c_degrees F_degrees_a1) hown (hw _ (List.mem_of_getElem? (i := 22) rfl)) (hw _ (List.mem_of_getElem? (i := 23) rfl)) (hw _ (List.mem_of_getElem? (i := 24) rfl)) (hw _ (List.mem_of_getElem? (i := 25) rfl)) (hw _ (List.mem_of_getElem? (i := 8) rfl)) (hw _ (List.mem_of_getElem? (i := 26) rfl)) (by decide) E_a1 (by decide) (by decide) e0 (g := (mkF m 1 #[.val (.ref a1), .unset] [(.ref a1)])) rfl (by rw [hml]; rfl) (argsL := []) (rest := []) (lenOf pd_4_4 rfl) rfl (by show 2 * 0 + _ ≤ _; exact Nat.le_of_eq rfl) (hb hby d4_1) (by decide) (by decide)
  -- pc 13: com/example/wakelaw/wakelaw/Ring.longitude
  obtain ⟨T3, X3, e3, st3⟩ := own_pureV X2 hx hZ (val := (.double (dl.getD ((2 : Int32) * (0 : Int32)).toNatClampNeg 0))) (W := 0) (rm7 l Z a0 hw [] a1 (0 : Int32) zl dl c_degrees h0 n0 Z0 V_c_degrees F_degrees_a1 hk13) hown (hw _ (List.mem_of_getElem? (i := 30) rfl)) (hw _ (List.mem_of_getElem? (i := 31) rfl)) (hw _ (List.mem_of_getElem? (i := 32) rfl)) (hw _ (List.mem_of_getElem? (i := 33) rfl)) (hw _ (List.mem_of_getElem? (i := 8) rfl)) (hw _ (List.mem_of_getElem? (i := 34) rfl)) (by decide) E_a1 (by decide) (by decide) e2 (g := (mkF m 13 #[.val (.ref a1), .val (.int ((zl / (2 : Int32)) - (1 : Int32)))] [(.int (0 : Int32)), (.ref a1)])) rfl (by rw [hml]; rfl) (argsL := [(.int (0 : Int32))]) (rest := []) (lenOf pd_4_6 rfl) rfl (by show 2 * 0 + _ ≤ _; exact Nat.le_of_eq rfl) (hb hby d4_13) (by decide) (by decide)
  -- pc 18: com/example/wakelaw/wakelaw/Ring.longitude
  obtain ⟨T4, X4, e4, st4⟩ := own_pureV X3 hx hZ (val := (.double (dl.getD ((2 : Int32) * ((zl / (2 : Int32)) - (1 : Int32))).toNatClampNeg 0))) (W := 2) (rm7 l Z a0 hw [] a1 ((zl / (2 : Int32)) - (1 : Int32)) zl dl c_degrees h0 n0 Z0 V_c_degrees F_degrees_a1 hk18) hown (hw _ (List.mem_of_getElem? (i := 30) rfl)) (hw _ (List.mem_of_getElem? (i := 31) rfl)) (hw _ (List.mem_of_getElem? (i := 32) rfl)) (hw _ (List.mem_of_getElem? (i := 33) rfl)) (hw _ (List.mem_of_getElem? (i := 8) rfl)) (hw _ (List.mem_of_getElem? (i := 34) rfl)) (by decide) E_a1 (by decide) (by decide) e3 (g := (mkF m 18 #[.val (.ref a1), .val (.int ((zl / (2 : Int32)) - (1 : Int32)))] [(.int ((zl / (2 : Int32)) - (1 : Int32))), (.ref a1), (.double (dl.getD ((2 : Int32) * (0 : Int32)).toNatClampNeg 0))])) rfl (by rw [hml]; rfl) (argsL := [(.int ((zl / (2 : Int32)) - (1 : Int32)))]) (rest := [(.double (dl.getD ((2 : Int32) * (0 : Int32)).toNatClampNeg 0))]) (lenOf pd_4_6 rfl) rfl (by show 2 * 0 + _ ≤ _; exact Nat.le_of_eq rfl) (hb hby d4_18) (by decide) (by decide)
  obtain ⟨fs, hr, hrun, hended, hW, hsame⟩ := X4.leave (v := some (.int (0 : Int32))) (fun h => by rw [Bd.returns] at h; cases h)
  refine ⟨_, _, pre0 _ ?_, hrun, hended, _, _, rfl, ?_, ⟨_, rfl⟩, hW, hsame.mono (by decide) (by decide)⟩
  -- 4. STEPS
  · show Steps p.tables e below (s₁.setTop (mkF m 0 #[.val (.ref a1), .unset] [])) _
    refine XS.aloadN X0.here hx rfl (hb hby d4_0) rfl rfl ?_
    show Steps p.tables e below (s₁.setTop (mkF m 1 #[.val (.ref a1), .unset] [(.ref a1)])) _
    refine st2 _ ?_
    show Steps p.tables e below (T2.setTop (mkF m 4 #[.val (.ref a1), .unset] [(.int (zl / (2 : Int32)))])) _
    refine XS.iconst X2.here hx rfl (hb hby d4_4) ?_
    show Steps p.tables e below (T2.setTop (mkF m 5 #[.val (.ref a1), .unset] [(.int (1 : Int32)), (.int (zl / (2 : Int32)))])) _
    refine XS.isub X2.here hx rfl (hb hby d4_5) rfl ?_
    show Steps p.tables e below (T2.setTop (mkF m 6 #[.val (.ref a1), .unset] [(.int ((zl / (2 : Int32)) - (1 : Int32)))])) _
    refine XS.istoreN X2.here hx rfl (hb hby d4_6) rfl (l' := #[.val (.ref a1), .val (.int ((zl / (2 : Int32)) - (1 : Int32)))]) rfl ?_
    show Steps p.tables e below (T2.setTop (mkF m 7 #[.val (.ref a1), .val (.int ((zl / (2 : Int32)) - (1 : Int32)))] [])) _
    refine XS.iloadN X2.here hx rfl (hb hby d4_7) rfl ?_
    show Steps p.tables e below (T2.setTop (mkF m 8 #[.val (.ref a1), .val (.int ((zl / (2 : Int32)) - (1 : Int32)))] [(.int ((zl / (2 : Int32)) - (1 : Int32)))])) _
    refine XS.ifNo X2.here hx rfl (hb hby d4_8) rfl ((if0 _ _).trans (flt hc8).1) ?_
    show Steps p.tables e below (T2.setTop (mkF m 11 #[.val (.ref a1), .val (.int ((zl / (2 : Int32)) - (1 : Int32)))] [])) _
    refine XS.aloadN X2.here hx rfl (hb hby d4_11) rfl rfl ?_
    show Steps p.tables e below (T2.setTop (mkF m 12 #[.val (.ref a1), .val (.int ((zl / (2 : Int32)) - (1 : Int32)))] [(.ref a1)])) _
    refine XS.iconst X2.here hx rfl (hb hby d4_12) ?_
    show Steps p.tables e below (T2.setTop (mkF m 13 #[.val (.ref a1), .val (.int ((zl / (2 : Int32)) - (1 : Int32)))] [(.int (0 : Int32)), (.ref a1)])) _
    refine st3 _ ?_
    show Steps p.tables e below (T3.setTop (mkF m 16 #[.val (.ref a1), .val (.int ((zl / (2 : Int32)) - (1 : Int32)))] [(.double (dl.getD ((2 : Int32) * (0 : Int32)).toNatClampNeg 0))])) _
    refine XS.aloadN X3.here hx rfl (hb hby d4_16) rfl rfl ?_
    show Steps p.tables e below (T3.setTop (mkF m 17 #[.val (.ref a1), .val (.int ((zl / (2 : Int32)) - (1 : Int32)))] [(.ref a1), (.double (dl.getD ((2 : Int32) * (0 : Int32)).toNatClampNeg 0))])) _
    refine XS.iloadN X3.here hx rfl (hb hby d4_17) rfl ?_
    show Steps p.tables e below (T3.setTop (mkF m 18 #[.val (.ref a1), .val (.int ((zl / (2 : Int32)) - (1 : Int32)))] [(.int ((zl / (2 : Int32)) - (1 : Int32))), (.ref a1), (.double (dl.getD ((2 : Int32) * (0 : Int32)).toNatClampNeg 0))])) _
    refine st4 _ ?_
    show Steps p.tables e below (T4.setTop (mkF m 21 #[.val (.ref a1), .val (.int ((zl / (2 : Int32)) - (1 : Int32)))] [(.double (dl.getD ((2 : Int32) * ((zl / (2 : Int32)) - (1 : Int32))).toNatClampNeg 0)), (.double (dl.getD ((2 : Int32) * (0 : Int32)).toNatClampNeg 0))])) _
    refine XS.dcmpS X4.here hx rfl (hb hby d4_21) rfl ht21 ?_
    show Steps p.tables e below (T4.setTop (mkF m 22 #[.val (.ref a1), .val (.int ((zl / (2 : Int32)) - (1 : Int32)))] [(.int t21)])) _
    refine XS.ifYes X4.here hx rfl (pc0 := 22) (pc' := 43) rfl (hb hby d4_22) rfl ((if0 _ _).trans (feq hc22).2) (by decide) (by decide) ?_
    show Steps p.tables e below (T4.setTop (mkF m 43 #[.val (.ref a1), .val (.int ((zl / (2 : Int32)) - (1 : Int32)))] [])) _
    refine XS.iconst X4.here hx rfl (hb hby d4_43) ?_
    show Steps p.tables e below (T4.setTop (mkF m 44 #[.val (.ref a1), .val (.int ((zl / (2 : Int32)) - (1 : Int32)))] [(.int (0 : Int32))])) _
    exact retN X4 hx (t := .boolean) Bd.returns (by simp) (hb hby d4_44) hr
  · exact ⟨by rw [own_closed, if_neg hc8, if_neg (by rw [ht21]; exact hc22)], rfl, e4⟩
theorem d4_25 : decode prog_44_method_6_code 25 = .ok (.aload_n 0, 1) := by decide +kernel
theorem d4_26 : decode prog_44_method_6_code 26 = .ok (.iconst 0, 1) := by decide +kernel
theorem d4_27 : decode prog_44_method_6_code 27 = .ok (.invokevirtual 21, 3) := by decide +kernel
theorem d4_30 : decode prog_44_method_6_code 30 = .ok (.aload_n 0, 1) := by decide +kernel
theorem d4_31 : decode prog_44_method_6_code 31 = .ok (.iload_n 1, 1) := by decide +kernel
theorem d4_32 : decode prog_44_method_6_code 32 = .ok (.invokevirtual 21, 3) := by decide +kernel
theorem d4_35 : decode prog_44_method_6_code 35 = .ok (.dcmp .l, 1) := by decide +kernel
theorem d4_36 : decode prog_44_method_6_code 36 = .ok (.ifCond .ne 7, 3) := by decide +kernel
set_option maxRecDepth 65536 in
set_option maxHeartbeats 40000000 in
theorem rm4_fft (l : Launch) (Z : State) (a0 : Array Value) (hw : ∀ d ∈ tables_1, d.before a0 Z = true) (ws : List Jvm.Cond) (a1 : Addr) (zl : Int32) (dl : List UInt64) (c_degrees : Addr) (t21 : Int32) (t35 : Int32) (h0 : Heap) (n0 : Nat) (Z0 : n0 ≤ h0.size) (V_c_degrees : own_D Z h0 c_degrees zl dl) (F_degrees_a1 : Fld Z h0 a1 "com/example/wakelaw/wakelaw/Ring" "degrees" "[D" (.ref c_degrees)) (E_a1 : Exa Z h0 a1 "com/example/wakelaw/wakelaw/Ring") (hc8 : ¬ (((zl / (2 : Int32)) - (1 : Int32)) < (0 : Int32))) (hk13 : ¬ ((2 : Int32) * (0 : Int32)) < 0 ∧ ((2 : Int32) * (0 : Int32)) < zl) (hk18 : ¬ ((2 : Int32) * ((zl / (2 : Int32)) - (1 : Int32))) < 0 ∧ ((2 : Int32) * ((zl / (2 : Int32)) - (1 : Int32))) < zl) (ht21 : cmpValue (FP.dcmp (dl.getD ((2 : Int32) * (0 : Int32)).toNatClampNeg 0) (dl.getD ((2 : Int32) * ((zl / (2 : Int32)) - (1 : Int32))).toNatClampNeg 0)) .l = t21) (hc22 : t21 = (0 : Int32)) (hk27 : ¬ (((2 : Int32) * (0 : Int32)) + (1 : Int32)) < 0 ∧ (((2 : Int32) * (0 : Int32)) + (1 : Int32)) < zl) (hk32 : ¬ (((2 : Int32) * ((zl / (2 : Int32)) - (1 : Int32))) + (1 : Int32)) < 0 ∧ (((2 : Int32) * ((zl / (2 : Int32)) - (1 : Int32))) + (1 : Int32)) < zl) (ht35 : cmpValue (FP.dcmp (dl.getD (((2 : Int32) * (0 : Int32)) + (1 : Int32)).toNatClampNeg 0) (dl.getD (((2 : Int32) * ((zl / (2 : Int32)) - (1 : Int32))) + (1 : Int32)).toNatClampNeg 0)) .l = t35) (hc36 : ¬ (t35 = (0 : Int32))) :
    MetFree l (⟨"com/example/wakelaw/wakelaw/Ring", "closed", "()Z"⟩ : MethodName) (head1 (Jvm.Cond.code (⟨"com/example/wakelaw/wakelaw/Ring", "closed", "()Z"⟩ : MethodName) prog_44_method_6_code 2 (some .boolean) :: ws) ({ frames := 1, cells := 0, slots := 0, locals := 15 } : Room)) (fun a U => a = #[(.ref a1)] ∧ Z.Warmed39 U.vm ∧ U.heap = h0) (fun _ _ _ _ _ => True) (fun _ U o U' => ∃ v L, o = .returned v ∧ (v = some (.int (own_closed zl dl)) ∧ L = [] ∧ U'.heap = h0) ∧ FrameEnd U o U' L ({ frames := 1, cells := 0, slots := 0, locals := 15 } : Room).cells ({ frames := 1, cells := 0, slots := 0, locals := 15 } : Room).slots) := by
  refine MetFree.of_bodySF (plainFor_of_name pn_4) hisR ?_
  intro p e s m args below meth c s₁ Bd hml0 hP hK
  obtain ⟨rfl, hZ, hh⟩ := hP
  have hx := Bd.exec
  have hby := Bd.bytes
  have hml : c.maxLocals = 2 := hml0
  have hown : s.vm.findClass "com/example/wakelaw/wakelaw/Ring" = some m.cls := findClass_of_methodNamed Bd.named
  have hnm := (name_of_methodNamed Bd.named Bd.method).1
  have X0 : Stand p l e ({ frames := 1, cells := 0, slots := 0, locals := 15 } : Room) s m #[(.ref a1)] below meth c s₁ [] 0 0 := Stand.of_body Bd
  have e0 : s₁.heap = h0 := by rw [← hh, Bd.state]; rfl
  have N0 := Fr.nil n0
  have pre0 : ∀ t, Steps p.tables e below (s₁.setTop (mkF m 0 #[.val (.ref a1), .unset] [])) t → Steps p.tables e below (s₁.setTop (entryFrame m #[(.ref a1)] 2)) t := fun t k => castTop (ef_4 m a1) k
  -- 3. LAWS
  -- pc 1: com/example/wakelaw/wakelaw/Ring.size
  obtain ⟨T2, X2, e2, st2⟩ := own_pureV X0 hx hZ (val := (.int (zl / (2 : Int32)))) (W := 0) (rm5 l Z a0 hw [] a1 zl dl c_degrees h0 n0 Z0 V_c_degrees F_degrees_a1) hown (hw _ (List.mem_of_getElem? (i := 22) rfl)) (hw _ (List.mem_of_getElem? (i := 23) rfl)) (hw _ (List.mem_of_getElem? (i := 24) rfl)) (hw _ (List.mem_of_getElem? (i := 25) rfl)) (hw _ (List.mem_of_getElem? (i := 8) rfl)) (hw _ (List.mem_of_getElem? (i := 26) rfl)) (by decide) E_a1 (by decide) (by decide) e0 (g := (mkF m 1 #[.val (.ref a1), .unset] [(.ref a1)])) rfl (by rw [hml]; rfl) (argsL := []) (rest := []) (lenOf pd_4_4 rfl) rfl (by show 2 * 0 + _ ≤ _; exact Nat.le_of_eq rfl) (hb hby d4_1) (by decide) (by decide)
  -- pc 13: com/example/wakelaw/wakelaw/Ring.longitude
  obtain ⟨T3, X3, e3, st3⟩ := own_pureV X2 hx hZ (val := (.double (dl.getD ((2 : Int32) * (0 : Int32)).toNatClampNeg 0))) (W := 0) (rm7 l Z a0 hw [] a1 (0 : Int32) zl dl c_degrees h0 n0 Z0 V_c_degrees F_degrees_a1 hk13) hown (hw _ (List.mem_of_getElem? (i := 30) rfl)) (hw _ (List.mem_of_getElem? (i := 31) rfl)) (hw _ (List.mem_of_getElem? (i := 32) rfl)) (hw _ (List.mem_of_getElem? (i := 33) rfl)) (hw _ (List.mem_of_getElem? (i := 8) rfl)) (hw _ (List.mem_of_getElem? (i := 34) rfl)) (by decide) E_a1 (by decide) (by decide) e2 (g := (mkF m 13 #[.val (.ref a1), .val (.int ((zl / (2 : Int32)) - (1 : Int32)))] [(.int (0 : Int32)), (.ref a1)])) rfl (by rw [hml]; rfl) (argsL := [(.int (0 : Int32))]) (rest := []) (lenOf pd_4_6 rfl) rfl (by show 2 * 0 + _ ≤ _; exact Nat.le_of_eq rfl) (hb hby d4_13) (by decide) (by decide)
  -- pc 18: com/example/wakelaw/wakelaw/Ring.longitude
  obtain ⟨T4, X4, e4, st4⟩ := own_pureV X3 hx hZ (val := (.double (dl.getD ((2 : Int32) * ((zl / (2 : Int32)) - (1 : Int32))).toNatClampNeg 0))) (W := 2) (rm7 l Z a0 hw [] a1 ((zl / (2 : Int32)) - (1 : Int32)) zl dl c_degrees h0 n0 Z0 V_c_degrees F_degrees_a1 hk18) hown (hw _ (List.mem_of_getElem? (i := 30) rfl)) (hw _ (List.mem_of_getElem? (i := 31) rfl)) (hw _ (List.mem_of_getElem? (i := 32) rfl)) (hw _ (List.mem_of_getElem? (i := 33) rfl)) (hw _ (List.mem_of_getElem? (i := 8) rfl)) (hw _ (List.mem_of_getElem? (i := 34) rfl)) (by decide) E_a1 (by decide) (by decide) e3 (g := (mkF m 18 #[.val (.ref a1), .val (.int ((zl / (2 : Int32)) - (1 : Int32)))] [(.int ((zl / (2 : Int32)) - (1 : Int32))), (.ref a1), (.double (dl.getD ((2 : Int32) * (0 : Int32)).toNatClampNeg 0))])) rfl (by rw [hml]; rfl) (argsL := [(.int ((zl / (2 : Int32)) - (1 : Int32)))]) (rest := [(.double (dl.getD ((2 : Int32) * (0 : Int32)).toNatClampNeg 0))]) (lenOf pd_4_6 rfl) rfl (by show 2 * 0 + _ ≤ _; exact Nat.le_of_eq rfl) (hb hby d4_18) (by decide) (by decide)
  -- pc 27: com/example/wakelaw/wakelaw/Ring.latitude
  obtain ⟨T5, X5, e5, st5⟩ := own_pureV X4 hx hZ (val := (.double (dl.getD (((2 : Int32) * (0 : Int32)) + (1 : Int32)).toNatClampNeg 0))) (W := 0) (rm8 l Z a0 hw [] a1 (0 : Int32) zl dl c_degrees h0 n0 Z0 V_c_degrees F_degrees_a1 hk27) hown (hw _ (List.mem_of_getElem? (i := 35) rfl)) (hw _ (List.mem_of_getElem? (i := 36) rfl)) (hw _ (List.mem_of_getElem? (i := 37) rfl)) (hw _ (List.mem_of_getElem? (i := 38) rfl)) (hw _ (List.mem_of_getElem? (i := 8) rfl)) (hw _ (List.mem_of_getElem? (i := 39) rfl)) (by decide) E_a1 (by decide) (by decide) e4 (g := (mkF m 27 #[.val (.ref a1), .val (.int ((zl / (2 : Int32)) - (1 : Int32)))] [(.int (0 : Int32)), (.ref a1)])) rfl (by rw [hml]; rfl) (argsL := [(.int (0 : Int32))]) (rest := []) (lenOf pd_4_6 rfl) rfl (by show 2 * 0 + _ ≤ _; exact Nat.le_of_eq rfl) (hb hby d4_27) (by decide) (by decide)
  -- pc 32: com/example/wakelaw/wakelaw/Ring.latitude
  obtain ⟨T6, X6, e6, st6⟩ := own_pureV X5 hx hZ (val := (.double (dl.getD (((2 : Int32) * ((zl / (2 : Int32)) - (1 : Int32))) + (1 : Int32)).toNatClampNeg 0))) (W := 2) (rm8 l Z a0 hw [] a1 ((zl / (2 : Int32)) - (1 : Int32)) zl dl c_degrees h0 n0 Z0 V_c_degrees F_degrees_a1 hk32) hown (hw _ (List.mem_of_getElem? (i := 35) rfl)) (hw _ (List.mem_of_getElem? (i := 36) rfl)) (hw _ (List.mem_of_getElem? (i := 37) rfl)) (hw _ (List.mem_of_getElem? (i := 38) rfl)) (hw _ (List.mem_of_getElem? (i := 8) rfl)) (hw _ (List.mem_of_getElem? (i := 39) rfl)) (by decide) E_a1 (by decide) (by decide) e5 (g := (mkF m 32 #[.val (.ref a1), .val (.int ((zl / (2 : Int32)) - (1 : Int32)))] [(.int ((zl / (2 : Int32)) - (1 : Int32))), (.ref a1), (.double (dl.getD (((2 : Int32) * (0 : Int32)) + (1 : Int32)).toNatClampNeg 0))])) rfl (by rw [hml]; rfl) (argsL := [(.int ((zl / (2 : Int32)) - (1 : Int32)))]) (rest := [(.double (dl.getD (((2 : Int32) * (0 : Int32)) + (1 : Int32)).toNatClampNeg 0))]) (lenOf pd_4_6 rfl) rfl (by show 2 * 0 + _ ≤ _; exact Nat.le_of_eq rfl) (hb hby d4_32) (by decide) (by decide)
  obtain ⟨fs, hr, hrun, hended, hW, hsame⟩ := X6.leave (v := some (.int (0 : Int32))) (fun h => by rw [Bd.returns] at h; cases h)
  refine ⟨_, _, pre0 _ ?_, hrun, hended, _, _, rfl, ?_, ⟨_, rfl⟩, hW, hsame.mono (by decide) (by decide)⟩
  -- 4. STEPS
  · show Steps p.tables e below (s₁.setTop (mkF m 0 #[.val (.ref a1), .unset] [])) _
    refine XS.aloadN X0.here hx rfl (hb hby d4_0) rfl rfl ?_
    show Steps p.tables e below (s₁.setTop (mkF m 1 #[.val (.ref a1), .unset] [(.ref a1)])) _
    refine st2 _ ?_
    show Steps p.tables e below (T2.setTop (mkF m 4 #[.val (.ref a1), .unset] [(.int (zl / (2 : Int32)))])) _
    refine XS.iconst X2.here hx rfl (hb hby d4_4) ?_
    show Steps p.tables e below (T2.setTop (mkF m 5 #[.val (.ref a1), .unset] [(.int (1 : Int32)), (.int (zl / (2 : Int32)))])) _
    refine XS.isub X2.here hx rfl (hb hby d4_5) rfl ?_
    show Steps p.tables e below (T2.setTop (mkF m 6 #[.val (.ref a1), .unset] [(.int ((zl / (2 : Int32)) - (1 : Int32)))])) _
    refine XS.istoreN X2.here hx rfl (hb hby d4_6) rfl (l' := #[.val (.ref a1), .val (.int ((zl / (2 : Int32)) - (1 : Int32)))]) rfl ?_
    show Steps p.tables e below (T2.setTop (mkF m 7 #[.val (.ref a1), .val (.int ((zl / (2 : Int32)) - (1 : Int32)))] [])) _
    refine XS.iloadN X2.here hx rfl (hb hby d4_7) rfl ?_
    show Steps p.tables e below (T2.setTop (mkF m 8 #[.val (.ref a1), .val (.int ((zl / (2 : Int32)) - (1 : Int32)))] [(.int ((zl / (2 : Int32)) - (1 : Int32)))])) _
    refine XS.ifNo X2.here hx rfl (hb hby d4_8) rfl ((if0 _ _).trans (flt hc8).1) ?_
    show Steps p.tables e below (T2.setTop (mkF m 11 #[.val (.ref a1), .val (.int ((zl / (2 : Int32)) - (1 : Int32)))] [])) _
    refine XS.aloadN X2.here hx rfl (hb hby d4_11) rfl rfl ?_
    show Steps p.tables e below (T2.setTop (mkF m 12 #[.val (.ref a1), .val (.int ((zl / (2 : Int32)) - (1 : Int32)))] [(.ref a1)])) _
    refine XS.iconst X2.here hx rfl (hb hby d4_12) ?_
    show Steps p.tables e below (T2.setTop (mkF m 13 #[.val (.ref a1), .val (.int ((zl / (2 : Int32)) - (1 : Int32)))] [(.int (0 : Int32)), (.ref a1)])) _
    refine st3 _ ?_
    show Steps p.tables e below (T3.setTop (mkF m 16 #[.val (.ref a1), .val (.int ((zl / (2 : Int32)) - (1 : Int32)))] [(.double (dl.getD ((2 : Int32) * (0 : Int32)).toNatClampNeg 0))])) _
    refine XS.aloadN X3.here hx rfl (hb hby d4_16) rfl rfl ?_
    show Steps p.tables e below (T3.setTop (mkF m 17 #[.val (.ref a1), .val (.int ((zl / (2 : Int32)) - (1 : Int32)))] [(.ref a1), (.double (dl.getD ((2 : Int32) * (0 : Int32)).toNatClampNeg 0))])) _
    refine XS.iloadN X3.here hx rfl (hb hby d4_17) rfl ?_
    show Steps p.tables e below (T3.setTop (mkF m 18 #[.val (.ref a1), .val (.int ((zl / (2 : Int32)) - (1 : Int32)))] [(.int ((zl / (2 : Int32)) - (1 : Int32))), (.ref a1), (.double (dl.getD ((2 : Int32) * (0 : Int32)).toNatClampNeg 0))])) _
    refine st4 _ ?_
    show Steps p.tables e below (T4.setTop (mkF m 21 #[.val (.ref a1), .val (.int ((zl / (2 : Int32)) - (1 : Int32)))] [(.double (dl.getD ((2 : Int32) * ((zl / (2 : Int32)) - (1 : Int32))).toNatClampNeg 0)), (.double (dl.getD ((2 : Int32) * (0 : Int32)).toNatClampNeg 0))])) _
    refine XS.dcmpS X4.here hx rfl (hb hby d4_21) rfl ht21 ?_
    show Steps p.tables e below (T4.setTop (mkF m 22 #[.val (.ref a1), .val (.int ((zl / (2 : Int32)) - (1 : Int32)))] [(.int t21)])) _
    refine XS.ifNo X4.here hx rfl (hb hby d4_22) rfl ((if0 _ _).trans (teq hc22).2) ?_
    show Steps p.tables e below (T4.setTop (mkF m 25 #[.val (.ref a1), .val (.int ((zl / (2 : Int32)) - (1 : Int32)))] [])) _
    refine XS.aloadN X4.here hx rfl (hb hby d4_25) rfl rfl ?_
    show Steps p.tables e below (T4.setTop (mkF m 26 #[.val (.ref a1), .val (.int ((zl / (2 : Int32)) - (1 : Int32)))] [(.ref a1)])) _
    refine XS.iconst X4.here hx rfl (hb hby d4_26) ?_
    show Steps p.tables e below (T4.setTop (mkF m 27 #[.val (.ref a1), .val (.int ((zl / (2 : Int32)) - (1 : Int32)))] [(.int (0 : Int32)), (.ref a1)])) _
    refine st5 _ ?_
    show Steps p.tables e below (T5.setTop (mkF m 30 #[.val (.ref a1), .val (.int ((zl / (2 : Int32)) - (1 : Int32)))] [(.double (dl.getD (((2 : Int32) * (0 : Int32)) + (1 : Int32)).toNatClampNeg 0))])) _
    refine XS.aloadN X5.here hx rfl (hb hby d4_30) rfl rfl ?_
    show Steps p.tables e below (T5.setTop (mkF m 31 #[.val (.ref a1), .val (.int ((zl / (2 : Int32)) - (1 : Int32)))] [(.ref a1), (.double (dl.getD (((2 : Int32) * (0 : Int32)) + (1 : Int32)).toNatClampNeg 0))])) _
    refine XS.iloadN X5.here hx rfl (hb hby d4_31) rfl ?_
    show Steps p.tables e below (T5.setTop (mkF m 32 #[.val (.ref a1), .val (.int ((zl / (2 : Int32)) - (1 : Int32)))] [(.int ((zl / (2 : Int32)) - (1 : Int32))), (.ref a1), (.double (dl.getD (((2 : Int32) * (0 : Int32)) + (1 : Int32)).toNatClampNeg 0))])) _
    refine st6 _ ?_
    show Steps p.tables e below (T6.setTop (mkF m 35 #[.val (.ref a1), .val (.int ((zl / (2 : Int32)) - (1 : Int32)))] [(.double (dl.getD (((2 : Int32) * ((zl / (2 : Int32)) - (1 : Int32))) + (1 : Int32)).toNatClampNeg 0)), (.double (dl.getD (((2 : Int32) * (0 : Int32)) + (1 : Int32)).toNatClampNeg 0))])) _
    refine XS.dcmpS X6.here hx rfl (hb hby d4_35) rfl ht35 ?_
    show Steps p.tables e below (T6.setTop (mkF m 36 #[.val (.ref a1), .val (.int ((zl / (2 : Int32)) - (1 : Int32)))] [(.int t35)])) _
    refine XS.ifYes X6.here hx rfl (pc0 := 36) (pc' := 43) rfl (hb hby d4_36) rfl ((if0 _ _).trans (feq hc36).2) (by decide) (by decide) ?_
    show Steps p.tables e below (T6.setTop (mkF m 43 #[.val (.ref a1), .val (.int ((zl / (2 : Int32)) - (1 : Int32)))] [])) _
    refine XS.iconst X6.here hx rfl (hb hby d4_43) ?_
    show Steps p.tables e below (T6.setTop (mkF m 44 #[.val (.ref a1), .val (.int ((zl / (2 : Int32)) - (1 : Int32)))] [(.int (0 : Int32))])) _
    exact retN X6 hx (t := .boolean) Bd.returns (by simp) (hb hby d4_44) hr
  · exact ⟨by rw [own_closed, if_neg hc8, if_pos (ht21.trans hc22), if_neg (by rw [ht35]; exact hc36)], rfl, e6⟩
theorem d4_39 : decode prog_44_method_6_code 39 = .ok (.iconst 1, 1) := by decide +kernel
theorem d4_40 : decode prog_44_method_6_code 40 = .ok (.goto 4, 3) := by decide +kernel
set_option maxRecDepth 65536 in
set_option maxHeartbeats 40000000 in
theorem rm4_fff (l : Launch) (Z : State) (a0 : Array Value) (hw : ∀ d ∈ tables_1, d.before a0 Z = true) (ws : List Jvm.Cond) (a1 : Addr) (zl : Int32) (dl : List UInt64) (c_degrees : Addr) (t21 : Int32) (t35 : Int32) (h0 : Heap) (n0 : Nat) (Z0 : n0 ≤ h0.size) (V_c_degrees : own_D Z h0 c_degrees zl dl) (F_degrees_a1 : Fld Z h0 a1 "com/example/wakelaw/wakelaw/Ring" "degrees" "[D" (.ref c_degrees)) (E_a1 : Exa Z h0 a1 "com/example/wakelaw/wakelaw/Ring") (hc8 : ¬ (((zl / (2 : Int32)) - (1 : Int32)) < (0 : Int32))) (hk13 : ¬ ((2 : Int32) * (0 : Int32)) < 0 ∧ ((2 : Int32) * (0 : Int32)) < zl) (hk18 : ¬ ((2 : Int32) * ((zl / (2 : Int32)) - (1 : Int32))) < 0 ∧ ((2 : Int32) * ((zl / (2 : Int32)) - (1 : Int32))) < zl) (ht21 : cmpValue (FP.dcmp (dl.getD ((2 : Int32) * (0 : Int32)).toNatClampNeg 0) (dl.getD ((2 : Int32) * ((zl / (2 : Int32)) - (1 : Int32))).toNatClampNeg 0)) .l = t21) (hc22 : t21 = (0 : Int32)) (hk27 : ¬ (((2 : Int32) * (0 : Int32)) + (1 : Int32)) < 0 ∧ (((2 : Int32) * (0 : Int32)) + (1 : Int32)) < zl) (hk32 : ¬ (((2 : Int32) * ((zl / (2 : Int32)) - (1 : Int32))) + (1 : Int32)) < 0 ∧ (((2 : Int32) * ((zl / (2 : Int32)) - (1 : Int32))) + (1 : Int32)) < zl) (ht35 : cmpValue (FP.dcmp (dl.getD (((2 : Int32) * (0 : Int32)) + (1 : Int32)).toNatClampNeg 0) (dl.getD (((2 : Int32) * ((zl / (2 : Int32)) - (1 : Int32))) + (1 : Int32)).toNatClampNeg 0)) .l = t35) (hc36 : t35 = (0 : Int32)) :
    MetFree l (⟨"com/example/wakelaw/wakelaw/Ring", "closed", "()Z"⟩ : MethodName) (head1 (Jvm.Cond.code (⟨"com/example/wakelaw/wakelaw/Ring", "closed", "()Z"⟩ : MethodName) prog_44_method_6_code 2 (some .boolean) :: ws) ({ frames := 1, cells := 0, slots := 0, locals := 15 } : Room)) (fun a U => a = #[(.ref a1)] ∧ Z.Warmed39 U.vm ∧ U.heap = h0) (fun _ _ _ _ _ => True) (fun _ U o U' => ∃ v L, o = .returned v ∧ (v = some (.int (own_closed zl dl)) ∧ L = [] ∧ U'.heap = h0) ∧ FrameEnd U o U' L ({ frames := 1, cells := 0, slots := 0, locals := 15 } : Room).cells ({ frames := 1, cells := 0, slots := 0, locals := 15 } : Room).slots) := by
  refine MetFree.of_bodySF (plainFor_of_name pn_4) hisR ?_
  intro p e s m args below meth c s₁ Bd hml0 hP hK
  obtain ⟨rfl, hZ, hh⟩ := hP
  have hx := Bd.exec
  have hby := Bd.bytes
  have hml : c.maxLocals = 2 := hml0
  have hown : s.vm.findClass "com/example/wakelaw/wakelaw/Ring" = some m.cls := findClass_of_methodNamed Bd.named
  have hnm := (name_of_methodNamed Bd.named Bd.method).1
  have X0 : Stand p l e ({ frames := 1, cells := 0, slots := 0, locals := 15 } : Room) s m #[(.ref a1)] below meth c s₁ [] 0 0 := Stand.of_body Bd
  have e0 : s₁.heap = h0 := by rw [← hh, Bd.state]; rfl
  have N0 := Fr.nil n0
  have pre0 : ∀ t, Steps p.tables e below (s₁.setTop (mkF m 0 #[.val (.ref a1), .unset] [])) t → Steps p.tables e below (s₁.setTop (entryFrame m #[(.ref a1)] 2)) t := fun t k => castTop (ef_4 m a1) k
  -- 3. LAWS
  -- pc 1: com/example/wakelaw/wakelaw/Ring.size
  obtain ⟨T2, X2, e2, st2⟩ := own_pureV X0 hx hZ (val := (.int (zl / (2 : Int32)))) (W := 0) (rm5 l Z a0 hw [] a1 zl dl c_degrees h0 n0 Z0 V_c_degrees F_degrees_a1) hown (hw _ (List.mem_of_getElem? (i := 22) rfl)) (hw _ (List.mem_of_getElem? (i := 23) rfl)) (hw _ (List.mem_of_getElem? (i := 24) rfl)) (hw _ (List.mem_of_getElem? (i := 25) rfl)) (hw _ (List.mem_of_getElem? (i := 8) rfl)) (hw _ (List.mem_of_getElem? (i := 26) rfl)) (by decide) E_a1 (by decide) (by decide) e0 (g := (mkF m 1 #[.val (.ref a1), .unset] [(.ref a1)])) rfl (by rw [hml]; rfl) (argsL := []) (rest := []) (lenOf pd_4_4 rfl) rfl (by show 2 * 0 + _ ≤ _; exact Nat.le_of_eq rfl) (hb hby d4_1) (by decide) (by decide)
  -- pc 13: com/example/wakelaw/wakelaw/Ring.longitude
  obtain ⟨T3, X3, e3, st3⟩ := own_pureV X2 hx hZ (val := (.double (dl.getD ((2 : Int32) * (0 : Int32)).toNatClampNeg 0))) (W := 0) (rm7 l Z a0 hw [] a1 (0 : Int32) zl dl c_degrees h0 n0 Z0 V_c_degrees F_degrees_a1 hk13) hown (hw _ (List.mem_of_getElem? (i := 30) rfl)) (hw _ (List.mem_of_getElem? (i := 31) rfl)) (hw _ (List.mem_of_getElem? (i := 32) rfl)) (hw _ (List.mem_of_getElem? (i := 33) rfl)) (hw _ (List.mem_of_getElem? (i := 8) rfl)) (hw _ (List.mem_of_getElem? (i := 34) rfl)) (by decide) E_a1 (by decide) (by decide) e2 (g := (mkF m 13 #[.val (.ref a1), .val (.int ((zl / (2 : Int32)) - (1 : Int32)))] [(.int (0 : Int32)), (.ref a1)])) rfl (by rw [hml]; rfl) (argsL := [(.int (0 : Int32))]) (rest := []) (lenOf pd_4_6 rfl) rfl (by show 2 * 0 + _ ≤ _; exact Nat.le_of_eq rfl) (hb hby d4_13) (by decide) (by decide)
  -- pc 18: com/example/wakelaw/wakelaw/Ring.longitude
  obtain ⟨T4, X4, e4, st4⟩ := own_pureV X3 hx hZ (val := (.double (dl.getD ((2 : Int32) * ((zl / (2 : Int32)) - (1 : Int32))).toNatClampNeg 0))) (W := 2) (rm7 l Z a0 hw [] a1 ((zl / (2 : Int32)) - (1 : Int32)) zl dl c_degrees h0 n0 Z0 V_c_degrees F_degrees_a1 hk18) hown (hw _ (List.mem_of_getElem? (i := 30) rfl)) (hw _ (List.mem_of_getElem? (i := 31) rfl)) (hw _ (List.mem_of_getElem? (i := 32) rfl)) (hw _ (List.mem_of_getElem? (i := 33) rfl)) (hw _ (List.mem_of_getElem? (i := 8) rfl)) (hw _ (List.mem_of_getElem? (i := 34) rfl)) (by decide) E_a1 (by decide) (by decide) e3 (g := (mkF m 18 #[.val (.ref a1), .val (.int ((zl / (2 : Int32)) - (1 : Int32)))] [(.int ((zl / (2 : Int32)) - (1 : Int32))), (.ref a1), (.double (dl.getD ((2 : Int32) * (0 : Int32)).toNatClampNeg 0))])) rfl (by rw [hml]; rfl) (argsL := [(.int ((zl / (2 : Int32)) - (1 : Int32)))]) (rest := [(.double (dl.getD ((2 : Int32) * (0 : Int32)).toNatClampNeg 0))]) (lenOf pd_4_6 rfl) rfl (by show 2 * 0 + _ ≤ _; exact Nat.le_of_eq rfl) (hb hby d4_18) (by decide) (by decide)
  -- pc 27: com/example/wakelaw/wakelaw/Ring.latitude
  obtain ⟨T5, X5, e5, st5⟩ := own_pureV X4 hx hZ (val := (.double (dl.getD (((2 : Int32) * (0 : Int32)) + (1 : Int32)).toNatClampNeg 0))) (W := 0) (rm8 l Z a0 hw [] a1 (0 : Int32) zl dl c_degrees h0 n0 Z0 V_c_degrees F_degrees_a1 hk27) hown (hw _ (List.mem_of_getElem? (i := 35) rfl)) (hw _ (List.mem_of_getElem? (i := 36) rfl)) (hw _ (List.mem_of_getElem? (i := 37) rfl)) (hw _ (List.mem_of_getElem? (i := 38) rfl)) (hw _ (List.mem_of_getElem? (i := 8) rfl)) (hw _ (List.mem_of_getElem? (i := 39) rfl)) (by decide) E_a1 (by decide) (by decide) e4 (g := (mkF m 27 #[.val (.ref a1), .val (.int ((zl / (2 : Int32)) - (1 : Int32)))] [(.int (0 : Int32)), (.ref a1)])) rfl (by rw [hml]; rfl) (argsL := [(.int (0 : Int32))]) (rest := []) (lenOf pd_4_6 rfl) rfl (by show 2 * 0 + _ ≤ _; exact Nat.le_of_eq rfl) (hb hby d4_27) (by decide) (by decide)
  -- pc 32: com/example/wakelaw/wakelaw/Ring.latitude
  obtain ⟨T6, X6, e6, st6⟩ := own_pureV X5 hx hZ (val := (.double (dl.getD (((2 : Int32) * ((zl / (2 : Int32)) - (1 : Int32))) + (1 : Int32)).toNatClampNeg 0))) (W := 2) (rm8 l Z a0 hw [] a1 ((zl / (2 : Int32)) - (1 : Int32)) zl dl c_degrees h0 n0 Z0 V_c_degrees F_degrees_a1 hk32) hown (hw _ (List.mem_of_getElem? (i := 35) rfl)) (hw _ (List.mem_of_getElem? (i := 36) rfl)) (hw _ (List.mem_of_getElem? (i := 37) rfl)) (hw _ (List.mem_of_getElem? (i := 38) rfl)) (hw _ (List.mem_of_getElem? (i := 8) rfl)) (hw _ (List.mem_of_getElem? (i := 39) rfl)) (by decide) E_a1 (by decide) (by decide) e5 (g := (mkF m 32 #[.val (.ref a1), .val (.int ((zl / (2 : Int32)) - (1 : Int32)))] [(.int ((zl / (2 : Int32)) - (1 : Int32))), (.ref a1), (.double (dl.getD (((2 : Int32) * (0 : Int32)) + (1 : Int32)).toNatClampNeg 0))])) rfl (by rw [hml]; rfl) (argsL := [(.int ((zl / (2 : Int32)) - (1 : Int32)))]) (rest := [(.double (dl.getD (((2 : Int32) * (0 : Int32)) + (1 : Int32)).toNatClampNeg 0))]) (lenOf pd_4_6 rfl) rfl (by show 2 * 0 + _ ≤ _; exact Nat.le_of_eq rfl) (hb hby d4_32) (by decide) (by decide)
  obtain ⟨fs, hr, hrun, hended, hW, hsame⟩ := X6.leave (v := some (.int (1 : Int32))) (fun h => by rw [Bd.returns] at h; cases h)
  refine ⟨_, _, pre0 _ ?_, hrun, hended, _, _, rfl, ?_, ⟨_, rfl⟩, hW, hsame.mono (by decide) (by decide)⟩
  -- 4. STEPS
  · show Steps p.tables e below (s₁.setTop (mkF m 0 #[.val (.ref a1), .unset] [])) _
    refine XS.aloadN X0.here hx rfl (hb hby d4_0) rfl rfl ?_
    show Steps p.tables e below (s₁.setTop (mkF m 1 #[.val (.ref a1), .unset] [(.ref a1)])) _
    refine st2 _ ?_
    show Steps p.tables e below (T2.setTop (mkF m 4 #[.val (.ref a1), .unset] [(.int (zl / (2 : Int32)))])) _
    refine XS.iconst X2.here hx rfl (hb hby d4_4) ?_
    show Steps p.tables e below (T2.setTop (mkF m 5 #[.val (.ref a1), .unset] [(.int (1 : Int32)), (.int (zl / (2 : Int32)))])) _
    refine XS.isub X2.here hx rfl (hb hby d4_5) rfl ?_
    show Steps p.tables e below (T2.setTop (mkF m 6 #[.val (.ref a1), .unset] [(.int ((zl / (2 : Int32)) - (1 : Int32)))])) _
    refine XS.istoreN X2.here hx rfl (hb hby d4_6) rfl (l' := #[.val (.ref a1), .val (.int ((zl / (2 : Int32)) - (1 : Int32)))]) rfl ?_
    show Steps p.tables e below (T2.setTop (mkF m 7 #[.val (.ref a1), .val (.int ((zl / (2 : Int32)) - (1 : Int32)))] [])) _
    refine XS.iloadN X2.here hx rfl (hb hby d4_7) rfl ?_
    show Steps p.tables e below (T2.setTop (mkF m 8 #[.val (.ref a1), .val (.int ((zl / (2 : Int32)) - (1 : Int32)))] [(.int ((zl / (2 : Int32)) - (1 : Int32)))])) _
    refine XS.ifNo X2.here hx rfl (hb hby d4_8) rfl ((if0 _ _).trans (flt hc8).1) ?_
    show Steps p.tables e below (T2.setTop (mkF m 11 #[.val (.ref a1), .val (.int ((zl / (2 : Int32)) - (1 : Int32)))] [])) _
    refine XS.aloadN X2.here hx rfl (hb hby d4_11) rfl rfl ?_
    show Steps p.tables e below (T2.setTop (mkF m 12 #[.val (.ref a1), .val (.int ((zl / (2 : Int32)) - (1 : Int32)))] [(.ref a1)])) _
    refine XS.iconst X2.here hx rfl (hb hby d4_12) ?_
    show Steps p.tables e below (T2.setTop (mkF m 13 #[.val (.ref a1), .val (.int ((zl / (2 : Int32)) - (1 : Int32)))] [(.int (0 : Int32)), (.ref a1)])) _
    refine st3 _ ?_
    show Steps p.tables e below (T3.setTop (mkF m 16 #[.val (.ref a1), .val (.int ((zl / (2 : Int32)) - (1 : Int32)))] [(.double (dl.getD ((2 : Int32) * (0 : Int32)).toNatClampNeg 0))])) _
    refine XS.aloadN X3.here hx rfl (hb hby d4_16) rfl rfl ?_
    show Steps p.tables e below (T3.setTop (mkF m 17 #[.val (.ref a1), .val (.int ((zl / (2 : Int32)) - (1 : Int32)))] [(.ref a1), (.double (dl.getD ((2 : Int32) * (0 : Int32)).toNatClampNeg 0))])) _
    refine XS.iloadN X3.here hx rfl (hb hby d4_17) rfl ?_
    show Steps p.tables e below (T3.setTop (mkF m 18 #[.val (.ref a1), .val (.int ((zl / (2 : Int32)) - (1 : Int32)))] [(.int ((zl / (2 : Int32)) - (1 : Int32))), (.ref a1), (.double (dl.getD ((2 : Int32) * (0 : Int32)).toNatClampNeg 0))])) _
    refine st4 _ ?_
    show Steps p.tables e below (T4.setTop (mkF m 21 #[.val (.ref a1), .val (.int ((zl / (2 : Int32)) - (1 : Int32)))] [(.double (dl.getD ((2 : Int32) * ((zl / (2 : Int32)) - (1 : Int32))).toNatClampNeg 0)), (.double (dl.getD ((2 : Int32) * (0 : Int32)).toNatClampNeg 0))])) _
    refine XS.dcmpS X4.here hx rfl (hb hby d4_21) rfl ht21 ?_
    show Steps p.tables e below (T4.setTop (mkF m 22 #[.val (.ref a1), .val (.int ((zl / (2 : Int32)) - (1 : Int32)))] [(.int t21)])) _
    refine XS.ifNo X4.here hx rfl (hb hby d4_22) rfl ((if0 _ _).trans (teq hc22).2) ?_
    show Steps p.tables e below (T4.setTop (mkF m 25 #[.val (.ref a1), .val (.int ((zl / (2 : Int32)) - (1 : Int32)))] [])) _
    refine XS.aloadN X4.here hx rfl (hb hby d4_25) rfl rfl ?_
    show Steps p.tables e below (T4.setTop (mkF m 26 #[.val (.ref a1), .val (.int ((zl / (2 : Int32)) - (1 : Int32)))] [(.ref a1)])) _
    refine XS.iconst X4.here hx rfl (hb hby d4_26) ?_
    show Steps p.tables e below (T4.setTop (mkF m 27 #[.val (.ref a1), .val (.int ((zl / (2 : Int32)) - (1 : Int32)))] [(.int (0 : Int32)), (.ref a1)])) _
    refine st5 _ ?_
    show Steps p.tables e below (T5.setTop (mkF m 30 #[.val (.ref a1), .val (.int ((zl / (2 : Int32)) - (1 : Int32)))] [(.double (dl.getD (((2 : Int32) * (0 : Int32)) + (1 : Int32)).toNatClampNeg 0))])) _
    refine XS.aloadN X5.here hx rfl (hb hby d4_30) rfl rfl ?_
    show Steps p.tables e below (T5.setTop (mkF m 31 #[.val (.ref a1), .val (.int ((zl / (2 : Int32)) - (1 : Int32)))] [(.ref a1), (.double (dl.getD (((2 : Int32) * (0 : Int32)) + (1 : Int32)).toNatClampNeg 0))])) _
    refine XS.iloadN X5.here hx rfl (hb hby d4_31) rfl ?_
    show Steps p.tables e below (T5.setTop (mkF m 32 #[.val (.ref a1), .val (.int ((zl / (2 : Int32)) - (1 : Int32)))] [(.int ((zl / (2 : Int32)) - (1 : Int32))), (.ref a1), (.double (dl.getD (((2 : Int32) * (0 : Int32)) + (1 : Int32)).toNatClampNeg 0))])) _
    refine st6 _ ?_
    show Steps p.tables e below (T6.setTop (mkF m 35 #[.val (.ref a1), .val (.int ((zl / (2 : Int32)) - (1 : Int32)))] [(.double (dl.getD (((2 : Int32) * ((zl / (2 : Int32)) - (1 : Int32))) + (1 : Int32)).toNatClampNeg 0)), (.double (dl.getD (((2 : Int32) * (0 : Int32)) + (1 : Int32)).toNatClampNeg 0))])) _
    refine XS.dcmpS X6.here hx rfl (hb hby d4_35) rfl ht35 ?_
    show Steps p.tables e below (T6.setTop (mkF m 36 #[.val (.ref a1), .val (.int ((zl / (2 : Int32)) - (1 : Int32)))] [(.int t35)])) _
    refine XS.ifNo X6.here hx rfl (hb hby d4_36) rfl ((if0 _ _).trans (teq hc36).2) ?_
    show Steps p.tables e below (T6.setTop (mkF m 39 #[.val (.ref a1), .val (.int ((zl / (2 : Int32)) - (1 : Int32)))] [])) _
    refine XS.iconst X6.here hx rfl (hb hby d4_39) ?_
    show Steps p.tables e below (T6.setTop (mkF m 40 #[.val (.ref a1), .val (.int ((zl / (2 : Int32)) - (1 : Int32)))] [(.int (1 : Int32))])) _
    refine XS.goto X6.here hx rfl (pc0 := 40) (pc' := 44) rfl (hb hby d4_40) (by decide) (by decide) ?_
    show Steps p.tables e below (T6.setTop (mkF m 44 #[.val (.ref a1), .val (.int ((zl / (2 : Int32)) - (1 : Int32)))] [(.int (1 : Int32))])) _
    exact retN X6 hx (t := .boolean) Bd.returns (by simp) (hb hby d4_44) hr
  · exact ⟨by rw [own_closed, if_neg hc8, if_pos (ht21.trans hc22), if_pos (ht35.trans hc36)], rfl, e6⟩
theorem rm4 (l : Launch) (Z : State) (a0 : Array Value) (hw : ∀ d ∈ tables_1, d.before a0 Z = true) (ws : List Jvm.Cond) (a1 : Addr) (zl : Int32) (dl : List UInt64) (c_degrees : Addr) (h0 : Heap) (n0 : Nat) (Z0 : n0 ≤ h0.size) (V_c_degrees : own_D Z h0 c_degrees zl dl) (F_degrees_a1 : Fld Z h0 a1 "com/example/wakelaw/wakelaw/Ring" "degrees" "[D" (.ref c_degrees)) (E_a1 : Exa Z h0 a1 "com/example/wakelaw/wakelaw/Ring") (hok : own_ok zl) :
    MetFree l (⟨"com/example/wakelaw/wakelaw/Ring", "closed", "()Z"⟩ : MethodName) (head1 (Jvm.Cond.code (⟨"com/example/wakelaw/wakelaw/Ring", "closed", "()Z"⟩ : MethodName) prog_44_method_6_code 2 (some .boolean) :: ws) ({ frames := 1, cells := 0, slots := 0, locals := 15 } : Room)) (fun a U => a = #[(.ref a1)] ∧ Z.Warmed39 U.vm ∧ U.heap = h0) (fun _ _ _ _ _ => True) (fun _ U o U' => ∃ v L, o = .returned v ∧ (v = some (.int (own_closed zl dl)) ∧ L = [] ∧ U'.heap = h0) ∧ FrameEnd U o U' L ({ frames := 1, cells := 0, slots := 0, locals := 15 } : Room).cells ({ frames := 1, cells := 0, slots := 0, locals := 15 } : Room).slots) := by
  by_cases h8 : ((zl / (2 : Int32)) - (1 : Int32)) < (0 : Int32)
  · exact rm4_t l Z a0 hw ws a1 zl dl c_degrees h0 n0 Z0 V_c_degrees F_degrees_a1 E_a1 h8
  · obtain ⟨k1, k2, k3, k4⟩ := hok h8
    by_cases h22 : cmpValue (FP.dcmp (dl.getD ((2 : Int32) * (0 : Int32)).toNatClampNeg 0) (dl.getD ((2 : Int32) * ((zl / (2 : Int32)) - (1 : Int32))).toNatClampNeg 0)) .l = (0 : Int32)
    · by_cases h36 : cmpValue (FP.dcmp (dl.getD (((2 : Int32) * (0 : Int32)) + (1 : Int32)).toNatClampNeg 0) (dl.getD (((2 : Int32) * ((zl / (2 : Int32)) - (1 : Int32))) + (1 : Int32)).toNatClampNeg 0)) .l = (0 : Int32)
      · exact rm4_fff l Z a0 hw ws a1 zl dl c_degrees _ _ h0 n0 Z0 V_c_degrees F_degrees_a1 E_a1 h8 k1 k2 rfl h22 k3 k4 rfl h36
      · exact rm4_fft l Z a0 hw ws a1 zl dl c_degrees _ _ h0 n0 Z0 V_c_degrees F_degrees_a1 E_a1 h8 k1 k2 rfl h22 k3 k4 rfl h36
    · exact rm4_ft l Z a0 hw ws a1 zl dl c_degrees _ h0 n0 Z0 V_c_degrees F_degrees_a1 E_a1 h8 k1 k2 rfl h22
set_option maxRecDepth 65536 in
set_option maxHeartbeats 40000000 in
theorem own_sA {p : Program} {l : Launch} {e : Env} {s : State} {m : MethodId} {args : Array Value} {below : List Frame} {meth : Method} {c : Code} {T0 : State} {locs : List Loc} {Z : State} {a0 : Array Value} {h0 : Heap} {n0 : Nat} (xn : Int32) (xa : Int32) (xb : Int32) (xc : Int32)
    (X0 : Stand p l e room_1 s m args below meth c T0 locs 0 0) (hx : p.tables.exec = Jvm.exec) (hZ : Z.Warmed39 s.vm) (hw : ∀ d ∈ tables_1, d.before a0 Z = true) (hby : c.code = code) (hml : c.maxLocals = 10) (hown : s.vm.findClass "com/example/wakelaw/wakelaw/RingClosedPinLaw" = some m.cls) (e0 : T0.heap = h0) (N0 : Fr n0 locs) (Z0 : n0 ≤ h0.size) :
    ∃ (T' : State) (h' : Heap) (locs' : List Loc) (b20 : Addr), Stand p l e room_1 s m args below meth c T' locs' 1 8 ∧ T'.heap = h' ∧ Fr n0 locs' ∧ h0.size ≤ h'.size ∧ own_I Z h' b20 (8 : Int32) (((((((((List.replicate 8 (0 : Int32)).set ((0 : Int32)).toNatClampNeg (own_draw xa (0 : Int32))).set ((1 : Int32)).toNatClampNeg (own_draw xa (1 : Int32))).set ((2 : Int32)).toNatClampNeg (own_draw xa (2 : Int32))).set ((3 : Int32)).toNatClampNeg (own_draw xa (3 : Int32))).set ((4 : Int32)).toNatClampNeg (own_draw xa (4 : Int32))).set ((5 : Int32)).toNatClampNeg (own_draw xa (5 : Int32))).set ((6 : Int32)).toNatClampNeg (own_draw xa (6 : Int32))).set ((7 : Int32)).toNatClampNeg (own_draw xa (7 : Int32))) ∧ n0 ≤ b20 ∧
      ∀ target, Steps p.tables e below (T'.setTop (mkF m 100 #[.val (.int xn), .val (.int xa), .val (.int xb), .val (.int xc), .val (.int (xn &&& (7 : Int32))), .val (.int ((xn &&& (7 : Int32)) / (2 : Int32))), .val (.int (((xn &&& (7 : Int32)) / (2 : Int32)) - (1 : Int32))), .val (.ref b20), .unset, .unset] [])) target → Steps p.tables e below (T0.setTop (mkF m 0 #[.val (.int xn), .val (.int xa), .val (.int xb), .val (.int xc), .unset, .unset, .unset, .unset, .unset, .unset] [])) target := by
  -- 3. LAWS
  obtain ⟨T5, h5, b20, X5, e5, E5, g5, V_b20, st5⟩ := own_inew X0 hx hZ (hw _ (List.mem_of_getElem? (i := 0) rfl)) e0 (g := (mkF m 20 #[.val (.int xn), .val (.int xa), .val (.int xb), .val (.int xc), .val (.int (xn &&& (7 : Int32))), .val (.int ((xn &&& (7 : Int32)) / (2 : Int32))), .val (.int (((xn &&& (7 : Int32)) / (2 : Int32)) - (1 : Int32))), .unset, .unset, .unset] [(.int (8 : Int32))])) rfl (hb hby at_20) rfl (by decide) (cap := 8) (by decide) (by decide) (by decide) (by decide)
  have g_b20 : n0 ≤ b20 := Nat.le_trans Z0 (Nat.le_of_eq g5.symm)
  have sz_b20 : h0.size ≤ b20 := (Nat.le_trans (Keep.refl h0 []).1 (Nat.le_of_eq g5.symm))
  have K5 : Keep h0 h5 [] := (Keep.refl h0 []).ext E5
  -- pc 29: com/example/wakelaw/wakelaw/RingClosedPinLaw.draw
  obtain ⟨T6, X6, e6, st6⟩ := own_call_draw X5 hx hZ hw hown (hw _ (List.mem_of_getElem? (i := 1) rfl)) xa (0 : Int32) (W := 2) (g := (mkF m 29 #[.val (.int xn), .val (.int xa), .val (.int xb), .val (.int xc), .val (.int (xn &&& (7 : Int32))), .val (.int ((xn &&& (7 : Int32)) / (2 : Int32))), .val (.int (((xn &&& (7 : Int32)) / (2 : Int32)) - (1 : Int32))), .val (.ref b20), .unset, .unset] [(.int (0 : Int32)), (.int xa), (.int (0 : Int32)), (.ref b20)])) rfl (by rw [hml]; rfl) (rest := [(.int (0 : Int32)), (.ref b20)]) rfl (by show 2 * 0 + _ ≤ _; exact Nat.le_of_eq rfl) (hb hby at_29) (by decide) (by decide) e5
  obtain ⟨T7, h7, X7, e7, W7, V_b20_32, st7⟩ := own_iast X6 hx hZ e6 V_b20 (by decide) (by simp only [List.length_set, List.length_replicate]; decide) (g := (mkF m 32 #[.val (.int xn), .val (.int xa), .val (.int xb), .val (.int xc), .val (.int (xn &&& (7 : Int32))), .val (.int ((xn &&& (7 : Int32)) / (2 : Int32))), .val (.int (((xn &&& (7 : Int32)) / (2 : Int32)) - (1 : Int32))), .val (.ref b20), .unset, .unset] [(.int (own_draw xa (0 : Int32))), (.int (0 : Int32)), (.ref b20)])) rfl rfl (hb hby at_32)
  have K7 : Keep h0 h7 [] := K5.wr W7 (Or.inr sz_b20)
  have N7 := Fr.snoc X7 N0 g_b20
  -- pc 38: com/example/wakelaw/wakelaw/RingClosedPinLaw.draw
  obtain ⟨T8, X8, e8, st8⟩ := own_call_draw X7 hx hZ hw hown (hw _ (List.mem_of_getElem? (i := 1) rfl)) xa (1 : Int32) (W := 2) (g := (mkF m 38 #[.val (.int xn), .val (.int xa), .val (.int xb), .val (.int xc), .val (.int (xn &&& (7 : Int32))), .val (.int ((xn &&& (7 : Int32)) / (2 : Int32))), .val (.int (((xn &&& (7 : Int32)) / (2 : Int32)) - (1 : Int32))), .val (.ref b20), .unset, .unset] [(.int (1 : Int32)), (.int xa), (.int (1 : Int32)), (.ref b20)])) rfl (by rw [hml]; rfl) (rest := [(.int (1 : Int32)), (.ref b20)]) rfl (by show 2 * 0 + _ ≤ _; exact Nat.le_of_eq rfl) (hb hby at_38) (by decide) (by decide) e7
  obtain ⟨T9, h9, X9, e9, W9, V_b20_41, st9⟩ := own_iast X8 hx hZ e8 V_b20_32 (by decide) (by simp only [List.length_set, List.length_replicate]; decide) (g := (mkF m 41 #[.val (.int xn), .val (.int xa), .val (.int xb), .val (.int xc), .val (.int (xn &&& (7 : Int32))), .val (.int ((xn &&& (7 : Int32)) / (2 : Int32))), .val (.int (((xn &&& (7 : Int32)) / (2 : Int32)) - (1 : Int32))), .val (.ref b20), .unset, .unset] [(.int (own_draw xa (1 : Int32))), (.int (1 : Int32)), (.ref b20)])) rfl rfl (hb hby at_41)
  have K9 : Keep h0 h9 [] := K7.wr W9 (Or.inr sz_b20)
  have N9 := Fr.snoc X9 N7 g_b20
  -- pc 47: com/example/wakelaw/wakelaw/RingClosedPinLaw.draw
  obtain ⟨T10, X10, e10, st10⟩ := own_call_draw X9 hx hZ hw hown (hw _ (List.mem_of_getElem? (i := 1) rfl)) xa (2 : Int32) (W := 2) (g := (mkF m 47 #[.val (.int xn), .val (.int xa), .val (.int xb), .val (.int xc), .val (.int (xn &&& (7 : Int32))), .val (.int ((xn &&& (7 : Int32)) / (2 : Int32))), .val (.int (((xn &&& (7 : Int32)) / (2 : Int32)) - (1 : Int32))), .val (.ref b20), .unset, .unset] [(.int (2 : Int32)), (.int xa), (.int (2 : Int32)), (.ref b20)])) rfl (by rw [hml]; rfl) (rest := [(.int (2 : Int32)), (.ref b20)]) rfl (by show 2 * 0 + _ ≤ _; exact Nat.le_of_eq rfl) (hb hby at_47) (by decide) (by decide) e9
  obtain ⟨T11, h11, X11, e11, W11, V_b20_50, st11⟩ := own_iast X10 hx hZ e10 V_b20_41 (by decide) (by simp only [List.length_set, List.length_replicate]; decide) (g := (mkF m 50 #[.val (.int xn), .val (.int xa), .val (.int xb), .val (.int xc), .val (.int (xn &&& (7 : Int32))), .val (.int ((xn &&& (7 : Int32)) / (2 : Int32))), .val (.int (((xn &&& (7 : Int32)) / (2 : Int32)) - (1 : Int32))), .val (.ref b20), .unset, .unset] [(.int (own_draw xa (2 : Int32))), (.int (2 : Int32)), (.ref b20)])) rfl rfl (hb hby at_50)
  have K11 : Keep h0 h11 [] := K9.wr W11 (Or.inr sz_b20)
  have N11 := Fr.snoc X11 N9 g_b20
  -- pc 56: com/example/wakelaw/wakelaw/RingClosedPinLaw.draw
  obtain ⟨T12, X12, e12, st12⟩ := own_call_draw X11 hx hZ hw hown (hw _ (List.mem_of_getElem? (i := 1) rfl)) xa (3 : Int32) (W := 2) (g := (mkF m 56 #[.val (.int xn), .val (.int xa), .val (.int xb), .val (.int xc), .val (.int (xn &&& (7 : Int32))), .val (.int ((xn &&& (7 : Int32)) / (2 : Int32))), .val (.int (((xn &&& (7 : Int32)) / (2 : Int32)) - (1 : Int32))), .val (.ref b20), .unset, .unset] [(.int (3 : Int32)), (.int xa), (.int (3 : Int32)), (.ref b20)])) rfl (by rw [hml]; rfl) (rest := [(.int (3 : Int32)), (.ref b20)]) rfl (by show 2 * 0 + _ ≤ _; exact Nat.le_of_eq rfl) (hb hby at_56) (by decide) (by decide) e11
  obtain ⟨T13, h13, X13, e13, W13, V_b20_59, st13⟩ := own_iast X12 hx hZ e12 V_b20_50 (by decide) (by simp only [List.length_set, List.length_replicate]; decide) (g := (mkF m 59 #[.val (.int xn), .val (.int xa), .val (.int xb), .val (.int xc), .val (.int (xn &&& (7 : Int32))), .val (.int ((xn &&& (7 : Int32)) / (2 : Int32))), .val (.int (((xn &&& (7 : Int32)) / (2 : Int32)) - (1 : Int32))), .val (.ref b20), .unset, .unset] [(.int (own_draw xa (3 : Int32))), (.int (3 : Int32)), (.ref b20)])) rfl rfl (hb hby at_59)
  have K13 : Keep h0 h13 [] := K11.wr W13 (Or.inr sz_b20)
  have N13 := Fr.snoc X13 N11 g_b20
  -- pc 65: com/example/wakelaw/wakelaw/RingClosedPinLaw.draw
  obtain ⟨T14, X14, e14, st14⟩ := own_call_draw X13 hx hZ hw hown (hw _ (List.mem_of_getElem? (i := 1) rfl)) xa (4 : Int32) (W := 2) (g := (mkF m 65 #[.val (.int xn), .val (.int xa), .val (.int xb), .val (.int xc), .val (.int (xn &&& (7 : Int32))), .val (.int ((xn &&& (7 : Int32)) / (2 : Int32))), .val (.int (((xn &&& (7 : Int32)) / (2 : Int32)) - (1 : Int32))), .val (.ref b20), .unset, .unset] [(.int (4 : Int32)), (.int xa), (.int (4 : Int32)), (.ref b20)])) rfl (by rw [hml]; rfl) (rest := [(.int (4 : Int32)), (.ref b20)]) rfl (by show 2 * 0 + _ ≤ _; exact Nat.le_of_eq rfl) (hb hby at_65) (by decide) (by decide) e13
  obtain ⟨T15, h15, X15, e15, W15, V_b20_68, st15⟩ := own_iast X14 hx hZ e14 V_b20_59 (by decide) (by simp only [List.length_set, List.length_replicate]; decide) (g := (mkF m 68 #[.val (.int xn), .val (.int xa), .val (.int xb), .val (.int xc), .val (.int (xn &&& (7 : Int32))), .val (.int ((xn &&& (7 : Int32)) / (2 : Int32))), .val (.int (((xn &&& (7 : Int32)) / (2 : Int32)) - (1 : Int32))), .val (.ref b20), .unset, .unset] [(.int (own_draw xa (4 : Int32))), (.int (4 : Int32)), (.ref b20)])) rfl rfl (hb hby at_68)
  have K15 : Keep h0 h15 [] := K13.wr W15 (Or.inr sz_b20)
  have N15 := Fr.snoc X15 N13 g_b20
  -- pc 74: com/example/wakelaw/wakelaw/RingClosedPinLaw.draw
  obtain ⟨T16, X16, e16, st16⟩ := own_call_draw X15 hx hZ hw hown (hw _ (List.mem_of_getElem? (i := 1) rfl)) xa (5 : Int32) (W := 2) (g := (mkF m 74 #[.val (.int xn), .val (.int xa), .val (.int xb), .val (.int xc), .val (.int (xn &&& (7 : Int32))), .val (.int ((xn &&& (7 : Int32)) / (2 : Int32))), .val (.int (((xn &&& (7 : Int32)) / (2 : Int32)) - (1 : Int32))), .val (.ref b20), .unset, .unset] [(.int (5 : Int32)), (.int xa), (.int (5 : Int32)), (.ref b20)])) rfl (by rw [hml]; rfl) (rest := [(.int (5 : Int32)), (.ref b20)]) rfl (by show 2 * 0 + _ ≤ _; exact Nat.le_of_eq rfl) (hb hby at_74) (by decide) (by decide) e15
  obtain ⟨T17, h17, X17, e17, W17, V_b20_77, st17⟩ := own_iast X16 hx hZ e16 V_b20_68 (by decide) (by simp only [List.length_set, List.length_replicate]; decide) (g := (mkF m 77 #[.val (.int xn), .val (.int xa), .val (.int xb), .val (.int xc), .val (.int (xn &&& (7 : Int32))), .val (.int ((xn &&& (7 : Int32)) / (2 : Int32))), .val (.int (((xn &&& (7 : Int32)) / (2 : Int32)) - (1 : Int32))), .val (.ref b20), .unset, .unset] [(.int (own_draw xa (5 : Int32))), (.int (5 : Int32)), (.ref b20)])) rfl rfl (hb hby at_77)
  have K17 : Keep h0 h17 [] := K15.wr W17 (Or.inr sz_b20)
  have N17 := Fr.snoc X17 N15 g_b20
  -- pc 85: com/example/wakelaw/wakelaw/RingClosedPinLaw.draw
  obtain ⟨T18, X18, e18, st18⟩ := own_call_draw X17 hx hZ hw hown (hw _ (List.mem_of_getElem? (i := 1) rfl)) xa (6 : Int32) (W := 2) (g := (mkF m 85 #[.val (.int xn), .val (.int xa), .val (.int xb), .val (.int xc), .val (.int (xn &&& (7 : Int32))), .val (.int ((xn &&& (7 : Int32)) / (2 : Int32))), .val (.int (((xn &&& (7 : Int32)) / (2 : Int32)) - (1 : Int32))), .val (.ref b20), .unset, .unset] [(.int (6 : Int32)), (.int xa), (.int (6 : Int32)), (.ref b20)])) rfl (by rw [hml]; rfl) (rest := [(.int (6 : Int32)), (.ref b20)]) rfl (by show 2 * 0 + _ ≤ _; exact Nat.le_of_eq rfl) (hb hby at_85) (by decide) (by decide) e17
  obtain ⟨T19, h19, X19, e19, W19, V_b20_88, st19⟩ := own_iast X18 hx hZ e18 V_b20_77 (by decide) (by simp only [List.length_set, List.length_replicate]; decide) (g := (mkF m 88 #[.val (.int xn), .val (.int xa), .val (.int xb), .val (.int xc), .val (.int (xn &&& (7 : Int32))), .val (.int ((xn &&& (7 : Int32)) / (2 : Int32))), .val (.int (((xn &&& (7 : Int32)) / (2 : Int32)) - (1 : Int32))), .val (.ref b20), .unset, .unset] [(.int (own_draw xa (6 : Int32))), (.int (6 : Int32)), (.ref b20)])) rfl rfl (hb hby at_88)
  have K19 : Keep h0 h19 [] := K17.wr W19 (Or.inr sz_b20)
  have N19 := Fr.snoc X19 N17 g_b20
  -- pc 96: com/example/wakelaw/wakelaw/RingClosedPinLaw.draw
  obtain ⟨T20, X20, e20, st20⟩ := own_call_draw X19 hx hZ hw hown (hw _ (List.mem_of_getElem? (i := 1) rfl)) xa (7 : Int32) (W := 2) (g := (mkF m 96 #[.val (.int xn), .val (.int xa), .val (.int xb), .val (.int xc), .val (.int (xn &&& (7 : Int32))), .val (.int ((xn &&& (7 : Int32)) / (2 : Int32))), .val (.int (((xn &&& (7 : Int32)) / (2 : Int32)) - (1 : Int32))), .val (.ref b20), .unset, .unset] [(.int (7 : Int32)), (.int xa), (.int (7 : Int32)), (.ref b20)])) rfl (by rw [hml]; rfl) (rest := [(.int (7 : Int32)), (.ref b20)]) rfl (by show 2 * 0 + _ ≤ _; exact Nat.le_of_eq rfl) (hb hby at_96) (by decide) (by decide) e19
  obtain ⟨T21, h21, X21, e21, W21, V_b20_99, st21⟩ := own_iast X20 hx hZ e20 V_b20_88 (by decide) (by simp only [List.length_set, List.length_replicate]; decide) (g := (mkF m 99 #[.val (.int xn), .val (.int xa), .val (.int xb), .val (.int xc), .val (.int (xn &&& (7 : Int32))), .val (.int ((xn &&& (7 : Int32)) / (2 : Int32))), .val (.int (((xn &&& (7 : Int32)) / (2 : Int32)) - (1 : Int32))), .val (.ref b20), .unset, .unset] [(.int (own_draw xa (7 : Int32))), (.int (7 : Int32)), (.ref b20)])) rfl rfl (hb hby at_99)
  have K21 : Keep h0 h21 [] := K19.wr W21 (Or.inr sz_b20)
  have N21 := Fr.snoc X21 N19 g_b20
  refine ⟨T21, _, _, b20, X21, e21, N21, (Nat.le_trans (Nat.le_trans (Nat.le_trans (Nat.le_trans (Nat.le_trans (Nat.le_trans (Nat.le_trans (Nat.le_trans (Nat.le_trans (Nat.le_refl _) E5.1) (Keep.of_wr W7).1) (Keep.of_wr W9).1) (Keep.of_wr W11).1) (Keep.of_wr W13).1) (Keep.of_wr W15).1) (Keep.of_wr W17).1) (Keep.of_wr W19).1) (Keep.of_wr W21).1), V_b20_99, g_b20, fun target kt => ?_⟩
  -- 4. STEPS
  show Steps p.tables e below (T0.setTop (mkF m 0 #[.val (.int xn), .val (.int xa), .val (.int xb), .val (.int xc), .unset, .unset, .unset, .unset, .unset, .unset] [])) _
  refine XS.iloadN X0.here hx rfl (hb hby at_0) rfl ?_
  show Steps p.tables e below (T0.setTop (mkF m 1 #[.val (.int xn), .val (.int xa), .val (.int xb), .val (.int xc), .unset, .unset, .unset, .unset, .unset, .unset] [(.int xn)])) _
  refine XS.bipush X0.here hx rfl (hb hby at_1) ?_
  show Steps p.tables e below (T0.setTop (mkF m 3 #[.val (.int xn), .val (.int xa), .val (.int xb), .val (.int xc), .unset, .unset, .unset, .unset, .unset, .unset] [(.int (7 : Int32)), (.int xn)])) _
  refine XS.iand X0.here hx rfl (hb hby at_3) rfl ?_
  show Steps p.tables e below (T0.setTop (mkF m 4 #[.val (.int xn), .val (.int xa), .val (.int xb), .val (.int xc), .unset, .unset, .unset, .unset, .unset, .unset] [(.int (xn &&& (7 : Int32)))])) _
  refine XS.istore X0.here hx rfl (hb hby at_4) rfl (l' := #[.val (.int xn), .val (.int xa), .val (.int xb), .val (.int xc), .val (.int (xn &&& (7 : Int32))), .unset, .unset, .unset, .unset, .unset]) rfl ?_
  show Steps p.tables e below (T0.setTop (mkF m 6 #[.val (.int xn), .val (.int xa), .val (.int xb), .val (.int xc), .val (.int (xn &&& (7 : Int32))), .unset, .unset, .unset, .unset, .unset] [])) _
  refine XS.iload X0.here hx rfl (hb hby at_6) rfl ?_
  show Steps p.tables e below (T0.setTop (mkF m 8 #[.val (.int xn), .val (.int xa), .val (.int xb), .val (.int xc), .val (.int (xn &&& (7 : Int32))), .unset, .unset, .unset, .unset, .unset] [(.int (xn &&& (7 : Int32)))])) _
  refine XS.iconst X0.here hx rfl (hb hby at_8) ?_
  show Steps p.tables e below (T0.setTop (mkF m 9 #[.val (.int xn), .val (.int xa), .val (.int xb), .val (.int xc), .val (.int (xn &&& (7 : Int32))), .unset, .unset, .unset, .unset, .unset] [(.int (2 : Int32)), (.int (xn &&& (7 : Int32)))])) _
  refine XS.idiv X0.here hx rfl (hb hby at_9) rfl (by decide) ?_
  show Steps p.tables e below (T0.setTop (mkF m 10 #[.val (.int xn), .val (.int xa), .val (.int xb), .val (.int xc), .val (.int (xn &&& (7 : Int32))), .unset, .unset, .unset, .unset, .unset] [(.int ((xn &&& (7 : Int32)) / (2 : Int32)))])) _
  refine XS.istore X0.here hx rfl (hb hby at_10) rfl (l' := #[.val (.int xn), .val (.int xa), .val (.int xb), .val (.int xc), .val (.int (xn &&& (7 : Int32))), .val (.int ((xn &&& (7 : Int32)) / (2 : Int32))), .unset, .unset, .unset, .unset]) rfl ?_
  show Steps p.tables e below (T0.setTop (mkF m 12 #[.val (.int xn), .val (.int xa), .val (.int xb), .val (.int xc), .val (.int (xn &&& (7 : Int32))), .val (.int ((xn &&& (7 : Int32)) / (2 : Int32))), .unset, .unset, .unset, .unset] [])) _
  refine XS.iload X0.here hx rfl (hb hby at_12) rfl ?_
  show Steps p.tables e below (T0.setTop (mkF m 14 #[.val (.int xn), .val (.int xa), .val (.int xb), .val (.int xc), .val (.int (xn &&& (7 : Int32))), .val (.int ((xn &&& (7 : Int32)) / (2 : Int32))), .unset, .unset, .unset, .unset] [(.int ((xn &&& (7 : Int32)) / (2 : Int32)))])) _
  refine XS.iconst X0.here hx rfl (hb hby at_14) ?_
  show Steps p.tables e below (T0.setTop (mkF m 15 #[.val (.int xn), .val (.int xa), .val (.int xb), .val (.int xc), .val (.int (xn &&& (7 : Int32))), .val (.int ((xn &&& (7 : Int32)) / (2 : Int32))), .unset, .unset, .unset, .unset] [(.int (1 : Int32)), (.int ((xn &&& (7 : Int32)) / (2 : Int32)))])) _
  refine XS.isub X0.here hx rfl (hb hby at_15) rfl ?_
  show Steps p.tables e below (T0.setTop (mkF m 16 #[.val (.int xn), .val (.int xa), .val (.int xb), .val (.int xc), .val (.int (xn &&& (7 : Int32))), .val (.int ((xn &&& (7 : Int32)) / (2 : Int32))), .unset, .unset, .unset, .unset] [(.int (((xn &&& (7 : Int32)) / (2 : Int32)) - (1 : Int32)))])) _
  refine XS.istore X0.here hx rfl (hb hby at_16) rfl (l' := #[.val (.int xn), .val (.int xa), .val (.int xb), .val (.int xc), .val (.int (xn &&& (7 : Int32))), .val (.int ((xn &&& (7 : Int32)) / (2 : Int32))), .val (.int (((xn &&& (7 : Int32)) / (2 : Int32)) - (1 : Int32))), .unset, .unset, .unset]) rfl ?_
  show Steps p.tables e below (T0.setTop (mkF m 18 #[.val (.int xn), .val (.int xa), .val (.int xb), .val (.int xc), .val (.int (xn &&& (7 : Int32))), .val (.int ((xn &&& (7 : Int32)) / (2 : Int32))), .val (.int (((xn &&& (7 : Int32)) / (2 : Int32)) - (1 : Int32))), .unset, .unset, .unset] [])) _
  refine XS.bipush X0.here hx rfl (hb hby at_18) ?_
  show Steps p.tables e below (T0.setTop (mkF m 20 #[.val (.int xn), .val (.int xa), .val (.int xb), .val (.int xc), .val (.int (xn &&& (7 : Int32))), .val (.int ((xn &&& (7 : Int32)) / (2 : Int32))), .val (.int (((xn &&& (7 : Int32)) / (2 : Int32)) - (1 : Int32))), .unset, .unset, .unset] [(.int (8 : Int32))])) _
  refine st5 _ ?_
  show Steps p.tables e below (T5.setTop (mkF m 22 #[.val (.int xn), .val (.int xa), .val (.int xb), .val (.int xc), .val (.int (xn &&& (7 : Int32))), .val (.int ((xn &&& (7 : Int32)) / (2 : Int32))), .val (.int (((xn &&& (7 : Int32)) / (2 : Int32)) - (1 : Int32))), .unset, .unset, .unset] [(.ref b20)])) _
  refine XS.astore X5.here hx rfl (hb hby at_22) rfl rfl (l' := #[.val (.int xn), .val (.int xa), .val (.int xb), .val (.int xc), .val (.int (xn &&& (7 : Int32))), .val (.int ((xn &&& (7 : Int32)) / (2 : Int32))), .val (.int (((xn &&& (7 : Int32)) / (2 : Int32)) - (1 : Int32))), .val (.ref b20), .unset, .unset]) rfl ?_
  show Steps p.tables e below (T5.setTop (mkF m 24 #[.val (.int xn), .val (.int xa), .val (.int xb), .val (.int xc), .val (.int (xn &&& (7 : Int32))), .val (.int ((xn &&& (7 : Int32)) / (2 : Int32))), .val (.int (((xn &&& (7 : Int32)) / (2 : Int32)) - (1 : Int32))), .val (.ref b20), .unset, .unset] [])) _
  refine XS.aload X5.here hx rfl (hb hby at_24) rfl rfl ?_
  show Steps p.tables e below (T5.setTop (mkF m 26 #[.val (.int xn), .val (.int xa), .val (.int xb), .val (.int xc), .val (.int (xn &&& (7 : Int32))), .val (.int ((xn &&& (7 : Int32)) / (2 : Int32))), .val (.int (((xn &&& (7 : Int32)) / (2 : Int32)) - (1 : Int32))), .val (.ref b20), .unset, .unset] [(.ref b20)])) _
  refine XS.iconst X5.here hx rfl (hb hby at_26) ?_
  show Steps p.tables e below (T5.setTop (mkF m 27 #[.val (.int xn), .val (.int xa), .val (.int xb), .val (.int xc), .val (.int (xn &&& (7 : Int32))), .val (.int ((xn &&& (7 : Int32)) / (2 : Int32))), .val (.int (((xn &&& (7 : Int32)) / (2 : Int32)) - (1 : Int32))), .val (.ref b20), .unset, .unset] [(.int (0 : Int32)), (.ref b20)])) _
  refine XS.iloadN X5.here hx rfl (hb hby at_27) rfl ?_
  show Steps p.tables e below (T5.setTop (mkF m 28 #[.val (.int xn), .val (.int xa), .val (.int xb), .val (.int xc), .val (.int (xn &&& (7 : Int32))), .val (.int ((xn &&& (7 : Int32)) / (2 : Int32))), .val (.int (((xn &&& (7 : Int32)) / (2 : Int32)) - (1 : Int32))), .val (.ref b20), .unset, .unset] [(.int xa), (.int (0 : Int32)), (.ref b20)])) _
  refine XS.iconst X5.here hx rfl (hb hby at_28) ?_
  show Steps p.tables e below (T5.setTop (mkF m 29 #[.val (.int xn), .val (.int xa), .val (.int xb), .val (.int xc), .val (.int (xn &&& (7 : Int32))), .val (.int ((xn &&& (7 : Int32)) / (2 : Int32))), .val (.int (((xn &&& (7 : Int32)) / (2 : Int32)) - (1 : Int32))), .val (.ref b20), .unset, .unset] [(.int (0 : Int32)), (.int xa), (.int (0 : Int32)), (.ref b20)])) _
  refine st6 _ ?_
  show Steps p.tables e below (T6.setTop (mkF m 32 #[.val (.int xn), .val (.int xa), .val (.int xb), .val (.int xc), .val (.int (xn &&& (7 : Int32))), .val (.int ((xn &&& (7 : Int32)) / (2 : Int32))), .val (.int (((xn &&& (7 : Int32)) / (2 : Int32)) - (1 : Int32))), .val (.ref b20), .unset, .unset] [(.int (own_draw xa (0 : Int32))), (.int (0 : Int32)), (.ref b20)])) _
  refine st7 _ ?_
  show Steps p.tables e below (T7.setTop (mkF m 33 #[.val (.int xn), .val (.int xa), .val (.int xb), .val (.int xc), .val (.int (xn &&& (7 : Int32))), .val (.int ((xn &&& (7 : Int32)) / (2 : Int32))), .val (.int (((xn &&& (7 : Int32)) / (2 : Int32)) - (1 : Int32))), .val (.ref b20), .unset, .unset] [])) _
  refine XS.aload X7.here hx rfl (hb hby at_33) rfl rfl ?_
  show Steps p.tables e below (T7.setTop (mkF m 35 #[.val (.int xn), .val (.int xa), .val (.int xb), .val (.int xc), .val (.int (xn &&& (7 : Int32))), .val (.int ((xn &&& (7 : Int32)) / (2 : Int32))), .val (.int (((xn &&& (7 : Int32)) / (2 : Int32)) - (1 : Int32))), .val (.ref b20), .unset, .unset] [(.ref b20)])) _
  refine XS.iconst X7.here hx rfl (hb hby at_35) ?_
  show Steps p.tables e below (T7.setTop (mkF m 36 #[.val (.int xn), .val (.int xa), .val (.int xb), .val (.int xc), .val (.int (xn &&& (7 : Int32))), .val (.int ((xn &&& (7 : Int32)) / (2 : Int32))), .val (.int (((xn &&& (7 : Int32)) / (2 : Int32)) - (1 : Int32))), .val (.ref b20), .unset, .unset] [(.int (1 : Int32)), (.ref b20)])) _
  refine XS.iloadN X7.here hx rfl (hb hby at_36) rfl ?_
  show Steps p.tables e below (T7.setTop (mkF m 37 #[.val (.int xn), .val (.int xa), .val (.int xb), .val (.int xc), .val (.int (xn &&& (7 : Int32))), .val (.int ((xn &&& (7 : Int32)) / (2 : Int32))), .val (.int (((xn &&& (7 : Int32)) / (2 : Int32)) - (1 : Int32))), .val (.ref b20), .unset, .unset] [(.int xa), (.int (1 : Int32)), (.ref b20)])) _
  refine XS.iconst X7.here hx rfl (hb hby at_37) ?_
  show Steps p.tables e below (T7.setTop (mkF m 38 #[.val (.int xn), .val (.int xa), .val (.int xb), .val (.int xc), .val (.int (xn &&& (7 : Int32))), .val (.int ((xn &&& (7 : Int32)) / (2 : Int32))), .val (.int (((xn &&& (7 : Int32)) / (2 : Int32)) - (1 : Int32))), .val (.ref b20), .unset, .unset] [(.int (1 : Int32)), (.int xa), (.int (1 : Int32)), (.ref b20)])) _
  refine st8 _ ?_
  show Steps p.tables e below (T8.setTop (mkF m 41 #[.val (.int xn), .val (.int xa), .val (.int xb), .val (.int xc), .val (.int (xn &&& (7 : Int32))), .val (.int ((xn &&& (7 : Int32)) / (2 : Int32))), .val (.int (((xn &&& (7 : Int32)) / (2 : Int32)) - (1 : Int32))), .val (.ref b20), .unset, .unset] [(.int (own_draw xa (1 : Int32))), (.int (1 : Int32)), (.ref b20)])) _
  refine st9 _ ?_
  show Steps p.tables e below (T9.setTop (mkF m 42 #[.val (.int xn), .val (.int xa), .val (.int xb), .val (.int xc), .val (.int (xn &&& (7 : Int32))), .val (.int ((xn &&& (7 : Int32)) / (2 : Int32))), .val (.int (((xn &&& (7 : Int32)) / (2 : Int32)) - (1 : Int32))), .val (.ref b20), .unset, .unset] [])) _
  refine XS.aload X9.here hx rfl (hb hby at_42) rfl rfl ?_
  show Steps p.tables e below (T9.setTop (mkF m 44 #[.val (.int xn), .val (.int xa), .val (.int xb), .val (.int xc), .val (.int (xn &&& (7 : Int32))), .val (.int ((xn &&& (7 : Int32)) / (2 : Int32))), .val (.int (((xn &&& (7 : Int32)) / (2 : Int32)) - (1 : Int32))), .val (.ref b20), .unset, .unset] [(.ref b20)])) _
  refine XS.iconst X9.here hx rfl (hb hby at_44) ?_
  show Steps p.tables e below (T9.setTop (mkF m 45 #[.val (.int xn), .val (.int xa), .val (.int xb), .val (.int xc), .val (.int (xn &&& (7 : Int32))), .val (.int ((xn &&& (7 : Int32)) / (2 : Int32))), .val (.int (((xn &&& (7 : Int32)) / (2 : Int32)) - (1 : Int32))), .val (.ref b20), .unset, .unset] [(.int (2 : Int32)), (.ref b20)])) _
  refine XS.iloadN X9.here hx rfl (hb hby at_45) rfl ?_
  show Steps p.tables e below (T9.setTop (mkF m 46 #[.val (.int xn), .val (.int xa), .val (.int xb), .val (.int xc), .val (.int (xn &&& (7 : Int32))), .val (.int ((xn &&& (7 : Int32)) / (2 : Int32))), .val (.int (((xn &&& (7 : Int32)) / (2 : Int32)) - (1 : Int32))), .val (.ref b20), .unset, .unset] [(.int xa), (.int (2 : Int32)), (.ref b20)])) _
  refine XS.iconst X9.here hx rfl (hb hby at_46) ?_
  show Steps p.tables e below (T9.setTop (mkF m 47 #[.val (.int xn), .val (.int xa), .val (.int xb), .val (.int xc), .val (.int (xn &&& (7 : Int32))), .val (.int ((xn &&& (7 : Int32)) / (2 : Int32))), .val (.int (((xn &&& (7 : Int32)) / (2 : Int32)) - (1 : Int32))), .val (.ref b20), .unset, .unset] [(.int (2 : Int32)), (.int xa), (.int (2 : Int32)), (.ref b20)])) _
  refine st10 _ ?_
  show Steps p.tables e below (T10.setTop (mkF m 50 #[.val (.int xn), .val (.int xa), .val (.int xb), .val (.int xc), .val (.int (xn &&& (7 : Int32))), .val (.int ((xn &&& (7 : Int32)) / (2 : Int32))), .val (.int (((xn &&& (7 : Int32)) / (2 : Int32)) - (1 : Int32))), .val (.ref b20), .unset, .unset] [(.int (own_draw xa (2 : Int32))), (.int (2 : Int32)), (.ref b20)])) _
  refine st11 _ ?_
  show Steps p.tables e below (T11.setTop (mkF m 51 #[.val (.int xn), .val (.int xa), .val (.int xb), .val (.int xc), .val (.int (xn &&& (7 : Int32))), .val (.int ((xn &&& (7 : Int32)) / (2 : Int32))), .val (.int (((xn &&& (7 : Int32)) / (2 : Int32)) - (1 : Int32))), .val (.ref b20), .unset, .unset] [])) _
  refine XS.aload X11.here hx rfl (hb hby at_51) rfl rfl ?_
  show Steps p.tables e below (T11.setTop (mkF m 53 #[.val (.int xn), .val (.int xa), .val (.int xb), .val (.int xc), .val (.int (xn &&& (7 : Int32))), .val (.int ((xn &&& (7 : Int32)) / (2 : Int32))), .val (.int (((xn &&& (7 : Int32)) / (2 : Int32)) - (1 : Int32))), .val (.ref b20), .unset, .unset] [(.ref b20)])) _
  refine XS.iconst X11.here hx rfl (hb hby at_53) ?_
  show Steps p.tables e below (T11.setTop (mkF m 54 #[.val (.int xn), .val (.int xa), .val (.int xb), .val (.int xc), .val (.int (xn &&& (7 : Int32))), .val (.int ((xn &&& (7 : Int32)) / (2 : Int32))), .val (.int (((xn &&& (7 : Int32)) / (2 : Int32)) - (1 : Int32))), .val (.ref b20), .unset, .unset] [(.int (3 : Int32)), (.ref b20)])) _
  refine XS.iloadN X11.here hx rfl (hb hby at_54) rfl ?_
  show Steps p.tables e below (T11.setTop (mkF m 55 #[.val (.int xn), .val (.int xa), .val (.int xb), .val (.int xc), .val (.int (xn &&& (7 : Int32))), .val (.int ((xn &&& (7 : Int32)) / (2 : Int32))), .val (.int (((xn &&& (7 : Int32)) / (2 : Int32)) - (1 : Int32))), .val (.ref b20), .unset, .unset] [(.int xa), (.int (3 : Int32)), (.ref b20)])) _
  refine XS.iconst X11.here hx rfl (hb hby at_55) ?_
  show Steps p.tables e below (T11.setTop (mkF m 56 #[.val (.int xn), .val (.int xa), .val (.int xb), .val (.int xc), .val (.int (xn &&& (7 : Int32))), .val (.int ((xn &&& (7 : Int32)) / (2 : Int32))), .val (.int (((xn &&& (7 : Int32)) / (2 : Int32)) - (1 : Int32))), .val (.ref b20), .unset, .unset] [(.int (3 : Int32)), (.int xa), (.int (3 : Int32)), (.ref b20)])) _
  refine st12 _ ?_
  show Steps p.tables e below (T12.setTop (mkF m 59 #[.val (.int xn), .val (.int xa), .val (.int xb), .val (.int xc), .val (.int (xn &&& (7 : Int32))), .val (.int ((xn &&& (7 : Int32)) / (2 : Int32))), .val (.int (((xn &&& (7 : Int32)) / (2 : Int32)) - (1 : Int32))), .val (.ref b20), .unset, .unset] [(.int (own_draw xa (3 : Int32))), (.int (3 : Int32)), (.ref b20)])) _
  refine st13 _ ?_
  show Steps p.tables e below (T13.setTop (mkF m 60 #[.val (.int xn), .val (.int xa), .val (.int xb), .val (.int xc), .val (.int (xn &&& (7 : Int32))), .val (.int ((xn &&& (7 : Int32)) / (2 : Int32))), .val (.int (((xn &&& (7 : Int32)) / (2 : Int32)) - (1 : Int32))), .val (.ref b20), .unset, .unset] [])) _
  refine XS.aload X13.here hx rfl (hb hby at_60) rfl rfl ?_
  show Steps p.tables e below (T13.setTop (mkF m 62 #[.val (.int xn), .val (.int xa), .val (.int xb), .val (.int xc), .val (.int (xn &&& (7 : Int32))), .val (.int ((xn &&& (7 : Int32)) / (2 : Int32))), .val (.int (((xn &&& (7 : Int32)) / (2 : Int32)) - (1 : Int32))), .val (.ref b20), .unset, .unset] [(.ref b20)])) _
  refine XS.iconst X13.here hx rfl (hb hby at_62) ?_
  show Steps p.tables e below (T13.setTop (mkF m 63 #[.val (.int xn), .val (.int xa), .val (.int xb), .val (.int xc), .val (.int (xn &&& (7 : Int32))), .val (.int ((xn &&& (7 : Int32)) / (2 : Int32))), .val (.int (((xn &&& (7 : Int32)) / (2 : Int32)) - (1 : Int32))), .val (.ref b20), .unset, .unset] [(.int (4 : Int32)), (.ref b20)])) _
  refine XS.iloadN X13.here hx rfl (hb hby at_63) rfl ?_
  show Steps p.tables e below (T13.setTop (mkF m 64 #[.val (.int xn), .val (.int xa), .val (.int xb), .val (.int xc), .val (.int (xn &&& (7 : Int32))), .val (.int ((xn &&& (7 : Int32)) / (2 : Int32))), .val (.int (((xn &&& (7 : Int32)) / (2 : Int32)) - (1 : Int32))), .val (.ref b20), .unset, .unset] [(.int xa), (.int (4 : Int32)), (.ref b20)])) _
  refine XS.iconst X13.here hx rfl (hb hby at_64) ?_
  show Steps p.tables e below (T13.setTop (mkF m 65 #[.val (.int xn), .val (.int xa), .val (.int xb), .val (.int xc), .val (.int (xn &&& (7 : Int32))), .val (.int ((xn &&& (7 : Int32)) / (2 : Int32))), .val (.int (((xn &&& (7 : Int32)) / (2 : Int32)) - (1 : Int32))), .val (.ref b20), .unset, .unset] [(.int (4 : Int32)), (.int xa), (.int (4 : Int32)), (.ref b20)])) _
  refine st14 _ ?_
  show Steps p.tables e below (T14.setTop (mkF m 68 #[.val (.int xn), .val (.int xa), .val (.int xb), .val (.int xc), .val (.int (xn &&& (7 : Int32))), .val (.int ((xn &&& (7 : Int32)) / (2 : Int32))), .val (.int (((xn &&& (7 : Int32)) / (2 : Int32)) - (1 : Int32))), .val (.ref b20), .unset, .unset] [(.int (own_draw xa (4 : Int32))), (.int (4 : Int32)), (.ref b20)])) _
  refine st15 _ ?_
  show Steps p.tables e below (T15.setTop (mkF m 69 #[.val (.int xn), .val (.int xa), .val (.int xb), .val (.int xc), .val (.int (xn &&& (7 : Int32))), .val (.int ((xn &&& (7 : Int32)) / (2 : Int32))), .val (.int (((xn &&& (7 : Int32)) / (2 : Int32)) - (1 : Int32))), .val (.ref b20), .unset, .unset] [])) _
  refine XS.aload X15.here hx rfl (hb hby at_69) rfl rfl ?_
  show Steps p.tables e below (T15.setTop (mkF m 71 #[.val (.int xn), .val (.int xa), .val (.int xb), .val (.int xc), .val (.int (xn &&& (7 : Int32))), .val (.int ((xn &&& (7 : Int32)) / (2 : Int32))), .val (.int (((xn &&& (7 : Int32)) / (2 : Int32)) - (1 : Int32))), .val (.ref b20), .unset, .unset] [(.ref b20)])) _
  refine XS.iconst X15.here hx rfl (hb hby at_71) ?_
  show Steps p.tables e below (T15.setTop (mkF m 72 #[.val (.int xn), .val (.int xa), .val (.int xb), .val (.int xc), .val (.int (xn &&& (7 : Int32))), .val (.int ((xn &&& (7 : Int32)) / (2 : Int32))), .val (.int (((xn &&& (7 : Int32)) / (2 : Int32)) - (1 : Int32))), .val (.ref b20), .unset, .unset] [(.int (5 : Int32)), (.ref b20)])) _
  refine XS.iloadN X15.here hx rfl (hb hby at_72) rfl ?_
  show Steps p.tables e below (T15.setTop (mkF m 73 #[.val (.int xn), .val (.int xa), .val (.int xb), .val (.int xc), .val (.int (xn &&& (7 : Int32))), .val (.int ((xn &&& (7 : Int32)) / (2 : Int32))), .val (.int (((xn &&& (7 : Int32)) / (2 : Int32)) - (1 : Int32))), .val (.ref b20), .unset, .unset] [(.int xa), (.int (5 : Int32)), (.ref b20)])) _
  refine XS.iconst X15.here hx rfl (hb hby at_73) ?_
  show Steps p.tables e below (T15.setTop (mkF m 74 #[.val (.int xn), .val (.int xa), .val (.int xb), .val (.int xc), .val (.int (xn &&& (7 : Int32))), .val (.int ((xn &&& (7 : Int32)) / (2 : Int32))), .val (.int (((xn &&& (7 : Int32)) / (2 : Int32)) - (1 : Int32))), .val (.ref b20), .unset, .unset] [(.int (5 : Int32)), (.int xa), (.int (5 : Int32)), (.ref b20)])) _
  refine st16 _ ?_
  show Steps p.tables e below (T16.setTop (mkF m 77 #[.val (.int xn), .val (.int xa), .val (.int xb), .val (.int xc), .val (.int (xn &&& (7 : Int32))), .val (.int ((xn &&& (7 : Int32)) / (2 : Int32))), .val (.int (((xn &&& (7 : Int32)) / (2 : Int32)) - (1 : Int32))), .val (.ref b20), .unset, .unset] [(.int (own_draw xa (5 : Int32))), (.int (5 : Int32)), (.ref b20)])) _
  refine st17 _ ?_
  show Steps p.tables e below (T17.setTop (mkF m 78 #[.val (.int xn), .val (.int xa), .val (.int xb), .val (.int xc), .val (.int (xn &&& (7 : Int32))), .val (.int ((xn &&& (7 : Int32)) / (2 : Int32))), .val (.int (((xn &&& (7 : Int32)) / (2 : Int32)) - (1 : Int32))), .val (.ref b20), .unset, .unset] [])) _
  refine XS.aload X17.here hx rfl (hb hby at_78) rfl rfl ?_
  show Steps p.tables e below (T17.setTop (mkF m 80 #[.val (.int xn), .val (.int xa), .val (.int xb), .val (.int xc), .val (.int (xn &&& (7 : Int32))), .val (.int ((xn &&& (7 : Int32)) / (2 : Int32))), .val (.int (((xn &&& (7 : Int32)) / (2 : Int32)) - (1 : Int32))), .val (.ref b20), .unset, .unset] [(.ref b20)])) _
  refine XS.bipush X17.here hx rfl (hb hby at_80) ?_
  show Steps p.tables e below (T17.setTop (mkF m 82 #[.val (.int xn), .val (.int xa), .val (.int xb), .val (.int xc), .val (.int (xn &&& (7 : Int32))), .val (.int ((xn &&& (7 : Int32)) / (2 : Int32))), .val (.int (((xn &&& (7 : Int32)) / (2 : Int32)) - (1 : Int32))), .val (.ref b20), .unset, .unset] [(.int (6 : Int32)), (.ref b20)])) _
  refine XS.iloadN X17.here hx rfl (hb hby at_82) rfl ?_
  show Steps p.tables e below (T17.setTop (mkF m 83 #[.val (.int xn), .val (.int xa), .val (.int xb), .val (.int xc), .val (.int (xn &&& (7 : Int32))), .val (.int ((xn &&& (7 : Int32)) / (2 : Int32))), .val (.int (((xn &&& (7 : Int32)) / (2 : Int32)) - (1 : Int32))), .val (.ref b20), .unset, .unset] [(.int xa), (.int (6 : Int32)), (.ref b20)])) _
  refine XS.bipush X17.here hx rfl (hb hby at_83) ?_
  show Steps p.tables e below (T17.setTop (mkF m 85 #[.val (.int xn), .val (.int xa), .val (.int xb), .val (.int xc), .val (.int (xn &&& (7 : Int32))), .val (.int ((xn &&& (7 : Int32)) / (2 : Int32))), .val (.int (((xn &&& (7 : Int32)) / (2 : Int32)) - (1 : Int32))), .val (.ref b20), .unset, .unset] [(.int (6 : Int32)), (.int xa), (.int (6 : Int32)), (.ref b20)])) _
  refine st18 _ ?_
  show Steps p.tables e below (T18.setTop (mkF m 88 #[.val (.int xn), .val (.int xa), .val (.int xb), .val (.int xc), .val (.int (xn &&& (7 : Int32))), .val (.int ((xn &&& (7 : Int32)) / (2 : Int32))), .val (.int (((xn &&& (7 : Int32)) / (2 : Int32)) - (1 : Int32))), .val (.ref b20), .unset, .unset] [(.int (own_draw xa (6 : Int32))), (.int (6 : Int32)), (.ref b20)])) _
  refine st19 _ ?_
  show Steps p.tables e below (T19.setTop (mkF m 89 #[.val (.int xn), .val (.int xa), .val (.int xb), .val (.int xc), .val (.int (xn &&& (7 : Int32))), .val (.int ((xn &&& (7 : Int32)) / (2 : Int32))), .val (.int (((xn &&& (7 : Int32)) / (2 : Int32)) - (1 : Int32))), .val (.ref b20), .unset, .unset] [])) _
  refine XS.aload X19.here hx rfl (hb hby at_89) rfl rfl ?_
  show Steps p.tables e below (T19.setTop (mkF m 91 #[.val (.int xn), .val (.int xa), .val (.int xb), .val (.int xc), .val (.int (xn &&& (7 : Int32))), .val (.int ((xn &&& (7 : Int32)) / (2 : Int32))), .val (.int (((xn &&& (7 : Int32)) / (2 : Int32)) - (1 : Int32))), .val (.ref b20), .unset, .unset] [(.ref b20)])) _
  refine XS.bipush X19.here hx rfl (hb hby at_91) ?_
  show Steps p.tables e below (T19.setTop (mkF m 93 #[.val (.int xn), .val (.int xa), .val (.int xb), .val (.int xc), .val (.int (xn &&& (7 : Int32))), .val (.int ((xn &&& (7 : Int32)) / (2 : Int32))), .val (.int (((xn &&& (7 : Int32)) / (2 : Int32)) - (1 : Int32))), .val (.ref b20), .unset, .unset] [(.int (7 : Int32)), (.ref b20)])) _
  refine XS.iloadN X19.here hx rfl (hb hby at_93) rfl ?_
  show Steps p.tables e below (T19.setTop (mkF m 94 #[.val (.int xn), .val (.int xa), .val (.int xb), .val (.int xc), .val (.int (xn &&& (7 : Int32))), .val (.int ((xn &&& (7 : Int32)) / (2 : Int32))), .val (.int (((xn &&& (7 : Int32)) / (2 : Int32)) - (1 : Int32))), .val (.ref b20), .unset, .unset] [(.int xa), (.int (7 : Int32)), (.ref b20)])) _
  refine XS.bipush X19.here hx rfl (hb hby at_94) ?_
  show Steps p.tables e below (T19.setTop (mkF m 96 #[.val (.int xn), .val (.int xa), .val (.int xb), .val (.int xc), .val (.int (xn &&& (7 : Int32))), .val (.int ((xn &&& (7 : Int32)) / (2 : Int32))), .val (.int (((xn &&& (7 : Int32)) / (2 : Int32)) - (1 : Int32))), .val (.ref b20), .unset, .unset] [(.int (7 : Int32)), (.int xa), (.int (7 : Int32)), (.ref b20)])) _
  refine st20 _ ?_
  show Steps p.tables e below (T20.setTop (mkF m 99 #[.val (.int xn), .val (.int xa), .val (.int xb), .val (.int xc), .val (.int (xn &&& (7 : Int32))), .val (.int ((xn &&& (7 : Int32)) / (2 : Int32))), .val (.int (((xn &&& (7 : Int32)) / (2 : Int32)) - (1 : Int32))), .val (.ref b20), .unset, .unset] [(.int (own_draw xa (7 : Int32))), (.int (7 : Int32)), (.ref b20)])) _
  refine st21 _ ?_
  exact kt
set_option maxRecDepth 65536 in
set_option maxHeartbeats 40000000 in
theorem own_sB0 {p : Program} {l : Launch} {e : Env} {s : State} {m : MethodId} {args : Array Value} {below : List Frame} {meth : Method} {c : Code} {T0 : State} {locs : List Loc} {Z : State} {a0 : Array Value} {h0 : Heap} {n0 : Nat} (xn : Int32) (xa : Int32) (xb : Int32) (xc : Int32) (len : Int32) (prs : Int32) (last : Int32) (av : Addr) (LV : List Int32)
    (X0 : Stand p l e room_1 s m args below meth c T0 locs 1 8) (hx : p.tables.exec = Jvm.exec) (hZ : Z.Warmed39 s.vm) (hw : ∀ d ∈ tables_1, d.before a0 Z = true) (hby : c.code = code) (hml : c.maxLocals = 10) (hown : s.vm.findClass "com/example/wakelaw/wakelaw/RingClosedPinLaw" = some m.cls) (e0 : T0.heap = h0) (N0 : Fr n0 locs) (Z0 : n0 ≤ h0.size) (V_av : own_I Z h0 av (8 : Int32) LV) (hLV : LV.length = 8) (hc102 : last < (0 : Int32)) :
    ∃ (T' : State) (h' : Heap) (locs' : List Loc), Stand p l e room_1 s m args below meth c T' locs' 1 8 ∧ T'.heap = h' ∧ Fr n0 locs' ∧ h0.size ≤ h'.size ∧ own_I Z h' av (8 : Int32) LV ∧
      ∀ target, Steps p.tables e below (T'.setTop (mkF m 141 #[.val (.int xn), .val (.int xa), .val (.int xb), .val (.int xc), .val (.int len), .val (.int prs), .val (.int last), .val (.ref av), .unset, .unset] [])) target → Steps p.tables e below (T0.setTop (mkF m 100 #[.val (.int xn), .val (.int xa), .val (.int xb), .val (.int xc), .val (.int len), .val (.int prs), .val (.int last), .val (.ref av), .unset, .unset] [])) target := by
  -- 3. LAWS

  refine ⟨T0, _, _, X0, e0, N0, (Nat.le_refl _), V_av, fun target kt => ?_⟩
  -- 4. STEPS
  show Steps p.tables e below (T0.setTop (mkF m 100 #[.val (.int xn), .val (.int xa), .val (.int xb), .val (.int xc), .val (.int len), .val (.int prs), .val (.int last), .val (.ref av), .unset, .unset] [])) _
  refine XS.iload X0.here hx rfl (hb hby at_100) rfl ?_
  show Steps p.tables e below (T0.setTop (mkF m 102 #[.val (.int xn), .val (.int xa), .val (.int xb), .val (.int xc), .val (.int len), .val (.int prs), .val (.int last), .val (.ref av), .unset, .unset] [(.int last)])) _
  refine XS.ifYes X0.here hx rfl (pc0 := 102) (pc' := 141) rfl (hb hby at_102) rfl ((if0 _ _).trans (tlt hc102).1) (by decide) (by decide) ?_
  exact kt
set_option maxRecDepth 65536 in
set_option maxHeartbeats 40000000 in
theorem own_sB1 {p : Program} {l : Launch} {e : Env} {s : State} {m : MethodId} {args : Array Value} {below : List Frame} {meth : Method} {c : Code} {T0 : State} {locs : List Loc} {Z : State} {a0 : Array Value} {h0 : Heap} {n0 : Nat} (xn : Int32) (xa : Int32) (xb : Int32) (xc : Int32) (len : Int32) (prs : Int32) (last : Int32) (av : Addr) (LV : List Int32)
    (X0 : Stand p l e room_1 s m args below meth c T0 locs 1 8) (hx : p.tables.exec = Jvm.exec) (hZ : Z.Warmed39 s.vm) (hw : ∀ d ∈ tables_1, d.before a0 Z = true) (hby : c.code = code) (hml : c.maxLocals = 10) (hown : s.vm.findClass "com/example/wakelaw/wakelaw/RingClosedPinLaw" = some m.cls) (e0 : T0.heap = h0) (N0 : Fr n0 locs) (Z0 : n0 ≤ h0.size) (V_av : own_I Z h0 av (8 : Int32) LV) (hLV : LV.length = 8) (hc102 : ¬ (last < (0 : Int32))) :
    ∃ (T' : State) (h' : Heap) (locs' : List Loc), Stand p l e room_1 s m args below meth c T' locs' 1 8 ∧ T'.heap = h' ∧ Fr n0 locs' ∧ h0.size ≤ h'.size ∧ own_I Z h' av (8 : Int32) LV ∧
      ∀ target, Steps p.tables e below (T'.setTop (mkF m 105 #[.val (.int xn), .val (.int xa), .val (.int xb), .val (.int xc), .val (.int len), .val (.int prs), .val (.int last), .val (.ref av), .unset, .unset] [])) target → Steps p.tables e below (T0.setTop (mkF m 100 #[.val (.int xn), .val (.int xa), .val (.int xb), .val (.int xc), .val (.int len), .val (.int prs), .val (.int last), .val (.ref av), .unset, .unset] [])) target := by
  -- 3. LAWS

  refine ⟨T0, _, _, X0, e0, N0, (Nat.le_refl _), V_av, fun target kt => ?_⟩
  -- 4. STEPS
  show Steps p.tables e below (T0.setTop (mkF m 100 #[.val (.int xn), .val (.int xa), .val (.int xb), .val (.int xc), .val (.int len), .val (.int prs), .val (.int last), .val (.ref av), .unset, .unset] [])) _
  refine XS.iload X0.here hx rfl (hb hby at_100) rfl ?_
  show Steps p.tables e below (T0.setTop (mkF m 102 #[.val (.int xn), .val (.int xa), .val (.int xb), .val (.int xc), .val (.int len), .val (.int prs), .val (.int last), .val (.ref av), .unset, .unset] [(.int last)])) _
  refine XS.ifNo X0.here hx rfl (hb hby at_102) rfl ((if0 _ _).trans (flt hc102).1) ?_
  exact kt
set_option maxRecDepth 65536 in
set_option maxHeartbeats 40000000 in
theorem own_sB2t {p : Program} {l : Launch} {e : Env} {s : State} {m : MethodId} {args : Array Value} {below : List Frame} {meth : Method} {c : Code} {T0 : State} {locs : List Loc} {Z : State} {a0 : Array Value} {h0 : Heap} {n0 : Nat} (xn : Int32) (xa : Int32) (xb : Int32) (xc : Int32) (len : Int32) (prs : Int32) (last : Int32) (av : Addr) (LV : List Int32)
    (X0 : Stand p l e room_1 s m args below meth c T0 locs 1 8) (hx : p.tables.exec = Jvm.exec) (hZ : Z.Warmed39 s.vm) (hw : ∀ d ∈ tables_1, d.before a0 Z = true) (hby : c.code = code) (hml : c.maxLocals = 10) (hown : s.vm.findClass "com/example/wakelaw/wakelaw/RingClosedPinLaw" = some m.cls) (e0 : T0.heap = h0) (N0 : Fr n0 locs) (Z0 : n0 ≤ h0.size) (V_av : own_I Z h0 av (8 : Int32) LV) (hLV : LV.length = 8) (hc108 : (xc &&& (1 : Int32)) = (0 : Int32)) :
    ∃ (T' : State) (h' : Heap) (locs' : List Loc), Stand p l e room_1 s m args below meth c T' locs' 1 8 ∧ T'.heap = h' ∧ Fr n0 locs' ∧ h0.size ≤ h'.size ∧ own_I Z h' av (8 : Int32) LV ∧
      ∀ target, Steps p.tables e below (T'.setTop (mkF m 122 #[.val (.int xn), .val (.int xa), .val (.int xb), .val (.int xc), .val (.int len), .val (.int prs), .val (.int last), .val (.ref av), .unset, .unset] [])) target → Steps p.tables e below (T0.setTop (mkF m 105 #[.val (.int xn), .val (.int xa), .val (.int xb), .val (.int xc), .val (.int len), .val (.int prs), .val (.int last), .val (.ref av), .unset, .unset] [])) target := by
  -- 3. LAWS

  refine ⟨T0, _, _, X0, e0, N0, (Nat.le_refl _), V_av, fun target kt => ?_⟩
  -- 4. STEPS
  show Steps p.tables e below (T0.setTop (mkF m 105 #[.val (.int xn), .val (.int xa), .val (.int xb), .val (.int xc), .val (.int len), .val (.int prs), .val (.int last), .val (.ref av), .unset, .unset] [])) _
  refine XS.iloadN X0.here hx rfl (hb hby at_105) rfl ?_
  show Steps p.tables e below (T0.setTop (mkF m 106 #[.val (.int xn), .val (.int xa), .val (.int xb), .val (.int xc), .val (.int len), .val (.int prs), .val (.int last), .val (.ref av), .unset, .unset] [(.int xc)])) _
  refine XS.iconst X0.here hx rfl (hb hby at_106) ?_
  show Steps p.tables e below (T0.setTop (mkF m 107 #[.val (.int xn), .val (.int xa), .val (.int xb), .val (.int xc), .val (.int len), .val (.int prs), .val (.int last), .val (.ref av), .unset, .unset] [(.int (1 : Int32)), (.int xc)])) _
  refine XS.iand X0.here hx rfl (hb hby at_107) rfl ?_
  show Steps p.tables e below (T0.setTop (mkF m 108 #[.val (.int xn), .val (.int xa), .val (.int xb), .val (.int xc), .val (.int len), .val (.int prs), .val (.int last), .val (.ref av), .unset, .unset] [(.int (xc &&& (1 : Int32)))])) _
  refine XS.ifYes X0.here hx rfl (pc0 := 108) (pc' := 122) rfl (hb hby at_108) rfl ((if0 _ _).trans (teq hc108).1) (by decide) (by decide) ?_
  exact kt
set_option maxRecDepth 65536 in
set_option maxHeartbeats 40000000 in
theorem own_sB2f {p : Program} {l : Launch} {e : Env} {s : State} {m : MethodId} {args : Array Value} {below : List Frame} {meth : Method} {c : Code} {T0 : State} {locs : List Loc} {Z : State} {a0 : Array Value} {h0 : Heap} {n0 : Nat} (xn : Int32) (xa : Int32) (xb : Int32) (xc : Int32) (len : Int32) (prs : Int32) (last : Int32) (av : Addr) (LV : List Int32)
    (X0 : Stand p l e room_1 s m args below meth c T0 locs 1 8) (hx : p.tables.exec = Jvm.exec) (hZ : Z.Warmed39 s.vm) (hw : ∀ d ∈ tables_1, d.before a0 Z = true) (hby : c.code = code) (hml : c.maxLocals = 10) (hown : s.vm.findClass "com/example/wakelaw/wakelaw/RingClosedPinLaw" = some m.cls) (e0 : T0.heap = h0) (N0 : Fr n0 locs) (Z0 : n0 ≤ h0.size) (V_av : own_I Z h0 av (8 : Int32) LV) (hLV : LV.length = 8) (g_av : n0 ≤ av) (hc108 : ¬ ((xc &&& (1 : Int32)) = (0 : Int32))) (hj121 : ¬ ((2 : Int32) * last) < 0 ∧ ((2 : Int32) * last) < (8 : Int32)) (hl121 : (((2 : Int32) * last)).toNatClampNeg < LV.length) :
    ∃ (T' : State) (h' : Heap) (locs' : List Loc), Stand p l e room_1 s m args below meth c T' locs' 1 8 ∧ T'.heap = h' ∧ Fr n0 locs' ∧ h0.size ≤ h'.size ∧ own_I Z h' av (8 : Int32) (LV.set (((2 : Int32) * last)).toNatClampNeg (LV.getD ((0 : Int32)).toNatClampNeg 0)) ∧
      ∀ target, Steps p.tables e below (T'.setTop (mkF m 122 #[.val (.int xn), .val (.int xa), .val (.int xb), .val (.int xc), .val (.int len), .val (.int prs), .val (.int last), .val (.ref av), .unset, .unset] [])) target → Steps p.tables e below (T0.setTop (mkF m 105 #[.val (.int xn), .val (.int xa), .val (.int xb), .val (.int xc), .val (.int len), .val (.int prs), .val (.int last), .val (.ref av), .unset, .unset] [])) target := by
  -- 3. LAWS
  obtain ⟨T5, h5, X5, e5, W5, V_av_121, st5⟩ := own_iast X0 hx hZ e0 V_av hj121 hl121 (g := (mkF m 121 #[.val (.int xn), .val (.int xa), .val (.int xb), .val (.int xc), .val (.int len), .val (.int prs), .val (.int last), .val (.ref av), .unset, .unset] [(.int (LV.getD ((0 : Int32)).toNatClampNeg 0)), (.int ((2 : Int32) * last)), (.ref av)])) rfl rfl (hb hby at_121)
  have K5 : Keep h0 h5 [av] := (Keep.refl h0 [av]).wr W5 (Or.inl (List.mem_of_getElem? (i := 0) rfl))
  have N5 := Fr.snoc X5 N0 g_av
  refine ⟨T5, _, _, X5, e5, N5, (Nat.le_trans (Nat.le_refl _) (Keep.of_wr W5).1), V_av_121, fun target kt => ?_⟩
  -- 4. STEPS
  show Steps p.tables e below (T0.setTop (mkF m 105 #[.val (.int xn), .val (.int xa), .val (.int xb), .val (.int xc), .val (.int len), .val (.int prs), .val (.int last), .val (.ref av), .unset, .unset] [])) _
  refine XS.iloadN X0.here hx rfl (hb hby at_105) rfl ?_
  show Steps p.tables e below (T0.setTop (mkF m 106 #[.val (.int xn), .val (.int xa), .val (.int xb), .val (.int xc), .val (.int len), .val (.int prs), .val (.int last), .val (.ref av), .unset, .unset] [(.int xc)])) _
  refine XS.iconst X0.here hx rfl (hb hby at_106) ?_
  show Steps p.tables e below (T0.setTop (mkF m 107 #[.val (.int xn), .val (.int xa), .val (.int xb), .val (.int xc), .val (.int len), .val (.int prs), .val (.int last), .val (.ref av), .unset, .unset] [(.int (1 : Int32)), (.int xc)])) _
  refine XS.iand X0.here hx rfl (hb hby at_107) rfl ?_
  show Steps p.tables e below (T0.setTop (mkF m 108 #[.val (.int xn), .val (.int xa), .val (.int xb), .val (.int xc), .val (.int len), .val (.int prs), .val (.int last), .val (.ref av), .unset, .unset] [(.int (xc &&& (1 : Int32)))])) _
  refine XS.ifNo X0.here hx rfl (hb hby at_108) rfl ((if0 _ _).trans (feq hc108).1) ?_
  show Steps p.tables e below (T0.setTop (mkF m 111 #[.val (.int xn), .val (.int xa), .val (.int xb), .val (.int xc), .val (.int len), .val (.int prs), .val (.int last), .val (.ref av), .unset, .unset] [])) _
  refine XS.aload X0.here hx rfl (hb hby at_111) rfl rfl ?_
  show Steps p.tables e below (T0.setTop (mkF m 113 #[.val (.int xn), .val (.int xa), .val (.int xb), .val (.int xc), .val (.int len), .val (.int prs), .val (.int last), .val (.ref av), .unset, .unset] [(.ref av)])) _
  refine XS.iconst X0.here hx rfl (hb hby at_113) ?_
  show Steps p.tables e below (T0.setTop (mkF m 114 #[.val (.int xn), .val (.int xa), .val (.int xb), .val (.int xc), .val (.int len), .val (.int prs), .val (.int last), .val (.ref av), .unset, .unset] [(.int (2 : Int32)), (.ref av)])) _
  refine XS.iload X0.here hx rfl (hb hby at_114) rfl ?_
  show Steps p.tables e below (T0.setTop (mkF m 116 #[.val (.int xn), .val (.int xa), .val (.int xb), .val (.int xc), .val (.int len), .val (.int prs), .val (.int last), .val (.ref av), .unset, .unset] [(.int last), (.int (2 : Int32)), (.ref av)])) _
  refine XS.imul X0.here hx rfl (hb hby at_116) rfl ?_
  show Steps p.tables e below (T0.setTop (mkF m 117 #[.val (.int xn), .val (.int xa), .val (.int xb), .val (.int xc), .val (.int len), .val (.int prs), .val (.int last), .val (.ref av), .unset, .unset] [(.int ((2 : Int32) * last)), (.ref av)])) _
  refine XS.aload X0.here hx rfl (hb hby at_117) rfl rfl ?_
  show Steps p.tables e below (T0.setTop (mkF m 119 #[.val (.int xn), .val (.int xa), .val (.int xb), .val (.int xc), .val (.int len), .val (.int prs), .val (.int last), .val (.ref av), .unset, .unset] [(.ref av), (.int ((2 : Int32) * last)), (.ref av)])) _
  refine XS.iconst X0.here hx rfl (hb hby at_119) ?_
  show Steps p.tables e below (T0.setTop (mkF m 120 #[.val (.int xn), .val (.int xa), .val (.int xb), .val (.int xc), .val (.int len), .val (.int prs), .val (.int last), .val (.ref av), .unset, .unset] [(.int (0 : Int32)), (.ref av), (.int ((2 : Int32) * last)), (.ref av)])) _
  refine own_iald X0 hx hZ e0 V_av (by decide) (g := (mkF m 120 #[.val (.int xn), .val (.int xa), .val (.int xb), .val (.int xc), .val (.int len), .val (.int prs), .val (.int last), .val (.ref av), .unset, .unset] [(.int (0 : Int32)), (.ref av), (.int ((2 : Int32) * last)), (.ref av)])) rfl rfl (hb hby at_120) _ ?_
  show Steps p.tables e below (T0.setTop (mkF m 121 #[.val (.int xn), .val (.int xa), .val (.int xb), .val (.int xc), .val (.int len), .val (.int prs), .val (.int last), .val (.ref av), .unset, .unset] [(.int (LV.getD ((0 : Int32)).toNatClampNeg 0)), (.int ((2 : Int32) * last)), (.ref av)])) _
  refine st5 _ ?_
  exact kt
set_option maxRecDepth 65536 in
set_option maxHeartbeats 40000000 in
theorem own_sB3t {p : Program} {l : Launch} {e : Env} {s : State} {m : MethodId} {args : Array Value} {below : List Frame} {meth : Method} {c : Code} {T0 : State} {locs : List Loc} {Z : State} {a0 : Array Value} {h0 : Heap} {n0 : Nat} (xn : Int32) (xa : Int32) (xb : Int32) (xc : Int32) (len : Int32) (prs : Int32) (last : Int32) (av : Addr) (LV : List Int32)
    (X0 : Stand p l e room_1 s m args below meth c T0 locs 1 8) (hx : p.tables.exec = Jvm.exec) (hZ : Z.Warmed39 s.vm) (hw : ∀ d ∈ tables_1, d.before a0 Z = true) (hby : c.code = code) (hml : c.maxLocals = 10) (hown : s.vm.findClass "com/example/wakelaw/wakelaw/RingClosedPinLaw" = some m.cls) (e0 : T0.heap = h0) (N0 : Fr n0 locs) (Z0 : n0 ≤ h0.size) (V_av : own_I Z h0 av (8 : Int32) LV) (hLV : LV.length = 8) (hc125 : (xc &&& (2 : Int32)) = (0 : Int32)) :
    ∃ (T' : State) (h' : Heap) (locs' : List Loc), Stand p l e room_1 s m args below meth c T' locs' 1 8 ∧ T'.heap = h' ∧ Fr n0 locs' ∧ h0.size ≤ h'.size ∧ own_I Z h' av (8 : Int32) LV ∧
      ∀ target, Steps p.tables e below (T'.setTop (mkF m 141 #[.val (.int xn), .val (.int xa), .val (.int xb), .val (.int xc), .val (.int len), .val (.int prs), .val (.int last), .val (.ref av), .unset, .unset] [])) target → Steps p.tables e below (T0.setTop (mkF m 122 #[.val (.int xn), .val (.int xa), .val (.int xb), .val (.int xc), .val (.int len), .val (.int prs), .val (.int last), .val (.ref av), .unset, .unset] [])) target := by
  -- 3. LAWS

  refine ⟨T0, _, _, X0, e0, N0, (Nat.le_refl _), V_av, fun target kt => ?_⟩
  -- 4. STEPS
  show Steps p.tables e below (T0.setTop (mkF m 122 #[.val (.int xn), .val (.int xa), .val (.int xb), .val (.int xc), .val (.int len), .val (.int prs), .val (.int last), .val (.ref av), .unset, .unset] [])) _
  refine XS.iloadN X0.here hx rfl (hb hby at_122) rfl ?_
  show Steps p.tables e below (T0.setTop (mkF m 123 #[.val (.int xn), .val (.int xa), .val (.int xb), .val (.int xc), .val (.int len), .val (.int prs), .val (.int last), .val (.ref av), .unset, .unset] [(.int xc)])) _
  refine XS.iconst X0.here hx rfl (hb hby at_123) ?_
  show Steps p.tables e below (T0.setTop (mkF m 124 #[.val (.int xn), .val (.int xa), .val (.int xb), .val (.int xc), .val (.int len), .val (.int prs), .val (.int last), .val (.ref av), .unset, .unset] [(.int (2 : Int32)), (.int xc)])) _
  refine XS.iand X0.here hx rfl (hb hby at_124) rfl ?_
  show Steps p.tables e below (T0.setTop (mkF m 125 #[.val (.int xn), .val (.int xa), .val (.int xb), .val (.int xc), .val (.int len), .val (.int prs), .val (.int last), .val (.ref av), .unset, .unset] [(.int (xc &&& (2 : Int32)))])) _
  refine XS.ifYes X0.here hx rfl (pc0 := 125) (pc' := 141) rfl (hb hby at_125) rfl ((if0 _ _).trans (teq hc125).1) (by decide) (by decide) ?_
  exact kt
set_option maxRecDepth 65536 in
set_option maxHeartbeats 40000000 in
theorem own_sB3f {p : Program} {l : Launch} {e : Env} {s : State} {m : MethodId} {args : Array Value} {below : List Frame} {meth : Method} {c : Code} {T0 : State} {locs : List Loc} {Z : State} {a0 : Array Value} {h0 : Heap} {n0 : Nat} (xn : Int32) (xa : Int32) (xb : Int32) (xc : Int32) (len : Int32) (prs : Int32) (last : Int32) (av : Addr) (LV : List Int32)
    (X0 : Stand p l e room_1 s m args below meth c T0 locs 1 8) (hx : p.tables.exec = Jvm.exec) (hZ : Z.Warmed39 s.vm) (hw : ∀ d ∈ tables_1, d.before a0 Z = true) (hby : c.code = code) (hml : c.maxLocals = 10) (hown : s.vm.findClass "com/example/wakelaw/wakelaw/RingClosedPinLaw" = some m.cls) (e0 : T0.heap = h0) (N0 : Fr n0 locs) (Z0 : n0 ≤ h0.size) (V_av : own_I Z h0 av (8 : Int32) LV) (hLV : LV.length = 8) (g_av : n0 ≤ av) (hc125 : ¬ ((xc &&& (2 : Int32)) = (0 : Int32))) (hj140 : ¬ (((2 : Int32) * last) + (1 : Int32)) < 0 ∧ (((2 : Int32) * last) + (1 : Int32)) < (8 : Int32)) (hl140 : ((((2 : Int32) * last) + (1 : Int32))).toNatClampNeg < LV.length) :
    ∃ (T' : State) (h' : Heap) (locs' : List Loc), Stand p l e room_1 s m args below meth c T' locs' 1 8 ∧ T'.heap = h' ∧ Fr n0 locs' ∧ h0.size ≤ h'.size ∧ own_I Z h' av (8 : Int32) (LV.set ((((2 : Int32) * last) + (1 : Int32))).toNatClampNeg (LV.getD ((1 : Int32)).toNatClampNeg 0)) ∧
      ∀ target, Steps p.tables e below (T'.setTop (mkF m 141 #[.val (.int xn), .val (.int xa), .val (.int xb), .val (.int xc), .val (.int len), .val (.int prs), .val (.int last), .val (.ref av), .unset, .unset] [])) target → Steps p.tables e below (T0.setTop (mkF m 122 #[.val (.int xn), .val (.int xa), .val (.int xb), .val (.int xc), .val (.int len), .val (.int prs), .val (.int last), .val (.ref av), .unset, .unset] [])) target := by
  -- 3. LAWS
  obtain ⟨T5, h5, X5, e5, W5, V_av_140, st5⟩ := own_iast X0 hx hZ e0 V_av hj140 hl140 (g := (mkF m 140 #[.val (.int xn), .val (.int xa), .val (.int xb), .val (.int xc), .val (.int len), .val (.int prs), .val (.int last), .val (.ref av), .unset, .unset] [(.int (LV.getD ((1 : Int32)).toNatClampNeg 0)), (.int (((2 : Int32) * last) + (1 : Int32))), (.ref av)])) rfl rfl (hb hby at_140)
  have K5 : Keep h0 h5 [av] := (Keep.refl h0 [av]).wr W5 (Or.inl (List.mem_of_getElem? (i := 0) rfl))
  have N5 := Fr.snoc X5 N0 g_av
  refine ⟨T5, _, _, X5, e5, N5, (Nat.le_trans (Nat.le_refl _) (Keep.of_wr W5).1), V_av_140, fun target kt => ?_⟩
  -- 4. STEPS
  show Steps p.tables e below (T0.setTop (mkF m 122 #[.val (.int xn), .val (.int xa), .val (.int xb), .val (.int xc), .val (.int len), .val (.int prs), .val (.int last), .val (.ref av), .unset, .unset] [])) _
  refine XS.iloadN X0.here hx rfl (hb hby at_122) rfl ?_
  show Steps p.tables e below (T0.setTop (mkF m 123 #[.val (.int xn), .val (.int xa), .val (.int xb), .val (.int xc), .val (.int len), .val (.int prs), .val (.int last), .val (.ref av), .unset, .unset] [(.int xc)])) _
  refine XS.iconst X0.here hx rfl (hb hby at_123) ?_
  show Steps p.tables e below (T0.setTop (mkF m 124 #[.val (.int xn), .val (.int xa), .val (.int xb), .val (.int xc), .val (.int len), .val (.int prs), .val (.int last), .val (.ref av), .unset, .unset] [(.int (2 : Int32)), (.int xc)])) _
  refine XS.iand X0.here hx rfl (hb hby at_124) rfl ?_
  show Steps p.tables e below (T0.setTop (mkF m 125 #[.val (.int xn), .val (.int xa), .val (.int xb), .val (.int xc), .val (.int len), .val (.int prs), .val (.int last), .val (.ref av), .unset, .unset] [(.int (xc &&& (2 : Int32)))])) _
  refine XS.ifNo X0.here hx rfl (hb hby at_125) rfl ((if0 _ _).trans (feq hc125).1) ?_
  show Steps p.tables e below (T0.setTop (mkF m 128 #[.val (.int xn), .val (.int xa), .val (.int xb), .val (.int xc), .val (.int len), .val (.int prs), .val (.int last), .val (.ref av), .unset, .unset] [])) _
  refine XS.aload X0.here hx rfl (hb hby at_128) rfl rfl ?_
  show Steps p.tables e below (T0.setTop (mkF m 130 #[.val (.int xn), .val (.int xa), .val (.int xb), .val (.int xc), .val (.int len), .val (.int prs), .val (.int last), .val (.ref av), .unset, .unset] [(.ref av)])) _
  refine XS.iconst X0.here hx rfl (hb hby at_130) ?_
  show Steps p.tables e below (T0.setTop (mkF m 131 #[.val (.int xn), .val (.int xa), .val (.int xb), .val (.int xc), .val (.int len), .val (.int prs), .val (.int last), .val (.ref av), .unset, .unset] [(.int (2 : Int32)), (.ref av)])) _
  refine XS.iload X0.here hx rfl (hb hby at_131) rfl ?_
  show Steps p.tables e below (T0.setTop (mkF m 133 #[.val (.int xn), .val (.int xa), .val (.int xb), .val (.int xc), .val (.int len), .val (.int prs), .val (.int last), .val (.ref av), .unset, .unset] [(.int last), (.int (2 : Int32)), (.ref av)])) _
  refine XS.imul X0.here hx rfl (hb hby at_133) rfl ?_
  show Steps p.tables e below (T0.setTop (mkF m 134 #[.val (.int xn), .val (.int xa), .val (.int xb), .val (.int xc), .val (.int len), .val (.int prs), .val (.int last), .val (.ref av), .unset, .unset] [(.int ((2 : Int32) * last)), (.ref av)])) _
  refine XS.iconst X0.here hx rfl (hb hby at_134) ?_
  show Steps p.tables e below (T0.setTop (mkF m 135 #[.val (.int xn), .val (.int xa), .val (.int xb), .val (.int xc), .val (.int len), .val (.int prs), .val (.int last), .val (.ref av), .unset, .unset] [(.int (1 : Int32)), (.int ((2 : Int32) * last)), (.ref av)])) _
  refine XS.iadd X0.here hx rfl (hb hby at_135) rfl ?_
  show Steps p.tables e below (T0.setTop (mkF m 136 #[.val (.int xn), .val (.int xa), .val (.int xb), .val (.int xc), .val (.int len), .val (.int prs), .val (.int last), .val (.ref av), .unset, .unset] [(.int (((2 : Int32) * last) + (1 : Int32))), (.ref av)])) _
  refine XS.aload X0.here hx rfl (hb hby at_136) rfl rfl ?_
  show Steps p.tables e below (T0.setTop (mkF m 138 #[.val (.int xn), .val (.int xa), .val (.int xb), .val (.int xc), .val (.int len), .val (.int prs), .val (.int last), .val (.ref av), .unset, .unset] [(.ref av), (.int (((2 : Int32) * last) + (1 : Int32))), (.ref av)])) _
  refine XS.iconst X0.here hx rfl (hb hby at_138) ?_
  show Steps p.tables e below (T0.setTop (mkF m 139 #[.val (.int xn), .val (.int xa), .val (.int xb), .val (.int xc), .val (.int len), .val (.int prs), .val (.int last), .val (.ref av), .unset, .unset] [(.int (1 : Int32)), (.ref av), (.int (((2 : Int32) * last) + (1 : Int32))), (.ref av)])) _
  refine own_iald X0 hx hZ e0 V_av (by decide) (g := (mkF m 139 #[.val (.int xn), .val (.int xa), .val (.int xb), .val (.int xc), .val (.int len), .val (.int prs), .val (.int last), .val (.ref av), .unset, .unset] [(.int (1 : Int32)), (.ref av), (.int (((2 : Int32) * last) + (1 : Int32))), (.ref av)])) rfl rfl (hb hby at_139) _ ?_
  show Steps p.tables e below (T0.setTop (mkF m 140 #[.val (.int xn), .val (.int xa), .val (.int xb), .val (.int xc), .val (.int len), .val (.int prs), .val (.int last), .val (.ref av), .unset, .unset] [(.int (LV.getD ((1 : Int32)).toNatClampNeg 0)), (.int (((2 : Int32) * last) + (1 : Int32))), (.ref av)])) _
  refine st5 _ ?_
  exact kt
set_option maxRecDepth 65536 in
set_option maxHeartbeats 40000000 in
theorem own_sC {p : Program} {l : Launch} {e : Env} {s : State} {m : MethodId} {args : Array Value} {below : List Frame} {meth : Method} {c : Code} {T0 : State} {locs : List Loc} {Z : State} {a0 : Array Value} {h0 : Heap} {n0 : Nat} (xn : Int32) (xa : Int32) (xb : Int32) (xc : Int32) (len : Int32) (prs : Int32) (last : Int32) (av : Addr) (LV : List Int32)
    (X0 : Stand p l e room_1 s m args below meth c T0 locs 1 8) (hx : p.tables.exec = Jvm.exec) (hZ : Z.Warmed39 s.vm) (hw : ∀ d ∈ tables_1, d.before a0 Z = true) (hby : c.code = code) (hml : c.maxLocals = 10) (hown : s.vm.findClass "com/example/wakelaw/wakelaw/RingClosedPinLaw" = some m.cls) (e0 : T0.heap = h0) (N0 : Fr n0 locs) (Z0 : n0 ≤ h0.size) (V_av : own_I Z h0 av (8 : Int32) LV) (hLV : LV.length = 8) (hneg143 : ¬ len < 0) (hcap143 : (len).toNatClampNeg ≤ 7) :
    ∃ (T' : State) (h' : Heap) (locs' : List Loc) (b143 : Addr), Stand p l e room_1 s m args below meth c T' locs' 2 15 ∧ T'.heap = h' ∧ Fr n0 locs' ∧ h0.size ≤ h'.size ∧ own_I Z h' av (8 : Int32) LV ∧ own_D Z h' b143 len (List.replicate 7 (0 : UInt64)) ∧ n0 ≤ b143 ∧ av ≠ b143 ∧
      ∀ target, Steps p.tables e below (T'.setTop (mkF m 147 #[.val (.int xn), .val (.int xa), .val (.int xb), .val (.int xc), .val (.int len), .val (.int prs), .val (.int last), .val (.ref av), .val (.ref b143), .unset] [])) target → Steps p.tables e below (T0.setTop (mkF m 141 #[.val (.int xn), .val (.int xa), .val (.int xb), .val (.int xc), .val (.int len), .val (.int prs), .val (.int last), .val (.ref av), .unset, .unset] [])) target := by
  -- 3. LAWS
  obtain ⟨T5, h5, b143, X5, e5, E5, g5, V_b143, st5⟩ := own_dnew X0 hx hZ (hw _ (List.mem_of_getElem? (i := 5) rfl)) e0 (g := (mkF m 143 #[.val (.int xn), .val (.int xa), .val (.int xb), .val (.int xc), .val (.int len), .val (.int prs), .val (.int last), .val (.ref av), .unset, .unset] [(.int len)])) rfl (hb hby at_143) rfl hneg143 (cap := 7) hcap143 (by decide) (by decide) (by decide)
  have g_b143 : n0 ≤ b143 := Nat.le_trans Z0 (Nat.le_of_eq g5.symm)
  have sz_b143 : h0.size ≤ b143 := (Nat.le_trans (Keep.refl h0 []).1 (Nat.le_of_eq g5.symm))
  have K5 : Keep h0 h5 [] := (Keep.refl h0 []).ext E5
  refine ⟨T5, _, _, b143, X5, e5, N0, (Nat.le_trans (Nat.le_refl _) E5.1), (V_av.ext E5), V_b143, g_b143, (Nat.ne_of_lt (Nat.lt_of_lt_of_le V_av.lt (Nat.le_of_eq g5.symm))), fun target kt => ?_⟩
  -- 4. STEPS
  show Steps p.tables e below (T0.setTop (mkF m 141 #[.val (.int xn), .val (.int xa), .val (.int xb), .val (.int xc), .val (.int len), .val (.int prs), .val (.int last), .val (.ref av), .unset, .unset] [])) _
  refine XS.iload X0.here hx rfl (hb hby at_141) rfl ?_
  show Steps p.tables e below (T0.setTop (mkF m 143 #[.val (.int xn), .val (.int xa), .val (.int xb), .val (.int xc), .val (.int len), .val (.int prs), .val (.int last), .val (.ref av), .unset, .unset] [(.int len)])) _
  refine st5 _ ?_
  show Steps p.tables e below (T5.setTop (mkF m 145 #[.val (.int xn), .val (.int xa), .val (.int xb), .val (.int xc), .val (.int len), .val (.int prs), .val (.int last), .val (.ref av), .unset, .unset] [(.ref b143)])) _
  refine XS.astore X5.here hx rfl (hb hby at_145) rfl rfl (l' := #[.val (.int xn), .val (.int xa), .val (.int xb), .val (.int xc), .val (.int len), .val (.int prs), .val (.int last), .val (.ref av), .val (.ref b143), .unset]) rfl ?_
  exact kt
set_option maxRecDepth 65536 in
set_option maxHeartbeats 40000000 in
theorem own_sD0t {p : Program} {l : Launch} {e : Env} {s : State} {m : MethodId} {args : Array Value} {below : List Frame} {meth : Method} {c : Code} {T0 : State} {locs : List Loc} {Z : State} {a0 : Array Value} {h0 : Heap} {n0 : Nat} (xn : Int32) (xa : Int32) (xb : Int32) (xc : Int32) (len : Int32) (prs : Int32) (last : Int32) (av : Addr) (ad : Addr) (LV : List Int32) (DV : List UInt64)
    (X0 : Stand p l e room_1 s m args below meth c T0 locs 2 15) (hx : p.tables.exec = Jvm.exec) (hZ : Z.Warmed39 s.vm) (hw : ∀ d ∈ tables_1, d.before a0 Z = true) (hby : c.code = code) (hml : c.maxLocals = 10) (hown : s.vm.findClass "com/example/wakelaw/wakelaw/RingClosedPinLaw" = some m.cls) (e0 : T0.heap = h0) (N0 : Fr n0 locs) (Z0 : n0 ≤ h0.size) (V_av : own_I Z h0 av (8 : Int32) LV) (hLV : LV.length = 8) (V_ad : own_D Z h0 ad len DV) (hDV : DV.length = 7) (hne : av ≠ ad) (hc149 : ¬ ((0 : Int32) < len)) :
    ∃ (T' : State) (h' : Heap) (locs' : List Loc), Stand p l e room_1 s m args below meth c T' locs' 2 15 ∧ T'.heap = h' ∧ Fr n0 locs' ∧ h0.size ≤ h'.size ∧ own_I Z h' av (8 : Int32) LV ∧ own_D Z h' ad len DV ∧
      ∀ target, Steps p.tables e below (T'.setTop (mkF m 165 #[.val (.int xn), .val (.int xa), .val (.int xb), .val (.int xc), .val (.int len), .val (.int prs), .val (.int last), .val (.ref av), .val (.ref ad), .unset] [])) target → Steps p.tables e below (T0.setTop (mkF m 147 #[.val (.int xn), .val (.int xa), .val (.int xb), .val (.int xc), .val (.int len), .val (.int prs), .val (.int last), .val (.ref av), .val (.ref ad), .unset] [])) target := by
  -- 3. LAWS

  refine ⟨T0, _, _, X0, e0, N0, (Nat.le_refl _), V_av, V_ad, fun target kt => ?_⟩
  -- 4. STEPS
  show Steps p.tables e below (T0.setTop (mkF m 147 #[.val (.int xn), .val (.int xa), .val (.int xb), .val (.int xc), .val (.int len), .val (.int prs), .val (.int last), .val (.ref av), .val (.ref ad), .unset] [])) _
  refine XS.iload X0.here hx rfl (hb hby at_147) rfl ?_
  show Steps p.tables e below (T0.setTop (mkF m 149 #[.val (.int xn), .val (.int xa), .val (.int xb), .val (.int xc), .val (.int len), .val (.int prs), .val (.int last), .val (.ref av), .val (.ref ad), .unset] [(.int len)])) _
  refine XS.ifYes X0.here hx rfl (pc0 := 149) (pc' := 165) rfl (hb hby at_149) rfl ((if0 _ _).trans (flt hc149).2.2.2) (by decide) (by decide) ?_
  exact kt
set_option maxRecDepth 65536 in
set_option maxHeartbeats 40000000 in
theorem own_sD0f {p : Program} {l : Launch} {e : Env} {s : State} {m : MethodId} {args : Array Value} {below : List Frame} {meth : Method} {c : Code} {T0 : State} {locs : List Loc} {Z : State} {a0 : Array Value} {h0 : Heap} {n0 : Nat} (xn : Int32) (xa : Int32) (xb : Int32) (xc : Int32) (len : Int32) (prs : Int32) (last : Int32) (av : Addr) (ad : Addr) (LV : List Int32) (DV : List UInt64)
    (X0 : Stand p l e room_1 s m args below meth c T0 locs 2 15) (hx : p.tables.exec = Jvm.exec) (hZ : Z.Warmed39 s.vm) (hw : ∀ d ∈ tables_1, d.before a0 Z = true) (hby : c.code = code) (hml : c.maxLocals = 10) (hown : s.vm.findClass "com/example/wakelaw/wakelaw/RingClosedPinLaw" = some m.cls) (e0 : T0.heap = h0) (N0 : Fr n0 locs) (Z0 : n0 ≤ h0.size) (V_av : own_I Z h0 av (8 : Int32) LV) (hLV : LV.length = 8) (V_ad : own_D Z h0 ad len DV) (hDV : DV.length = 7) (hne : av ≠ ad) (g_ad : n0 ≤ ad) (hc149 : (0 : Int32) < len) (hj164 : ¬ (0 : Int32) < 0 ∧ (0 : Int32) < len) :
    ∃ (T' : State) (h' : Heap) (locs' : List Loc), Stand p l e room_1 s m args below meth c T' locs' 2 15 ∧ T'.heap = h' ∧ Fr n0 locs' ∧ h0.size ≤ h'.size ∧ own_I Z h' av (8 : Int32) LV ∧ own_D Z h' ad len (DV.set ((0 : Int32)).toNatClampNeg (own_td (LV.getD ((0 : Int32)).toNatClampNeg 0) xb (0 : Int32))) ∧
      ∀ target, Steps p.tables e below (T'.setTop (mkF m 165 #[.val (.int xn), .val (.int xa), .val (.int xb), .val (.int xc), .val (.int len), .val (.int prs), .val (.int last), .val (.ref av), .val (.ref ad), .unset] [])) target → Steps p.tables e below (T0.setTop (mkF m 147 #[.val (.int xn), .val (.int xa), .val (.int xb), .val (.int xc), .val (.int len), .val (.int prs), .val (.int last), .val (.ref av), .val (.ref ad), .unset] [])) target := by
  -- 3. LAWS
  -- pc 161: com/example/wakelaw/wakelaw/RingClosedPinLaw.toDouble
  obtain ⟨T5, X5, e5, st5⟩ := own_call_td X0 hx hZ hw hown (hw _ (List.mem_of_getElem? (i := 27) rfl)) (LV.getD ((0 : Int32)).toNatClampNeg 0) xb (0 : Int32) (W := 2) (g := (mkF m 161 #[.val (.int xn), .val (.int xa), .val (.int xb), .val (.int xc), .val (.int len), .val (.int prs), .val (.int last), .val (.ref av), .val (.ref ad), .unset] [(.int (0 : Int32)), (.int xb), (.int (LV.getD ((0 : Int32)).toNatClampNeg 0)), (.int (0 : Int32)), (.ref ad)])) rfl (by rw [hml]; rfl) (rest := [(.int (0 : Int32)), (.ref ad)]) rfl (by show 2 * 0 + _ ≤ _; exact Nat.le_of_eq rfl) (hb hby at_161) (by decide) (by decide) e0
  obtain ⟨T6, h6, X6, e6, W6, V_ad_164, st6⟩ := own_dast X5 hx hZ e5 V_ad hj164 (by simp only [List.length_set, hDV]; decide) (g := (mkF m 164 #[.val (.int xn), .val (.int xa), .val (.int xb), .val (.int xc), .val (.int len), .val (.int prs), .val (.int last), .val (.ref av), .val (.ref ad), .unset] [(.double (own_td (LV.getD ((0 : Int32)).toNatClampNeg 0) xb (0 : Int32))), (.int (0 : Int32)), (.ref ad)])) rfl rfl (hb hby at_164)
  have K6 : Keep h0 h6 [ad] := (Keep.refl h0 [ad]).wr W6 (Or.inl (List.mem_of_getElem? (i := 0) rfl))
  have N6 := Fr.snoc X6 N0 g_ad
  refine ⟨T6, _, _, X6, e6, N6, (Nat.le_trans (Nat.le_refl _) (Keep.of_wr W6).1), (V_av.other W6 hne), V_ad_164, fun target kt => ?_⟩
  -- 4. STEPS
  show Steps p.tables e below (T0.setTop (mkF m 147 #[.val (.int xn), .val (.int xa), .val (.int xb), .val (.int xc), .val (.int len), .val (.int prs), .val (.int last), .val (.ref av), .val (.ref ad), .unset] [])) _
  refine XS.iload X0.here hx rfl (hb hby at_147) rfl ?_
  show Steps p.tables e below (T0.setTop (mkF m 149 #[.val (.int xn), .val (.int xa), .val (.int xb), .val (.int xc), .val (.int len), .val (.int prs), .val (.int last), .val (.ref av), .val (.ref ad), .unset] [(.int len)])) _
  refine XS.ifNo X0.here hx rfl (hb hby at_149) rfl ((if0 _ _).trans (tlt hc149).2.2.2) ?_
  show Steps p.tables e below (T0.setTop (mkF m 152 #[.val (.int xn), .val (.int xa), .val (.int xb), .val (.int xc), .val (.int len), .val (.int prs), .val (.int last), .val (.ref av), .val (.ref ad), .unset] [])) _
  refine XS.aload X0.here hx rfl (hb hby at_152) rfl rfl ?_
  show Steps p.tables e below (T0.setTop (mkF m 154 #[.val (.int xn), .val (.int xa), .val (.int xb), .val (.int xc), .val (.int len), .val (.int prs), .val (.int last), .val (.ref av), .val (.ref ad), .unset] [(.ref ad)])) _
  refine XS.iconst X0.here hx rfl (hb hby at_154) ?_
  show Steps p.tables e below (T0.setTop (mkF m 155 #[.val (.int xn), .val (.int xa), .val (.int xb), .val (.int xc), .val (.int len), .val (.int prs), .val (.int last), .val (.ref av), .val (.ref ad), .unset] [(.int (0 : Int32)), (.ref ad)])) _
  refine XS.aload X0.here hx rfl (hb hby at_155) rfl rfl ?_
  show Steps p.tables e below (T0.setTop (mkF m 157 #[.val (.int xn), .val (.int xa), .val (.int xb), .val (.int xc), .val (.int len), .val (.int prs), .val (.int last), .val (.ref av), .val (.ref ad), .unset] [(.ref av), (.int (0 : Int32)), (.ref ad)])) _
  refine XS.iconst X0.here hx rfl (hb hby at_157) ?_
  show Steps p.tables e below (T0.setTop (mkF m 158 #[.val (.int xn), .val (.int xa), .val (.int xb), .val (.int xc), .val (.int len), .val (.int prs), .val (.int last), .val (.ref av), .val (.ref ad), .unset] [(.int (0 : Int32)), (.ref av), (.int (0 : Int32)), (.ref ad)])) _
  refine own_iald X0 hx hZ e0 V_av (by decide) (g := (mkF m 158 #[.val (.int xn), .val (.int xa), .val (.int xb), .val (.int xc), .val (.int len), .val (.int prs), .val (.int last), .val (.ref av), .val (.ref ad), .unset] [(.int (0 : Int32)), (.ref av), (.int (0 : Int32)), (.ref ad)])) rfl rfl (hb hby at_158) _ ?_
  show Steps p.tables e below (T0.setTop (mkF m 159 #[.val (.int xn), .val (.int xa), .val (.int xb), .val (.int xc), .val (.int len), .val (.int prs), .val (.int last), .val (.ref av), .val (.ref ad), .unset] [(.int (LV.getD ((0 : Int32)).toNatClampNeg 0)), (.int (0 : Int32)), (.ref ad)])) _
  refine XS.iloadN X0.here hx rfl (hb hby at_159) rfl ?_
  show Steps p.tables e below (T0.setTop (mkF m 160 #[.val (.int xn), .val (.int xa), .val (.int xb), .val (.int xc), .val (.int len), .val (.int prs), .val (.int last), .val (.ref av), .val (.ref ad), .unset] [(.int xb), (.int (LV.getD ((0 : Int32)).toNatClampNeg 0)), (.int (0 : Int32)), (.ref ad)])) _
  refine XS.iconst X0.here hx rfl (hb hby at_160) ?_
  show Steps p.tables e below (T0.setTop (mkF m 161 #[.val (.int xn), .val (.int xa), .val (.int xb), .val (.int xc), .val (.int len), .val (.int prs), .val (.int last), .val (.ref av), .val (.ref ad), .unset] [(.int (0 : Int32)), (.int xb), (.int (LV.getD ((0 : Int32)).toNatClampNeg 0)), (.int (0 : Int32)), (.ref ad)])) _
  refine st5 _ ?_
  show Steps p.tables e below (T5.setTop (mkF m 164 #[.val (.int xn), .val (.int xa), .val (.int xb), .val (.int xc), .val (.int len), .val (.int prs), .val (.int last), .val (.ref av), .val (.ref ad), .unset] [(.double (own_td (LV.getD ((0 : Int32)).toNatClampNeg 0) xb (0 : Int32))), (.int (0 : Int32)), (.ref ad)])) _
  refine st6 _ ?_
  exact kt
set_option maxRecDepth 65536 in
set_option maxHeartbeats 40000000 in
theorem own_sD1t {p : Program} {l : Launch} {e : Env} {s : State} {m : MethodId} {args : Array Value} {below : List Frame} {meth : Method} {c : Code} {T0 : State} {locs : List Loc} {Z : State} {a0 : Array Value} {h0 : Heap} {n0 : Nat} (xn : Int32) (xa : Int32) (xb : Int32) (xc : Int32) (len : Int32) (prs : Int32) (last : Int32) (av : Addr) (ad : Addr) (LV : List Int32) (DV : List UInt64)
    (X0 : Stand p l e room_1 s m args below meth c T0 locs 2 15) (hx : p.tables.exec = Jvm.exec) (hZ : Z.Warmed39 s.vm) (hw : ∀ d ∈ tables_1, d.before a0 Z = true) (hby : c.code = code) (hml : c.maxLocals = 10) (hown : s.vm.findClass "com/example/wakelaw/wakelaw/RingClosedPinLaw" = some m.cls) (e0 : T0.heap = h0) (N0 : Fr n0 locs) (Z0 : n0 ≤ h0.size) (V_av : own_I Z h0 av (8 : Int32) LV) (hLV : LV.length = 8) (V_ad : own_D Z h0 ad len DV) (hDV : DV.length = 7) (hne : av ≠ ad) (hc168 : ¬ ((1 : Int32) < len)) :
    ∃ (T' : State) (h' : Heap) (locs' : List Loc), Stand p l e room_1 s m args below meth c T' locs' 2 15 ∧ T'.heap = h' ∧ Fr n0 locs' ∧ h0.size ≤ h'.size ∧ own_I Z h' av (8 : Int32) LV ∧ own_D Z h' ad len DV ∧
      ∀ target, Steps p.tables e below (T'.setTop (mkF m 184 #[.val (.int xn), .val (.int xa), .val (.int xb), .val (.int xc), .val (.int len), .val (.int prs), .val (.int last), .val (.ref av), .val (.ref ad), .unset] [])) target → Steps p.tables e below (T0.setTop (mkF m 165 #[.val (.int xn), .val (.int xa), .val (.int xb), .val (.int xc), .val (.int len), .val (.int prs), .val (.int last), .val (.ref av), .val (.ref ad), .unset] [])) target := by
  -- 3. LAWS

  refine ⟨T0, _, _, X0, e0, N0, (Nat.le_refl _), V_av, V_ad, fun target kt => ?_⟩
  -- 4. STEPS
  show Steps p.tables e below (T0.setTop (mkF m 165 #[.val (.int xn), .val (.int xa), .val (.int xb), .val (.int xc), .val (.int len), .val (.int prs), .val (.int last), .val (.ref av), .val (.ref ad), .unset] [])) _
  refine XS.iload X0.here hx rfl (hb hby at_165) rfl ?_
  show Steps p.tables e below (T0.setTop (mkF m 167 #[.val (.int xn), .val (.int xa), .val (.int xb), .val (.int xc), .val (.int len), .val (.int prs), .val (.int last), .val (.ref av), .val (.ref ad), .unset] [(.int len)])) _
  refine XS.iconst X0.here hx rfl (hb hby at_167) ?_
  show Steps p.tables e below (T0.setTop (mkF m 168 #[.val (.int xn), .val (.int xa), .val (.int xb), .val (.int xc), .val (.int len), .val (.int prs), .val (.int last), .val (.ref av), .val (.ref ad), .unset] [(.int (1 : Int32)), (.int len)])) _
  refine XS.icmpYes X0.here hx rfl (pc0 := 168) (pc' := 184) rfl (hb hby at_168) rfl (flt hc168).2.2.2 (by decide) (by decide) ?_
  exact kt
set_option maxRecDepth 65536 in
set_option maxHeartbeats 40000000 in
theorem own_sD1f {p : Program} {l : Launch} {e : Env} {s : State} {m : MethodId} {args : Array Value} {below : List Frame} {meth : Method} {c : Code} {T0 : State} {locs : List Loc} {Z : State} {a0 : Array Value} {h0 : Heap} {n0 : Nat} (xn : Int32) (xa : Int32) (xb : Int32) (xc : Int32) (len : Int32) (prs : Int32) (last : Int32) (av : Addr) (ad : Addr) (LV : List Int32) (DV : List UInt64)
    (X0 : Stand p l e room_1 s m args below meth c T0 locs 2 15) (hx : p.tables.exec = Jvm.exec) (hZ : Z.Warmed39 s.vm) (hw : ∀ d ∈ tables_1, d.before a0 Z = true) (hby : c.code = code) (hml : c.maxLocals = 10) (hown : s.vm.findClass "com/example/wakelaw/wakelaw/RingClosedPinLaw" = some m.cls) (e0 : T0.heap = h0) (N0 : Fr n0 locs) (Z0 : n0 ≤ h0.size) (V_av : own_I Z h0 av (8 : Int32) LV) (hLV : LV.length = 8) (V_ad : own_D Z h0 ad len DV) (hDV : DV.length = 7) (hne : av ≠ ad) (g_ad : n0 ≤ ad) (hc168 : (1 : Int32) < len) (hj183 : ¬ (1 : Int32) < 0 ∧ (1 : Int32) < len) :
    ∃ (T' : State) (h' : Heap) (locs' : List Loc), Stand p l e room_1 s m args below meth c T' locs' 2 15 ∧ T'.heap = h' ∧ Fr n0 locs' ∧ h0.size ≤ h'.size ∧ own_I Z h' av (8 : Int32) LV ∧ own_D Z h' ad len (DV.set ((1 : Int32)).toNatClampNeg (own_td (LV.getD ((1 : Int32)).toNatClampNeg 0) xb (1 : Int32))) ∧
      ∀ target, Steps p.tables e below (T'.setTop (mkF m 184 #[.val (.int xn), .val (.int xa), .val (.int xb), .val (.int xc), .val (.int len), .val (.int prs), .val (.int last), .val (.ref av), .val (.ref ad), .unset] [])) target → Steps p.tables e below (T0.setTop (mkF m 165 #[.val (.int xn), .val (.int xa), .val (.int xb), .val (.int xc), .val (.int len), .val (.int prs), .val (.int last), .val (.ref av), .val (.ref ad), .unset] [])) target := by
  -- 3. LAWS
  -- pc 180: com/example/wakelaw/wakelaw/RingClosedPinLaw.toDouble
  obtain ⟨T5, X5, e5, st5⟩ := own_call_td X0 hx hZ hw hown (hw _ (List.mem_of_getElem? (i := 27) rfl)) (LV.getD ((1 : Int32)).toNatClampNeg 0) xb (1 : Int32) (W := 2) (g := (mkF m 180 #[.val (.int xn), .val (.int xa), .val (.int xb), .val (.int xc), .val (.int len), .val (.int prs), .val (.int last), .val (.ref av), .val (.ref ad), .unset] [(.int (1 : Int32)), (.int xb), (.int (LV.getD ((1 : Int32)).toNatClampNeg 0)), (.int (1 : Int32)), (.ref ad)])) rfl (by rw [hml]; rfl) (rest := [(.int (1 : Int32)), (.ref ad)]) rfl (by show 2 * 0 + _ ≤ _; exact Nat.le_of_eq rfl) (hb hby at_180) (by decide) (by decide) e0
  obtain ⟨T6, h6, X6, e6, W6, V_ad_183, st6⟩ := own_dast X5 hx hZ e5 V_ad hj183 (by simp only [List.length_set, hDV]; decide) (g := (mkF m 183 #[.val (.int xn), .val (.int xa), .val (.int xb), .val (.int xc), .val (.int len), .val (.int prs), .val (.int last), .val (.ref av), .val (.ref ad), .unset] [(.double (own_td (LV.getD ((1 : Int32)).toNatClampNeg 0) xb (1 : Int32))), (.int (1 : Int32)), (.ref ad)])) rfl rfl (hb hby at_183)
  have K6 : Keep h0 h6 [ad] := (Keep.refl h0 [ad]).wr W6 (Or.inl (List.mem_of_getElem? (i := 0) rfl))
  have N6 := Fr.snoc X6 N0 g_ad
  refine ⟨T6, _, _, X6, e6, N6, (Nat.le_trans (Nat.le_refl _) (Keep.of_wr W6).1), (V_av.other W6 hne), V_ad_183, fun target kt => ?_⟩
  -- 4. STEPS
  show Steps p.tables e below (T0.setTop (mkF m 165 #[.val (.int xn), .val (.int xa), .val (.int xb), .val (.int xc), .val (.int len), .val (.int prs), .val (.int last), .val (.ref av), .val (.ref ad), .unset] [])) _
  refine XS.iload X0.here hx rfl (hb hby at_165) rfl ?_
  show Steps p.tables e below (T0.setTop (mkF m 167 #[.val (.int xn), .val (.int xa), .val (.int xb), .val (.int xc), .val (.int len), .val (.int prs), .val (.int last), .val (.ref av), .val (.ref ad), .unset] [(.int len)])) _
  refine XS.iconst X0.here hx rfl (hb hby at_167) ?_
  show Steps p.tables e below (T0.setTop (mkF m 168 #[.val (.int xn), .val (.int xa), .val (.int xb), .val (.int xc), .val (.int len), .val (.int prs), .val (.int last), .val (.ref av), .val (.ref ad), .unset] [(.int (1 : Int32)), (.int len)])) _
  refine XS.icmpNo X0.here hx rfl (hb hby at_168) rfl (tlt hc168).2.2.2 ?_
  show Steps p.tables e below (T0.setTop (mkF m 171 #[.val (.int xn), .val (.int xa), .val (.int xb), .val (.int xc), .val (.int len), .val (.int prs), .val (.int last), .val (.ref av), .val (.ref ad), .unset] [])) _
  refine XS.aload X0.here hx rfl (hb hby at_171) rfl rfl ?_
  show Steps p.tables e below (T0.setTop (mkF m 173 #[.val (.int xn), .val (.int xa), .val (.int xb), .val (.int xc), .val (.int len), .val (.int prs), .val (.int last), .val (.ref av), .val (.ref ad), .unset] [(.ref ad)])) _
  refine XS.iconst X0.here hx rfl (hb hby at_173) ?_
  show Steps p.tables e below (T0.setTop (mkF m 174 #[.val (.int xn), .val (.int xa), .val (.int xb), .val (.int xc), .val (.int len), .val (.int prs), .val (.int last), .val (.ref av), .val (.ref ad), .unset] [(.int (1 : Int32)), (.ref ad)])) _
  refine XS.aload X0.here hx rfl (hb hby at_174) rfl rfl ?_
  show Steps p.tables e below (T0.setTop (mkF m 176 #[.val (.int xn), .val (.int xa), .val (.int xb), .val (.int xc), .val (.int len), .val (.int prs), .val (.int last), .val (.ref av), .val (.ref ad), .unset] [(.ref av), (.int (1 : Int32)), (.ref ad)])) _
  refine XS.iconst X0.here hx rfl (hb hby at_176) ?_
  show Steps p.tables e below (T0.setTop (mkF m 177 #[.val (.int xn), .val (.int xa), .val (.int xb), .val (.int xc), .val (.int len), .val (.int prs), .val (.int last), .val (.ref av), .val (.ref ad), .unset] [(.int (1 : Int32)), (.ref av), (.int (1 : Int32)), (.ref ad)])) _
  refine own_iald X0 hx hZ e0 V_av (by decide) (g := (mkF m 177 #[.val (.int xn), .val (.int xa), .val (.int xb), .val (.int xc), .val (.int len), .val (.int prs), .val (.int last), .val (.ref av), .val (.ref ad), .unset] [(.int (1 : Int32)), (.ref av), (.int (1 : Int32)), (.ref ad)])) rfl rfl (hb hby at_177) _ ?_
  show Steps p.tables e below (T0.setTop (mkF m 178 #[.val (.int xn), .val (.int xa), .val (.int xb), .val (.int xc), .val (.int len), .val (.int prs), .val (.int last), .val (.ref av), .val (.ref ad), .unset] [(.int (LV.getD ((1 : Int32)).toNatClampNeg 0)), (.int (1 : Int32)), (.ref ad)])) _
  refine XS.iloadN X0.here hx rfl (hb hby at_178) rfl ?_
  show Steps p.tables e below (T0.setTop (mkF m 179 #[.val (.int xn), .val (.int xa), .val (.int xb), .val (.int xc), .val (.int len), .val (.int prs), .val (.int last), .val (.ref av), .val (.ref ad), .unset] [(.int xb), (.int (LV.getD ((1 : Int32)).toNatClampNeg 0)), (.int (1 : Int32)), (.ref ad)])) _
  refine XS.iconst X0.here hx rfl (hb hby at_179) ?_
  show Steps p.tables e below (T0.setTop (mkF m 180 #[.val (.int xn), .val (.int xa), .val (.int xb), .val (.int xc), .val (.int len), .val (.int prs), .val (.int last), .val (.ref av), .val (.ref ad), .unset] [(.int (1 : Int32)), (.int xb), (.int (LV.getD ((1 : Int32)).toNatClampNeg 0)), (.int (1 : Int32)), (.ref ad)])) _
  refine st5 _ ?_
  show Steps p.tables e below (T5.setTop (mkF m 183 #[.val (.int xn), .val (.int xa), .val (.int xb), .val (.int xc), .val (.int len), .val (.int prs), .val (.int last), .val (.ref av), .val (.ref ad), .unset] [(.double (own_td (LV.getD ((1 : Int32)).toNatClampNeg 0) xb (1 : Int32))), (.int (1 : Int32)), (.ref ad)])) _
  refine st6 _ ?_
  exact kt
set_option maxRecDepth 65536 in
set_option maxHeartbeats 40000000 in
theorem own_sD2t {p : Program} {l : Launch} {e : Env} {s : State} {m : MethodId} {args : Array Value} {below : List Frame} {meth : Method} {c : Code} {T0 : State} {locs : List Loc} {Z : State} {a0 : Array Value} {h0 : Heap} {n0 : Nat} (xn : Int32) (xa : Int32) (xb : Int32) (xc : Int32) (len : Int32) (prs : Int32) (last : Int32) (av : Addr) (ad : Addr) (LV : List Int32) (DV : List UInt64)
    (X0 : Stand p l e room_1 s m args below meth c T0 locs 2 15) (hx : p.tables.exec = Jvm.exec) (hZ : Z.Warmed39 s.vm) (hw : ∀ d ∈ tables_1, d.before a0 Z = true) (hby : c.code = code) (hml : c.maxLocals = 10) (hown : s.vm.findClass "com/example/wakelaw/wakelaw/RingClosedPinLaw" = some m.cls) (e0 : T0.heap = h0) (N0 : Fr n0 locs) (Z0 : n0 ≤ h0.size) (V_av : own_I Z h0 av (8 : Int32) LV) (hLV : LV.length = 8) (V_ad : own_D Z h0 ad len DV) (hDV : DV.length = 7) (hne : av ≠ ad) (hc187 : ¬ ((2 : Int32) < len)) :
    ∃ (T' : State) (h' : Heap) (locs' : List Loc), Stand p l e room_1 s m args below meth c T' locs' 2 15 ∧ T'.heap = h' ∧ Fr n0 locs' ∧ h0.size ≤ h'.size ∧ own_I Z h' av (8 : Int32) LV ∧ own_D Z h' ad len DV ∧
      ∀ target, Steps p.tables e below (T'.setTop (mkF m 203 #[.val (.int xn), .val (.int xa), .val (.int xb), .val (.int xc), .val (.int len), .val (.int prs), .val (.int last), .val (.ref av), .val (.ref ad), .unset] [])) target → Steps p.tables e below (T0.setTop (mkF m 184 #[.val (.int xn), .val (.int xa), .val (.int xb), .val (.int xc), .val (.int len), .val (.int prs), .val (.int last), .val (.ref av), .val (.ref ad), .unset] [])) target := by
  -- 3. LAWS

  refine ⟨T0, _, _, X0, e0, N0, (Nat.le_refl _), V_av, V_ad, fun target kt => ?_⟩
  -- 4. STEPS
  show Steps p.tables e below (T0.setTop (mkF m 184 #[.val (.int xn), .val (.int xa), .val (.int xb), .val (.int xc), .val (.int len), .val (.int prs), .val (.int last), .val (.ref av), .val (.ref ad), .unset] [])) _
  refine XS.iload X0.here hx rfl (hb hby at_184) rfl ?_
  show Steps p.tables e below (T0.setTop (mkF m 186 #[.val (.int xn), .val (.int xa), .val (.int xb), .val (.int xc), .val (.int len), .val (.int prs), .val (.int last), .val (.ref av), .val (.ref ad), .unset] [(.int len)])) _
  refine XS.iconst X0.here hx rfl (hb hby at_186) ?_
  show Steps p.tables e below (T0.setTop (mkF m 187 #[.val (.int xn), .val (.int xa), .val (.int xb), .val (.int xc), .val (.int len), .val (.int prs), .val (.int last), .val (.ref av), .val (.ref ad), .unset] [(.int (2 : Int32)), (.int len)])) _
  refine XS.icmpYes X0.here hx rfl (pc0 := 187) (pc' := 203) rfl (hb hby at_187) rfl (flt hc187).2.2.2 (by decide) (by decide) ?_
  exact kt
set_option maxRecDepth 65536 in
set_option maxHeartbeats 40000000 in
theorem own_sD2f {p : Program} {l : Launch} {e : Env} {s : State} {m : MethodId} {args : Array Value} {below : List Frame} {meth : Method} {c : Code} {T0 : State} {locs : List Loc} {Z : State} {a0 : Array Value} {h0 : Heap} {n0 : Nat} (xn : Int32) (xa : Int32) (xb : Int32) (xc : Int32) (len : Int32) (prs : Int32) (last : Int32) (av : Addr) (ad : Addr) (LV : List Int32) (DV : List UInt64)
    (X0 : Stand p l e room_1 s m args below meth c T0 locs 2 15) (hx : p.tables.exec = Jvm.exec) (hZ : Z.Warmed39 s.vm) (hw : ∀ d ∈ tables_1, d.before a0 Z = true) (hby : c.code = code) (hml : c.maxLocals = 10) (hown : s.vm.findClass "com/example/wakelaw/wakelaw/RingClosedPinLaw" = some m.cls) (e0 : T0.heap = h0) (N0 : Fr n0 locs) (Z0 : n0 ≤ h0.size) (V_av : own_I Z h0 av (8 : Int32) LV) (hLV : LV.length = 8) (V_ad : own_D Z h0 ad len DV) (hDV : DV.length = 7) (hne : av ≠ ad) (g_ad : n0 ≤ ad) (hc187 : (2 : Int32) < len) (hj202 : ¬ (2 : Int32) < 0 ∧ (2 : Int32) < len) :
    ∃ (T' : State) (h' : Heap) (locs' : List Loc), Stand p l e room_1 s m args below meth c T' locs' 2 15 ∧ T'.heap = h' ∧ Fr n0 locs' ∧ h0.size ≤ h'.size ∧ own_I Z h' av (8 : Int32) LV ∧ own_D Z h' ad len (DV.set ((2 : Int32)).toNatClampNeg (own_td (LV.getD ((2 : Int32)).toNatClampNeg 0) xb (2 : Int32))) ∧
      ∀ target, Steps p.tables e below (T'.setTop (mkF m 203 #[.val (.int xn), .val (.int xa), .val (.int xb), .val (.int xc), .val (.int len), .val (.int prs), .val (.int last), .val (.ref av), .val (.ref ad), .unset] [])) target → Steps p.tables e below (T0.setTop (mkF m 184 #[.val (.int xn), .val (.int xa), .val (.int xb), .val (.int xc), .val (.int len), .val (.int prs), .val (.int last), .val (.ref av), .val (.ref ad), .unset] [])) target := by
  -- 3. LAWS
  -- pc 199: com/example/wakelaw/wakelaw/RingClosedPinLaw.toDouble
  obtain ⟨T5, X5, e5, st5⟩ := own_call_td X0 hx hZ hw hown (hw _ (List.mem_of_getElem? (i := 27) rfl)) (LV.getD ((2 : Int32)).toNatClampNeg 0) xb (2 : Int32) (W := 2) (g := (mkF m 199 #[.val (.int xn), .val (.int xa), .val (.int xb), .val (.int xc), .val (.int len), .val (.int prs), .val (.int last), .val (.ref av), .val (.ref ad), .unset] [(.int (2 : Int32)), (.int xb), (.int (LV.getD ((2 : Int32)).toNatClampNeg 0)), (.int (2 : Int32)), (.ref ad)])) rfl (by rw [hml]; rfl) (rest := [(.int (2 : Int32)), (.ref ad)]) rfl (by show 2 * 0 + _ ≤ _; exact Nat.le_of_eq rfl) (hb hby at_199) (by decide) (by decide) e0
  obtain ⟨T6, h6, X6, e6, W6, V_ad_202, st6⟩ := own_dast X5 hx hZ e5 V_ad hj202 (by simp only [List.length_set, hDV]; decide) (g := (mkF m 202 #[.val (.int xn), .val (.int xa), .val (.int xb), .val (.int xc), .val (.int len), .val (.int prs), .val (.int last), .val (.ref av), .val (.ref ad), .unset] [(.double (own_td (LV.getD ((2 : Int32)).toNatClampNeg 0) xb (2 : Int32))), (.int (2 : Int32)), (.ref ad)])) rfl rfl (hb hby at_202)
  have K6 : Keep h0 h6 [ad] := (Keep.refl h0 [ad]).wr W6 (Or.inl (List.mem_of_getElem? (i := 0) rfl))
  have N6 := Fr.snoc X6 N0 g_ad
  refine ⟨T6, _, _, X6, e6, N6, (Nat.le_trans (Nat.le_refl _) (Keep.of_wr W6).1), (V_av.other W6 hne), V_ad_202, fun target kt => ?_⟩
  -- 4. STEPS
  show Steps p.tables e below (T0.setTop (mkF m 184 #[.val (.int xn), .val (.int xa), .val (.int xb), .val (.int xc), .val (.int len), .val (.int prs), .val (.int last), .val (.ref av), .val (.ref ad), .unset] [])) _
  refine XS.iload X0.here hx rfl (hb hby at_184) rfl ?_
  show Steps p.tables e below (T0.setTop (mkF m 186 #[.val (.int xn), .val (.int xa), .val (.int xb), .val (.int xc), .val (.int len), .val (.int prs), .val (.int last), .val (.ref av), .val (.ref ad), .unset] [(.int len)])) _
  refine XS.iconst X0.here hx rfl (hb hby at_186) ?_
  show Steps p.tables e below (T0.setTop (mkF m 187 #[.val (.int xn), .val (.int xa), .val (.int xb), .val (.int xc), .val (.int len), .val (.int prs), .val (.int last), .val (.ref av), .val (.ref ad), .unset] [(.int (2 : Int32)), (.int len)])) _
  refine XS.icmpNo X0.here hx rfl (hb hby at_187) rfl (tlt hc187).2.2.2 ?_
  show Steps p.tables e below (T0.setTop (mkF m 190 #[.val (.int xn), .val (.int xa), .val (.int xb), .val (.int xc), .val (.int len), .val (.int prs), .val (.int last), .val (.ref av), .val (.ref ad), .unset] [])) _
  refine XS.aload X0.here hx rfl (hb hby at_190) rfl rfl ?_
  show Steps p.tables e below (T0.setTop (mkF m 192 #[.val (.int xn), .val (.int xa), .val (.int xb), .val (.int xc), .val (.int len), .val (.int prs), .val (.int last), .val (.ref av), .val (.ref ad), .unset] [(.ref ad)])) _
  refine XS.iconst X0.here hx rfl (hb hby at_192) ?_
  show Steps p.tables e below (T0.setTop (mkF m 193 #[.val (.int xn), .val (.int xa), .val (.int xb), .val (.int xc), .val (.int len), .val (.int prs), .val (.int last), .val (.ref av), .val (.ref ad), .unset] [(.int (2 : Int32)), (.ref ad)])) _
  refine XS.aload X0.here hx rfl (hb hby at_193) rfl rfl ?_
  show Steps p.tables e below (T0.setTop (mkF m 195 #[.val (.int xn), .val (.int xa), .val (.int xb), .val (.int xc), .val (.int len), .val (.int prs), .val (.int last), .val (.ref av), .val (.ref ad), .unset] [(.ref av), (.int (2 : Int32)), (.ref ad)])) _
  refine XS.iconst X0.here hx rfl (hb hby at_195) ?_
  show Steps p.tables e below (T0.setTop (mkF m 196 #[.val (.int xn), .val (.int xa), .val (.int xb), .val (.int xc), .val (.int len), .val (.int prs), .val (.int last), .val (.ref av), .val (.ref ad), .unset] [(.int (2 : Int32)), (.ref av), (.int (2 : Int32)), (.ref ad)])) _
  refine own_iald X0 hx hZ e0 V_av (by decide) (g := (mkF m 196 #[.val (.int xn), .val (.int xa), .val (.int xb), .val (.int xc), .val (.int len), .val (.int prs), .val (.int last), .val (.ref av), .val (.ref ad), .unset] [(.int (2 : Int32)), (.ref av), (.int (2 : Int32)), (.ref ad)])) rfl rfl (hb hby at_196) _ ?_
  show Steps p.tables e below (T0.setTop (mkF m 197 #[.val (.int xn), .val (.int xa), .val (.int xb), .val (.int xc), .val (.int len), .val (.int prs), .val (.int last), .val (.ref av), .val (.ref ad), .unset] [(.int (LV.getD ((2 : Int32)).toNatClampNeg 0)), (.int (2 : Int32)), (.ref ad)])) _
  refine XS.iloadN X0.here hx rfl (hb hby at_197) rfl ?_
  show Steps p.tables e below (T0.setTop (mkF m 198 #[.val (.int xn), .val (.int xa), .val (.int xb), .val (.int xc), .val (.int len), .val (.int prs), .val (.int last), .val (.ref av), .val (.ref ad), .unset] [(.int xb), (.int (LV.getD ((2 : Int32)).toNatClampNeg 0)), (.int (2 : Int32)), (.ref ad)])) _
  refine XS.iconst X0.here hx rfl (hb hby at_198) ?_
  show Steps p.tables e below (T0.setTop (mkF m 199 #[.val (.int xn), .val (.int xa), .val (.int xb), .val (.int xc), .val (.int len), .val (.int prs), .val (.int last), .val (.ref av), .val (.ref ad), .unset] [(.int (2 : Int32)), (.int xb), (.int (LV.getD ((2 : Int32)).toNatClampNeg 0)), (.int (2 : Int32)), (.ref ad)])) _
  refine st5 _ ?_
  show Steps p.tables e below (T5.setTop (mkF m 202 #[.val (.int xn), .val (.int xa), .val (.int xb), .val (.int xc), .val (.int len), .val (.int prs), .val (.int last), .val (.ref av), .val (.ref ad), .unset] [(.double (own_td (LV.getD ((2 : Int32)).toNatClampNeg 0) xb (2 : Int32))), (.int (2 : Int32)), (.ref ad)])) _
  refine st6 _ ?_
  exact kt
set_option maxRecDepth 65536 in
set_option maxHeartbeats 40000000 in
theorem own_sD3t {p : Program} {l : Launch} {e : Env} {s : State} {m : MethodId} {args : Array Value} {below : List Frame} {meth : Method} {c : Code} {T0 : State} {locs : List Loc} {Z : State} {a0 : Array Value} {h0 : Heap} {n0 : Nat} (xn : Int32) (xa : Int32) (xb : Int32) (xc : Int32) (len : Int32) (prs : Int32) (last : Int32) (av : Addr) (ad : Addr) (LV : List Int32) (DV : List UInt64)
    (X0 : Stand p l e room_1 s m args below meth c T0 locs 2 15) (hx : p.tables.exec = Jvm.exec) (hZ : Z.Warmed39 s.vm) (hw : ∀ d ∈ tables_1, d.before a0 Z = true) (hby : c.code = code) (hml : c.maxLocals = 10) (hown : s.vm.findClass "com/example/wakelaw/wakelaw/RingClosedPinLaw" = some m.cls) (e0 : T0.heap = h0) (N0 : Fr n0 locs) (Z0 : n0 ≤ h0.size) (V_av : own_I Z h0 av (8 : Int32) LV) (hLV : LV.length = 8) (V_ad : own_D Z h0 ad len DV) (hDV : DV.length = 7) (hne : av ≠ ad) (hc206 : ¬ ((3 : Int32) < len)) :
    ∃ (T' : State) (h' : Heap) (locs' : List Loc), Stand p l e room_1 s m args below meth c T' locs' 2 15 ∧ T'.heap = h' ∧ Fr n0 locs' ∧ h0.size ≤ h'.size ∧ own_I Z h' av (8 : Int32) LV ∧ own_D Z h' ad len DV ∧
      ∀ target, Steps p.tables e below (T'.setTop (mkF m 222 #[.val (.int xn), .val (.int xa), .val (.int xb), .val (.int xc), .val (.int len), .val (.int prs), .val (.int last), .val (.ref av), .val (.ref ad), .unset] [])) target → Steps p.tables e below (T0.setTop (mkF m 203 #[.val (.int xn), .val (.int xa), .val (.int xb), .val (.int xc), .val (.int len), .val (.int prs), .val (.int last), .val (.ref av), .val (.ref ad), .unset] [])) target := by
  -- 3. LAWS

  refine ⟨T0, _, _, X0, e0, N0, (Nat.le_refl _), V_av, V_ad, fun target kt => ?_⟩
  -- 4. STEPS
  show Steps p.tables e below (T0.setTop (mkF m 203 #[.val (.int xn), .val (.int xa), .val (.int xb), .val (.int xc), .val (.int len), .val (.int prs), .val (.int last), .val (.ref av), .val (.ref ad), .unset] [])) _
  refine XS.iload X0.here hx rfl (hb hby at_203) rfl ?_
  show Steps p.tables e below (T0.setTop (mkF m 205 #[.val (.int xn), .val (.int xa), .val (.int xb), .val (.int xc), .val (.int len), .val (.int prs), .val (.int last), .val (.ref av), .val (.ref ad), .unset] [(.int len)])) _
  refine XS.iconst X0.here hx rfl (hb hby at_205) ?_
  show Steps p.tables e below (T0.setTop (mkF m 206 #[.val (.int xn), .val (.int xa), .val (.int xb), .val (.int xc), .val (.int len), .val (.int prs), .val (.int last), .val (.ref av), .val (.ref ad), .unset] [(.int (3 : Int32)), (.int len)])) _
  refine XS.icmpYes X0.here hx rfl (pc0 := 206) (pc' := 222) rfl (hb hby at_206) rfl (flt hc206).2.2.2 (by decide) (by decide) ?_
  exact kt
set_option maxRecDepth 65536 in
set_option maxHeartbeats 40000000 in
theorem own_sD3f {p : Program} {l : Launch} {e : Env} {s : State} {m : MethodId} {args : Array Value} {below : List Frame} {meth : Method} {c : Code} {T0 : State} {locs : List Loc} {Z : State} {a0 : Array Value} {h0 : Heap} {n0 : Nat} (xn : Int32) (xa : Int32) (xb : Int32) (xc : Int32) (len : Int32) (prs : Int32) (last : Int32) (av : Addr) (ad : Addr) (LV : List Int32) (DV : List UInt64)
    (X0 : Stand p l e room_1 s m args below meth c T0 locs 2 15) (hx : p.tables.exec = Jvm.exec) (hZ : Z.Warmed39 s.vm) (hw : ∀ d ∈ tables_1, d.before a0 Z = true) (hby : c.code = code) (hml : c.maxLocals = 10) (hown : s.vm.findClass "com/example/wakelaw/wakelaw/RingClosedPinLaw" = some m.cls) (e0 : T0.heap = h0) (N0 : Fr n0 locs) (Z0 : n0 ≤ h0.size) (V_av : own_I Z h0 av (8 : Int32) LV) (hLV : LV.length = 8) (V_ad : own_D Z h0 ad len DV) (hDV : DV.length = 7) (hne : av ≠ ad) (g_ad : n0 ≤ ad) (hc206 : (3 : Int32) < len) (hj221 : ¬ (3 : Int32) < 0 ∧ (3 : Int32) < len) :
    ∃ (T' : State) (h' : Heap) (locs' : List Loc), Stand p l e room_1 s m args below meth c T' locs' 2 15 ∧ T'.heap = h' ∧ Fr n0 locs' ∧ h0.size ≤ h'.size ∧ own_I Z h' av (8 : Int32) LV ∧ own_D Z h' ad len (DV.set ((3 : Int32)).toNatClampNeg (own_td (LV.getD ((3 : Int32)).toNatClampNeg 0) xb (3 : Int32))) ∧
      ∀ target, Steps p.tables e below (T'.setTop (mkF m 222 #[.val (.int xn), .val (.int xa), .val (.int xb), .val (.int xc), .val (.int len), .val (.int prs), .val (.int last), .val (.ref av), .val (.ref ad), .unset] [])) target → Steps p.tables e below (T0.setTop (mkF m 203 #[.val (.int xn), .val (.int xa), .val (.int xb), .val (.int xc), .val (.int len), .val (.int prs), .val (.int last), .val (.ref av), .val (.ref ad), .unset] [])) target := by
  -- 3. LAWS
  -- pc 218: com/example/wakelaw/wakelaw/RingClosedPinLaw.toDouble
  obtain ⟨T5, X5, e5, st5⟩ := own_call_td X0 hx hZ hw hown (hw _ (List.mem_of_getElem? (i := 27) rfl)) (LV.getD ((3 : Int32)).toNatClampNeg 0) xb (3 : Int32) (W := 2) (g := (mkF m 218 #[.val (.int xn), .val (.int xa), .val (.int xb), .val (.int xc), .val (.int len), .val (.int prs), .val (.int last), .val (.ref av), .val (.ref ad), .unset] [(.int (3 : Int32)), (.int xb), (.int (LV.getD ((3 : Int32)).toNatClampNeg 0)), (.int (3 : Int32)), (.ref ad)])) rfl (by rw [hml]; rfl) (rest := [(.int (3 : Int32)), (.ref ad)]) rfl (by show 2 * 0 + _ ≤ _; exact Nat.le_of_eq rfl) (hb hby at_218) (by decide) (by decide) e0
  obtain ⟨T6, h6, X6, e6, W6, V_ad_221, st6⟩ := own_dast X5 hx hZ e5 V_ad hj221 (by simp only [List.length_set, hDV]; decide) (g := (mkF m 221 #[.val (.int xn), .val (.int xa), .val (.int xb), .val (.int xc), .val (.int len), .val (.int prs), .val (.int last), .val (.ref av), .val (.ref ad), .unset] [(.double (own_td (LV.getD ((3 : Int32)).toNatClampNeg 0) xb (3 : Int32))), (.int (3 : Int32)), (.ref ad)])) rfl rfl (hb hby at_221)
  have K6 : Keep h0 h6 [ad] := (Keep.refl h0 [ad]).wr W6 (Or.inl (List.mem_of_getElem? (i := 0) rfl))
  have N6 := Fr.snoc X6 N0 g_ad
  refine ⟨T6, _, _, X6, e6, N6, (Nat.le_trans (Nat.le_refl _) (Keep.of_wr W6).1), (V_av.other W6 hne), V_ad_221, fun target kt => ?_⟩
  -- 4. STEPS
  show Steps p.tables e below (T0.setTop (mkF m 203 #[.val (.int xn), .val (.int xa), .val (.int xb), .val (.int xc), .val (.int len), .val (.int prs), .val (.int last), .val (.ref av), .val (.ref ad), .unset] [])) _
  refine XS.iload X0.here hx rfl (hb hby at_203) rfl ?_
  show Steps p.tables e below (T0.setTop (mkF m 205 #[.val (.int xn), .val (.int xa), .val (.int xb), .val (.int xc), .val (.int len), .val (.int prs), .val (.int last), .val (.ref av), .val (.ref ad), .unset] [(.int len)])) _
  refine XS.iconst X0.here hx rfl (hb hby at_205) ?_
  show Steps p.tables e below (T0.setTop (mkF m 206 #[.val (.int xn), .val (.int xa), .val (.int xb), .val (.int xc), .val (.int len), .val (.int prs), .val (.int last), .val (.ref av), .val (.ref ad), .unset] [(.int (3 : Int32)), (.int len)])) _
  refine XS.icmpNo X0.here hx rfl (hb hby at_206) rfl (tlt hc206).2.2.2 ?_
  show Steps p.tables e below (T0.setTop (mkF m 209 #[.val (.int xn), .val (.int xa), .val (.int xb), .val (.int xc), .val (.int len), .val (.int prs), .val (.int last), .val (.ref av), .val (.ref ad), .unset] [])) _
  refine XS.aload X0.here hx rfl (hb hby at_209) rfl rfl ?_
  show Steps p.tables e below (T0.setTop (mkF m 211 #[.val (.int xn), .val (.int xa), .val (.int xb), .val (.int xc), .val (.int len), .val (.int prs), .val (.int last), .val (.ref av), .val (.ref ad), .unset] [(.ref ad)])) _
  refine XS.iconst X0.here hx rfl (hb hby at_211) ?_
  show Steps p.tables e below (T0.setTop (mkF m 212 #[.val (.int xn), .val (.int xa), .val (.int xb), .val (.int xc), .val (.int len), .val (.int prs), .val (.int last), .val (.ref av), .val (.ref ad), .unset] [(.int (3 : Int32)), (.ref ad)])) _
  refine XS.aload X0.here hx rfl (hb hby at_212) rfl rfl ?_
  show Steps p.tables e below (T0.setTop (mkF m 214 #[.val (.int xn), .val (.int xa), .val (.int xb), .val (.int xc), .val (.int len), .val (.int prs), .val (.int last), .val (.ref av), .val (.ref ad), .unset] [(.ref av), (.int (3 : Int32)), (.ref ad)])) _
  refine XS.iconst X0.here hx rfl (hb hby at_214) ?_
  show Steps p.tables e below (T0.setTop (mkF m 215 #[.val (.int xn), .val (.int xa), .val (.int xb), .val (.int xc), .val (.int len), .val (.int prs), .val (.int last), .val (.ref av), .val (.ref ad), .unset] [(.int (3 : Int32)), (.ref av), (.int (3 : Int32)), (.ref ad)])) _
  refine own_iald X0 hx hZ e0 V_av (by decide) (g := (mkF m 215 #[.val (.int xn), .val (.int xa), .val (.int xb), .val (.int xc), .val (.int len), .val (.int prs), .val (.int last), .val (.ref av), .val (.ref ad), .unset] [(.int (3 : Int32)), (.ref av), (.int (3 : Int32)), (.ref ad)])) rfl rfl (hb hby at_215) _ ?_
  show Steps p.tables e below (T0.setTop (mkF m 216 #[.val (.int xn), .val (.int xa), .val (.int xb), .val (.int xc), .val (.int len), .val (.int prs), .val (.int last), .val (.ref av), .val (.ref ad), .unset] [(.int (LV.getD ((3 : Int32)).toNatClampNeg 0)), (.int (3 : Int32)), (.ref ad)])) _
  refine XS.iloadN X0.here hx rfl (hb hby at_216) rfl ?_
  show Steps p.tables e below (T0.setTop (mkF m 217 #[.val (.int xn), .val (.int xa), .val (.int xb), .val (.int xc), .val (.int len), .val (.int prs), .val (.int last), .val (.ref av), .val (.ref ad), .unset] [(.int xb), (.int (LV.getD ((3 : Int32)).toNatClampNeg 0)), (.int (3 : Int32)), (.ref ad)])) _
  refine XS.iconst X0.here hx rfl (hb hby at_217) ?_
  show Steps p.tables e below (T0.setTop (mkF m 218 #[.val (.int xn), .val (.int xa), .val (.int xb), .val (.int xc), .val (.int len), .val (.int prs), .val (.int last), .val (.ref av), .val (.ref ad), .unset] [(.int (3 : Int32)), (.int xb), (.int (LV.getD ((3 : Int32)).toNatClampNeg 0)), (.int (3 : Int32)), (.ref ad)])) _
  refine st5 _ ?_
  show Steps p.tables e below (T5.setTop (mkF m 221 #[.val (.int xn), .val (.int xa), .val (.int xb), .val (.int xc), .val (.int len), .val (.int prs), .val (.int last), .val (.ref av), .val (.ref ad), .unset] [(.double (own_td (LV.getD ((3 : Int32)).toNatClampNeg 0) xb (3 : Int32))), (.int (3 : Int32)), (.ref ad)])) _
  refine st6 _ ?_
  exact kt
set_option maxRecDepth 65536 in
set_option maxHeartbeats 40000000 in
theorem own_sD4t {p : Program} {l : Launch} {e : Env} {s : State} {m : MethodId} {args : Array Value} {below : List Frame} {meth : Method} {c : Code} {T0 : State} {locs : List Loc} {Z : State} {a0 : Array Value} {h0 : Heap} {n0 : Nat} (xn : Int32) (xa : Int32) (xb : Int32) (xc : Int32) (len : Int32) (prs : Int32) (last : Int32) (av : Addr) (ad : Addr) (LV : List Int32) (DV : List UInt64)
    (X0 : Stand p l e room_1 s m args below meth c T0 locs 2 15) (hx : p.tables.exec = Jvm.exec) (hZ : Z.Warmed39 s.vm) (hw : ∀ d ∈ tables_1, d.before a0 Z = true) (hby : c.code = code) (hml : c.maxLocals = 10) (hown : s.vm.findClass "com/example/wakelaw/wakelaw/RingClosedPinLaw" = some m.cls) (e0 : T0.heap = h0) (N0 : Fr n0 locs) (Z0 : n0 ≤ h0.size) (V_av : own_I Z h0 av (8 : Int32) LV) (hLV : LV.length = 8) (V_ad : own_D Z h0 ad len DV) (hDV : DV.length = 7) (hne : av ≠ ad) (hc225 : ¬ ((4 : Int32) < len)) :
    ∃ (T' : State) (h' : Heap) (locs' : List Loc), Stand p l e room_1 s m args below meth c T' locs' 2 15 ∧ T'.heap = h' ∧ Fr n0 locs' ∧ h0.size ≤ h'.size ∧ own_I Z h' av (8 : Int32) LV ∧ own_D Z h' ad len DV ∧
      ∀ target, Steps p.tables e below (T'.setTop (mkF m 241 #[.val (.int xn), .val (.int xa), .val (.int xb), .val (.int xc), .val (.int len), .val (.int prs), .val (.int last), .val (.ref av), .val (.ref ad), .unset] [])) target → Steps p.tables e below (T0.setTop (mkF m 222 #[.val (.int xn), .val (.int xa), .val (.int xb), .val (.int xc), .val (.int len), .val (.int prs), .val (.int last), .val (.ref av), .val (.ref ad), .unset] [])) target := by
  -- 3. LAWS

  refine ⟨T0, _, _, X0, e0, N0, (Nat.le_refl _), V_av, V_ad, fun target kt => ?_⟩
  -- 4. STEPS
  show Steps p.tables e below (T0.setTop (mkF m 222 #[.val (.int xn), .val (.int xa), .val (.int xb), .val (.int xc), .val (.int len), .val (.int prs), .val (.int last), .val (.ref av), .val (.ref ad), .unset] [])) _
  refine XS.iload X0.here hx rfl (hb hby at_222) rfl ?_
  show Steps p.tables e below (T0.setTop (mkF m 224 #[.val (.int xn), .val (.int xa), .val (.int xb), .val (.int xc), .val (.int len), .val (.int prs), .val (.int last), .val (.ref av), .val (.ref ad), .unset] [(.int len)])) _
  refine XS.iconst X0.here hx rfl (hb hby at_224) ?_
  show Steps p.tables e below (T0.setTop (mkF m 225 #[.val (.int xn), .val (.int xa), .val (.int xb), .val (.int xc), .val (.int len), .val (.int prs), .val (.int last), .val (.ref av), .val (.ref ad), .unset] [(.int (4 : Int32)), (.int len)])) _
  refine XS.icmpYes X0.here hx rfl (pc0 := 225) (pc' := 241) rfl (hb hby at_225) rfl (flt hc225).2.2.2 (by decide) (by decide) ?_
  exact kt
set_option maxRecDepth 65536 in
set_option maxHeartbeats 40000000 in
theorem own_sD4f {p : Program} {l : Launch} {e : Env} {s : State} {m : MethodId} {args : Array Value} {below : List Frame} {meth : Method} {c : Code} {T0 : State} {locs : List Loc} {Z : State} {a0 : Array Value} {h0 : Heap} {n0 : Nat} (xn : Int32) (xa : Int32) (xb : Int32) (xc : Int32) (len : Int32) (prs : Int32) (last : Int32) (av : Addr) (ad : Addr) (LV : List Int32) (DV : List UInt64)
    (X0 : Stand p l e room_1 s m args below meth c T0 locs 2 15) (hx : p.tables.exec = Jvm.exec) (hZ : Z.Warmed39 s.vm) (hw : ∀ d ∈ tables_1, d.before a0 Z = true) (hby : c.code = code) (hml : c.maxLocals = 10) (hown : s.vm.findClass "com/example/wakelaw/wakelaw/RingClosedPinLaw" = some m.cls) (e0 : T0.heap = h0) (N0 : Fr n0 locs) (Z0 : n0 ≤ h0.size) (V_av : own_I Z h0 av (8 : Int32) LV) (hLV : LV.length = 8) (V_ad : own_D Z h0 ad len DV) (hDV : DV.length = 7) (hne : av ≠ ad) (g_ad : n0 ≤ ad) (hc225 : (4 : Int32) < len) (hj240 : ¬ (4 : Int32) < 0 ∧ (4 : Int32) < len) :
    ∃ (T' : State) (h' : Heap) (locs' : List Loc), Stand p l e room_1 s m args below meth c T' locs' 2 15 ∧ T'.heap = h' ∧ Fr n0 locs' ∧ h0.size ≤ h'.size ∧ own_I Z h' av (8 : Int32) LV ∧ own_D Z h' ad len (DV.set ((4 : Int32)).toNatClampNeg (own_td (LV.getD ((4 : Int32)).toNatClampNeg 0) xb (4 : Int32))) ∧
      ∀ target, Steps p.tables e below (T'.setTop (mkF m 241 #[.val (.int xn), .val (.int xa), .val (.int xb), .val (.int xc), .val (.int len), .val (.int prs), .val (.int last), .val (.ref av), .val (.ref ad), .unset] [])) target → Steps p.tables e below (T0.setTop (mkF m 222 #[.val (.int xn), .val (.int xa), .val (.int xb), .val (.int xc), .val (.int len), .val (.int prs), .val (.int last), .val (.ref av), .val (.ref ad), .unset] [])) target := by
  -- 3. LAWS
  -- pc 237: com/example/wakelaw/wakelaw/RingClosedPinLaw.toDouble
  obtain ⟨T5, X5, e5, st5⟩ := own_call_td X0 hx hZ hw hown (hw _ (List.mem_of_getElem? (i := 27) rfl)) (LV.getD ((4 : Int32)).toNatClampNeg 0) xb (4 : Int32) (W := 2) (g := (mkF m 237 #[.val (.int xn), .val (.int xa), .val (.int xb), .val (.int xc), .val (.int len), .val (.int prs), .val (.int last), .val (.ref av), .val (.ref ad), .unset] [(.int (4 : Int32)), (.int xb), (.int (LV.getD ((4 : Int32)).toNatClampNeg 0)), (.int (4 : Int32)), (.ref ad)])) rfl (by rw [hml]; rfl) (rest := [(.int (4 : Int32)), (.ref ad)]) rfl (by show 2 * 0 + _ ≤ _; exact Nat.le_of_eq rfl) (hb hby at_237) (by decide) (by decide) e0
  obtain ⟨T6, h6, X6, e6, W6, V_ad_240, st6⟩ := own_dast X5 hx hZ e5 V_ad hj240 (by simp only [List.length_set, hDV]; decide) (g := (mkF m 240 #[.val (.int xn), .val (.int xa), .val (.int xb), .val (.int xc), .val (.int len), .val (.int prs), .val (.int last), .val (.ref av), .val (.ref ad), .unset] [(.double (own_td (LV.getD ((4 : Int32)).toNatClampNeg 0) xb (4 : Int32))), (.int (4 : Int32)), (.ref ad)])) rfl rfl (hb hby at_240)
  have K6 : Keep h0 h6 [ad] := (Keep.refl h0 [ad]).wr W6 (Or.inl (List.mem_of_getElem? (i := 0) rfl))
  have N6 := Fr.snoc X6 N0 g_ad
  refine ⟨T6, _, _, X6, e6, N6, (Nat.le_trans (Nat.le_refl _) (Keep.of_wr W6).1), (V_av.other W6 hne), V_ad_240, fun target kt => ?_⟩
  -- 4. STEPS
  show Steps p.tables e below (T0.setTop (mkF m 222 #[.val (.int xn), .val (.int xa), .val (.int xb), .val (.int xc), .val (.int len), .val (.int prs), .val (.int last), .val (.ref av), .val (.ref ad), .unset] [])) _
  refine XS.iload X0.here hx rfl (hb hby at_222) rfl ?_
  show Steps p.tables e below (T0.setTop (mkF m 224 #[.val (.int xn), .val (.int xa), .val (.int xb), .val (.int xc), .val (.int len), .val (.int prs), .val (.int last), .val (.ref av), .val (.ref ad), .unset] [(.int len)])) _
  refine XS.iconst X0.here hx rfl (hb hby at_224) ?_
  show Steps p.tables e below (T0.setTop (mkF m 225 #[.val (.int xn), .val (.int xa), .val (.int xb), .val (.int xc), .val (.int len), .val (.int prs), .val (.int last), .val (.ref av), .val (.ref ad), .unset] [(.int (4 : Int32)), (.int len)])) _
  refine XS.icmpNo X0.here hx rfl (hb hby at_225) rfl (tlt hc225).2.2.2 ?_
  show Steps p.tables e below (T0.setTop (mkF m 228 #[.val (.int xn), .val (.int xa), .val (.int xb), .val (.int xc), .val (.int len), .val (.int prs), .val (.int last), .val (.ref av), .val (.ref ad), .unset] [])) _
  refine XS.aload X0.here hx rfl (hb hby at_228) rfl rfl ?_
  show Steps p.tables e below (T0.setTop (mkF m 230 #[.val (.int xn), .val (.int xa), .val (.int xb), .val (.int xc), .val (.int len), .val (.int prs), .val (.int last), .val (.ref av), .val (.ref ad), .unset] [(.ref ad)])) _
  refine XS.iconst X0.here hx rfl (hb hby at_230) ?_
  show Steps p.tables e below (T0.setTop (mkF m 231 #[.val (.int xn), .val (.int xa), .val (.int xb), .val (.int xc), .val (.int len), .val (.int prs), .val (.int last), .val (.ref av), .val (.ref ad), .unset] [(.int (4 : Int32)), (.ref ad)])) _
  refine XS.aload X0.here hx rfl (hb hby at_231) rfl rfl ?_
  show Steps p.tables e below (T0.setTop (mkF m 233 #[.val (.int xn), .val (.int xa), .val (.int xb), .val (.int xc), .val (.int len), .val (.int prs), .val (.int last), .val (.ref av), .val (.ref ad), .unset] [(.ref av), (.int (4 : Int32)), (.ref ad)])) _
  refine XS.iconst X0.here hx rfl (hb hby at_233) ?_
  show Steps p.tables e below (T0.setTop (mkF m 234 #[.val (.int xn), .val (.int xa), .val (.int xb), .val (.int xc), .val (.int len), .val (.int prs), .val (.int last), .val (.ref av), .val (.ref ad), .unset] [(.int (4 : Int32)), (.ref av), (.int (4 : Int32)), (.ref ad)])) _
  refine own_iald X0 hx hZ e0 V_av (by decide) (g := (mkF m 234 #[.val (.int xn), .val (.int xa), .val (.int xb), .val (.int xc), .val (.int len), .val (.int prs), .val (.int last), .val (.ref av), .val (.ref ad), .unset] [(.int (4 : Int32)), (.ref av), (.int (4 : Int32)), (.ref ad)])) rfl rfl (hb hby at_234) _ ?_
  show Steps p.tables e below (T0.setTop (mkF m 235 #[.val (.int xn), .val (.int xa), .val (.int xb), .val (.int xc), .val (.int len), .val (.int prs), .val (.int last), .val (.ref av), .val (.ref ad), .unset] [(.int (LV.getD ((4 : Int32)).toNatClampNeg 0)), (.int (4 : Int32)), (.ref ad)])) _
  refine XS.iloadN X0.here hx rfl (hb hby at_235) rfl ?_
  show Steps p.tables e below (T0.setTop (mkF m 236 #[.val (.int xn), .val (.int xa), .val (.int xb), .val (.int xc), .val (.int len), .val (.int prs), .val (.int last), .val (.ref av), .val (.ref ad), .unset] [(.int xb), (.int (LV.getD ((4 : Int32)).toNatClampNeg 0)), (.int (4 : Int32)), (.ref ad)])) _
  refine XS.iconst X0.here hx rfl (hb hby at_236) ?_
  show Steps p.tables e below (T0.setTop (mkF m 237 #[.val (.int xn), .val (.int xa), .val (.int xb), .val (.int xc), .val (.int len), .val (.int prs), .val (.int last), .val (.ref av), .val (.ref ad), .unset] [(.int (4 : Int32)), (.int xb), (.int (LV.getD ((4 : Int32)).toNatClampNeg 0)), (.int (4 : Int32)), (.ref ad)])) _
  refine st5 _ ?_
  show Steps p.tables e below (T5.setTop (mkF m 240 #[.val (.int xn), .val (.int xa), .val (.int xb), .val (.int xc), .val (.int len), .val (.int prs), .val (.int last), .val (.ref av), .val (.ref ad), .unset] [(.double (own_td (LV.getD ((4 : Int32)).toNatClampNeg 0) xb (4 : Int32))), (.int (4 : Int32)), (.ref ad)])) _
  refine st6 _ ?_
  exact kt
set_option maxRecDepth 65536 in
set_option maxHeartbeats 40000000 in
theorem own_sD5t {p : Program} {l : Launch} {e : Env} {s : State} {m : MethodId} {args : Array Value} {below : List Frame} {meth : Method} {c : Code} {T0 : State} {locs : List Loc} {Z : State} {a0 : Array Value} {h0 : Heap} {n0 : Nat} (xn : Int32) (xa : Int32) (xb : Int32) (xc : Int32) (len : Int32) (prs : Int32) (last : Int32) (av : Addr) (ad : Addr) (LV : List Int32) (DV : List UInt64)
    (X0 : Stand p l e room_1 s m args below meth c T0 locs 2 15) (hx : p.tables.exec = Jvm.exec) (hZ : Z.Warmed39 s.vm) (hw : ∀ d ∈ tables_1, d.before a0 Z = true) (hby : c.code = code) (hml : c.maxLocals = 10) (hown : s.vm.findClass "com/example/wakelaw/wakelaw/RingClosedPinLaw" = some m.cls) (e0 : T0.heap = h0) (N0 : Fr n0 locs) (Z0 : n0 ≤ h0.size) (V_av : own_I Z h0 av (8 : Int32) LV) (hLV : LV.length = 8) (V_ad : own_D Z h0 ad len DV) (hDV : DV.length = 7) (hne : av ≠ ad) (hc244 : ¬ ((5 : Int32) < len)) :
    ∃ (T' : State) (h' : Heap) (locs' : List Loc), Stand p l e room_1 s m args below meth c T' locs' 2 15 ∧ T'.heap = h' ∧ Fr n0 locs' ∧ h0.size ≤ h'.size ∧ own_I Z h' av (8 : Int32) LV ∧ own_D Z h' ad len DV ∧
      ∀ target, Steps p.tables e below (T'.setTop (mkF m 260 #[.val (.int xn), .val (.int xa), .val (.int xb), .val (.int xc), .val (.int len), .val (.int prs), .val (.int last), .val (.ref av), .val (.ref ad), .unset] [])) target → Steps p.tables e below (T0.setTop (mkF m 241 #[.val (.int xn), .val (.int xa), .val (.int xb), .val (.int xc), .val (.int len), .val (.int prs), .val (.int last), .val (.ref av), .val (.ref ad), .unset] [])) target := by
  -- 3. LAWS

  refine ⟨T0, _, _, X0, e0, N0, (Nat.le_refl _), V_av, V_ad, fun target kt => ?_⟩
  -- 4. STEPS
  show Steps p.tables e below (T0.setTop (mkF m 241 #[.val (.int xn), .val (.int xa), .val (.int xb), .val (.int xc), .val (.int len), .val (.int prs), .val (.int last), .val (.ref av), .val (.ref ad), .unset] [])) _
  refine XS.iload X0.here hx rfl (hb hby at_241) rfl ?_
  show Steps p.tables e below (T0.setTop (mkF m 243 #[.val (.int xn), .val (.int xa), .val (.int xb), .val (.int xc), .val (.int len), .val (.int prs), .val (.int last), .val (.ref av), .val (.ref ad), .unset] [(.int len)])) _
  refine XS.iconst X0.here hx rfl (hb hby at_243) ?_
  show Steps p.tables e below (T0.setTop (mkF m 244 #[.val (.int xn), .val (.int xa), .val (.int xb), .val (.int xc), .val (.int len), .val (.int prs), .val (.int last), .val (.ref av), .val (.ref ad), .unset] [(.int (5 : Int32)), (.int len)])) _
  refine XS.icmpYes X0.here hx rfl (pc0 := 244) (pc' := 260) rfl (hb hby at_244) rfl (flt hc244).2.2.2 (by decide) (by decide) ?_
  exact kt
set_option maxRecDepth 65536 in
set_option maxHeartbeats 40000000 in
theorem own_sD5f {p : Program} {l : Launch} {e : Env} {s : State} {m : MethodId} {args : Array Value} {below : List Frame} {meth : Method} {c : Code} {T0 : State} {locs : List Loc} {Z : State} {a0 : Array Value} {h0 : Heap} {n0 : Nat} (xn : Int32) (xa : Int32) (xb : Int32) (xc : Int32) (len : Int32) (prs : Int32) (last : Int32) (av : Addr) (ad : Addr) (LV : List Int32) (DV : List UInt64)
    (X0 : Stand p l e room_1 s m args below meth c T0 locs 2 15) (hx : p.tables.exec = Jvm.exec) (hZ : Z.Warmed39 s.vm) (hw : ∀ d ∈ tables_1, d.before a0 Z = true) (hby : c.code = code) (hml : c.maxLocals = 10) (hown : s.vm.findClass "com/example/wakelaw/wakelaw/RingClosedPinLaw" = some m.cls) (e0 : T0.heap = h0) (N0 : Fr n0 locs) (Z0 : n0 ≤ h0.size) (V_av : own_I Z h0 av (8 : Int32) LV) (hLV : LV.length = 8) (V_ad : own_D Z h0 ad len DV) (hDV : DV.length = 7) (hne : av ≠ ad) (g_ad : n0 ≤ ad) (hc244 : (5 : Int32) < len) (hj259 : ¬ (5 : Int32) < 0 ∧ (5 : Int32) < len) :
    ∃ (T' : State) (h' : Heap) (locs' : List Loc), Stand p l e room_1 s m args below meth c T' locs' 2 15 ∧ T'.heap = h' ∧ Fr n0 locs' ∧ h0.size ≤ h'.size ∧ own_I Z h' av (8 : Int32) LV ∧ own_D Z h' ad len (DV.set ((5 : Int32)).toNatClampNeg (own_td (LV.getD ((5 : Int32)).toNatClampNeg 0) xb (5 : Int32))) ∧
      ∀ target, Steps p.tables e below (T'.setTop (mkF m 260 #[.val (.int xn), .val (.int xa), .val (.int xb), .val (.int xc), .val (.int len), .val (.int prs), .val (.int last), .val (.ref av), .val (.ref ad), .unset] [])) target → Steps p.tables e below (T0.setTop (mkF m 241 #[.val (.int xn), .val (.int xa), .val (.int xb), .val (.int xc), .val (.int len), .val (.int prs), .val (.int last), .val (.ref av), .val (.ref ad), .unset] [])) target := by
  -- 3. LAWS
  -- pc 256: com/example/wakelaw/wakelaw/RingClosedPinLaw.toDouble
  obtain ⟨T5, X5, e5, st5⟩ := own_call_td X0 hx hZ hw hown (hw _ (List.mem_of_getElem? (i := 27) rfl)) (LV.getD ((5 : Int32)).toNatClampNeg 0) xb (5 : Int32) (W := 2) (g := (mkF m 256 #[.val (.int xn), .val (.int xa), .val (.int xb), .val (.int xc), .val (.int len), .val (.int prs), .val (.int last), .val (.ref av), .val (.ref ad), .unset] [(.int (5 : Int32)), (.int xb), (.int (LV.getD ((5 : Int32)).toNatClampNeg 0)), (.int (5 : Int32)), (.ref ad)])) rfl (by rw [hml]; rfl) (rest := [(.int (5 : Int32)), (.ref ad)]) rfl (by show 2 * 0 + _ ≤ _; exact Nat.le_of_eq rfl) (hb hby at_256) (by decide) (by decide) e0
  obtain ⟨T6, h6, X6, e6, W6, V_ad_259, st6⟩ := own_dast X5 hx hZ e5 V_ad hj259 (by simp only [List.length_set, hDV]; decide) (g := (mkF m 259 #[.val (.int xn), .val (.int xa), .val (.int xb), .val (.int xc), .val (.int len), .val (.int prs), .val (.int last), .val (.ref av), .val (.ref ad), .unset] [(.double (own_td (LV.getD ((5 : Int32)).toNatClampNeg 0) xb (5 : Int32))), (.int (5 : Int32)), (.ref ad)])) rfl rfl (hb hby at_259)
  have K6 : Keep h0 h6 [ad] := (Keep.refl h0 [ad]).wr W6 (Or.inl (List.mem_of_getElem? (i := 0) rfl))
  have N6 := Fr.snoc X6 N0 g_ad
  refine ⟨T6, _, _, X6, e6, N6, (Nat.le_trans (Nat.le_refl _) (Keep.of_wr W6).1), (V_av.other W6 hne), V_ad_259, fun target kt => ?_⟩
  -- 4. STEPS
  show Steps p.tables e below (T0.setTop (mkF m 241 #[.val (.int xn), .val (.int xa), .val (.int xb), .val (.int xc), .val (.int len), .val (.int prs), .val (.int last), .val (.ref av), .val (.ref ad), .unset] [])) _
  refine XS.iload X0.here hx rfl (hb hby at_241) rfl ?_
  show Steps p.tables e below (T0.setTop (mkF m 243 #[.val (.int xn), .val (.int xa), .val (.int xb), .val (.int xc), .val (.int len), .val (.int prs), .val (.int last), .val (.ref av), .val (.ref ad), .unset] [(.int len)])) _
  refine XS.iconst X0.here hx rfl (hb hby at_243) ?_
  show Steps p.tables e below (T0.setTop (mkF m 244 #[.val (.int xn), .val (.int xa), .val (.int xb), .val (.int xc), .val (.int len), .val (.int prs), .val (.int last), .val (.ref av), .val (.ref ad), .unset] [(.int (5 : Int32)), (.int len)])) _
  refine XS.icmpNo X0.here hx rfl (hb hby at_244) rfl (tlt hc244).2.2.2 ?_
  show Steps p.tables e below (T0.setTop (mkF m 247 #[.val (.int xn), .val (.int xa), .val (.int xb), .val (.int xc), .val (.int len), .val (.int prs), .val (.int last), .val (.ref av), .val (.ref ad), .unset] [])) _
  refine XS.aload X0.here hx rfl (hb hby at_247) rfl rfl ?_
  show Steps p.tables e below (T0.setTop (mkF m 249 #[.val (.int xn), .val (.int xa), .val (.int xb), .val (.int xc), .val (.int len), .val (.int prs), .val (.int last), .val (.ref av), .val (.ref ad), .unset] [(.ref ad)])) _
  refine XS.iconst X0.here hx rfl (hb hby at_249) ?_
  show Steps p.tables e below (T0.setTop (mkF m 250 #[.val (.int xn), .val (.int xa), .val (.int xb), .val (.int xc), .val (.int len), .val (.int prs), .val (.int last), .val (.ref av), .val (.ref ad), .unset] [(.int (5 : Int32)), (.ref ad)])) _
  refine XS.aload X0.here hx rfl (hb hby at_250) rfl rfl ?_
  show Steps p.tables e below (T0.setTop (mkF m 252 #[.val (.int xn), .val (.int xa), .val (.int xb), .val (.int xc), .val (.int len), .val (.int prs), .val (.int last), .val (.ref av), .val (.ref ad), .unset] [(.ref av), (.int (5 : Int32)), (.ref ad)])) _
  refine XS.iconst X0.here hx rfl (hb hby at_252) ?_
  show Steps p.tables e below (T0.setTop (mkF m 253 #[.val (.int xn), .val (.int xa), .val (.int xb), .val (.int xc), .val (.int len), .val (.int prs), .val (.int last), .val (.ref av), .val (.ref ad), .unset] [(.int (5 : Int32)), (.ref av), (.int (5 : Int32)), (.ref ad)])) _
  refine own_iald X0 hx hZ e0 V_av (by decide) (g := (mkF m 253 #[.val (.int xn), .val (.int xa), .val (.int xb), .val (.int xc), .val (.int len), .val (.int prs), .val (.int last), .val (.ref av), .val (.ref ad), .unset] [(.int (5 : Int32)), (.ref av), (.int (5 : Int32)), (.ref ad)])) rfl rfl (hb hby at_253) _ ?_
  show Steps p.tables e below (T0.setTop (mkF m 254 #[.val (.int xn), .val (.int xa), .val (.int xb), .val (.int xc), .val (.int len), .val (.int prs), .val (.int last), .val (.ref av), .val (.ref ad), .unset] [(.int (LV.getD ((5 : Int32)).toNatClampNeg 0)), (.int (5 : Int32)), (.ref ad)])) _
  refine XS.iloadN X0.here hx rfl (hb hby at_254) rfl ?_
  show Steps p.tables e below (T0.setTop (mkF m 255 #[.val (.int xn), .val (.int xa), .val (.int xb), .val (.int xc), .val (.int len), .val (.int prs), .val (.int last), .val (.ref av), .val (.ref ad), .unset] [(.int xb), (.int (LV.getD ((5 : Int32)).toNatClampNeg 0)), (.int (5 : Int32)), (.ref ad)])) _
  refine XS.iconst X0.here hx rfl (hb hby at_255) ?_
  show Steps p.tables e below (T0.setTop (mkF m 256 #[.val (.int xn), .val (.int xa), .val (.int xb), .val (.int xc), .val (.int len), .val (.int prs), .val (.int last), .val (.ref av), .val (.ref ad), .unset] [(.int (5 : Int32)), (.int xb), (.int (LV.getD ((5 : Int32)).toNatClampNeg 0)), (.int (5 : Int32)), (.ref ad)])) _
  refine st5 _ ?_
  show Steps p.tables e below (T5.setTop (mkF m 259 #[.val (.int xn), .val (.int xa), .val (.int xb), .val (.int xc), .val (.int len), .val (.int prs), .val (.int last), .val (.ref av), .val (.ref ad), .unset] [(.double (own_td (LV.getD ((5 : Int32)).toNatClampNeg 0) xb (5 : Int32))), (.int (5 : Int32)), (.ref ad)])) _
  refine st6 _ ?_
  exact kt
set_option maxRecDepth 65536 in
set_option maxHeartbeats 40000000 in
theorem own_sD6t {p : Program} {l : Launch} {e : Env} {s : State} {m : MethodId} {args : Array Value} {below : List Frame} {meth : Method} {c : Code} {T0 : State} {locs : List Loc} {Z : State} {a0 : Array Value} {h0 : Heap} {n0 : Nat} (xn : Int32) (xa : Int32) (xb : Int32) (xc : Int32) (len : Int32) (prs : Int32) (last : Int32) (av : Addr) (ad : Addr) (LV : List Int32) (DV : List UInt64)
    (X0 : Stand p l e room_1 s m args below meth c T0 locs 2 15) (hx : p.tables.exec = Jvm.exec) (hZ : Z.Warmed39 s.vm) (hw : ∀ d ∈ tables_1, d.before a0 Z = true) (hby : c.code = code) (hml : c.maxLocals = 10) (hown : s.vm.findClass "com/example/wakelaw/wakelaw/RingClosedPinLaw" = some m.cls) (e0 : T0.heap = h0) (N0 : Fr n0 locs) (Z0 : n0 ≤ h0.size) (V_av : own_I Z h0 av (8 : Int32) LV) (hLV : LV.length = 8) (V_ad : own_D Z h0 ad len DV) (hDV : DV.length = 7) (hne : av ≠ ad) (hc264 : ¬ ((6 : Int32) < len)) :
    ∃ (T' : State) (h' : Heap) (locs' : List Loc), Stand p l e room_1 s m args below meth c T' locs' 2 15 ∧ T'.heap = h' ∧ Fr n0 locs' ∧ h0.size ≤ h'.size ∧ own_I Z h' av (8 : Int32) LV ∧ own_D Z h' ad len DV ∧
      ∀ target, Steps p.tables e below (T'.setTop (mkF m 283 #[.val (.int xn), .val (.int xa), .val (.int xb), .val (.int xc), .val (.int len), .val (.int prs), .val (.int last), .val (.ref av), .val (.ref ad), .unset] [])) target → Steps p.tables e below (T0.setTop (mkF m 260 #[.val (.int xn), .val (.int xa), .val (.int xb), .val (.int xc), .val (.int len), .val (.int prs), .val (.int last), .val (.ref av), .val (.ref ad), .unset] [])) target := by
  -- 3. LAWS

  refine ⟨T0, _, _, X0, e0, N0, (Nat.le_refl _), V_av, V_ad, fun target kt => ?_⟩
  -- 4. STEPS
  show Steps p.tables e below (T0.setTop (mkF m 260 #[.val (.int xn), .val (.int xa), .val (.int xb), .val (.int xc), .val (.int len), .val (.int prs), .val (.int last), .val (.ref av), .val (.ref ad), .unset] [])) _
  refine XS.iload X0.here hx rfl (hb hby at_260) rfl ?_
  show Steps p.tables e below (T0.setTop (mkF m 262 #[.val (.int xn), .val (.int xa), .val (.int xb), .val (.int xc), .val (.int len), .val (.int prs), .val (.int last), .val (.ref av), .val (.ref ad), .unset] [(.int len)])) _
  refine XS.bipush X0.here hx rfl (hb hby at_262) ?_
  show Steps p.tables e below (T0.setTop (mkF m 264 #[.val (.int xn), .val (.int xa), .val (.int xb), .val (.int xc), .val (.int len), .val (.int prs), .val (.int last), .val (.ref av), .val (.ref ad), .unset] [(.int (6 : Int32)), (.int len)])) _
  refine XS.icmpYes X0.here hx rfl (pc0 := 264) (pc' := 283) rfl (hb hby at_264) rfl (flt hc264).2.2.2 (by decide) (by decide) ?_
  exact kt
set_option maxRecDepth 65536 in
set_option maxHeartbeats 40000000 in
theorem own_sD6f {p : Program} {l : Launch} {e : Env} {s : State} {m : MethodId} {args : Array Value} {below : List Frame} {meth : Method} {c : Code} {T0 : State} {locs : List Loc} {Z : State} {a0 : Array Value} {h0 : Heap} {n0 : Nat} (xn : Int32) (xa : Int32) (xb : Int32) (xc : Int32) (len : Int32) (prs : Int32) (last : Int32) (av : Addr) (ad : Addr) (LV : List Int32) (DV : List UInt64)
    (X0 : Stand p l e room_1 s m args below meth c T0 locs 2 15) (hx : p.tables.exec = Jvm.exec) (hZ : Z.Warmed39 s.vm) (hw : ∀ d ∈ tables_1, d.before a0 Z = true) (hby : c.code = code) (hml : c.maxLocals = 10) (hown : s.vm.findClass "com/example/wakelaw/wakelaw/RingClosedPinLaw" = some m.cls) (e0 : T0.heap = h0) (N0 : Fr n0 locs) (Z0 : n0 ≤ h0.size) (V_av : own_I Z h0 av (8 : Int32) LV) (hLV : LV.length = 8) (V_ad : own_D Z h0 ad len DV) (hDV : DV.length = 7) (hne : av ≠ ad) (g_ad : n0 ≤ ad) (hc264 : (6 : Int32) < len) (hj282 : ¬ (6 : Int32) < 0 ∧ (6 : Int32) < len) :
    ∃ (T' : State) (h' : Heap) (locs' : List Loc), Stand p l e room_1 s m args below meth c T' locs' 2 15 ∧ T'.heap = h' ∧ Fr n0 locs' ∧ h0.size ≤ h'.size ∧ own_I Z h' av (8 : Int32) LV ∧ own_D Z h' ad len (DV.set ((6 : Int32)).toNatClampNeg (own_td (LV.getD ((6 : Int32)).toNatClampNeg 0) xb (6 : Int32))) ∧
      ∀ target, Steps p.tables e below (T'.setTop (mkF m 283 #[.val (.int xn), .val (.int xa), .val (.int xb), .val (.int xc), .val (.int len), .val (.int prs), .val (.int last), .val (.ref av), .val (.ref ad), .unset] [])) target → Steps p.tables e below (T0.setTop (mkF m 260 #[.val (.int xn), .val (.int xa), .val (.int xb), .val (.int xc), .val (.int len), .val (.int prs), .val (.int last), .val (.ref av), .val (.ref ad), .unset] [])) target := by
  -- 3. LAWS
  -- pc 279: com/example/wakelaw/wakelaw/RingClosedPinLaw.toDouble
  obtain ⟨T5, X5, e5, st5⟩ := own_call_td X0 hx hZ hw hown (hw _ (List.mem_of_getElem? (i := 27) rfl)) (LV.getD ((6 : Int32)).toNatClampNeg 0) xb (6 : Int32) (W := 2) (g := (mkF m 279 #[.val (.int xn), .val (.int xa), .val (.int xb), .val (.int xc), .val (.int len), .val (.int prs), .val (.int last), .val (.ref av), .val (.ref ad), .unset] [(.int (6 : Int32)), (.int xb), (.int (LV.getD ((6 : Int32)).toNatClampNeg 0)), (.int (6 : Int32)), (.ref ad)])) rfl (by rw [hml]; rfl) (rest := [(.int (6 : Int32)), (.ref ad)]) rfl (by show 2 * 0 + _ ≤ _; exact Nat.le_of_eq rfl) (hb hby at_279) (by decide) (by decide) e0
  obtain ⟨T6, h6, X6, e6, W6, V_ad_282, st6⟩ := own_dast X5 hx hZ e5 V_ad hj282 (by simp only [List.length_set, hDV]; decide) (g := (mkF m 282 #[.val (.int xn), .val (.int xa), .val (.int xb), .val (.int xc), .val (.int len), .val (.int prs), .val (.int last), .val (.ref av), .val (.ref ad), .unset] [(.double (own_td (LV.getD ((6 : Int32)).toNatClampNeg 0) xb (6 : Int32))), (.int (6 : Int32)), (.ref ad)])) rfl rfl (hb hby at_282)
  have K6 : Keep h0 h6 [ad] := (Keep.refl h0 [ad]).wr W6 (Or.inl (List.mem_of_getElem? (i := 0) rfl))
  have N6 := Fr.snoc X6 N0 g_ad
  refine ⟨T6, _, _, X6, e6, N6, (Nat.le_trans (Nat.le_refl _) (Keep.of_wr W6).1), (V_av.other W6 hne), V_ad_282, fun target kt => ?_⟩
  -- 4. STEPS
  show Steps p.tables e below (T0.setTop (mkF m 260 #[.val (.int xn), .val (.int xa), .val (.int xb), .val (.int xc), .val (.int len), .val (.int prs), .val (.int last), .val (.ref av), .val (.ref ad), .unset] [])) _
  refine XS.iload X0.here hx rfl (hb hby at_260) rfl ?_
  show Steps p.tables e below (T0.setTop (mkF m 262 #[.val (.int xn), .val (.int xa), .val (.int xb), .val (.int xc), .val (.int len), .val (.int prs), .val (.int last), .val (.ref av), .val (.ref ad), .unset] [(.int len)])) _
  refine XS.bipush X0.here hx rfl (hb hby at_262) ?_
  show Steps p.tables e below (T0.setTop (mkF m 264 #[.val (.int xn), .val (.int xa), .val (.int xb), .val (.int xc), .val (.int len), .val (.int prs), .val (.int last), .val (.ref av), .val (.ref ad), .unset] [(.int (6 : Int32)), (.int len)])) _
  refine XS.icmpNo X0.here hx rfl (hb hby at_264) rfl (tlt hc264).2.2.2 ?_
  show Steps p.tables e below (T0.setTop (mkF m 267 #[.val (.int xn), .val (.int xa), .val (.int xb), .val (.int xc), .val (.int len), .val (.int prs), .val (.int last), .val (.ref av), .val (.ref ad), .unset] [])) _
  refine XS.aload X0.here hx rfl (hb hby at_267) rfl rfl ?_
  show Steps p.tables e below (T0.setTop (mkF m 269 #[.val (.int xn), .val (.int xa), .val (.int xb), .val (.int xc), .val (.int len), .val (.int prs), .val (.int last), .val (.ref av), .val (.ref ad), .unset] [(.ref ad)])) _
  refine XS.bipush X0.here hx rfl (hb hby at_269) ?_
  show Steps p.tables e below (T0.setTop (mkF m 271 #[.val (.int xn), .val (.int xa), .val (.int xb), .val (.int xc), .val (.int len), .val (.int prs), .val (.int last), .val (.ref av), .val (.ref ad), .unset] [(.int (6 : Int32)), (.ref ad)])) _
  refine XS.aload X0.here hx rfl (hb hby at_271) rfl rfl ?_
  show Steps p.tables e below (T0.setTop (mkF m 273 #[.val (.int xn), .val (.int xa), .val (.int xb), .val (.int xc), .val (.int len), .val (.int prs), .val (.int last), .val (.ref av), .val (.ref ad), .unset] [(.ref av), (.int (6 : Int32)), (.ref ad)])) _
  refine XS.bipush X0.here hx rfl (hb hby at_273) ?_
  show Steps p.tables e below (T0.setTop (mkF m 275 #[.val (.int xn), .val (.int xa), .val (.int xb), .val (.int xc), .val (.int len), .val (.int prs), .val (.int last), .val (.ref av), .val (.ref ad), .unset] [(.int (6 : Int32)), (.ref av), (.int (6 : Int32)), (.ref ad)])) _
  refine own_iald X0 hx hZ e0 V_av (by decide) (g := (mkF m 275 #[.val (.int xn), .val (.int xa), .val (.int xb), .val (.int xc), .val (.int len), .val (.int prs), .val (.int last), .val (.ref av), .val (.ref ad), .unset] [(.int (6 : Int32)), (.ref av), (.int (6 : Int32)), (.ref ad)])) rfl rfl (hb hby at_275) _ ?_
  show Steps p.tables e below (T0.setTop (mkF m 276 #[.val (.int xn), .val (.int xa), .val (.int xb), .val (.int xc), .val (.int len), .val (.int prs), .val (.int last), .val (.ref av), .val (.ref ad), .unset] [(.int (LV.getD ((6 : Int32)).toNatClampNeg 0)), (.int (6 : Int32)), (.ref ad)])) _
  refine XS.iloadN X0.here hx rfl (hb hby at_276) rfl ?_
  show Steps p.tables e below (T0.setTop (mkF m 277 #[.val (.int xn), .val (.int xa), .val (.int xb), .val (.int xc), .val (.int len), .val (.int prs), .val (.int last), .val (.ref av), .val (.ref ad), .unset] [(.int xb), (.int (LV.getD ((6 : Int32)).toNatClampNeg 0)), (.int (6 : Int32)), (.ref ad)])) _
  refine XS.bipush X0.here hx rfl (hb hby at_277) ?_
  show Steps p.tables e below (T0.setTop (mkF m 279 #[.val (.int xn), .val (.int xa), .val (.int xb), .val (.int xc), .val (.int len), .val (.int prs), .val (.int last), .val (.ref av), .val (.ref ad), .unset] [(.int (6 : Int32)), (.int xb), (.int (LV.getD ((6 : Int32)).toNatClampNeg 0)), (.int (6 : Int32)), (.ref ad)])) _
  refine st5 _ ?_
  show Steps p.tables e below (T5.setTop (mkF m 282 #[.val (.int xn), .val (.int xa), .val (.int xb), .val (.int xc), .val (.int len), .val (.int prs), .val (.int last), .val (.ref av), .val (.ref ad), .unset] [(.double (own_td (LV.getD ((6 : Int32)).toNatClampNeg 0) xb (6 : Int32))), (.int (6 : Int32)), (.ref ad)])) _
  refine st6 _ ?_
  exact kt
set_option maxRecDepth 65536 in
set_option maxHeartbeats 40000000 in
theorem own_sEt {p : Program} {l : Launch} {e : Env} {s : State} {m : MethodId} {args : Array Value} {below : List Frame} {meth : Method} {c : Code} {T0 : State} {locs : List Loc} {Z : State} {a0 : Array Value} {h0 : Heap} {n0 : Nat} (xn : Int32) (xa : Int32) (xb : Int32) (xc : Int32) (len : Int32) (prs : Int32) (last : Int32) (av : Addr) (ad : Addr) (LV : List Int32) (DV : List UInt64)
    (X0 : Stand p l e room_1 s m args below meth c T0 locs 2 15) (hx : p.tables.exec = Jvm.exec) (hZ : Z.Warmed39 s.vm) (hw : ∀ d ∈ tables_1, d.before a0 Z = true) (hby : c.code = code) (hml : c.maxLocals = 10) (hown : s.vm.findClass "com/example/wakelaw/wakelaw/RingClosedPinLaw" = some m.cls) (e0 : T0.heap = h0) (N0 : Fr n0 locs) (Z0 : n0 ≤ h0.size) (V_av : own_I Z h0 av (8 : Int32) LV) (hLV : LV.length = 8) (V_ad : own_D Z h0 ad len DV) (hDV : DV.length = 7) (hne : av ≠ ad) (hc289 : len < (2 : Int32)) :
    ∃ (T' : State) (h' : Heap) (locs' : List Loc), Stand p l e room_1 s m args below meth c T' locs' 2 15 ∧ T'.heap = h' ∧ Fr n0 locs' ∧ h0.size ≤ h'.size ∧ own_I Z h' av (8 : Int32) LV ∧ own_D Z h' ad len DV ∧
      ∀ target, Steps p.tables e below (T'.setTop (mkF m 329 #[.val (.int xn), .val (.int xa), .val (.int xb), .val (.int xc), .val (.int len), .val (.int prs), .val (.int last), .val (.ref av), .val (.ref ad), .val (.int (0 : Int32))] [])) target → Steps p.tables e below (T0.setTop (mkF m 283 #[.val (.int xn), .val (.int xa), .val (.int xb), .val (.int xc), .val (.int len), .val (.int prs), .val (.int last), .val (.ref av), .val (.ref ad), .unset] [])) target := by
  -- 3. LAWS

  refine ⟨T0, _, _, X0, e0, N0, (Nat.le_refl _), V_av, V_ad, fun target kt => ?_⟩
  -- 4. STEPS
  show Steps p.tables e below (T0.setTop (mkF m 283 #[.val (.int xn), .val (.int xa), .val (.int xb), .val (.int xc), .val (.int len), .val (.int prs), .val (.int last), .val (.ref av), .val (.ref ad), .unset] [])) _
  refine XS.iconst X0.here hx rfl (hb hby at_283) ?_
  show Steps p.tables e below (T0.setTop (mkF m 284 #[.val (.int xn), .val (.int xa), .val (.int xb), .val (.int xc), .val (.int len), .val (.int prs), .val (.int last), .val (.ref av), .val (.ref ad), .unset] [(.int (0 : Int32))])) _
  refine XS.istore X0.here hx rfl (hb hby at_284) rfl (l' := #[.val (.int xn), .val (.int xa), .val (.int xb), .val (.int xc), .val (.int len), .val (.int prs), .val (.int last), .val (.ref av), .val (.ref ad), .val (.int (0 : Int32))]) rfl ?_
  show Steps p.tables e below (T0.setTop (mkF m 286 #[.val (.int xn), .val (.int xa), .val (.int xb), .val (.int xc), .val (.int len), .val (.int prs), .val (.int last), .val (.ref av), .val (.ref ad), .val (.int (0 : Int32))] [])) _
  refine XS.iload X0.here hx rfl (hb hby at_286) rfl ?_
  show Steps p.tables e below (T0.setTop (mkF m 288 #[.val (.int xn), .val (.int xa), .val (.int xb), .val (.int xc), .val (.int len), .val (.int prs), .val (.int last), .val (.ref av), .val (.ref ad), .val (.int (0 : Int32))] [(.int len)])) _
  refine XS.iconst X0.here hx rfl (hb hby at_288) ?_
  show Steps p.tables e below (T0.setTop (mkF m 289 #[.val (.int xn), .val (.int xa), .val (.int xb), .val (.int xc), .val (.int len), .val (.int prs), .val (.int last), .val (.ref av), .val (.ref ad), .val (.int (0 : Int32))] [(.int (2 : Int32)), (.int len)])) _
  refine XS.icmpYes X0.here hx rfl (pc0 := 289) (pc' := 329) rfl (hb hby at_289) rfl (tlt hc289).1 (by decide) (by decide) ?_
  exact kt
set_option maxRecDepth 65536 in
set_option maxHeartbeats 40000000 in
theorem own_sEft {p : Program} {l : Launch} {e : Env} {s : State} {m : MethodId} {args : Array Value} {below : List Frame} {meth : Method} {c : Code} {T0 : State} {locs : List Loc} {Z : State} {a0 : Array Value} {h0 : Heap} {n0 : Nat} (xn : Int32) (xa : Int32) (xb : Int32) (xc : Int32) (len : Int32) (prs : Int32) (last : Int32) (av : Addr) (ad : Addr) (LV : List Int32) (DV : List UInt64)
    (X0 : Stand p l e room_1 s m args below meth c T0 locs 2 15) (hx : p.tables.exec = Jvm.exec) (hZ : Z.Warmed39 s.vm) (hw : ∀ d ∈ tables_1, d.before a0 Z = true) (hby : c.code = code) (hml : c.maxLocals = 10) (hown : s.vm.findClass "com/example/wakelaw/wakelaw/RingClosedPinLaw" = some m.cls) (e0 : T0.heap = h0) (N0 : Fr n0 locs) (Z0 : n0 ≤ h0.size) (V_av : own_I Z h0 av (8 : Int32) LV) (hLV : LV.length = 8) (V_ad : own_D Z h0 ad len DV) (hDV : DV.length = 7) (hne : av ≠ ad) (hc289 : ¬ (len < (2 : Int32))) (hj302 : ¬ ((2 : Int32) * last) < 0 ∧ ((2 : Int32) * last) < (8 : Int32)) (hc303 : ¬ ((LV.getD ((0 : Int32)).toNatClampNeg 0) = (LV.getD (((2 : Int32) * last)).toNatClampNeg 0))) :
    ∃ (T' : State) (h' : Heap) (locs' : List Loc), Stand p l e room_1 s m args below meth c T' locs' 2 15 ∧ T'.heap = h' ∧ Fr n0 locs' ∧ h0.size ≤ h'.size ∧ own_I Z h' av (8 : Int32) LV ∧ own_D Z h' ad len DV ∧
      ∀ target, Steps p.tables e below (T'.setTop (mkF m 329 #[.val (.int xn), .val (.int xa), .val (.int xb), .val (.int xc), .val (.int len), .val (.int prs), .val (.int last), .val (.ref av), .val (.ref ad), .val (.int (0 : Int32))] [])) target → Steps p.tables e below (T0.setTop (mkF m 283 #[.val (.int xn), .val (.int xa), .val (.int xb), .val (.int xc), .val (.int len), .val (.int prs), .val (.int last), .val (.ref av), .val (.ref ad), .unset] [])) target := by
  -- 3. LAWS

  refine ⟨T0, _, _, X0, e0, N0, (Nat.le_refl _), V_av, V_ad, fun target kt => ?_⟩
  -- 4. STEPS
  show Steps p.tables e below (T0.setTop (mkF m 283 #[.val (.int xn), .val (.int xa), .val (.int xb), .val (.int xc), .val (.int len), .val (.int prs), .val (.int last), .val (.ref av), .val (.ref ad), .unset] [])) _
  refine XS.iconst X0.here hx rfl (hb hby at_283) ?_
  show Steps p.tables e below (T0.setTop (mkF m 284 #[.val (.int xn), .val (.int xa), .val (.int xb), .val (.int xc), .val (.int len), .val (.int prs), .val (.int last), .val (.ref av), .val (.ref ad), .unset] [(.int (0 : Int32))])) _
  refine XS.istore X0.here hx rfl (hb hby at_284) rfl (l' := #[.val (.int xn), .val (.int xa), .val (.int xb), .val (.int xc), .val (.int len), .val (.int prs), .val (.int last), .val (.ref av), .val (.ref ad), .val (.int (0 : Int32))]) rfl ?_
  show Steps p.tables e below (T0.setTop (mkF m 286 #[.val (.int xn), .val (.int xa), .val (.int xb), .val (.int xc), .val (.int len), .val (.int prs), .val (.int last), .val (.ref av), .val (.ref ad), .val (.int (0 : Int32))] [])) _
  refine XS.iload X0.here hx rfl (hb hby at_286) rfl ?_
  show Steps p.tables e below (T0.setTop (mkF m 288 #[.val (.int xn), .val (.int xa), .val (.int xb), .val (.int xc), .val (.int len), .val (.int prs), .val (.int last), .val (.ref av), .val (.ref ad), .val (.int (0 : Int32))] [(.int len)])) _
  refine XS.iconst X0.here hx rfl (hb hby at_288) ?_
  show Steps p.tables e below (T0.setTop (mkF m 289 #[.val (.int xn), .val (.int xa), .val (.int xb), .val (.int xc), .val (.int len), .val (.int prs), .val (.int last), .val (.ref av), .val (.ref ad), .val (.int (0 : Int32))] [(.int (2 : Int32)), (.int len)])) _
  refine XS.icmpNo X0.here hx rfl (hb hby at_289) rfl (flt hc289).1 ?_
  show Steps p.tables e below (T0.setTop (mkF m 292 #[.val (.int xn), .val (.int xa), .val (.int xb), .val (.int xc), .val (.int len), .val (.int prs), .val (.int last), .val (.ref av), .val (.ref ad), .val (.int (0 : Int32))] [])) _
  refine XS.aload X0.here hx rfl (hb hby at_292) rfl rfl ?_
  show Steps p.tables e below (T0.setTop (mkF m 294 #[.val (.int xn), .val (.int xa), .val (.int xb), .val (.int xc), .val (.int len), .val (.int prs), .val (.int last), .val (.ref av), .val (.ref ad), .val (.int (0 : Int32))] [(.ref av)])) _
  refine XS.iconst X0.here hx rfl (hb hby at_294) ?_
  show Steps p.tables e below (T0.setTop (mkF m 295 #[.val (.int xn), .val (.int xa), .val (.int xb), .val (.int xc), .val (.int len), .val (.int prs), .val (.int last), .val (.ref av), .val (.ref ad), .val (.int (0 : Int32))] [(.int (0 : Int32)), (.ref av)])) _
  refine own_iald X0 hx hZ e0 V_av (by decide) (g := (mkF m 295 #[.val (.int xn), .val (.int xa), .val (.int xb), .val (.int xc), .val (.int len), .val (.int prs), .val (.int last), .val (.ref av), .val (.ref ad), .val (.int (0 : Int32))] [(.int (0 : Int32)), (.ref av)])) rfl rfl (hb hby at_295) _ ?_
  show Steps p.tables e below (T0.setTop (mkF m 296 #[.val (.int xn), .val (.int xa), .val (.int xb), .val (.int xc), .val (.int len), .val (.int prs), .val (.int last), .val (.ref av), .val (.ref ad), .val (.int (0 : Int32))] [(.int (LV.getD ((0 : Int32)).toNatClampNeg 0))])) _
  refine XS.aload X0.here hx rfl (hb hby at_296) rfl rfl ?_
  show Steps p.tables e below (T0.setTop (mkF m 298 #[.val (.int xn), .val (.int xa), .val (.int xb), .val (.int xc), .val (.int len), .val (.int prs), .val (.int last), .val (.ref av), .val (.ref ad), .val (.int (0 : Int32))] [(.ref av), (.int (LV.getD ((0 : Int32)).toNatClampNeg 0))])) _
  refine XS.iconst X0.here hx rfl (hb hby at_298) ?_
  show Steps p.tables e below (T0.setTop (mkF m 299 #[.val (.int xn), .val (.int xa), .val (.int xb), .val (.int xc), .val (.int len), .val (.int prs), .val (.int last), .val (.ref av), .val (.ref ad), .val (.int (0 : Int32))] [(.int (2 : Int32)), (.ref av), (.int (LV.getD ((0 : Int32)).toNatClampNeg 0))])) _
  refine XS.iload X0.here hx rfl (hb hby at_299) rfl ?_
  show Steps p.tables e below (T0.setTop (mkF m 301 #[.val (.int xn), .val (.int xa), .val (.int xb), .val (.int xc), .val (.int len), .val (.int prs), .val (.int last), .val (.ref av), .val (.ref ad), .val (.int (0 : Int32))] [(.int last), (.int (2 : Int32)), (.ref av), (.int (LV.getD ((0 : Int32)).toNatClampNeg 0))])) _
  refine XS.imul X0.here hx rfl (hb hby at_301) rfl ?_
  show Steps p.tables e below (T0.setTop (mkF m 302 #[.val (.int xn), .val (.int xa), .val (.int xb), .val (.int xc), .val (.int len), .val (.int prs), .val (.int last), .val (.ref av), .val (.ref ad), .val (.int (0 : Int32))] [(.int ((2 : Int32) * last)), (.ref av), (.int (LV.getD ((0 : Int32)).toNatClampNeg 0))])) _
  refine own_iald X0 hx hZ e0 V_av hj302 (g := (mkF m 302 #[.val (.int xn), .val (.int xa), .val (.int xb), .val (.int xc), .val (.int len), .val (.int prs), .val (.int last), .val (.ref av), .val (.ref ad), .val (.int (0 : Int32))] [(.int ((2 : Int32) * last)), (.ref av), (.int (LV.getD ((0 : Int32)).toNatClampNeg 0))])) rfl rfl (hb hby at_302) _ ?_
  show Steps p.tables e below (T0.setTop (mkF m 303 #[.val (.int xn), .val (.int xa), .val (.int xb), .val (.int xc), .val (.int len), .val (.int prs), .val (.int last), .val (.ref av), .val (.ref ad), .val (.int (0 : Int32))] [(.int (LV.getD (((2 : Int32) * last)).toNatClampNeg 0)), (.int (LV.getD ((0 : Int32)).toNatClampNeg 0))])) _
  refine XS.icmpYes X0.here hx rfl (pc0 := 303) (pc' := 326) rfl (hb hby at_303) rfl (feq hc303).2 (by decide) (by decide) ?_
  show Steps p.tables e below (T0.setTop (mkF m 326 #[.val (.int xn), .val (.int xa), .val (.int xb), .val (.int xc), .val (.int len), .val (.int prs), .val (.int last), .val (.ref av), .val (.ref ad), .val (.int (0 : Int32))] [])) _
  refine XS.iconst X0.here hx rfl (hb hby at_326) ?_
  show Steps p.tables e below (T0.setTop (mkF m 327 #[.val (.int xn), .val (.int xa), .val (.int xb), .val (.int xc), .val (.int len), .val (.int prs), .val (.int last), .val (.ref av), .val (.ref ad), .val (.int (0 : Int32))] [(.int (0 : Int32))])) _
  refine XS.istore X0.here hx rfl (hb hby at_327) rfl (l' := #[.val (.int xn), .val (.int xa), .val (.int xb), .val (.int xc), .val (.int len), .val (.int prs), .val (.int last), .val (.ref av), .val (.ref ad), .val (.int (0 : Int32))]) rfl ?_
  exact kt
set_option maxRecDepth 65536 in
set_option maxHeartbeats 40000000 in
theorem own_sEfft {p : Program} {l : Launch} {e : Env} {s : State} {m : MethodId} {args : Array Value} {below : List Frame} {meth : Method} {c : Code} {T0 : State} {locs : List Loc} {Z : State} {a0 : Array Value} {h0 : Heap} {n0 : Nat} (xn : Int32) (xa : Int32) (xb : Int32) (xc : Int32) (len : Int32) (prs : Int32) (last : Int32) (av : Addr) (ad : Addr) (LV : List Int32) (DV : List UInt64)
    (X0 : Stand p l e room_1 s m args below meth c T0 locs 2 15) (hx : p.tables.exec = Jvm.exec) (hZ : Z.Warmed39 s.vm) (hw : ∀ d ∈ tables_1, d.before a0 Z = true) (hby : c.code = code) (hml : c.maxLocals = 10) (hown : s.vm.findClass "com/example/wakelaw/wakelaw/RingClosedPinLaw" = some m.cls) (e0 : T0.heap = h0) (N0 : Fr n0 locs) (Z0 : n0 ≤ h0.size) (V_av : own_I Z h0 av (8 : Int32) LV) (hLV : LV.length = 8) (V_ad : own_D Z h0 ad len DV) (hDV : DV.length = 7) (hne : av ≠ ad) (hc289 : ¬ (len < (2 : Int32))) (hj302 : ¬ ((2 : Int32) * last) < 0 ∧ ((2 : Int32) * last) < (8 : Int32)) (hc303 : (LV.getD ((0 : Int32)).toNatClampNeg 0) = (LV.getD (((2 : Int32) * last)).toNatClampNeg 0)) (hj318 : ¬ (((2 : Int32) * last) + (1 : Int32)) < 0 ∧ (((2 : Int32) * last) + (1 : Int32)) < (8 : Int32)) (hc319 : ¬ ((LV.getD ((1 : Int32)).toNatClampNeg 0) = (LV.getD ((((2 : Int32) * last) + (1 : Int32))).toNatClampNeg 0))) :
    ∃ (T' : State) (h' : Heap) (locs' : List Loc), Stand p l e room_1 s m args below meth c T' locs' 2 15 ∧ T'.heap = h' ∧ Fr n0 locs' ∧ h0.size ≤ h'.size ∧ own_I Z h' av (8 : Int32) LV ∧ own_D Z h' ad len DV ∧
      ∀ target, Steps p.tables e below (T'.setTop (mkF m 329 #[.val (.int xn), .val (.int xa), .val (.int xb), .val (.int xc), .val (.int len), .val (.int prs), .val (.int last), .val (.ref av), .val (.ref ad), .val (.int (0 : Int32))] [])) target → Steps p.tables e below (T0.setTop (mkF m 283 #[.val (.int xn), .val (.int xa), .val (.int xb), .val (.int xc), .val (.int len), .val (.int prs), .val (.int last), .val (.ref av), .val (.ref ad), .unset] [])) target := by
  -- 3. LAWS

  refine ⟨T0, _, _, X0, e0, N0, (Nat.le_refl _), V_av, V_ad, fun target kt => ?_⟩
  -- 4. STEPS
  show Steps p.tables e below (T0.setTop (mkF m 283 #[.val (.int xn), .val (.int xa), .val (.int xb), .val (.int xc), .val (.int len), .val (.int prs), .val (.int last), .val (.ref av), .val (.ref ad), .unset] [])) _
  refine XS.iconst X0.here hx rfl (hb hby at_283) ?_
  show Steps p.tables e below (T0.setTop (mkF m 284 #[.val (.int xn), .val (.int xa), .val (.int xb), .val (.int xc), .val (.int len), .val (.int prs), .val (.int last), .val (.ref av), .val (.ref ad), .unset] [(.int (0 : Int32))])) _
  refine XS.istore X0.here hx rfl (hb hby at_284) rfl (l' := #[.val (.int xn), .val (.int xa), .val (.int xb), .val (.int xc), .val (.int len), .val (.int prs), .val (.int last), .val (.ref av), .val (.ref ad), .val (.int (0 : Int32))]) rfl ?_
  show Steps p.tables e below (T0.setTop (mkF m 286 #[.val (.int xn), .val (.int xa), .val (.int xb), .val (.int xc), .val (.int len), .val (.int prs), .val (.int last), .val (.ref av), .val (.ref ad), .val (.int (0 : Int32))] [])) _
  refine XS.iload X0.here hx rfl (hb hby at_286) rfl ?_
  show Steps p.tables e below (T0.setTop (mkF m 288 #[.val (.int xn), .val (.int xa), .val (.int xb), .val (.int xc), .val (.int len), .val (.int prs), .val (.int last), .val (.ref av), .val (.ref ad), .val (.int (0 : Int32))] [(.int len)])) _
  refine XS.iconst X0.here hx rfl (hb hby at_288) ?_
  show Steps p.tables e below (T0.setTop (mkF m 289 #[.val (.int xn), .val (.int xa), .val (.int xb), .val (.int xc), .val (.int len), .val (.int prs), .val (.int last), .val (.ref av), .val (.ref ad), .val (.int (0 : Int32))] [(.int (2 : Int32)), (.int len)])) _
  refine XS.icmpNo X0.here hx rfl (hb hby at_289) rfl (flt hc289).1 ?_
  show Steps p.tables e below (T0.setTop (mkF m 292 #[.val (.int xn), .val (.int xa), .val (.int xb), .val (.int xc), .val (.int len), .val (.int prs), .val (.int last), .val (.ref av), .val (.ref ad), .val (.int (0 : Int32))] [])) _
  refine XS.aload X0.here hx rfl (hb hby at_292) rfl rfl ?_
  show Steps p.tables e below (T0.setTop (mkF m 294 #[.val (.int xn), .val (.int xa), .val (.int xb), .val (.int xc), .val (.int len), .val (.int prs), .val (.int last), .val (.ref av), .val (.ref ad), .val (.int (0 : Int32))] [(.ref av)])) _
  refine XS.iconst X0.here hx rfl (hb hby at_294) ?_
  show Steps p.tables e below (T0.setTop (mkF m 295 #[.val (.int xn), .val (.int xa), .val (.int xb), .val (.int xc), .val (.int len), .val (.int prs), .val (.int last), .val (.ref av), .val (.ref ad), .val (.int (0 : Int32))] [(.int (0 : Int32)), (.ref av)])) _
  refine own_iald X0 hx hZ e0 V_av (by decide) (g := (mkF m 295 #[.val (.int xn), .val (.int xa), .val (.int xb), .val (.int xc), .val (.int len), .val (.int prs), .val (.int last), .val (.ref av), .val (.ref ad), .val (.int (0 : Int32))] [(.int (0 : Int32)), (.ref av)])) rfl rfl (hb hby at_295) _ ?_
  show Steps p.tables e below (T0.setTop (mkF m 296 #[.val (.int xn), .val (.int xa), .val (.int xb), .val (.int xc), .val (.int len), .val (.int prs), .val (.int last), .val (.ref av), .val (.ref ad), .val (.int (0 : Int32))] [(.int (LV.getD ((0 : Int32)).toNatClampNeg 0))])) _
  refine XS.aload X0.here hx rfl (hb hby at_296) rfl rfl ?_
  show Steps p.tables e below (T0.setTop (mkF m 298 #[.val (.int xn), .val (.int xa), .val (.int xb), .val (.int xc), .val (.int len), .val (.int prs), .val (.int last), .val (.ref av), .val (.ref ad), .val (.int (0 : Int32))] [(.ref av), (.int (LV.getD ((0 : Int32)).toNatClampNeg 0))])) _
  refine XS.iconst X0.here hx rfl (hb hby at_298) ?_
  show Steps p.tables e below (T0.setTop (mkF m 299 #[.val (.int xn), .val (.int xa), .val (.int xb), .val (.int xc), .val (.int len), .val (.int prs), .val (.int last), .val (.ref av), .val (.ref ad), .val (.int (0 : Int32))] [(.int (2 : Int32)), (.ref av), (.int (LV.getD ((0 : Int32)).toNatClampNeg 0))])) _
  refine XS.iload X0.here hx rfl (hb hby at_299) rfl ?_
  show Steps p.tables e below (T0.setTop (mkF m 301 #[.val (.int xn), .val (.int xa), .val (.int xb), .val (.int xc), .val (.int len), .val (.int prs), .val (.int last), .val (.ref av), .val (.ref ad), .val (.int (0 : Int32))] [(.int last), (.int (2 : Int32)), (.ref av), (.int (LV.getD ((0 : Int32)).toNatClampNeg 0))])) _
  refine XS.imul X0.here hx rfl (hb hby at_301) rfl ?_
  show Steps p.tables e below (T0.setTop (mkF m 302 #[.val (.int xn), .val (.int xa), .val (.int xb), .val (.int xc), .val (.int len), .val (.int prs), .val (.int last), .val (.ref av), .val (.ref ad), .val (.int (0 : Int32))] [(.int ((2 : Int32) * last)), (.ref av), (.int (LV.getD ((0 : Int32)).toNatClampNeg 0))])) _
  refine own_iald X0 hx hZ e0 V_av hj302 (g := (mkF m 302 #[.val (.int xn), .val (.int xa), .val (.int xb), .val (.int xc), .val (.int len), .val (.int prs), .val (.int last), .val (.ref av), .val (.ref ad), .val (.int (0 : Int32))] [(.int ((2 : Int32) * last)), (.ref av), (.int (LV.getD ((0 : Int32)).toNatClampNeg 0))])) rfl rfl (hb hby at_302) _ ?_
  show Steps p.tables e below (T0.setTop (mkF m 303 #[.val (.int xn), .val (.int xa), .val (.int xb), .val (.int xc), .val (.int len), .val (.int prs), .val (.int last), .val (.ref av), .val (.ref ad), .val (.int (0 : Int32))] [(.int (LV.getD (((2 : Int32) * last)).toNatClampNeg 0)), (.int (LV.getD ((0 : Int32)).toNatClampNeg 0))])) _
  refine XS.icmpNo X0.here hx rfl (hb hby at_303) rfl (teq hc303).2 ?_
  show Steps p.tables e below (T0.setTop (mkF m 306 #[.val (.int xn), .val (.int xa), .val (.int xb), .val (.int xc), .val (.int len), .val (.int prs), .val (.int last), .val (.ref av), .val (.ref ad), .val (.int (0 : Int32))] [])) _
  refine XS.aload X0.here hx rfl (hb hby at_306) rfl rfl ?_
  show Steps p.tables e below (T0.setTop (mkF m 308 #[.val (.int xn), .val (.int xa), .val (.int xb), .val (.int xc), .val (.int len), .val (.int prs), .val (.int last), .val (.ref av), .val (.ref ad), .val (.int (0 : Int32))] [(.ref av)])) _
  refine XS.iconst X0.here hx rfl (hb hby at_308) ?_
  show Steps p.tables e below (T0.setTop (mkF m 309 #[.val (.int xn), .val (.int xa), .val (.int xb), .val (.int xc), .val (.int len), .val (.int prs), .val (.int last), .val (.ref av), .val (.ref ad), .val (.int (0 : Int32))] [(.int (1 : Int32)), (.ref av)])) _
  refine own_iald X0 hx hZ e0 V_av (by decide) (g := (mkF m 309 #[.val (.int xn), .val (.int xa), .val (.int xb), .val (.int xc), .val (.int len), .val (.int prs), .val (.int last), .val (.ref av), .val (.ref ad), .val (.int (0 : Int32))] [(.int (1 : Int32)), (.ref av)])) rfl rfl (hb hby at_309) _ ?_
  show Steps p.tables e below (T0.setTop (mkF m 310 #[.val (.int xn), .val (.int xa), .val (.int xb), .val (.int xc), .val (.int len), .val (.int prs), .val (.int last), .val (.ref av), .val (.ref ad), .val (.int (0 : Int32))] [(.int (LV.getD ((1 : Int32)).toNatClampNeg 0))])) _
  refine XS.aload X0.here hx rfl (hb hby at_310) rfl rfl ?_
  show Steps p.tables e below (T0.setTop (mkF m 312 #[.val (.int xn), .val (.int xa), .val (.int xb), .val (.int xc), .val (.int len), .val (.int prs), .val (.int last), .val (.ref av), .val (.ref ad), .val (.int (0 : Int32))] [(.ref av), (.int (LV.getD ((1 : Int32)).toNatClampNeg 0))])) _
  refine XS.iconst X0.here hx rfl (hb hby at_312) ?_
  show Steps p.tables e below (T0.setTop (mkF m 313 #[.val (.int xn), .val (.int xa), .val (.int xb), .val (.int xc), .val (.int len), .val (.int prs), .val (.int last), .val (.ref av), .val (.ref ad), .val (.int (0 : Int32))] [(.int (2 : Int32)), (.ref av), (.int (LV.getD ((1 : Int32)).toNatClampNeg 0))])) _
  refine XS.iload X0.here hx rfl (hb hby at_313) rfl ?_
  show Steps p.tables e below (T0.setTop (mkF m 315 #[.val (.int xn), .val (.int xa), .val (.int xb), .val (.int xc), .val (.int len), .val (.int prs), .val (.int last), .val (.ref av), .val (.ref ad), .val (.int (0 : Int32))] [(.int last), (.int (2 : Int32)), (.ref av), (.int (LV.getD ((1 : Int32)).toNatClampNeg 0))])) _
  refine XS.imul X0.here hx rfl (hb hby at_315) rfl ?_
  show Steps p.tables e below (T0.setTop (mkF m 316 #[.val (.int xn), .val (.int xa), .val (.int xb), .val (.int xc), .val (.int len), .val (.int prs), .val (.int last), .val (.ref av), .val (.ref ad), .val (.int (0 : Int32))] [(.int ((2 : Int32) * last)), (.ref av), (.int (LV.getD ((1 : Int32)).toNatClampNeg 0))])) _
  refine XS.iconst X0.here hx rfl (hb hby at_316) ?_
  show Steps p.tables e below (T0.setTop (mkF m 317 #[.val (.int xn), .val (.int xa), .val (.int xb), .val (.int xc), .val (.int len), .val (.int prs), .val (.int last), .val (.ref av), .val (.ref ad), .val (.int (0 : Int32))] [(.int (1 : Int32)), (.int ((2 : Int32) * last)), (.ref av), (.int (LV.getD ((1 : Int32)).toNatClampNeg 0))])) _
  refine XS.iadd X0.here hx rfl (hb hby at_317) rfl ?_
  show Steps p.tables e below (T0.setTop (mkF m 318 #[.val (.int xn), .val (.int xa), .val (.int xb), .val (.int xc), .val (.int len), .val (.int prs), .val (.int last), .val (.ref av), .val (.ref ad), .val (.int (0 : Int32))] [(.int (((2 : Int32) * last) + (1 : Int32))), (.ref av), (.int (LV.getD ((1 : Int32)).toNatClampNeg 0))])) _
  refine own_iald X0 hx hZ e0 V_av hj318 (g := (mkF m 318 #[.val (.int xn), .val (.int xa), .val (.int xb), .val (.int xc), .val (.int len), .val (.int prs), .val (.int last), .val (.ref av), .val (.ref ad), .val (.int (0 : Int32))] [(.int (((2 : Int32) * last) + (1 : Int32))), (.ref av), (.int (LV.getD ((1 : Int32)).toNatClampNeg 0))])) rfl rfl (hb hby at_318) _ ?_
  show Steps p.tables e below (T0.setTop (mkF m 319 #[.val (.int xn), .val (.int xa), .val (.int xb), .val (.int xc), .val (.int len), .val (.int prs), .val (.int last), .val (.ref av), .val (.ref ad), .val (.int (0 : Int32))] [(.int (LV.getD ((((2 : Int32) * last) + (1 : Int32))).toNatClampNeg 0)), (.int (LV.getD ((1 : Int32)).toNatClampNeg 0))])) _
  refine XS.icmpYes X0.here hx rfl (pc0 := 319) (pc' := 326) rfl (hb hby at_319) rfl (feq hc319).2 (by decide) (by decide) ?_
  show Steps p.tables e below (T0.setTop (mkF m 326 #[.val (.int xn), .val (.int xa), .val (.int xb), .val (.int xc), .val (.int len), .val (.int prs), .val (.int last), .val (.ref av), .val (.ref ad), .val (.int (0 : Int32))] [])) _
  refine XS.iconst X0.here hx rfl (hb hby at_326) ?_
  show Steps p.tables e below (T0.setTop (mkF m 327 #[.val (.int xn), .val (.int xa), .val (.int xb), .val (.int xc), .val (.int len), .val (.int prs), .val (.int last), .val (.ref av), .val (.ref ad), .val (.int (0 : Int32))] [(.int (0 : Int32))])) _
  refine XS.istore X0.here hx rfl (hb hby at_327) rfl (l' := #[.val (.int xn), .val (.int xa), .val (.int xb), .val (.int xc), .val (.int len), .val (.int prs), .val (.int last), .val (.ref av), .val (.ref ad), .val (.int (0 : Int32))]) rfl ?_
  exact kt
set_option maxRecDepth 65536 in
set_option maxHeartbeats 40000000 in
theorem own_sEfff {p : Program} {l : Launch} {e : Env} {s : State} {m : MethodId} {args : Array Value} {below : List Frame} {meth : Method} {c : Code} {T0 : State} {locs : List Loc} {Z : State} {a0 : Array Value} {h0 : Heap} {n0 : Nat} (xn : Int32) (xa : Int32) (xb : Int32) (xc : Int32) (len : Int32) (prs : Int32) (last : Int32) (av : Addr) (ad : Addr) (LV : List Int32) (DV : List UInt64)
    (X0 : Stand p l e room_1 s m args below meth c T0 locs 2 15) (hx : p.tables.exec = Jvm.exec) (hZ : Z.Warmed39 s.vm) (hw : ∀ d ∈ tables_1, d.before a0 Z = true) (hby : c.code = code) (hml : c.maxLocals = 10) (hown : s.vm.findClass "com/example/wakelaw/wakelaw/RingClosedPinLaw" = some m.cls) (e0 : T0.heap = h0) (N0 : Fr n0 locs) (Z0 : n0 ≤ h0.size) (V_av : own_I Z h0 av (8 : Int32) LV) (hLV : LV.length = 8) (V_ad : own_D Z h0 ad len DV) (hDV : DV.length = 7) (hne : av ≠ ad) (hc289 : ¬ (len < (2 : Int32))) (hj302 : ¬ ((2 : Int32) * last) < 0 ∧ ((2 : Int32) * last) < (8 : Int32)) (hc303 : (LV.getD ((0 : Int32)).toNatClampNeg 0) = (LV.getD (((2 : Int32) * last)).toNatClampNeg 0)) (hj318 : ¬ (((2 : Int32) * last) + (1 : Int32)) < 0 ∧ (((2 : Int32) * last) + (1 : Int32)) < (8 : Int32)) (hc319 : (LV.getD ((1 : Int32)).toNatClampNeg 0) = (LV.getD ((((2 : Int32) * last) + (1 : Int32))).toNatClampNeg 0)) :
    ∃ (T' : State) (h' : Heap) (locs' : List Loc), Stand p l e room_1 s m args below meth c T' locs' 2 15 ∧ T'.heap = h' ∧ Fr n0 locs' ∧ h0.size ≤ h'.size ∧ own_I Z h' av (8 : Int32) LV ∧ own_D Z h' ad len DV ∧
      ∀ target, Steps p.tables e below (T'.setTop (mkF m 329 #[.val (.int xn), .val (.int xa), .val (.int xb), .val (.int xc), .val (.int len), .val (.int prs), .val (.int last), .val (.ref av), .val (.ref ad), .val (.int (1 : Int32))] [])) target → Steps p.tables e below (T0.setTop (mkF m 283 #[.val (.int xn), .val (.int xa), .val (.int xb), .val (.int xc), .val (.int len), .val (.int prs), .val (.int last), .val (.ref av), .val (.ref ad), .unset] [])) target := by
  -- 3. LAWS

  refine ⟨T0, _, _, X0, e0, N0, (Nat.le_refl _), V_av, V_ad, fun target kt => ?_⟩
  -- 4. STEPS
  show Steps p.tables e below (T0.setTop (mkF m 283 #[.val (.int xn), .val (.int xa), .val (.int xb), .val (.int xc), .val (.int len), .val (.int prs), .val (.int last), .val (.ref av), .val (.ref ad), .unset] [])) _
  refine XS.iconst X0.here hx rfl (hb hby at_283) ?_
  show Steps p.tables e below (T0.setTop (mkF m 284 #[.val (.int xn), .val (.int xa), .val (.int xb), .val (.int xc), .val (.int len), .val (.int prs), .val (.int last), .val (.ref av), .val (.ref ad), .unset] [(.int (0 : Int32))])) _
  refine XS.istore X0.here hx rfl (hb hby at_284) rfl (l' := #[.val (.int xn), .val (.int xa), .val (.int xb), .val (.int xc), .val (.int len), .val (.int prs), .val (.int last), .val (.ref av), .val (.ref ad), .val (.int (0 : Int32))]) rfl ?_
  show Steps p.tables e below (T0.setTop (mkF m 286 #[.val (.int xn), .val (.int xa), .val (.int xb), .val (.int xc), .val (.int len), .val (.int prs), .val (.int last), .val (.ref av), .val (.ref ad), .val (.int (0 : Int32))] [])) _
  refine XS.iload X0.here hx rfl (hb hby at_286) rfl ?_
  show Steps p.tables e below (T0.setTop (mkF m 288 #[.val (.int xn), .val (.int xa), .val (.int xb), .val (.int xc), .val (.int len), .val (.int prs), .val (.int last), .val (.ref av), .val (.ref ad), .val (.int (0 : Int32))] [(.int len)])) _
  refine XS.iconst X0.here hx rfl (hb hby at_288) ?_
  show Steps p.tables e below (T0.setTop (mkF m 289 #[.val (.int xn), .val (.int xa), .val (.int xb), .val (.int xc), .val (.int len), .val (.int prs), .val (.int last), .val (.ref av), .val (.ref ad), .val (.int (0 : Int32))] [(.int (2 : Int32)), (.int len)])) _
  refine XS.icmpNo X0.here hx rfl (hb hby at_289) rfl (flt hc289).1 ?_
  show Steps p.tables e below (T0.setTop (mkF m 292 #[.val (.int xn), .val (.int xa), .val (.int xb), .val (.int xc), .val (.int len), .val (.int prs), .val (.int last), .val (.ref av), .val (.ref ad), .val (.int (0 : Int32))] [])) _
  refine XS.aload X0.here hx rfl (hb hby at_292) rfl rfl ?_
  show Steps p.tables e below (T0.setTop (mkF m 294 #[.val (.int xn), .val (.int xa), .val (.int xb), .val (.int xc), .val (.int len), .val (.int prs), .val (.int last), .val (.ref av), .val (.ref ad), .val (.int (0 : Int32))] [(.ref av)])) _
  refine XS.iconst X0.here hx rfl (hb hby at_294) ?_
  show Steps p.tables e below (T0.setTop (mkF m 295 #[.val (.int xn), .val (.int xa), .val (.int xb), .val (.int xc), .val (.int len), .val (.int prs), .val (.int last), .val (.ref av), .val (.ref ad), .val (.int (0 : Int32))] [(.int (0 : Int32)), (.ref av)])) _
  refine own_iald X0 hx hZ e0 V_av (by decide) (g := (mkF m 295 #[.val (.int xn), .val (.int xa), .val (.int xb), .val (.int xc), .val (.int len), .val (.int prs), .val (.int last), .val (.ref av), .val (.ref ad), .val (.int (0 : Int32))] [(.int (0 : Int32)), (.ref av)])) rfl rfl (hb hby at_295) _ ?_
  show Steps p.tables e below (T0.setTop (mkF m 296 #[.val (.int xn), .val (.int xa), .val (.int xb), .val (.int xc), .val (.int len), .val (.int prs), .val (.int last), .val (.ref av), .val (.ref ad), .val (.int (0 : Int32))] [(.int (LV.getD ((0 : Int32)).toNatClampNeg 0))])) _
  refine XS.aload X0.here hx rfl (hb hby at_296) rfl rfl ?_
  show Steps p.tables e below (T0.setTop (mkF m 298 #[.val (.int xn), .val (.int xa), .val (.int xb), .val (.int xc), .val (.int len), .val (.int prs), .val (.int last), .val (.ref av), .val (.ref ad), .val (.int (0 : Int32))] [(.ref av), (.int (LV.getD ((0 : Int32)).toNatClampNeg 0))])) _
  refine XS.iconst X0.here hx rfl (hb hby at_298) ?_
  show Steps p.tables e below (T0.setTop (mkF m 299 #[.val (.int xn), .val (.int xa), .val (.int xb), .val (.int xc), .val (.int len), .val (.int prs), .val (.int last), .val (.ref av), .val (.ref ad), .val (.int (0 : Int32))] [(.int (2 : Int32)), (.ref av), (.int (LV.getD ((0 : Int32)).toNatClampNeg 0))])) _
  refine XS.iload X0.here hx rfl (hb hby at_299) rfl ?_
  show Steps p.tables e below (T0.setTop (mkF m 301 #[.val (.int xn), .val (.int xa), .val (.int xb), .val (.int xc), .val (.int len), .val (.int prs), .val (.int last), .val (.ref av), .val (.ref ad), .val (.int (0 : Int32))] [(.int last), (.int (2 : Int32)), (.ref av), (.int (LV.getD ((0 : Int32)).toNatClampNeg 0))])) _
  refine XS.imul X0.here hx rfl (hb hby at_301) rfl ?_
  show Steps p.tables e below (T0.setTop (mkF m 302 #[.val (.int xn), .val (.int xa), .val (.int xb), .val (.int xc), .val (.int len), .val (.int prs), .val (.int last), .val (.ref av), .val (.ref ad), .val (.int (0 : Int32))] [(.int ((2 : Int32) * last)), (.ref av), (.int (LV.getD ((0 : Int32)).toNatClampNeg 0))])) _
  refine own_iald X0 hx hZ e0 V_av hj302 (g := (mkF m 302 #[.val (.int xn), .val (.int xa), .val (.int xb), .val (.int xc), .val (.int len), .val (.int prs), .val (.int last), .val (.ref av), .val (.ref ad), .val (.int (0 : Int32))] [(.int ((2 : Int32) * last)), (.ref av), (.int (LV.getD ((0 : Int32)).toNatClampNeg 0))])) rfl rfl (hb hby at_302) _ ?_
  show Steps p.tables e below (T0.setTop (mkF m 303 #[.val (.int xn), .val (.int xa), .val (.int xb), .val (.int xc), .val (.int len), .val (.int prs), .val (.int last), .val (.ref av), .val (.ref ad), .val (.int (0 : Int32))] [(.int (LV.getD (((2 : Int32) * last)).toNatClampNeg 0)), (.int (LV.getD ((0 : Int32)).toNatClampNeg 0))])) _
  refine XS.icmpNo X0.here hx rfl (hb hby at_303) rfl (teq hc303).2 ?_
  show Steps p.tables e below (T0.setTop (mkF m 306 #[.val (.int xn), .val (.int xa), .val (.int xb), .val (.int xc), .val (.int len), .val (.int prs), .val (.int last), .val (.ref av), .val (.ref ad), .val (.int (0 : Int32))] [])) _
  refine XS.aload X0.here hx rfl (hb hby at_306) rfl rfl ?_
  show Steps p.tables e below (T0.setTop (mkF m 308 #[.val (.int xn), .val (.int xa), .val (.int xb), .val (.int xc), .val (.int len), .val (.int prs), .val (.int last), .val (.ref av), .val (.ref ad), .val (.int (0 : Int32))] [(.ref av)])) _
  refine XS.iconst X0.here hx rfl (hb hby at_308) ?_
  show Steps p.tables e below (T0.setTop (mkF m 309 #[.val (.int xn), .val (.int xa), .val (.int xb), .val (.int xc), .val (.int len), .val (.int prs), .val (.int last), .val (.ref av), .val (.ref ad), .val (.int (0 : Int32))] [(.int (1 : Int32)), (.ref av)])) _
  refine own_iald X0 hx hZ e0 V_av (by decide) (g := (mkF m 309 #[.val (.int xn), .val (.int xa), .val (.int xb), .val (.int xc), .val (.int len), .val (.int prs), .val (.int last), .val (.ref av), .val (.ref ad), .val (.int (0 : Int32))] [(.int (1 : Int32)), (.ref av)])) rfl rfl (hb hby at_309) _ ?_
  show Steps p.tables e below (T0.setTop (mkF m 310 #[.val (.int xn), .val (.int xa), .val (.int xb), .val (.int xc), .val (.int len), .val (.int prs), .val (.int last), .val (.ref av), .val (.ref ad), .val (.int (0 : Int32))] [(.int (LV.getD ((1 : Int32)).toNatClampNeg 0))])) _
  refine XS.aload X0.here hx rfl (hb hby at_310) rfl rfl ?_
  show Steps p.tables e below (T0.setTop (mkF m 312 #[.val (.int xn), .val (.int xa), .val (.int xb), .val (.int xc), .val (.int len), .val (.int prs), .val (.int last), .val (.ref av), .val (.ref ad), .val (.int (0 : Int32))] [(.ref av), (.int (LV.getD ((1 : Int32)).toNatClampNeg 0))])) _
  refine XS.iconst X0.here hx rfl (hb hby at_312) ?_
  show Steps p.tables e below (T0.setTop (mkF m 313 #[.val (.int xn), .val (.int xa), .val (.int xb), .val (.int xc), .val (.int len), .val (.int prs), .val (.int last), .val (.ref av), .val (.ref ad), .val (.int (0 : Int32))] [(.int (2 : Int32)), (.ref av), (.int (LV.getD ((1 : Int32)).toNatClampNeg 0))])) _
  refine XS.iload X0.here hx rfl (hb hby at_313) rfl ?_
  show Steps p.tables e below (T0.setTop (mkF m 315 #[.val (.int xn), .val (.int xa), .val (.int xb), .val (.int xc), .val (.int len), .val (.int prs), .val (.int last), .val (.ref av), .val (.ref ad), .val (.int (0 : Int32))] [(.int last), (.int (2 : Int32)), (.ref av), (.int (LV.getD ((1 : Int32)).toNatClampNeg 0))])) _
  refine XS.imul X0.here hx rfl (hb hby at_315) rfl ?_
  show Steps p.tables e below (T0.setTop (mkF m 316 #[.val (.int xn), .val (.int xa), .val (.int xb), .val (.int xc), .val (.int len), .val (.int prs), .val (.int last), .val (.ref av), .val (.ref ad), .val (.int (0 : Int32))] [(.int ((2 : Int32) * last)), (.ref av), (.int (LV.getD ((1 : Int32)).toNatClampNeg 0))])) _
  refine XS.iconst X0.here hx rfl (hb hby at_316) ?_
  show Steps p.tables e below (T0.setTop (mkF m 317 #[.val (.int xn), .val (.int xa), .val (.int xb), .val (.int xc), .val (.int len), .val (.int prs), .val (.int last), .val (.ref av), .val (.ref ad), .val (.int (0 : Int32))] [(.int (1 : Int32)), (.int ((2 : Int32) * last)), (.ref av), (.int (LV.getD ((1 : Int32)).toNatClampNeg 0))])) _
  refine XS.iadd X0.here hx rfl (hb hby at_317) rfl ?_
  show Steps p.tables e below (T0.setTop (mkF m 318 #[.val (.int xn), .val (.int xa), .val (.int xb), .val (.int xc), .val (.int len), .val (.int prs), .val (.int last), .val (.ref av), .val (.ref ad), .val (.int (0 : Int32))] [(.int (((2 : Int32) * last) + (1 : Int32))), (.ref av), (.int (LV.getD ((1 : Int32)).toNatClampNeg 0))])) _
  refine own_iald X0 hx hZ e0 V_av hj318 (g := (mkF m 318 #[.val (.int xn), .val (.int xa), .val (.int xb), .val (.int xc), .val (.int len), .val (.int prs), .val (.int last), .val (.ref av), .val (.ref ad), .val (.int (0 : Int32))] [(.int (((2 : Int32) * last) + (1 : Int32))), (.ref av), (.int (LV.getD ((1 : Int32)).toNatClampNeg 0))])) rfl rfl (hb hby at_318) _ ?_
  show Steps p.tables e below (T0.setTop (mkF m 319 #[.val (.int xn), .val (.int xa), .val (.int xb), .val (.int xc), .val (.int len), .val (.int prs), .val (.int last), .val (.ref av), .val (.ref ad), .val (.int (0 : Int32))] [(.int (LV.getD ((((2 : Int32) * last) + (1 : Int32))).toNatClampNeg 0)), (.int (LV.getD ((1 : Int32)).toNatClampNeg 0))])) _
  refine XS.icmpNo X0.here hx rfl (hb hby at_319) rfl (teq hc319).2 ?_
  show Steps p.tables e below (T0.setTop (mkF m 322 #[.val (.int xn), .val (.int xa), .val (.int xb), .val (.int xc), .val (.int len), .val (.int prs), .val (.int last), .val (.ref av), .val (.ref ad), .val (.int (0 : Int32))] [])) _
  refine XS.iconst X0.here hx rfl (hb hby at_322) ?_
  show Steps p.tables e below (T0.setTop (mkF m 323 #[.val (.int xn), .val (.int xa), .val (.int xb), .val (.int xc), .val (.int len), .val (.int prs), .val (.int last), .val (.ref av), .val (.ref ad), .val (.int (0 : Int32))] [(.int (1 : Int32))])) _
  refine XS.goto X0.here hx rfl (pc0 := 323) (pc' := 327) rfl (hb hby at_323) (by decide) (by decide) ?_
  show Steps p.tables e below (T0.setTop (mkF m 327 #[.val (.int xn), .val (.int xa), .val (.int xb), .val (.int xc), .val (.int len), .val (.int prs), .val (.int last), .val (.ref av), .val (.ref ad), .val (.int (0 : Int32))] [(.int (1 : Int32))])) _
  refine XS.istore X0.here hx rfl (hb hby at_327) rfl (l' := #[.val (.int xn), .val (.int xa), .val (.int xb), .val (.int xc), .val (.int len), .val (.int prs), .val (.int last), .val (.ref av), .val (.ref ad), .val (.int (1 : Int32))]) rfl ?_
  exact kt
theorem pd_0_1 : parseMethodDescriptor "([D)V" = some ⟨[(.array .double)], none⟩ := by decide +kernel
theorem pd_0_3 : parseMethodDescriptor "()Z" = some ⟨[], some .boolean⟩ := by decide +kernel
set_option maxRecDepth 65536 in
set_option maxHeartbeats 40000000 in
theorem own_sF {p : Program} {l : Launch} {e : Env} {s : State} {m : MethodId} {args : Array Value} {below : List Frame} {meth : Method} {c : Code} {T0 : State} {locs : List Loc} {Z : State} {a0 : Array Value} {h0 : Heap} {n0 : Nat} (xn : Int32) (xa : Int32) (xb : Int32) (xc : Int32) (len : Int32) (prs : Int32) (last : Int32) (av : Addr) (ad : Addr) (ex : Int32) (LV : List Int32) (DV : List UInt64)
    (X0 : Stand p l e room_1 s m args below meth c T0 locs 2 15) (hx : p.tables.exec = Jvm.exec) (hZ : Z.Warmed39 s.vm) (hw : ∀ d ∈ tables_1, d.before a0 Z = true) (hby : c.code = code) (hml : c.maxLocals = 10) (hown : s.vm.findClass "com/example/wakelaw/wakelaw/RingClosedPinLaw" = some m.cls) (e0 : T0.heap = h0) (N0 : Fr n0 locs) (Z0 : n0 ≤ h0.size) (V_av : own_I Z h0 av (8 : Int32) LV) (hLV : LV.length = 8) (V_ad : own_D Z h0 ad len DV) (hDV : DV.length = 7) (hne : av ≠ ad) (hok : own_ok len) (hc343 : (own_closed len DV) = ex) :
    ∃ (T' : State) (h' : Heap) (locs' : List Loc), Stand p l e room_1 s m args below meth c T' locs' 3 16 ∧ T'.heap = h' ∧ Fr n0 locs' ∧ h0.size ≤ h'.size ∧ own_I Z h' av (8 : Int32) LV ∧ own_D Z h' ad len DV ∧
      ∀ target, Steps p.tables e below (T'.setTop (mkF m 351 #[.val (.int xn), .val (.int xa), .val (.int xb), .val (.int xc), .val (.int len), .val (.int prs), .val (.int last), .val (.ref av), .val (.ref ad), .val (.int ex)] [(.int (1 : Int32))])) target → Steps p.tables e below (T0.setTop (mkF m 329 #[.val (.int xn), .val (.int xa), .val (.int xb), .val (.int xc), .val (.int len), .val (.int prs), .val (.int last), .val (.ref av), .val (.ref ad), .val (.int ex)] [])) target := by
  -- 3. LAWS
  obtain ⟨T5, h5, X5, e5, E5, A5, D5, -, st5⟩ := newO X0 hx hZ hown (hw _ (List.mem_of_getElem? (i := 6) rfl)) (hw _ (List.mem_of_getElem? (i := 7) rfl)) (hw _ (List.mem_of_getElem? (i := 8) rfl)) e0 (g := (mkF m 329 #[.val (.int xn), .val (.int xa), .val (.int xb), .val (.int xc), .val (.int len), .val (.int prs), .val (.int last), .val (.ref av), .val (.ref ad), .val (.int ex)] [])) rfl (hb hby at_329) (by decide) (by decide)
  obtain ⟨b5, g5⟩ : ∃ z, z = h0.size := ⟨_, rfl⟩      -- the fresh object's address
  rw [← g5] at A5 D5 st5      -- A5 : Exa Z h5 b5 "com/example/wakelaw/wakelaw/Ring"; E5 : Ext h0 h5 (carries every older fact: .ext E5)
  have F_degrees_b5 : Fld Z h5 b5 "com/example/wakelaw/wakelaw/Ring" "degrees" "[D" .null := D5 (Or.inr (hw _ (List.mem_of_getElem? (i := 16) rfl))) (ty := (.array .double)) (by decide)
  have E_b5 := A5
  have g_b5 : n0 ≤ b5 := Nat.le_trans Z0 (Nat.le_of_eq g5.symm)
  have sz_b5 : h0.size ≤ b5 := (Nat.le_trans (Keep.refl h0 []).1 (Nat.le_of_eq g5.symm))
  have K5 : Keep h0 h5 [] := (Keep.refl h0 []).ext E5
  -- pc 335: the constructor of com/example/wakelaw/wakelaw/Ring by its contract rm2
  obtain ⟨_, _, ⟨T6, L6, k6, n6⟩, -, X6, ⟨Lc6, hQ6, l6, y6, z6⟩, st6⟩ := X5.specialBack hx (y := (⟨"com/example/wakelaw/wakelaw/Ring", "<init>", "([D)V"⟩ : MethodName)) rfl hown (mvT hZ (hw _ (List.mem_of_getElem? (i := 9) rfl))) (mvT hZ (hw _ (List.mem_of_getElem? (i := 10) rfl))) (mvT hZ (hw _ (List.mem_of_getElem? (i := 11) rfl))) (by decide) (backOf (W := 1) (rm2 l Z a0 hw [] b5 ad .null h5 n0 (Nat.le_trans g_b5 (Nat.le_of_lt (Exa.lt E_b5))) E_b5 F_degrees_b5 g_b5) hZ (hw _ (List.mem_of_getElem? (i := 11) rfl)) (hw _ (List.mem_of_getElem? (i := 8) rfl)) (by decide) (by decide)) (g := (mkF m 335 #[.val (.int xn), .val (.int xa), .val (.int xb), .val (.int xc), .val (.int len), .val (.int prs), .val (.int last), .val (.ref av), .val (.ref ad), .val (.int ex)] [(.ref ad), (.ref b5), (.ref b5)])) rfl (by rw [hml]; rfl) (Steps.refl _) (a := b5) (argsL := [(.ref ad)]) (rest := [(.ref b5)]) (lenOf pd_0_1 rfl) rfl (by show 2 * 0 + _ ≤ _; exact Nat.le_of_eq rfl) (hb hby at_335) (fun _ _ => ⟨rfl, e5, (by decide : 2 + 1 ≤ _), (by decide : 15 + 1 ≤ _)⟩)
  dsimp only [Pt.U, Pt.locs, Pt.cells, Pt.slots] at X6 l6 y6 z6 st6 hQ6
  subst l6 y6 z6
  obtain ⟨rfl, N6q, Kc6, -, Fd_6⟩ := hQ6      -- what it returned, that it wrote nothing old, and the rest of your Q2
  have N6 := Fr.app N0 N6q
  -- pc 338: com/example/wakelaw/wakelaw/Ring.closed
  obtain ⟨T7, X7, e7, st7⟩ := own_pureV X6 hx hZ (val := (.int (own_closed len DV))) (W := 0) (rm4 l Z a0 hw [] b5 len DV ad T6.heap n0 (Nat.le_trans g_b5 (Nat.le_of_lt (Exa.lt (E_b5.keep Kc6)))) ((V_ad.ext E5).keep Kc6 (ninS (Nat.ne_of_lt (Nat.lt_of_lt_of_le V_ad.lt (Nat.le_of_eq g5.symm))) nin0)) Fd_6 (E_b5.keep Kc6) hok) hown (hw _ (List.mem_of_getElem? (i := 17) rfl)) (hw _ (List.mem_of_getElem? (i := 18) rfl)) (hw _ (List.mem_of_getElem? (i := 19) rfl)) (hw _ (List.mem_of_getElem? (i := 20) rfl)) (hw _ (List.mem_of_getElem? (i := 8) rfl)) (hw _ (List.mem_of_getElem? (i := 21) rfl)) (by decide) (E_b5.keep Kc6) (by decide) (by decide) rfl (g := (mkF m 338 #[.val (.int xn), .val (.int xa), .val (.int xb), .val (.int xc), .val (.int len), .val (.int prs), .val (.int last), .val (.ref av), .val (.ref ad), .val (.int ex)] [(.ref b5)])) rfl (by rw [hml]; rfl) (argsL := []) (rest := []) (lenOf pd_0_3 rfl) rfl (by show 2 * 0 + _ ≤ _; exact Nat.le_of_eq rfl) (hb hby at_338) (by decide) (by decide)
  refine ⟨T7, _, _, X7, e7, N6, (Nat.le_trans (Nat.le_trans (Nat.le_refl _) E5.1) Kc6.1), ((V_av.ext E5).keep Kc6 (ninS (Nat.ne_of_lt (Nat.lt_of_lt_of_le V_av.lt (Nat.le_of_eq g5.symm))) nin0)), ((V_ad.ext E5).keep Kc6 (ninS (Nat.ne_of_lt (Nat.lt_of_lt_of_le V_ad.lt (Nat.le_of_eq g5.symm))) nin0)), fun target kt => ?_⟩
  -- 4. STEPS
  show Steps p.tables e below (T0.setTop (mkF m 329 #[.val (.int xn), .val (.int xa), .val (.int xb), .val (.int xc), .val (.int len), .val (.int prs), .val (.int last), .val (.ref av), .val (.ref ad), .val (.int ex)] [])) _
  refine st5 _ ?_
  show Steps p.tables e below (T5.setTop (mkF m 332 #[.val (.int xn), .val (.int xa), .val (.int xb), .val (.int xc), .val (.int len), .val (.int prs), .val (.int last), .val (.ref av), .val (.ref ad), .val (.int ex)] [(.ref b5)])) _
  refine XS.dup X5.here hx rfl (hb hby at_332) rfl rfl ?_
  show Steps p.tables e below (T5.setTop (mkF m 333 #[.val (.int xn), .val (.int xa), .val (.int xb), .val (.int xc), .val (.int len), .val (.int prs), .val (.int last), .val (.ref av), .val (.ref ad), .val (.int ex)] [(.ref b5), (.ref b5)])) _
  refine XS.aload X5.here hx rfl (hb hby at_333) rfl rfl ?_
  show Steps p.tables e below (T5.setTop (mkF m 335 #[.val (.int xn), .val (.int xa), .val (.int xb), .val (.int xc), .val (.int len), .val (.int prs), .val (.int last), .val (.ref av), .val (.ref ad), .val (.int ex)] [(.ref ad), (.ref b5), (.ref b5)])) _
  refine st6.trans ?_
  show Steps p.tables e below (T6.setTop (mkF m 338 #[.val (.int xn), .val (.int xa), .val (.int xb), .val (.int xc), .val (.int len), .val (.int prs), .val (.int last), .val (.ref av), .val (.ref ad), .val (.int ex)] [(.ref b5)])) _
  refine st7 _ ?_
  show Steps p.tables e below (T7.setTop (mkF m 341 #[.val (.int xn), .val (.int xa), .val (.int xb), .val (.int xc), .val (.int len), .val (.int prs), .val (.int last), .val (.ref av), .val (.ref ad), .val (.int ex)] [(.int (own_closed len DV))])) _
  refine XS.iload X7.here hx rfl (hb hby at_341) rfl ?_
  show Steps p.tables e below (T7.setTop (mkF m 343 #[.val (.int xn), .val (.int xa), .val (.int xb), .val (.int xc), .val (.int len), .val (.int prs), .val (.int last), .val (.ref av), .val (.ref ad), .val (.int ex)] [(.int ex), (.int (own_closed len DV))])) _
  refine XS.icmpNo X7.here hx rfl (hb hby at_343) rfl (teq hc343).2 ?_
  show Steps p.tables e below (T7.setTop (mkF m 346 #[.val (.int xn), .val (.int xa), .val (.int xb), .val (.int xc), .val (.int len), .val (.int prs), .val (.int last), .val (.ref av), .val (.ref ad), .val (.int ex)] [])) _
  refine XS.iconst X7.here hx rfl (hb hby at_346) ?_
  show Steps p.tables e below (T7.setTop (mkF m 347 #[.val (.int xn), .val (.int xa), .val (.int xb), .val (.int xc), .val (.int len), .val (.int prs), .val (.int last), .val (.ref av), .val (.ref ad), .val (.int ex)] [(.int (1 : Int32))])) _
  refine XS.goto X7.here hx rfl (pc0 := 347) (pc' := 351) rfl (hb hby at_347) (by decide) (by decide) ?_
  exact kt
section OwnPlain
open Jvm.FP
def own_st (i len : Int32) (LV : List Int32) (xb : Int32) (DV : List UInt64) : List UInt64 := if i < len then DV.set i.toNatClampNeg (own_td (LV.getD i.toNatClampNeg 0) xb i) else DV
theorem own_st_len {i len : Int32} {LV : List Int32} {xb : Int32} {DV : List UInt64} (h : DV.length = 7) : (own_st i len LV xb DV).length = 7 := by
  unfold own_st
  split
  · rw [List.length_set]; exact h
  · exact h
def own_exp (len last : Int32) (LV : List Int32) : Int32 := if len < (2 : Int32) then 0 else if LV.getD ((0 : Int32)).toNatClampNeg 0 = LV.getD (((2 : Int32) * last)).toNatClampNeg 0 then (if LV.getD ((1 : Int32)).toNatClampNeg 0 = LV.getD ((((2 : Int32) * last) + (1 : Int32))).toNatClampNeg 0 then 1 else 0) else 0
theorem own_nat_lt {j z : Int32} (h : ¬ j < 0 ∧ j < z) : j.toNatClampNeg < z.toNatClampNeg := by
  obtain ⟨q1, q2⟩ := h
  rw [Int32.lt_iff_toInt_lt] at q1 q2
  have e0 : (0 : Int32).toInt = 0 := rfl
  simp only [Int32.toNatClampNeg] at *; omega
def own_8 (len : Int32) : Prop := len = 0 ∨ len = 1 ∨ len = 2 ∨ len = 3 ∨ len = 4 ∨ len = 5 ∨ len = 6 ∨ len = 7
theorem own_and7 (x : Int32) : own_8 (x &&& (7 : Int32)) := by
  have h1 : 0 ≤ (x &&& (7 : Int32)).toInt := (c_andS x 7).2.2 (by decide)
  have h2 : (x &&& (7 : Int32)).toInt ≤ 7 := by
    have e : (x &&& (7 : Int32)).toBitVec.toNat ≤ 7 := by
      rw [Int32.toBitVec_and, BitVec.toNat_and]
      exact Nat.and_le_right
    have : (x &&& (7 : Int32)).toInt = ((x &&& (7 : Int32)).toBitVec.toNat : Int) := by
      show (x &&& (7 : Int32)).toBitVec.toInt = _
      rw [BitVec.toInt_eq_toNat_cond, if_pos (by omega)]
    omega
  unfold own_8
  simp only [← Int32.toInt_inj]
  have e0 : (0 : Int32).toInt = 0 := rfl
  have e1 : (1 : Int32).toInt = 1 := rfl
  have e2 : (2 : Int32).toInt = 2 := rfl
  have e3 : (3 : Int32).toInt = 3 := rfl
  have e4 : (4 : Int32).toInt = 4 := rfl
  have e5 : (5 : Int32).toInt = 5 := rfl
  have e6 : (6 : Int32).toInt = 6 := rfl
  have e7 : (7 : Int32).toInt = 7 := rfl
  omega
theorem own_td_int (v b i : Int32) : Core.DInt v.toInt (own_td v b i) := by
  unfold own_td
  split
  · rename_i h
    subst h
    split
    · exact Core.i2d_int 0
    · show Core.Whole 0 (Core.val64 (FP.dneg (FP.i2d 0)))
      rw [show FP.dneg (FP.i2d 0) = Core.dzeroNeg from by decide +kernel, Core.val64_dzeroNeg]
      show Core.signed true (0 * _) = 0 * _
      rw [Nat.zero_mul, Int.zero_mul]; rfl
  · exact Core.i2d_int v
theorem own_td_cmp (v w b i j : Int32) : cmpValue (FP.dcmp (own_td v b i) (own_td w b j)) .l = (0 : Int32) ↔ v = w := by
  rw [show FP.dcmp (own_td v b i) (own_td w b j) = some (compare v.toInt w.toInt) from Core.dcmp_int (own_td_int v b i) (own_td_int w b j)]
  have e : v = w ↔ compare v.toInt w.toInt = .eq := by rw [Core.compare_eq_iff]; exact Int32.toInt_inj.symm
  rw [e]
  cases compare v.toInt w.toInt
  · exact ⟨fun h => absurd h (by decide), fun h => absurd h (by decide)⟩
  · exact ⟨fun _ => rfl, fun _ => rfl⟩
  · exact ⟨fun h => absurd h (by decide), fun h => absurd h (by decide)⟩
def own_fin (len : Int32) (LV : List Int32) (xb : Int32) : List UInt64 := own_st 6 len LV xb (own_st 5 len LV xb (own_st 4 len LV xb (own_st 3 len LV xb (own_st 2 len LV xb (own_st 1 len LV xb (own_st 0 len LV xb (List.replicate 7 0)))))))
theorem own_dget {len j : Int32} (LV : List Int32) (xb : Int32) (h8 : own_8 len) (hj : j = 0 ∨ j = 1 ∨ j = 2 ∨ j = 3 ∨ j = 4 ∨ j = 5 ∨ j = 6) (h : j < len) : (own_fin len LV xb).getD j.toNatClampNeg 0 = own_td (LV.getD j.toNatClampNeg 0) xb j := by
  rcases h8 with rfl | rfl | rfl | rfl | rfl | rfl | rfl | rfl <;> rcases hj with rfl | rfl | rfl | rfl | rfl | rfl | rfl <;> first | exact absurd h (by decide) | rfl
theorem own_pin_ok {len : Int32} (h8 : own_8 len) : ¬ (((len / (2 : Int32)) - (1 : Int32)) < (0 : Int32)) → (¬ ((2 : Int32) * ((len / (2 : Int32)) - (1 : Int32))) < 0 ∧ ((2 : Int32) * ((len / (2 : Int32)) - (1 : Int32))) < (8 : Int32)) ∧ (¬ (((2 : Int32) * ((len / (2 : Int32)) - (1 : Int32))) + (1 : Int32)) < 0 ∧ (((2 : Int32) * ((len / (2 : Int32)) - (1 : Int32))) + (1 : Int32)) < (8 : Int32)) := by
  rcases h8 with rfl | rfl | rfl | rfl | rfl | rfl | rfl | rfl <;> decide
theorem own_ok_8 {len : Int32} (h8 : own_8 len) : own_ok len := by
  unfold own_ok
  rcases h8 with rfl | rfl | rfl | rfl | rfl | rfl | rfl | rfl <;> decide
theorem own_two {len : Int32} (h8 : own_8 len) : ¬ len < (2 : Int32) ↔ ¬ (((len / (2 : Int32)) - (1 : Int32)) < (0 : Int32)) := by
  rcases h8 with rfl | rfl | rfl | rfl | rfl | rfl | rfl | rfl <;> decide
theorem own_cap {len : Int32} (h8 : own_8 len) : ¬ len < 0 ∧ len.toNatClampNeg ≤ 7 := by
  rcases h8 with rfl | rfl | rfl | rfl | rfl | rfl | rfl | rfl <;> decide
theorem own_idx {len : Int32} (h8 : own_8 len) (h : ¬ len < (2 : Int32)) : ((2 : Int32) * ((len / (2 : Int32)) - (1 : Int32)) = 0 ∨ (2 : Int32) * ((len / (2 : Int32)) - (1 : Int32)) = 1 ∨ (2 : Int32) * ((len / (2 : Int32)) - (1 : Int32)) = 2 ∨ (2 : Int32) * ((len / (2 : Int32)) - (1 : Int32)) = 3 ∨ (2 : Int32) * ((len / (2 : Int32)) - (1 : Int32)) = 4 ∨ (2 : Int32) * ((len / (2 : Int32)) - (1 : Int32)) = 5 ∨ (2 : Int32) * ((len / (2 : Int32)) - (1 : Int32)) = 6) ∧ (((2 : Int32) * ((len / (2 : Int32)) - (1 : Int32))) + (1 : Int32) = 0 ∨ ((2 : Int32) * ((len / (2 : Int32)) - (1 : Int32))) + (1 : Int32) = 1 ∨ ((2 : Int32) * ((len / (2 : Int32)) - (1 : Int32))) + (1 : Int32) = 2 ∨ ((2 : Int32) * ((len / (2 : Int32)) - (1 : Int32))) + (1 : Int32) = 3 ∨ ((2 : Int32) * ((len / (2 : Int32)) - (1 : Int32))) + (1 : Int32) = 4 ∨ ((2 : Int32) * ((len / (2 : Int32)) - (1 : Int32))) + (1 : Int32) = 5 ∨ ((2 : Int32) * ((len / (2 : Int32)) - (1 : Int32))) + (1 : Int32) = 6) := by
  revert h
  rcases h8 with rfl | rfl | rfl | rfl | rfl | rfl | rfl | rfl <;> decide
theorem own_main {len : Int32} (LV : List Int32) (xb : Int32) (h8 : own_8 len) : own_closed len (own_fin len LV xb) = own_exp len ((len / (2 : Int32)) - (1 : Int32)) LV := by
  unfold own_closed own_exp
  by_cases h : len < (2 : Int32)
  · rw [if_pos h, if_pos (Classical.byContradiction fun k => (own_two h8).mpr k h)]
  · have h' := (own_two h8).mp h
    obtain ⟨k1, k2, k3, k4⟩ := own_ok_8 h8 h'
    obtain ⟨i1, i2⟩ := own_idx h8 h
    rw [if_neg h, if_neg h', own_dget LV xb h8 (by decide) k1.2, own_dget LV xb h8 i1 k2.2, own_dget LV xb h8 (by decide) k3.2, own_dget LV xb h8 i2 k4.2]
    simp only [own_td_cmp]
    rfl
end OwnPlain
theorem own_jB2 {p : Program} {l : Launch} {e : Env} {s : State} {m : MethodId} {args : Array Value} {below : List Frame} {meth : Method} {c : Code} {T0 : State} {locs : List Loc} {Z : State} {a0 : Array Value} {h0 : Heap} {n0 : Nat} (xn xa xb xc len prs last : Int32) (av : Addr) (LV : List Int32) (X0 : Stand p l e room_1 s m args below meth c T0 locs 1 8) (hx : p.tables.exec = Jvm.exec) (hZ : Z.Warmed39 s.vm) (hw : ∀ d ∈ tables_1, d.before a0 Z = true) (hby : c.code = code) (hml : c.maxLocals = 10) (hown : s.vm.findClass "com/example/wakelaw/wakelaw/RingClosedPinLaw" = some m.cls) (e0 : T0.heap = h0) (N0 : Fr n0 locs) (Z0 : n0 ≤ h0.size) (V_av : own_I Z h0 av (8 : Int32) LV) (hLV : LV.length = 8) (g_av : n0 ≤ av) (hk : ¬ ((2 : Int32) * last) < 0 ∧ ((2 : Int32) * last) < (8 : Int32)) :
    ∃ (T' : State) (h' : Heap) (locs' : List Loc) (LV' : List Int32), Stand p l e room_1 s m args below meth c T' locs' 1 8 ∧ T'.heap = h' ∧ Fr n0 locs' ∧ h0.size ≤ h'.size ∧ own_I Z h' av (8 : Int32) LV' ∧ LV'.length = 8 ∧
      ∀ target, Steps p.tables e below (T'.setTop (mkF m 122 #[.val (.int xn), .val (.int xa), .val (.int xb), .val (.int xc), .val (.int len), .val (.int prs), .val (.int last), .val (.ref av), .unset, .unset] [])) target → Steps p.tables e below (T0.setTop (mkF m 105 #[.val (.int xn), .val (.int xa), .val (.int xb), .val (.int xc), .val (.int len), .val (.int prs), .val (.int last), .val (.ref av), .unset, .unset] [])) target := by
  by_cases hc : (xc &&& (1 : Int32)) = (0 : Int32)
  · obtain ⟨T1, h1, l1, X1, e1, N1, S1, V1, st1⟩ := own_sB2t xn xa xb xc len prs last av LV X0 hx hZ hw hby hml hown e0 N0 Z0 V_av hLV hc
    exact ⟨T1, h1, l1, LV, X1, e1, N1, S1, V1, hLV, st1⟩
  · obtain ⟨T1, h1, l1, X1, e1, N1, S1, V1, st1⟩ := own_sB2f xn xa xb xc len prs last av LV X0 hx hZ hw hby hml hown e0 N0 Z0 V_av hLV g_av hc hk (by rw [hLV]; exact own_nat_lt hk)
    exact ⟨T1, h1, l1, _, X1, e1, N1, S1, V1, by rw [List.length_set]; exact hLV, st1⟩
theorem own_jB3 {p : Program} {l : Launch} {e : Env} {s : State} {m : MethodId} {args : Array Value} {below : List Frame} {meth : Method} {c : Code} {T0 : State} {locs : List Loc} {Z : State} {a0 : Array Value} {h0 : Heap} {n0 : Nat} (xn xa xb xc len prs last : Int32) (av : Addr) (LV : List Int32) (X0 : Stand p l e room_1 s m args below meth c T0 locs 1 8) (hx : p.tables.exec = Jvm.exec) (hZ : Z.Warmed39 s.vm) (hw : ∀ d ∈ tables_1, d.before a0 Z = true) (hby : c.code = code) (hml : c.maxLocals = 10) (hown : s.vm.findClass "com/example/wakelaw/wakelaw/RingClosedPinLaw" = some m.cls) (e0 : T0.heap = h0) (N0 : Fr n0 locs) (Z0 : n0 ≤ h0.size) (V_av : own_I Z h0 av (8 : Int32) LV) (hLV : LV.length = 8) (g_av : n0 ≤ av) (hk : ¬ (((2 : Int32) * last) + (1 : Int32)) < 0 ∧ (((2 : Int32) * last) + (1 : Int32)) < (8 : Int32)) :
    ∃ (T' : State) (h' : Heap) (locs' : List Loc) (LV' : List Int32), Stand p l e room_1 s m args below meth c T' locs' 1 8 ∧ T'.heap = h' ∧ Fr n0 locs' ∧ h0.size ≤ h'.size ∧ own_I Z h' av (8 : Int32) LV' ∧ LV'.length = 8 ∧
      ∀ target, Steps p.tables e below (T'.setTop (mkF m 141 #[.val (.int xn), .val (.int xa), .val (.int xb), .val (.int xc), .val (.int len), .val (.int prs), .val (.int last), .val (.ref av), .unset, .unset] [])) target → Steps p.tables e below (T0.setTop (mkF m 122 #[.val (.int xn), .val (.int xa), .val (.int xb), .val (.int xc), .val (.int len), .val (.int prs), .val (.int last), .val (.ref av), .unset, .unset] [])) target := by
  by_cases hc : (xc &&& (2 : Int32)) = (0 : Int32)
  · obtain ⟨T1, h1, l1, X1, e1, N1, S1, V1, st1⟩ := own_sB3t xn xa xb xc len prs last av LV X0 hx hZ hw hby hml hown e0 N0 Z0 V_av hLV hc
    exact ⟨T1, h1, l1, LV, X1, e1, N1, S1, V1, hLV, st1⟩
  · obtain ⟨T1, h1, l1, X1, e1, N1, S1, V1, st1⟩ := own_sB3f xn xa xb xc len prs last av LV X0 hx hZ hw hby hml hown e0 N0 Z0 V_av hLV g_av hc hk (by rw [hLV]; exact own_nat_lt hk)
    exact ⟨T1, h1, l1, _, X1, e1, N1, S1, V1, by rw [List.length_set]; exact hLV, st1⟩
theorem own_jB {p : Program} {l : Launch} {e : Env} {s : State} {m : MethodId} {args : Array Value} {below : List Frame} {meth : Method} {c : Code} {T0 : State} {locs : List Loc} {Z : State} {a0 : Array Value} {h0 : Heap} {n0 : Nat} (xn xa xb xc len prs last : Int32) (av : Addr) (LV : List Int32) (X0 : Stand p l e room_1 s m args below meth c T0 locs 1 8) (hx : p.tables.exec = Jvm.exec) (hZ : Z.Warmed39 s.vm) (hw : ∀ d ∈ tables_1, d.before a0 Z = true) (hby : c.code = code) (hml : c.maxLocals = 10) (hown : s.vm.findClass "com/example/wakelaw/wakelaw/RingClosedPinLaw" = some m.cls) (e0 : T0.heap = h0) (N0 : Fr n0 locs) (Z0 : n0 ≤ h0.size) (V_av : own_I Z h0 av (8 : Int32) LV) (hLV : LV.length = 8) (g_av : n0 ≤ av) (hk : ¬ (last < (0 : Int32)) → (¬ ((2 : Int32) * last) < 0 ∧ ((2 : Int32) * last) < (8 : Int32)) ∧ (¬ (((2 : Int32) * last) + (1 : Int32)) < 0 ∧ (((2 : Int32) * last) + (1 : Int32)) < (8 : Int32))) :
    ∃ (T' : State) (h' : Heap) (locs' : List Loc) (LV' : List Int32), Stand p l e room_1 s m args below meth c T' locs' 1 8 ∧ T'.heap = h' ∧ Fr n0 locs' ∧ h0.size ≤ h'.size ∧ own_I Z h' av (8 : Int32) LV' ∧ LV'.length = 8 ∧
      ∀ target, Steps p.tables e below (T'.setTop (mkF m 141 #[.val (.int xn), .val (.int xa), .val (.int xb), .val (.int xc), .val (.int len), .val (.int prs), .val (.int last), .val (.ref av), .unset, .unset] [])) target → Steps p.tables e below (T0.setTop (mkF m 100 #[.val (.int xn), .val (.int xa), .val (.int xb), .val (.int xc), .val (.int len), .val (.int prs), .val (.int last), .val (.ref av), .unset, .unset] [])) target := by
  by_cases h : last < (0 : Int32)
  · obtain ⟨T1, h1, l1, X1, e1, N1, S1, V1, st1⟩ := own_sB0 xn xa xb xc len prs last av LV X0 hx hZ hw hby hml hown e0 N0 Z0 V_av hLV h
    exact ⟨T1, h1, l1, LV, X1, e1, N1, S1, V1, hLV, st1⟩
  · obtain ⟨k1, k2⟩ := hk h
    obtain ⟨T1, h1, l1, X1, e1, N1, S1, V1, st1⟩ := own_sB1 xn xa xb xc len prs last av LV X0 hx hZ hw hby hml hown e0 N0 Z0 V_av hLV h
    obtain ⟨T2, h2, l2, L2, X2, e2, N2, S2, V2, H2, st2⟩ := own_jB2 xn xa xb xc len prs last av LV X1 hx hZ hw hby hml hown e1 N1 (Nat.le_trans Z0 S1) V1 hLV g_av k1
    obtain ⟨T3, h3, l3, L3, X3, e3, N3, S3, V3, H3, st3⟩ := own_jB3 xn xa xb xc len prs last av L2 X2 hx hZ hw hby hml hown e2 N2 (Nat.le_trans Z0 (Nat.le_trans S1 S2)) V2 H2 g_av k2
    exact ⟨T3, h3, l3, L3, X3, e3, N3, Nat.le_trans S1 (Nat.le_trans S2 S3), V3, H3, fun t k => st1 t (st2 t (st3 t k))⟩
theorem own_jD0 {p : Program} {l : Launch} {e : Env} {s : State} {m : MethodId} {args : Array Value} {below : List Frame} {meth : Method} {c : Code} {T0 : State} {locs : List Loc} {Z : State} {a0 : Array Value} {h0 : Heap} {n0 : Nat} (xn xa xb xc len prs last : Int32) (av : Addr) (ad : Addr) (LV : List Int32) (DV : List UInt64) (X0 : Stand p l e room_1 s m args below meth c T0 locs 2 15) (hx : p.tables.exec = Jvm.exec) (hZ : Z.Warmed39 s.vm) (hw : ∀ d ∈ tables_1, d.before a0 Z = true) (hby : c.code = code) (hml : c.maxLocals = 10) (hown : s.vm.findClass "com/example/wakelaw/wakelaw/RingClosedPinLaw" = some m.cls) (e0 : T0.heap = h0) (N0 : Fr n0 locs) (Z0 : n0 ≤ h0.size) (V_av : own_I Z h0 av (8 : Int32) LV) (hLV : LV.length = 8) (V_ad : own_D Z h0 ad len DV) (hDV : DV.length = 7) (hne : av ≠ ad) (g_ad : n0 ≤ ad) :
    ∃ (T' : State) (h' : Heap) (locs' : List Loc), Stand p l e room_1 s m args below meth c T' locs' 2 15 ∧ T'.heap = h' ∧ Fr n0 locs' ∧ h0.size ≤ h'.size ∧ own_I Z h' av (8 : Int32) LV ∧ own_D Z h' ad len (own_st 0 len LV xb DV) ∧
      ∀ target, Steps p.tables e below (T'.setTop (mkF m 165 #[.val (.int xn), .val (.int xa), .val (.int xb), .val (.int xc), .val (.int len), .val (.int prs), .val (.int last), .val (.ref av), .val (.ref ad), .unset] [])) target → Steps p.tables e below (T0.setTop (mkF m 147 #[.val (.int xn), .val (.int xa), .val (.int xb), .val (.int xc), .val (.int len), .val (.int prs), .val (.int last), .val (.ref av), .val (.ref ad), .unset] [])) target := by
  by_cases h : (0 : Int32) < len
  · rw [own_st, if_pos h]
    exact own_sD0f xn xa xb xc len prs last av ad LV DV X0 hx hZ hw hby hml hown e0 N0 Z0 V_av hLV V_ad hDV hne g_ad h ⟨by decide, h⟩
  · rw [own_st, if_neg h]
    exact own_sD0t xn xa xb xc len prs last av ad LV DV X0 hx hZ hw hby hml hown e0 N0 Z0 V_av hLV V_ad hDV hne h
theorem own_jD1 {p : Program} {l : Launch} {e : Env} {s : State} {m : MethodId} {args : Array Value} {below : List Frame} {meth : Method} {c : Code} {T0 : State} {locs : List Loc} {Z : State} {a0 : Array Value} {h0 : Heap} {n0 : Nat} (xn xa xb xc len prs last : Int32) (av : Addr) (ad : Addr) (LV : List Int32) (DV : List UInt64) (X0 : Stand p l e room_1 s m args below meth c T0 locs 2 15) (hx : p.tables.exec = Jvm.exec) (hZ : Z.Warmed39 s.vm) (hw : ∀ d ∈ tables_1, d.before a0 Z = true) (hby : c.code = code) (hml : c.maxLocals = 10) (hown : s.vm.findClass "com/example/wakelaw/wakelaw/RingClosedPinLaw" = some m.cls) (e0 : T0.heap = h0) (N0 : Fr n0 locs) (Z0 : n0 ≤ h0.size) (V_av : own_I Z h0 av (8 : Int32) LV) (hLV : LV.length = 8) (V_ad : own_D Z h0 ad len DV) (hDV : DV.length = 7) (hne : av ≠ ad) (g_ad : n0 ≤ ad) :
    ∃ (T' : State) (h' : Heap) (locs' : List Loc), Stand p l e room_1 s m args below meth c T' locs' 2 15 ∧ T'.heap = h' ∧ Fr n0 locs' ∧ h0.size ≤ h'.size ∧ own_I Z h' av (8 : Int32) LV ∧ own_D Z h' ad len (own_st 1 len LV xb DV) ∧
      ∀ target, Steps p.tables e below (T'.setTop (mkF m 184 #[.val (.int xn), .val (.int xa), .val (.int xb), .val (.int xc), .val (.int len), .val (.int prs), .val (.int last), .val (.ref av), .val (.ref ad), .unset] [])) target → Steps p.tables e below (T0.setTop (mkF m 165 #[.val (.int xn), .val (.int xa), .val (.int xb), .val (.int xc), .val (.int len), .val (.int prs), .val (.int last), .val (.ref av), .val (.ref ad), .unset] [])) target := by
  by_cases h : (1 : Int32) < len
  · rw [own_st, if_pos h]
    exact own_sD1f xn xa xb xc len prs last av ad LV DV X0 hx hZ hw hby hml hown e0 N0 Z0 V_av hLV V_ad hDV hne g_ad h ⟨by decide, h⟩
  · rw [own_st, if_neg h]
    exact own_sD1t xn xa xb xc len prs last av ad LV DV X0 hx hZ hw hby hml hown e0 N0 Z0 V_av hLV V_ad hDV hne h
theorem own_jD2 {p : Program} {l : Launch} {e : Env} {s : State} {m : MethodId} {args : Array Value} {below : List Frame} {meth : Method} {c : Code} {T0 : State} {locs : List Loc} {Z : State} {a0 : Array Value} {h0 : Heap} {n0 : Nat} (xn xa xb xc len prs last : Int32) (av : Addr) (ad : Addr) (LV : List Int32) (DV : List UInt64) (X0 : Stand p l e room_1 s m args below meth c T0 locs 2 15) (hx : p.tables.exec = Jvm.exec) (hZ : Z.Warmed39 s.vm) (hw : ∀ d ∈ tables_1, d.before a0 Z = true) (hby : c.code = code) (hml : c.maxLocals = 10) (hown : s.vm.findClass "com/example/wakelaw/wakelaw/RingClosedPinLaw" = some m.cls) (e0 : T0.heap = h0) (N0 : Fr n0 locs) (Z0 : n0 ≤ h0.size) (V_av : own_I Z h0 av (8 : Int32) LV) (hLV : LV.length = 8) (V_ad : own_D Z h0 ad len DV) (hDV : DV.length = 7) (hne : av ≠ ad) (g_ad : n0 ≤ ad) :
    ∃ (T' : State) (h' : Heap) (locs' : List Loc), Stand p l e room_1 s m args below meth c T' locs' 2 15 ∧ T'.heap = h' ∧ Fr n0 locs' ∧ h0.size ≤ h'.size ∧ own_I Z h' av (8 : Int32) LV ∧ own_D Z h' ad len (own_st 2 len LV xb DV) ∧
      ∀ target, Steps p.tables e below (T'.setTop (mkF m 203 #[.val (.int xn), .val (.int xa), .val (.int xb), .val (.int xc), .val (.int len), .val (.int prs), .val (.int last), .val (.ref av), .val (.ref ad), .unset] [])) target → Steps p.tables e below (T0.setTop (mkF m 184 #[.val (.int xn), .val (.int xa), .val (.int xb), .val (.int xc), .val (.int len), .val (.int prs), .val (.int last), .val (.ref av), .val (.ref ad), .unset] [])) target := by
  by_cases h : (2 : Int32) < len
  · rw [own_st, if_pos h]
    exact own_sD2f xn xa xb xc len prs last av ad LV DV X0 hx hZ hw hby hml hown e0 N0 Z0 V_av hLV V_ad hDV hne g_ad h ⟨by decide, h⟩
  · rw [own_st, if_neg h]
    exact own_sD2t xn xa xb xc len prs last av ad LV DV X0 hx hZ hw hby hml hown e0 N0 Z0 V_av hLV V_ad hDV hne h
theorem own_jD3 {p : Program} {l : Launch} {e : Env} {s : State} {m : MethodId} {args : Array Value} {below : List Frame} {meth : Method} {c : Code} {T0 : State} {locs : List Loc} {Z : State} {a0 : Array Value} {h0 : Heap} {n0 : Nat} (xn xa xb xc len prs last : Int32) (av : Addr) (ad : Addr) (LV : List Int32) (DV : List UInt64) (X0 : Stand p l e room_1 s m args below meth c T0 locs 2 15) (hx : p.tables.exec = Jvm.exec) (hZ : Z.Warmed39 s.vm) (hw : ∀ d ∈ tables_1, d.before a0 Z = true) (hby : c.code = code) (hml : c.maxLocals = 10) (hown : s.vm.findClass "com/example/wakelaw/wakelaw/RingClosedPinLaw" = some m.cls) (e0 : T0.heap = h0) (N0 : Fr n0 locs) (Z0 : n0 ≤ h0.size) (V_av : own_I Z h0 av (8 : Int32) LV) (hLV : LV.length = 8) (V_ad : own_D Z h0 ad len DV) (hDV : DV.length = 7) (hne : av ≠ ad) (g_ad : n0 ≤ ad) :
    ∃ (T' : State) (h' : Heap) (locs' : List Loc), Stand p l e room_1 s m args below meth c T' locs' 2 15 ∧ T'.heap = h' ∧ Fr n0 locs' ∧ h0.size ≤ h'.size ∧ own_I Z h' av (8 : Int32) LV ∧ own_D Z h' ad len (own_st 3 len LV xb DV) ∧
      ∀ target, Steps p.tables e below (T'.setTop (mkF m 222 #[.val (.int xn), .val (.int xa), .val (.int xb), .val (.int xc), .val (.int len), .val (.int prs), .val (.int last), .val (.ref av), .val (.ref ad), .unset] [])) target → Steps p.tables e below (T0.setTop (mkF m 203 #[.val (.int xn), .val (.int xa), .val (.int xb), .val (.int xc), .val (.int len), .val (.int prs), .val (.int last), .val (.ref av), .val (.ref ad), .unset] [])) target := by
  by_cases h : (3 : Int32) < len
  · rw [own_st, if_pos h]
    exact own_sD3f xn xa xb xc len prs last av ad LV DV X0 hx hZ hw hby hml hown e0 N0 Z0 V_av hLV V_ad hDV hne g_ad h ⟨by decide, h⟩
  · rw [own_st, if_neg h]
    exact own_sD3t xn xa xb xc len prs last av ad LV DV X0 hx hZ hw hby hml hown e0 N0 Z0 V_av hLV V_ad hDV hne h
theorem own_jD4 {p : Program} {l : Launch} {e : Env} {s : State} {m : MethodId} {args : Array Value} {below : List Frame} {meth : Method} {c : Code} {T0 : State} {locs : List Loc} {Z : State} {a0 : Array Value} {h0 : Heap} {n0 : Nat} (xn xa xb xc len prs last : Int32) (av : Addr) (ad : Addr) (LV : List Int32) (DV : List UInt64) (X0 : Stand p l e room_1 s m args below meth c T0 locs 2 15) (hx : p.tables.exec = Jvm.exec) (hZ : Z.Warmed39 s.vm) (hw : ∀ d ∈ tables_1, d.before a0 Z = true) (hby : c.code = code) (hml : c.maxLocals = 10) (hown : s.vm.findClass "com/example/wakelaw/wakelaw/RingClosedPinLaw" = some m.cls) (e0 : T0.heap = h0) (N0 : Fr n0 locs) (Z0 : n0 ≤ h0.size) (V_av : own_I Z h0 av (8 : Int32) LV) (hLV : LV.length = 8) (V_ad : own_D Z h0 ad len DV) (hDV : DV.length = 7) (hne : av ≠ ad) (g_ad : n0 ≤ ad) :
    ∃ (T' : State) (h' : Heap) (locs' : List Loc), Stand p l e room_1 s m args below meth c T' locs' 2 15 ∧ T'.heap = h' ∧ Fr n0 locs' ∧ h0.size ≤ h'.size ∧ own_I Z h' av (8 : Int32) LV ∧ own_D Z h' ad len (own_st 4 len LV xb DV) ∧
      ∀ target, Steps p.tables e below (T'.setTop (mkF m 241 #[.val (.int xn), .val (.int xa), .val (.int xb), .val (.int xc), .val (.int len), .val (.int prs), .val (.int last), .val (.ref av), .val (.ref ad), .unset] [])) target → Steps p.tables e below (T0.setTop (mkF m 222 #[.val (.int xn), .val (.int xa), .val (.int xb), .val (.int xc), .val (.int len), .val (.int prs), .val (.int last), .val (.ref av), .val (.ref ad), .unset] [])) target := by
  by_cases h : (4 : Int32) < len
  · rw [own_st, if_pos h]
    exact own_sD4f xn xa xb xc len prs last av ad LV DV X0 hx hZ hw hby hml hown e0 N0 Z0 V_av hLV V_ad hDV hne g_ad h ⟨by decide, h⟩
  · rw [own_st, if_neg h]
    exact own_sD4t xn xa xb xc len prs last av ad LV DV X0 hx hZ hw hby hml hown e0 N0 Z0 V_av hLV V_ad hDV hne h
theorem own_jD5 {p : Program} {l : Launch} {e : Env} {s : State} {m : MethodId} {args : Array Value} {below : List Frame} {meth : Method} {c : Code} {T0 : State} {locs : List Loc} {Z : State} {a0 : Array Value} {h0 : Heap} {n0 : Nat} (xn xa xb xc len prs last : Int32) (av : Addr) (ad : Addr) (LV : List Int32) (DV : List UInt64) (X0 : Stand p l e room_1 s m args below meth c T0 locs 2 15) (hx : p.tables.exec = Jvm.exec) (hZ : Z.Warmed39 s.vm) (hw : ∀ d ∈ tables_1, d.before a0 Z = true) (hby : c.code = code) (hml : c.maxLocals = 10) (hown : s.vm.findClass "com/example/wakelaw/wakelaw/RingClosedPinLaw" = some m.cls) (e0 : T0.heap = h0) (N0 : Fr n0 locs) (Z0 : n0 ≤ h0.size) (V_av : own_I Z h0 av (8 : Int32) LV) (hLV : LV.length = 8) (V_ad : own_D Z h0 ad len DV) (hDV : DV.length = 7) (hne : av ≠ ad) (g_ad : n0 ≤ ad) :
    ∃ (T' : State) (h' : Heap) (locs' : List Loc), Stand p l e room_1 s m args below meth c T' locs' 2 15 ∧ T'.heap = h' ∧ Fr n0 locs' ∧ h0.size ≤ h'.size ∧ own_I Z h' av (8 : Int32) LV ∧ own_D Z h' ad len (own_st 5 len LV xb DV) ∧
      ∀ target, Steps p.tables e below (T'.setTop (mkF m 260 #[.val (.int xn), .val (.int xa), .val (.int xb), .val (.int xc), .val (.int len), .val (.int prs), .val (.int last), .val (.ref av), .val (.ref ad), .unset] [])) target → Steps p.tables e below (T0.setTop (mkF m 241 #[.val (.int xn), .val (.int xa), .val (.int xb), .val (.int xc), .val (.int len), .val (.int prs), .val (.int last), .val (.ref av), .val (.ref ad), .unset] [])) target := by
  by_cases h : (5 : Int32) < len
  · rw [own_st, if_pos h]
    exact own_sD5f xn xa xb xc len prs last av ad LV DV X0 hx hZ hw hby hml hown e0 N0 Z0 V_av hLV V_ad hDV hne g_ad h ⟨by decide, h⟩
  · rw [own_st, if_neg h]
    exact own_sD5t xn xa xb xc len prs last av ad LV DV X0 hx hZ hw hby hml hown e0 N0 Z0 V_av hLV V_ad hDV hne h
theorem own_jD6 {p : Program} {l : Launch} {e : Env} {s : State} {m : MethodId} {args : Array Value} {below : List Frame} {meth : Method} {c : Code} {T0 : State} {locs : List Loc} {Z : State} {a0 : Array Value} {h0 : Heap} {n0 : Nat} (xn xa xb xc len prs last : Int32) (av : Addr) (ad : Addr) (LV : List Int32) (DV : List UInt64) (X0 : Stand p l e room_1 s m args below meth c T0 locs 2 15) (hx : p.tables.exec = Jvm.exec) (hZ : Z.Warmed39 s.vm) (hw : ∀ d ∈ tables_1, d.before a0 Z = true) (hby : c.code = code) (hml : c.maxLocals = 10) (hown : s.vm.findClass "com/example/wakelaw/wakelaw/RingClosedPinLaw" = some m.cls) (e0 : T0.heap = h0) (N0 : Fr n0 locs) (Z0 : n0 ≤ h0.size) (V_av : own_I Z h0 av (8 : Int32) LV) (hLV : LV.length = 8) (V_ad : own_D Z h0 ad len DV) (hDV : DV.length = 7) (hne : av ≠ ad) (g_ad : n0 ≤ ad) :
    ∃ (T' : State) (h' : Heap) (locs' : List Loc), Stand p l e room_1 s m args below meth c T' locs' 2 15 ∧ T'.heap = h' ∧ Fr n0 locs' ∧ h0.size ≤ h'.size ∧ own_I Z h' av (8 : Int32) LV ∧ own_D Z h' ad len (own_st 6 len LV xb DV) ∧
      ∀ target, Steps p.tables e below (T'.setTop (mkF m 283 #[.val (.int xn), .val (.int xa), .val (.int xb), .val (.int xc), .val (.int len), .val (.int prs), .val (.int last), .val (.ref av), .val (.ref ad), .unset] [])) target → Steps p.tables e below (T0.setTop (mkF m 260 #[.val (.int xn), .val (.int xa), .val (.int xb), .val (.int xc), .val (.int len), .val (.int prs), .val (.int last), .val (.ref av), .val (.ref ad), .unset] [])) target := by
  by_cases h : (6 : Int32) < len
  · rw [own_st, if_pos h]
    exact own_sD6f xn xa xb xc len prs last av ad LV DV X0 hx hZ hw hby hml hown e0 N0 Z0 V_av hLV V_ad hDV hne g_ad h ⟨by decide, h⟩
  · rw [own_st, if_neg h]
    exact own_sD6t xn xa xb xc len prs last av ad LV DV X0 hx hZ hw hby hml hown e0 N0 Z0 V_av hLV V_ad hDV hne h
theorem own_jE {p : Program} {l : Launch} {e : Env} {s : State} {m : MethodId} {args : Array Value} {below : List Frame} {meth : Method} {c : Code} {T0 : State} {locs : List Loc} {Z : State} {a0 : Array Value} {h0 : Heap} {n0 : Nat} (xn xa xb xc len prs last : Int32) (av : Addr) (ad : Addr) (LV : List Int32) (DV : List UInt64) (X0 : Stand p l e room_1 s m args below meth c T0 locs 2 15) (hx : p.tables.exec = Jvm.exec) (hZ : Z.Warmed39 s.vm) (hw : ∀ d ∈ tables_1, d.before a0 Z = true) (hby : c.code = code) (hml : c.maxLocals = 10) (hown : s.vm.findClass "com/example/wakelaw/wakelaw/RingClosedPinLaw" = some m.cls) (e0 : T0.heap = h0) (N0 : Fr n0 locs) (Z0 : n0 ≤ h0.size) (V_av : own_I Z h0 av (8 : Int32) LV) (hLV : LV.length = 8) (V_ad : own_D Z h0 ad len DV) (hDV : DV.length = 7) (hne : av ≠ ad) (hk : ¬ len < (2 : Int32) → (¬ ((2 : Int32) * last) < 0 ∧ ((2 : Int32) * last) < (8 : Int32)) ∧ (¬ (((2 : Int32) * last) + (1 : Int32)) < 0 ∧ (((2 : Int32) * last) + (1 : Int32)) < (8 : Int32))) :
    ∃ (T' : State) (h' : Heap) (locs' : List Loc), Stand p l e room_1 s m args below meth c T' locs' 2 15 ∧ T'.heap = h' ∧ Fr n0 locs' ∧ h0.size ≤ h'.size ∧ own_I Z h' av (8 : Int32) LV ∧ own_D Z h' ad len DV ∧
      ∀ target, Steps p.tables e below (T'.setTop (mkF m 329 #[.val (.int xn), .val (.int xa), .val (.int xb), .val (.int xc), .val (.int len), .val (.int prs), .val (.int last), .val (.ref av), .val (.ref ad), .val (.int (own_exp len last LV))] [])) target → Steps p.tables e below (T0.setTop (mkF m 283 #[.val (.int xn), .val (.int xa), .val (.int xb), .val (.int xc), .val (.int len), .val (.int prs), .val (.int last), .val (.ref av), .val (.ref ad), .unset] [])) target := by
  by_cases h : len < (2 : Int32)
  · rw [own_exp, if_pos h]
    exact own_sEt xn xa xb xc len prs last av ad LV DV X0 hx hZ hw hby hml hown e0 N0 Z0 V_av hLV V_ad hDV hne h
  · obtain ⟨k1, k2⟩ := hk h
    rw [own_exp, if_neg h]
    by_cases h1 : LV.getD ((0 : Int32)).toNatClampNeg 0 = LV.getD (((2 : Int32) * last)).toNatClampNeg 0
    · rw [if_pos h1]
      by_cases h2 : LV.getD ((1 : Int32)).toNatClampNeg 0 = LV.getD ((((2 : Int32) * last) + (1 : Int32))).toNatClampNeg 0
      · rw [if_pos h2]
        exact own_sEfff xn xa xb xc len prs last av ad LV DV X0 hx hZ hw hby hml hown e0 N0 Z0 V_av hLV V_ad hDV hne h k1 h1 k2 h2
      · rw [if_neg h2]
        exact own_sEfft xn xa xb xc len prs last av ad LV DV X0 hx hZ hw hby hml hown e0 N0 Z0 V_av hLV V_ad hDV hne h k1 h1 k2 h2
    · rw [if_neg h1]
      exact own_sEft xn xa xb xc len prs last av ad LV DV X0 hx hZ hw hby hml hown e0 N0 Z0 V_av hLV V_ad hDV hne h k1 h1
theorem pn_0 : plainName "com/example/wakelaw/wakelaw/RingClosedPinLaw" = true := by first | (simp [plainName, overriddenIn]; done) | decide +kernel
theorem ef_0 (m : MethodId) (x0 x1 x2 x3 : Int32) : entryFrame m #[(.int x0), (.int x1), (.int x2), (.int x3)] maxLocals = mkF m 0 #[.val (.int x0), .val (.int x1), .val (.int x2), .val (.int x3), .unset, .unset, .unset, .unset, .unset, .unset] [] := by first | (simp [entryFrame, mkF, argsToLocals, Value.category, maxLocals]; done) | rfl
set_option maxRecDepth 65536 in
set_option maxHeartbeats 40000000 in
theorem rm0 (l : Launch) (Z : State) (a0 : Array Value) (hw : ∀ d ∈ tables_1, d.before a0 Z = true) (ws : List Jvm.Cond) (xn xa xb xc : Int32) (h0 : Heap) (n0 : Nat) (Z0 : n0 ≤ h0.size) :
    MetFree l x (head1 (Jvm.Cond.code x code maxLocals ret :: ws) room_1) (fun a U => a = #[(.int xn), (.int xa), (.int xb), (.int xc)] ∧ Z.Warmed39 U.vm ∧ U.heap = h0) (fun _ _ _ _ _ => True) (fun _ U o U' => ∃ v L, o = .returned v ∧ (v = some (.int (1 : Int32)) ∧ Fr n0 L) ∧ FrameEnd U o U' L room_1.cells room_1.slots) := by
  refine MetFree.of_bodySF (plainFor_of_name pn_0) hisR ?_
  intro p e s m args below meth c s₁ Bd hml0 hP hK
  obtain ⟨rfl, hZ, hh⟩ := hP
  have hx := Bd.exec
  have hby := Bd.bytes
  have hml : c.maxLocals = 10 := hml0
  have hown : s.vm.findClass "com/example/wakelaw/wakelaw/RingClosedPinLaw" = some m.cls := findClass_of_methodNamed Bd.named
  have X0 : Stand p l e room_1 s m #[(.int xn), (.int xa), (.int xb), (.int xc)] below meth c s₁ [] 0 0 := Stand.of_body Bd
  have e0 : s₁.heap = h0 := by rw [← hh, Bd.state]; rfl
  have N0 := Fr.nil n0
  have pre0 : ∀ t, Steps p.tables e below (s₁.setTop (mkF m 0 #[.val (.int xn), .val (.int xa), .val (.int xb), .val (.int xc), .unset, .unset, .unset, .unset, .unset, .unset] [])) t → Steps p.tables e below (s₁.setTop (entryFrame m #[(.int xn), (.int xa), (.int xb), (.int xc)] maxLocals)) t := fun t k => castTop (ef_0 m xn xa xb xc) k
  obtain ⟨T1, h1, l1, av, X1, e1, N1, S1, V1, g1, st1⟩ := own_sA xn xa xb xc X0 hx hZ hw hby hml hown e0 N0 Z0
  obtain ⟨L1, V1', H1⟩ : ∃ L, own_I Z h1 av (8 : Int32) L ∧ L.length = 8 := ⟨_, V1, by simp only [List.length_set, List.length_replicate]⟩
  have hq8 := own_and7 xn
  obtain ⟨len, hlen⟩ : ∃ t, xn &&& (7 : Int32) = t := ⟨_, rfl⟩
  rw [hlen] at hq8 st1
  have hk := own_pin_ok hq8
  obtain ⟨hc1, hc2⟩ := own_cap hq8
  have A1 := Nat.le_trans Z0 S1
  obtain ⟨T2, h2, l2, L2, X2, e2, N2, S2, V2, H2, st2⟩ := own_jB xn xa xb xc len _ _ av L1 X1 hx hZ hw hby hml hown e1 N1 A1 V1' H1 g1 hk
  have A2 := Nat.le_trans A1 S2
  obtain ⟨T3, h3, l3, ad, X3, e3, N3, S3, V3, D3, g3, hne, st3⟩ := own_sC xn xa xb xc len _ _ av L2 X2 hx hZ hw hby hml hown e2 N2 A2 V2 H2 hc1 hc2
  have A3 := Nat.le_trans A2 S3
  have G3 : (List.replicate 7 (0 : UInt64)).length = 7 := rfl
  obtain ⟨T4, h4, l4, X4, e4, N4, S4, V4, D4, st4⟩ := own_jD0 xn xa xb xc len _ _ av ad L2 _ X3 hx hZ hw hby hml hown e3 N3 A3 V3 H2 D3 G3 hne g3
  have A4 := Nat.le_trans A3 S4
  have G4 := own_st_len (i := 0) (len := len) (LV := L2) (xb := xb) G3
  obtain ⟨T5, h5, l5, X5, e5, N5, S5, V5, D5, st5⟩ := own_jD1 xn xa xb xc len _ _ av ad L2 _ X4 hx hZ hw hby hml hown e4 N4 A4 V4 H2 D4 G4 hne g3
  have A5 := Nat.le_trans A4 S5
  have G5 := own_st_len (i := 1) (len := len) (LV := L2) (xb := xb) G4
  obtain ⟨T6, h6, l6, X6, e6, N6, S6, V6, D6, st6⟩ := own_jD2 xn xa xb xc len _ _ av ad L2 _ X5 hx hZ hw hby hml hown e5 N5 A5 V5 H2 D5 G5 hne g3
  have A6 := Nat.le_trans A5 S6
  have G6 := own_st_len (i := 2) (len := len) (LV := L2) (xb := xb) G5
  obtain ⟨T7, h7, l7, X7, e7, N7, S7, V7, D7, st7⟩ := own_jD3 xn xa xb xc len _ _ av ad L2 _ X6 hx hZ hw hby hml hown e6 N6 A6 V6 H2 D6 G6 hne g3
  have A7 := Nat.le_trans A6 S7
  have G7 := own_st_len (i := 3) (len := len) (LV := L2) (xb := xb) G6
  obtain ⟨T8, h8, l8, X8, e8, N8, S8, V8, D8, st8⟩ := own_jD4 xn xa xb xc len _ _ av ad L2 _ X7 hx hZ hw hby hml hown e7 N7 A7 V7 H2 D7 G7 hne g3
  have A8 := Nat.le_trans A7 S8
  have G8 := own_st_len (i := 4) (len := len) (LV := L2) (xb := xb) G7
  obtain ⟨T9, h9, l9, X9, e9, N9, S9, V9, D9, st9⟩ := own_jD5 xn xa xb xc len _ _ av ad L2 _ X8 hx hZ hw hby hml hown e8 N8 A8 V8 H2 D8 G8 hne g3
  have A9 := Nat.le_trans A8 S9
  have G9 := own_st_len (i := 5) (len := len) (LV := L2) (xb := xb) G8
  obtain ⟨T10, h10, l10, X10, e10, N10, S10, V10, D10, st10⟩ := own_jD6 xn xa xb xc len _ _ av ad L2 _ X9 hx hZ hw hby hml hown e9 N9 A9 V9 H2 D9 G9 hne g3
  have A10 := Nat.le_trans A9 S10
  have G10 := own_st_len (i := 6) (len := len) (LV := L2) (xb := xb) G9
  obtain ⟨T11, h11, l11, X11, e11, N11, S11, V11, D11, st11⟩ := own_jE xn xa xb xc len _ _ av ad L2 _ X10 hx hZ hw hby hml hown e10 N10 A10 V10 H2 D10 G10 hne (fun k => hk ((own_two hq8).mp k))
  have A11 := Nat.le_trans A10 S11
  obtain ⟨T12, h12, l12, X12, e12, N12, S12, V12, D12, st12⟩ := own_sF xn xa xb xc len _ _ av ad _ L2 _ X11 hx hZ hw hby hml hown e11 N11 A11 V11 H2 D11 G10 hne (own_ok_8 hq8) (own_main L2 xb hq8)
  obtain ⟨fs, hr, hrun, hended, hW, hsame⟩ := X12.leave (v := some (.int (1 : Int32))) (fun h => by rw [Bd.returns] at h; cases h)
  refine ⟨_, _, pre0 _ ?_, hrun, hended, _, _, rfl, ⟨rfl, N12⟩, ⟨_, rfl⟩, hW, hsame.mono (by decide) (by decide)⟩
  exact st1 _ (st2 _ (st3 _ (st4 _ (st5 _ (st6 _ (st7 _ (st8 _ (st9 _ (st10 _ (st11 _ (st12 _ (retN X12 hx (t := .boolean) Bd.returns (by simp) (hb hby at_351) hr))))))))))))
set_option maxRecDepth 65536 in
set_option maxHeartbeats 40000000 in
theorem comes_1 {Post : Tables → Env → Array Value → State → Outcome → State → Prop} (hpost : ∀ tb e args s v u, (limb_1_1.after args s (.returned v) u = true ∧ limb_1_2.after args s (.returned v) u = true ∧ True) → FrameEnd s (.returned v) u (Jvm.fieldLocs frame_1_writes args s ++ Jvm.arrayLocs frame_1_arrays args s ++ Jvm.staticLocs frame_1_statics s) 16 128 → Post tb e args s (.returned v) u) :
    ArmFor flags0 classFile x code maxLocals ret World_1 tables_1 room_1 Calls_1 rest_1 Pre_1 Post := by
  intro l hfl _ _ p e ha hc hk s m args below hf hA hF happ hP
  obtain ⟨hcalls, hrest, hpre⟩ := hP
  obtain ⟨-, -, -, hnamed, -, -, -, hat⟩ := (Spec.applies_iff hf).mp happ
  obtain ⟨hg, hn⟩ := and_e (Cond.before_iff.mp (show (Jvm.Cond.and given_1 narrow_1).before args s = true from hpre))
  obtain ⟨g26, g27⟩ := and_e hg
  obtain ⟨g28, g29⟩ := and_e g27
  obtain ⟨g30, g31⟩ := and_e g29
  obtain ⟨g32, g33⟩ := and_e g31
  obtain ⟨w0, w1, w2, w3, rfl⟩ : ∃ w0 w1 w2 w3 : Value, args = #[w0, w1, w2, w3] := by
    have hs : args.size = 4 := by simpa [Cond.value, given_1] using g26
    obtain ⟨L⟩ := args
    match L, hs with
    | [w0, w1, w2, w3], _ => exact ⟨w0, w1, w2, w3, rfl⟩
  have hw := fun d (hd : d ∈ tables_1) => atoms_spec (ws := Jvm.Cond.code x code maxLocals ret :: tables_1) hat d (List.mem_cons_of_mem _ hd)
  have hfit : Fit s := fun {y c} hc i hi => by
    obtain ⟨ha, rfl⟩ := Array.getElem?_eq_some_iff.mp hc
    have q := List.all_eq_true.mp ((Array.all_eq_true_iff_forall_mem.mp hF) _ (Array.getElem_mem ha)) i (List.mem_range.mpr hi)
    simpa [Array.getElem?_eq_getElem hi] using q
  obtain ⟨i0, ei0⟩ := is_v g28
  obtain rfl : w0 = (.int i0) := Option.some.inj ei0
  obtain ⟨i1, ei1⟩ := is_v g30
  obtain rfl : w1 = (.int i1) := Option.some.inj ei1
  obtain ⟨i2, ei2⟩ := is_v g32
  obtain rfl : w2 = (.int i2) := Option.some.inj ei2
  obtain ⟨i3, ei3⟩ := is_v g33
  obtain rfl : w3 = (.int i3) := Option.some.inj ei3
  obtain ⟨n, o, h1, h2, h3, _, L, rfl, ⟨rfl, N⟩, hq⟩ := rm0 l s _ hw tables_1 i0 i1 i2 i3 s.heap s.heap.size (Nat.le_refl _) p e ha hc hk s m _ below hf ((Spec.applies_iff_loose hf).mp happ).1 ⟨rfl, State.Warmed39.refl s, rfl⟩ trivial
  refine ⟨n, _, h1, h2, h3, hpost _ _ _ _ _ _ ⟨Cond.after_iff.mpr rfl, Cond.after_iff.mpr (eq_i res_at (Term.int_eval (1)) rfl), trivial⟩ ⟨hq.1, hq.2.1, (hq.2.2.sift fun y hy => Or.inr (N y hy)).mono (by decide) (by decide)⟩⟩
theorem main_1_1 : Claimed_1_1 := comes_1 fun _ _ _ _ _ _ h hF => ⟨h.1, hF⟩
theorem main_1_2 : Claimed_1_2 := comes_1 fun _ _ _ _ _ _ h hF => ⟨h.2.1, hF⟩
end Jvm.Pilot.@@N@@
namespace Jvm.Pilot.@@N@@
open Jvm Jvm.ClassFile Sem Op Lib Jvm.Free Jvm.Stand Jvm.Pilot.@@N@@.Jvm.D
/-! MADE BY PROGRAM (witnessworld.py) out of the Statement's table words and the real class files: 11 classes; the members and pool entries that the words name. The judged class is class 1, her method 1. -/
namespace start1
open Jvm.ClassFile
def u (s : String) : CpInfo := .utf8 (stringToUtf16 s)
/-- a pool by its gaps: so many unusable entries, then the entry; so many at the end -/
def gap : Nat → List CpInfo → List CpInfo
  | 0, r => r
  | n + 1, r => .unusable :: gap n r
def poolList (es : List (Nat × CpInfo)) (last : Nat) : List CpInfo := es.foldr (fun e r => gap e.1 (e.2 :: r)) (gap last [])
def pool (es : List (Nat × CpInfo)) (last : Nat) : Array CpInfo := ⟨poolList es last⟩
def fileOf (pool : Array CpInfo) (this : Nat) (attrs : Array Attribute := #[]) (ms : Array MethodInfo := #[]) (fl : Nat := 33) (sup : Nat := 0) (ifs : Array Nat := #[]) (fds : Array FieldInfo := #[]) : ClassFile where
  minorVersion := 0
  majorVersion := 65
  constantPool := pool
  accessFlags := fl
  thisClass := this
  superClass := sup
  interfaces := ifs
  fields := fds
  methods := ms
  attributes := attrs
def plain (name : String) (sup : Option ClassId) : Class where
  name := name
  kind := .ordinary
  loader := none
  accessFlags := 33
  super := sup
  interfaces := #[]
  cf := none
  fields := #[]
  methods := #[]
  instanceTypes := #[]
  staticTypes := #[]
  resolved := #[]
  callSites := []
  init := .initialized
  statics := none
  mirror := none

def pool0 : Array CpInfo := pool [(5, u "<init>"), (0, u "()V"), (1, .class_ 10), (1, u "java/lang/Object")] 113

def k0c0 : Code := { maxStack := 0, maxLocals := 1, code := object_method_1_code, exceptionTable := #[], attributes := #[] }
def k0m0 : Method := { name := "<init>", desc := "()V", sig := { parameters := [], returnType := none }, accessFlags := 1, code := some k0c0 }
/-- java/lang/Object -/
def k0 : Class := { plain "java/lang/Object" none with
  accessFlags := 33
  interfaces := #[]
  cf := some (fileOf pool0 8 #[] #[{ accessFlags := 1, nameIndex := 5, descriptorIndex := 6, attributes := #[] }] 33 0 #[] #[])
  fields := #[]
  methods := #[k0m0]
  instanceTypes := #[]
  staticTypes := #[]
  resolved := Array.replicate 124 none
  statics := none }

def pool1 : Array CpInfo := pool [(2, .class_ 4), (1, u "java/lang/Object"), (0, u "<init>"), (0, u "()V"), (0, .methodref 8 9), (0, .class_ 10), (0, .nameAndType 11 12), (0, u "com/example/wakelaw/wakelaw/RingClosedPinLaw"), (0, u "draw"), (0, u "(II)I"), (0, .methodref 8 14), (0, .nameAndType 15 16), (0, u "toDouble"), (0, u "(III)D"), (0, .class_ 18), (0, u "com/example/wakelaw/wakelaw/Ring"), (0, .methodref 17 20), (0, .nameAndType 5 21), (0, u "([D)V"), (0, .methodref 17 23), (0, .nameAndType 24 25), (0, u "closed"), (0, u "()Z"), (2, u "law"), (0, u "(IIII)Z")] 7

def k1m0 : Method := { name := "<init>", desc := "()V", sig := { parameters := [], returnType := none }, accessFlags := 1, code := none }
def k1c1 : Code := { maxStack := 5, maxLocals := 10, code := code, exceptionTable := #[], attributes := #[] }
def k1m1 : Method := { name := "law", desc := "(IIII)Z", sig := { parameters := [.int, .int, .int, .int], returnType := some .boolean }, accessFlags := 9, code := some k1c1 }
def k1c2 : Code := { maxStack := 3, maxLocals := 2, code := method_3_code, exceptionTable := #[], attributes := #[] }
def k1m2 : Method := { name := "draw", desc := "(II)I", sig := { parameters := [.int, .int], returnType := some .int }, accessFlags := 10, code := some k1c2 }
def k1c3 : Code := { maxStack := 2, maxLocals := 5, code := method_4_code, exceptionTable := #[], attributes := #[] }
def k1m3 : Method := { name := "toDouble", desc := "(III)D", sig := { parameters := [.int, .int, .int], returnType := some .double }, accessFlags := 10, code := some k1c3 }
/-- com/example/wakelaw/wakelaw/RingClosedPinLaw -/
def k1 : Class := { plain "com/example/wakelaw/wakelaw/RingClosedPinLaw" (some 0) with
  accessFlags := 49
  interfaces := #[]
  cf := some (fileOf pool1 8 #[] #[{ accessFlags := 1, nameIndex := 5, descriptorIndex := 6, attributes := #[] }, { accessFlags := 9, nameIndex := 28, descriptorIndex := 29, attributes := #[] }, { accessFlags := 10, nameIndex := 11, descriptorIndex := 12, attributes := #[] }, { accessFlags := 10, nameIndex := 15, descriptorIndex := 16, attributes := #[] }] 49 2 #[] #[])
  fields := #[]
  methods := #[k1m0, k1m1, k1m2, k1m3]
  instanceTypes := #[]
  staticTypes := #[]
  resolved := Array.replicate 37 none
  statics := none }

def pool2 : Array CpInfo := pool [(1, .methodref 2 3), (0, .class_ 4), (0, .nameAndType 5 6), (0, u "java/lang/Object"), (0, u "<init>"), (0, u "()V"), (0, .fieldref 8 9), (0, .class_ 10), (0, .nameAndType 11 12), (0, u "com/example/wakelaw/wakelaw/Ring"), (0, u "degrees"), (0, u "[D"), (0, .methodref 8 14), (0, .nameAndType 15 16), (0, u "size"), (0, u "()I"), (0, .methodref 8 18), (0, .nameAndType 19 20), (0, u "longitude"), (0, u "(I)D"), (0, .methodref 8 22), (0, .nameAndType 23 20), (0, u "latitude"), (0, u "([D)V"), (3, u "closed"), (0, u "()Z")] 3

def k2c0 : Code := { maxStack := 2, maxLocals := 2, code := prog_44_method_1_code, exceptionTable := #[], attributes := #[] }
def k2m0 : Method := { name := "<init>", desc := "([D)V", sig := { parameters := [(.array .double)], returnType := none }, accessFlags := 0, code := some k2c0 }
def k2c1 : Code := { maxStack := 2, maxLocals := 1, code := prog_44_method_3_code, exceptionTable := #[], attributes := #[] }
def k2m1 : Method := { name := "size", desc := "()I", sig := { parameters := [], returnType := some .int }, accessFlags := 0, code := some k2c1 }
def k2c2 : Code := { maxStack := 3, maxLocals := 2, code := prog_44_method_4_code, exceptionTable := #[], attributes := #[] }
def k2m2 : Method := { name := "longitude", desc := "(I)D", sig := { parameters := [.int], returnType := some .double }, accessFlags := 0, code := some k2c2 }
def k2c3 : Code := { maxStack := 3, maxLocals := 2, code := prog_44_method_5_code, exceptionTable := #[], attributes := #[] }
def k2m3 : Method := { name := "latitude", desc := "(I)D", sig := { parameters := [.int], returnType := some .double }, accessFlags := 0, code := some k2c3 }
def k2c4 : Code := { maxStack := 4, maxLocals := 2, code := prog_44_method_6_code, exceptionTable := #[], attributes := #[] }
def k2m4 : Method := { name := "closed", desc := "()Z", sig := { parameters := [], returnType := some .boolean }, accessFlags := 0, code := some k2c4 }
/-- com/example/wakelaw/wakelaw/Ring -/
def k2 : Class := { plain "com/example/wakelaw/wakelaw/Ring" (some 0) with
  accessFlags := 48
  interfaces := #[]
  cf := some (fileOf pool2 8 #[] #[{ accessFlags := 0, nameIndex := 5, descriptorIndex := 24, attributes := #[] }, { accessFlags := 0, nameIndex := 15, descriptorIndex := 16, attributes := #[] }, { accessFlags := 0, nameIndex := 19, descriptorIndex := 20, attributes := #[] }, { accessFlags := 0, nameIndex := 23, descriptorIndex := 20, attributes := #[] }, { accessFlags := 0, nameIndex := 28, descriptorIndex := 29, attributes := #[] }] 48 2 #[] #[{ accessFlags := 18, nameIndex := 11, descriptorIndex := 12, attributes := #[] }])
  fields := #[{ name := "degrees", type := (.array .double), accessFlags := 18, slot := 0, constantValue := 0 }]
  methods := #[k2m0, k2m1, k2m2, k2m3, k2m4]
  instanceTypes := #[(.array .double)]
  staticTypes := #[]
  resolved := Array.replicate 33 none
  statics := none }

def pool3 : Array CpInfo := pool [(1, u "java/lang/Cloneable"), (0, .class_ 1), (0, u "java/lang/Object"), (0, .class_ 3)] 3

/-- java/lang/Cloneable -/
def k3 : Class := { plain "java/lang/Cloneable" (some 0) with
  accessFlags := 1537
  interfaces := #[]
  cf := some (fileOf pool3 2 #[] #[] 1537 4 #[] #[])
  fields := #[]
  methods := #[]
  instanceTypes := #[]
  staticTypes := #[]
  resolved := Array.replicate 8 none
  statics := none }

def pool4 : Array CpInfo := pool [(1, u "java/io/Serializable"), (0, .class_ 1), (0, u "java/lang/Object"), (0, .class_ 3)] 3

/-- java/io/Serializable -/
def k4 : Class := { plain "java/io/Serializable" (some 0) with
  accessFlags := 1537
  interfaces := #[]
  cf := some (fileOf pool4 2 #[] #[] 1537 4 #[] #[])
  fields := #[]
  methods := #[]
  instanceTypes := #[]
  staticTypes := #[]
  resolved := Array.replicate 8 none
  statics := none }

/-- the primitive byte -/
def k5 : Class := { plain "byte" none with kind := .primitive 'B', accessFlags := 0x411 }
/-- [B -/
def k6 : Class := { plain "[B" (some 0) with kind := .array 5 .byte, interfaces := #[3, 4], accessFlags := 1041 }

/-- the primitive double -/
def k7 : Class := { plain "double" none with kind := .primitive 'D', accessFlags := 0x411 }
/-- [D -/
def k8 : Class := { plain "[D" (some 0) with kind := .array 7 .double, interfaces := #[3, 4], accessFlags := 1041 }

/-- the primitive int -/
def k9 : Class := { plain "int" none with kind := .primitive 'I', accessFlags := 0x411 }
/-- [I -/
def k10 : Class := { plain "[I" (some 0) with kind := .array 9 .int, interfaces := #[3, 4], accessFlags := 1041 }

def heap : Heap := #[]
def classes : Array Class := #[k0, k1, k2, k3, k4, k5, k6, k7, k8, k9, k10]
def interned : List (Array UInt16 × Addr) := []
def slotsUsed : Nat := 0
def theMethod : MethodId := ⟨1, 1⟩
def args0 : Array Value := #[.int 5, .int 7, .int 1, .int 3]
def aboutOver (below : List Frame) : State where
  vm := { classes := classes, interned := interned.toArray }
  heap := heap
  slotsUsed := slotsUsed
  threads := #[{ frames := .invoking theMethod args0 :: below }]
def below0 : List Frame := [.native { method := ⟨0, 0⟩, args := #[] }]
def about1 : State := aboutOver below0
def p0 : Program := .bare "" "" ""
def e0 : Env := launch0.env 0 0 0
theorem w_frames : about1.frames = Frame.invoking theMethod args0 :: below0 := rfl
set_option maxRecDepth 65536 in
theorem w_args : argsFit about1.vm theMethod args0 = true := by decide +kernel
set_option maxRecDepth 65536 in
theorem w_heap : heapFits about1 = true := by decide +kernel
set_option maxRecDepth 65536 in
theorem w_runnable : about1.curStatus? = some .runnable := by decide +kernel
set_option maxRecDepth 65536 in
theorem w_alone : about1.alone = true := by decide +kernel
set_option maxRecDepth 65536 in
theorem w_named : about1.methodNamed? x = some theMethod := by decide +kernel
set_option maxRecDepth 65536 in
theorem w_hears : about1.hears theMethod below0 = true := by decide +kernel
set_option maxRecDepth 65536 in
theorem w_ripe : about1.ripe theMethod args0 below0 = true := by decide +kernel
theorem w_running : about1.status = .running := rfl
set_option maxRecDepth 65536 in
theorem w_room : about1.hasRoom e0.platform room_1 = true :=
  launch0.hasRoom_least _ room_1 (by decide +kernel) (by decide +kernel) (by decide +kernel) (by decide +kernel) (by decide +kernel) (by decide +kernel)
theorem allAtoms_all (ts : List Jvm.Cond) (a : Array Jvm.Value) (st : Jvm.State) : (allAtoms ts).before a st = ts.all (fun c => c.before a st) := by
  induction ts with
  | nil => rfl
  | cons c t ih =>
    show (Jvm.Cond.and c (allAtoms t)).before a st = _
    rw [Jvm.Cond.before_and, ih, List.all_cons]
def words1 : List Jvm.Cond := Jvm.Cond.code x code maxLocals ret :: tables_1
/-- a 'code' word, met by the world's own term for the bytes: nothing is compared byte by byte -/
theorem code_word {y : MethodName} {bytes : ByteArray} {mx : Nat} {rt : Option FieldType} {a : Array Value} {s : State} {m : MethodId} {meth : Method} {c : Code} (h1 : s.methodNamed? y = some m) (h2 : s.vm.method? m = some meth) (h3 : meth.code = some c) (h4 : c.code = bytes)
    (h5 : (c.maxLocals == mx && c.exceptionTable.isEmpty && decide (c.maxStack ≤ mostOperands) && decide (meth.sig.returnType = rt) && !meth.locks && decide (parseMethodDescriptor y.desc = some meth.sig)) = true) : (Jvm.Cond.code y bytes mx rt).before a s = true := by
  simp only [Bool.and_eq_true, beq_iff_eq, Bool.not_eq_true', decide_eq_true_eq] at h5
  obtain ⟨⟨⟨⟨⟨g1, g2⟩, g3⟩, g4⟩, g5⟩, g6⟩ := h5
  simp [Cond.before, Cond.holds, Cond.value, h1, h2, h3, h4, g1, g2, g3, g4, g5, g6]
def isCode : Jvm.Cond → Bool
  | .code _ _ _ _ => true
  | _ => false
theorem all_split {L : List Jvm.Cond} {P : Jvm.Cond → Bool} (h1 : L.all (fun c => isCode c || P c) = true) (h2 : ∀ c ∈ L.filter isCode, P c = true) : L.all P = true := by
  refine List.all_eq_true.mpr fun c hc => ?_
  have h := List.all_eq_true.mp h1 c hc
  rcases Bool.eq_false_or_eq_true (isCode c) with hi | hi
  · exact h2 c (List.mem_filter.mpr ⟨hc, hi⟩)
  · simpa [hi] using h
set_option maxRecDepth 65536 in
theorem w_c0 : (Jvm.Cond.code x code maxLocals ret).before args0 about1 = true := code_word (m := ⟨1, 1⟩) (meth := k1m1) (c := k1c1) (by decide +kernel) rfl rfl rfl (by decide +kernel)
set_option maxRecDepth 65536 in
theorem w_c1 : (Jvm.Cond.code ({ cls := "com/example/wakelaw/wakelaw/RingClosedPinLaw", name := "draw", desc := "(II)I" } : Jvm.MethodName) method_3_code (2 : Nat) (Option.some Jvm.ClassFile.FieldType.int)).before args0 about1 = true := code_word (m := ⟨1, 2⟩) (meth := k1m2) (c := k1c2) (by decide +kernel) rfl rfl rfl (by decide +kernel)
set_option maxRecDepth 65536 in
theorem w_c2 : (Jvm.Cond.code ({ cls := "com/example/wakelaw/wakelaw/Ring", name := "<init>", desc := "([D)V" } : Jvm.MethodName) prog_44_method_1_code (2 : Nat) (Option.none : Option Jvm.ClassFile.FieldType)).before args0 about1 = true := code_word (m := ⟨2, 0⟩) (meth := k2m0) (c := k2c0) (by decide +kernel) rfl rfl rfl (by decide +kernel)
set_option maxRecDepth 65536 in
theorem w_c3 : (Jvm.Cond.code ({ cls := "java/lang/Object", name := "<init>", desc := "()V" } : Jvm.MethodName) object_method_1_code (1 : Nat) (Option.none : Option Jvm.ClassFile.FieldType)).before args0 about1 = true := code_word (m := ⟨0, 0⟩) (meth := k0m0) (c := k0c0) (by decide +kernel) rfl rfl rfl (by decide +kernel)
set_option maxRecDepth 65536 in
theorem w_c4 : (Jvm.Cond.code ({ cls := "com/example/wakelaw/wakelaw/Ring", name := "closed", desc := "()Z" } : Jvm.MethodName) prog_44_method_6_code (2 : Nat) (Option.some Jvm.ClassFile.FieldType.boolean)).before args0 about1 = true := code_word (m := ⟨2, 4⟩) (meth := k2m4) (c := k2c4) (by decide +kernel) rfl rfl rfl (by decide +kernel)
set_option maxRecDepth 65536 in
theorem w_c5 : (Jvm.Cond.code ({ cls := "com/example/wakelaw/wakelaw/Ring", name := "size", desc := "()I" } : Jvm.MethodName) prog_44_method_3_code (1 : Nat) (Option.some Jvm.ClassFile.FieldType.int)).before args0 about1 = true := code_word (m := ⟨2, 1⟩) (meth := k2m1) (c := k2c1) (by decide +kernel) rfl rfl rfl (by decide +kernel)
set_option maxRecDepth 65536 in
theorem w_c6 : (Jvm.Cond.code ({ cls := "com/example/wakelaw/wakelaw/RingClosedPinLaw", name := "toDouble", desc := "(III)D" } : Jvm.MethodName) method_4_code (5 : Nat) (Option.some Jvm.ClassFile.FieldType.double)).before args0 about1 = true := code_word (m := ⟨1, 3⟩) (meth := k1m3) (c := k1c3) (by decide +kernel) rfl rfl rfl (by decide +kernel)
set_option maxRecDepth 65536 in
theorem w_c7 : (Jvm.Cond.code ({ cls := "com/example/wakelaw/wakelaw/Ring", name := "longitude", desc := "(I)D" } : Jvm.MethodName) prog_44_method_4_code (2 : Nat) (Option.some Jvm.ClassFile.FieldType.double)).before args0 about1 = true := code_word (m := ⟨2, 2⟩) (meth := k2m2) (c := k2c2) (by decide +kernel) rfl rfl rfl (by decide +kernel)
set_option maxRecDepth 65536 in
theorem w_c8 : (Jvm.Cond.code ({ cls := "com/example/wakelaw/wakelaw/Ring", name := "latitude", desc := "(I)D" } : Jvm.MethodName) prog_44_method_5_code (2 : Nat) (Option.some Jvm.ClassFile.FieldType.double)).before args0 about1 = true := code_word (m := ⟨2, 3⟩) (meth := k2m3) (c := k2c3) (by decide +kernel) rfl rfl rfl (by decide +kernel)
def codes1 : List Jvm.Cond := [Jvm.Cond.code x code maxLocals ret, Jvm.Cond.code ({ cls := "com/example/wakelaw/wakelaw/RingClosedPinLaw", name := "draw", desc := "(II)I" } : Jvm.MethodName) method_3_code (2 : Nat) (Option.some Jvm.ClassFile.FieldType.int), Jvm.Cond.code ({ cls := "com/example/wakelaw/wakelaw/Ring", name := "<init>", desc := "([D)V" } : Jvm.MethodName) prog_44_method_1_code (2 : Nat) (Option.none : Option Jvm.ClassFile.FieldType), Jvm.Cond.code ({ cls := "java/lang/Object", name := "<init>", desc := "()V" } : Jvm.MethodName) object_method_1_code (1 : Nat) (Option.none : Option Jvm.ClassFile.FieldType), Jvm.Cond.code ({ cls := "com/example/wakelaw/wakelaw/Ring", name := "closed", desc := "()Z" } : Jvm.MethodName) prog_44_method_6_code (2 : Nat) (Option.some Jvm.ClassFile.FieldType.boolean), Jvm.Cond.code ({ cls := "com/example/wakelaw/wakelaw/Ring", name := "size", desc := "()I" } : Jvm.MethodName) prog_44_method_3_code (1 : Nat) (Option.some Jvm.ClassFile.FieldType.int), Jvm.Cond.code ({ cls := "com/example/wakelaw/wakelaw/RingClosedPinLaw", name := "toDouble", desc := "(III)D" } : Jvm.MethodName) method_4_code (5 : Nat) (Option.some Jvm.ClassFile.FieldType.double), Jvm.Cond.code ({ cls := "com/example/wakelaw/wakelaw/Ring", name := "longitude", desc := "(I)D" } : Jvm.MethodName) prog_44_method_4_code (2 : Nat) (Option.some Jvm.ClassFile.FieldType.double), Jvm.Cond.code ({ cls := "com/example/wakelaw/wakelaw/Ring", name := "latitude", desc := "(I)D" } : Jvm.MethodName) prog_44_method_5_code (2 : Nat) (Option.some Jvm.ClassFile.FieldType.double)]
set_option maxRecDepth 65536 in
theorem codes_eq : words1.filter isCode = codes1 := rfl
theorem w_codes : ∀ c ∈ words1.filter isCode, c.before args0 about1 = true := by
  rw [codes_eq]
  intro c hc
  simp only [codes1, List.mem_cons, List.not_mem_nil, or_false] at hc
  rcases hc with rfl | rfl | rfl | rfl | rfl | rfl | rfl | rfl | rfl
  · exact w_c0
  · exact w_c1
  · exact w_c2
  · exact w_c3
  · exact w_c4
  · exact w_c5
  · exact w_c6
  · exact w_c7
  · exact w_c8
set_option maxRecDepth 65536 in
theorem w_t1 : (words1.take 24).all (fun c => isCode c || c.before args0 about1) = true := by decide +kernel
set_option maxRecDepth 65536 in
theorem w_t2 : (words1.drop 24).all (fun c => isCode c || c.before args0 about1) = true := by decide +kernel
theorem w_tables : (allAtoms (Jvm.Cond.code x code maxLocals ret :: tables_1)).before args0 about1 = true := by
  rw [allAtoms_all]
  show words1.all (fun c => c.before args0 about1) = true
  refine all_split ?_ w_codes
  rw [← List.take_append_drop 24 words1, List.all_append, w_t1, w_t2]
  rfl
set_option maxRecDepth 65536 in
theorem w_case : (Jvm.Cond.and given_1 narrow_1).before args0 about1 = true := by decide +kernel
theorem w_applies : (headSpec (Jvm.Cond.code x code maxLocals ret :: tables_1) room_1).applies x e0.platform about1 = true :=
  (Spec.applies_iff w_frames).mpr ⟨w_running, w_runnable, w_alone, w_named, w_hears, w_ripe, w_room, w_tables⟩
theorem atStart : AtStart classFile x code maxLocals ret World_1 tables_1 room_1 Calls_1 rest_1 Pre_1 launch0 p0 e0 about1 theMethod args0 below0 :=
  ⟨lists_1, trivial, launch0.admits_env _ _ _, launch0.least_env, fairChoices_fair.cas, fairChoices_fair.clock, w_frames, w_args, w_heap, w_applies, trivial, trivial, w_case⟩
end start1
theorem witness_1 : WitnessClaimed_1 := ⟨start1.p0, start1.e0, start1.about1, start1.theMethod, start1.args0, start1.below0, start1.atStart⟩
end Jvm.Pilot.@@N@@
