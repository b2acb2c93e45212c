import JvmDerived
import JvmDerived.Pilot.@@N@@Statement
import JvmDerived.Pilot.@@N@@Code
set_option linter.unusedVariables false
set_option linter.unusedSimpArgs false
namespace Jvm.RoadKit
open Sem ClassFile Op Lib Jvm.Stand Jvm.Free Jvm.LawKit
section New
variable {p : Program} {l : Launch} {e : Env} {R : Room} {s : State} {m : MethodId} {args : Array Value} {below : List Frame} {meth : Method} {c : Code} {T : State} {locs : List Loc} {cells slots : Nat}
theorem retI (X : Stand p l e R s m args below meth c T locs cells slots) (hx : p.tables.exec = Jvm.exec) {pc : Nat} {Ls : Array Slot} {z : Int32} {rest : List Value} (hret : meth.sig.returnType = some .int) (hd : decode c.code pc = .ok (.ireturn, 1)) {fs : List Frame}
    (hl : ∀ (f : JFrame) (acts : List Action), f.method = m → f.locked = none → f.entered = [] → (doReturn e (T.setTop f) acts (some (.int z))).1 = T.setFrames fs) : Steps p.tables e below (T.setTop (mkF m pc Ls (.int z :: rest))) (T.setFrames fs) := by
  have hm' : T.vm.method? m = some meth := X.method'
  have hn : narrow .int (.int z) = .int z := rfl
  show Steps p.tables e below (T.setTop { method := m, pc := pc, locals := Ls, stack := _ :: rest, locked := none }) _
  jvm_step X.here [X.here.top, hx, hd, hm', hret, hn]
  first | (intro acts; rw [hl _ acts rfl rfl rfl]) | rw [hl _ _ rfl rfl rfl]
  exact Steps.refl _
end New
end Jvm.RoadKit
namespace Jvm.Pilot.@@N@@
open Jvm Jvm.ClassFile Sem Op Lib Jvm.Free Jvm.Stand Jvm.LawKit Jvm.RoadKit Bundle Jvm.Pilot.@@N@@.Jvm.D
section OwnCalls
theorem own_retD {p : Program} {l : Launch} {e : Env} {R : Room} {s : State} {m : MethodId} {args : Array Value} {below : List Frame} {meth : Method} {c : Code} {T : State} {locs : List Loc} {cells slots : Nat} (X : Stand p l e R s m args below meth c T locs cells slots) (hx : p.tables.exec = Jvm.exec) {pc : Nat} {Ls : Array Slot} {z : UInt64} {rest : List Value} (hret : meth.sig.returnType = some .double) (hd : decode c.code pc = .ok (.dreturn, 1)) {fs : List Frame}
    (hl : ∀ (f : JFrame) (acts : List Action), f.method = m → f.locked = none → f.entered = [] → (doReturn e (T.setTop f) acts (some (.double z))).1 = T.setFrames fs) : Steps p.tables e below (T.setTop (mkF m pc Ls (.double z :: rest))) (T.setFrames fs) := by
  have hm' : T.vm.method? m = some meth := X.method'
  have hn : narrow .double (.double z) = .double z := rfl
  show Steps p.tables e below (T.setTop { method := m, pc := pc, locals := Ls, stack := _ :: rest, locked := none }) _
  jvm_step X.here [X.here.top, hx, hd, hm', hret, hn]
  first | (intro acts; rw [hl _ acts rfl rfl rfl]) | rw [hl _ _ rfl rfl rfl]
  exact Steps.refl _
theorem own_retJ {p : Program} {l : Launch} {e : Env} {R : Room} {s : State} {m : MethodId} {args : Array Value} {below : List Frame} {meth : Method} {c : Code} {T : State} {locs : List Loc} {cells slots : Nat} (X : Stand p l e R s m args below meth c T locs cells slots) (hx : p.tables.exec = Jvm.exec) {pc : Nat} {Ls : Array Slot} {z : Int64} {rest : List Value} (hret : meth.sig.returnType = some .long) (hd : decode c.code pc = .ok (.lreturn, 1)) {fs : List Frame}
    (hl : ∀ (f : JFrame) (acts : List Action), f.method = m → f.locked = none → f.entered = [] → (doReturn e (T.setTop f) acts (some (.long z))).1 = T.setFrames fs) : Steps p.tables e below (T.setTop (mkF m pc Ls (.long z :: rest))) (T.setFrames fs) := by
  have hm' : T.vm.method? m = some meth := X.method'
  have hn : narrow .long (.long z) = .long z := rfl
  show Steps p.tables e below (T.setTop { method := m, pc := pc, locals := Ls, stack := _ :: rest, locked := none }) _
  jvm_step X.here [X.here.top, hx, hd, hm', hret, hn]
  first | (intro acts; rw [hl _ acts rfl rfl rfl]) | rw [hl _ _ rfl rfl rfl]
  exact Steps.refl _
variable {p : Program} {l : Launch} {e : Env} {R : Room} {s : State} {m : MethodId} {args : Array Value} {below : List Frame} {meth : Method} {c : Code} {T : State} {locs : List Loc} {cells slots : Nat} {Z : State} {a0 : Array Value} {h : Heap}
/-- a static call, by the callee's contract, that answers with a value and leaves all as it was -/
theorem own_pureS (X : Stand p l e R s m args below meth c T locs cells slots) (hx : p.tables.exec = Jvm.exec) (hZ : Z.Warmed39 s.vm) {own : String} {index : Nat} {y : MethodName} {bytes : ByteArray} {maxL : Nat} {ret : Option FieldType} {rm : Room} {argsL rest : List Value} {val : Value} {W : Nat}
    (hM : MetFree l y (head1 [Cond.code y bytes maxL ret] rm) (fun a U => a = argsL.toArray ∧ Z.Warmed39 U.vm ∧ U.heap = h) (fun _ _ _ _ _ => True) (fun _ U o U' => ∃ v L, o = .returned v ∧ (v = some val ∧ L = [] ∧ U'.heap = h) ∧ FrameEnd U o U' L rm.cells rm.slots))
    (hown : s.vm.findClass own = some m.cls) (w1 : (Cond.methodLink own index y).before a0 Z = true) (w2 : (Cond.static y).before a0 Z = true) (w3 : (Cond.initialized y.cls).before a0 Z = true) (w4 : (Cond.code y bytes maxL ret).before a0 Z = true) (hy : y.cls ≠ "java/lang/invoke/MethodHandle" ∧ y.cls ≠ "java/lang/invoke/VarHandle")
    (hf : rm.frames + 1 ≤ R.frames) (hl : W + (maxL + 11) + rm.locals ≤ R.locals) (eT : T.heap = h) {g : JFrame} (hg : g.method = m) (hsize : g.locals.size = c.maxLocals) (hlen : ∀ sig, parseMethodDescriptor y.desc = some sig → argsL.length = sig.parameters.length)
    (hst : g.stack = argsL.reverse ++ rest) (hW : 2 * g.monitorRoom + (rest.map fun v => v.category).sum ≤ W) (hd : decode c.code g.pc = .ok (.invokestatic index, 3)) (hc : cells + rm.cells ≤ R.cells) (hs : slots + rm.slots ≤ R.slots) (hc0 : rm.cells = 0 := by rfl) (hs0 : rm.slots = 0 := by rfl) :
    ∃ T', Stand p l e R s m args below meth c T' locs cells slots ∧ T'.heap = h ∧ ∀ target, Steps p.tables e below (T'.setTop { g with pc := g.pc + 3, stack := val :: rest }) target → Steps p.tables e below (T.setTop g) target := by
  obtain ⟨_, _, ⟨T1, L1, k1, n1⟩, -, X1, ⟨Lc, hQ, l1, y1, z1⟩, st⟩ := Jvm.LawKit.callS X hx (y := y) hown (mvT hZ w1) (mvT hZ w2) (mvT hZ w3) (mvT hZ w4) hy (backOf (W := W) (Q := fun v h' L => v = some val ∧ L = [] ∧ h' = h) hM hZ w4 w3 hf hl) hg hsize (argsL := argsL) (rest := rest) hlen hst hW hd (fun _ _ => ⟨rfl, eT, hc, hs⟩)
  dsimp only [Pt.U, Pt.locs, Pt.cells, Pt.slots] at X1 l1 y1 z1 st hQ
  obtain ⟨rfl, rfl, hh⟩ := hQ
  rw [hc0] at y1; rw [hs0] at z1
  subst l1 y1 z1
  rw [List.append_nil] at X1
  exact ⟨T1, X1, hh, st⟩
/-- an instance call, by the contract of the body that the receiver's class selects, that answers with a value and leaves all as it was -/
theorem own_pureV (X : Stand p l e R s m args below meth c T locs cells slots) (hx : p.tables.exec = Jvm.exec) (hZ : Z.Warmed39 s.vm) {own C : String} {index : Nat} {y : MethodName} {bytes : ByteArray} {maxL : Nat} {ret : Option FieldType} {rm : Room} {a : Addr} {argsL rest : List Value} {val : Value} {W : Nat}
    (hM : MetFree l y (head1 [Cond.code y bytes maxL ret] rm) (fun a' U => a' = (.ref a :: argsL).toArray ∧ Z.Warmed39 U.vm ∧ U.heap = h) (fun _ _ _ _ _ => True) (fun _ U o U' => ∃ v L, o = .returned v ∧ (v = some val ∧ L = [] ∧ U'.heap = h) ∧ FrameEnd U o U' L rm.cells rm.slots))
    (hown : s.vm.findClass own = some m.cls) (w1 : (Cond.methodLink own index y).before a0 Z = true) (w2 : (Cond.declares y).before a0 Z = true) (w5 : (Cond.instanceMethod y).before a0 Z = true) (w6 : (Cond.selects C y y).before a0 Z = true) (w3 : (Cond.initialized y.cls).before a0 Z = true) (w4 : (Cond.code y bytes maxL ret).before a0 Z = true) (hy : y.cls ≠ "java/lang/invoke/MethodHandle" ∧ y.cls ≠ "java/lang/invoke/VarHandle") (E : Exa Z h a C)
    (hf : rm.frames + 1 ≤ R.frames) (hl : W + (maxL + 11) + rm.locals ≤ R.locals) (eT : T.heap = h) {g : JFrame} (hg : g.method = m) (hsize : g.locals.size = c.maxLocals) (hlen : ∀ sig, parseMethodDescriptor y.desc = some sig → argsL.length = sig.parameters.length)
    (hst : g.stack = argsL.reverse ++ .ref a :: rest) (hW : 2 * g.monitorRoom + (rest.map fun v => v.category).sum ≤ W) (hd : decode c.code g.pc = .ok (.invokevirtual index, 3)) (hc : cells + rm.cells ≤ R.cells) (hs : slots + rm.slots ≤ R.slots) (hc0 : rm.cells = 0 := by rfl) (hs0 : rm.slots = 0 := by rfl) :
    ∃ T', Stand p l e R s m args below meth c T' locs cells slots ∧ T'.heap = h ∧ ∀ target, Steps p.tables e below (T'.setTop { g with pc := g.pc + 3, stack := val :: rest }) target → Steps p.tables e below (T.setTop g) target := by
  obtain ⟨cq, kq, qa, qb, qc⟩ := isOf hZ eT E
  obtain ⟨_, _, ⟨T1, L1, k1, n1⟩, -, X1, ⟨Lc, hQ, l1, y1, z1⟩, st⟩ := X.virtualBack hx (y := y) (z := y) hown (mvT hZ w1) (mvT hZ w2) (notFace_of_selects (args := #[]) (mvT hZ w6)) (mvT hZ w6) (mvT hZ w5) hy (backOf (W := W) (Q := fun v h' L => v = some val ∧ L = [] ∧ h' = h) hM hZ w4 w3 hf hl) qa qc hg hsize (Steps.refl _) (argsL := argsL) (rest := rest) hlen hst hW hd (fun _ _ => ⟨rfl, eT, hc, hs⟩)
  dsimp only [Pt.U, Pt.locs, Pt.cells, Pt.slots] at X1 l1 y1 z1 st hQ
  obtain ⟨rfl, rfl, hh⟩ := hQ
  rw [hc0] at y1; rw [hs0] at z1
  subst l1 y1 z1
  rw [List.append_nil] at X1
  exact ⟨T1, X1, hh, fun target k => st.trans k⟩
end OwnCalls
section OwnArr
variable {p : Program} {l : Launch} {e : Env} {R : Room} {s : State} {m : MethodId} {args : Array Value} {below : List Frame} {meth : Method} {c : Code} {T : State} {locs : List Loc} {cells slots : Nat} {Z : State} {a0 : Array Value} {h : Heap}
/-- an int[] | a double[] by the list of what it holds (the list may be longer than the array) -/
def own_I (Z : State) (h : Heap) (a : Addr) (z : Int32) (L : List Int32) : Prop := ∃ k, Arv Z h a k .int z (L.map Value.int) (.int 0)
def own_D (Z : State) (h : Heap) (a : Addr) (z : Int32) (L : List UInt64) : Prop := ∃ k, Arv Z h a k .double z (L.map Value.double) (.double 0)
theorem own_I.lt {a : Addr} {z : Int32} {L : List Int32} (V : own_I Z h a z L) : a < h.size := by obtain ⟨k, V⟩ := V; exact V.lt
theorem own_D.lt {a : Addr} {z : Int32} {L : List UInt64} (V : own_D Z h a z L) : a < h.size := by obtain ⟨k, V⟩ := V; exact V.lt
theorem own_I.ext {h' : Heap} {a : Addr} {z : Int32} {L : List Int32} (V : own_I Z h a z L) (E : Ext h h') : own_I Z h' a z L := by obtain ⟨k, V⟩ := V; exact ⟨k, V.ext E⟩
theorem own_D.ext {h' : Heap} {a : Addr} {z : Int32} {L : List UInt64} (V : own_D Z h a z L) (E : Ext h h') : own_D Z h' a z L := by obtain ⟨k, V⟩ := V; exact ⟨k, V.ext E⟩
theorem own_I.other {h' : Heap} {a b : Addr} {sl : Nat} {v : Value} {z : Int32} {L : List Int32} (V : own_I Z h b z L) (W : Wr h h' a sl v) (q : b ≠ a) : own_I Z h' b z L := by obtain ⟨k, V⟩ := V; exact ⟨k, V.other W q⟩
theorem own_D.other {h' : Heap} {a b : Addr} {sl : Nat} {v : Value} {z : Int32} {L : List UInt64} (V : own_D Z h b z L) (W : Wr h h' a sl v) (q : b ≠ a) : own_D Z h' b z L := by obtain ⟨k, V⟩ := V; exact ⟨k, V.other W q⟩
theorem own_I.keep {h' : Heap} {a : Addr} {ws : List Addr} {z : Int32} {L : List Int32} (V : own_I Z h a z L) (K : Keep h h' ws) (q : a ∉ ws) : own_I Z h' a z L := by obtain ⟨k, V⟩ := V; exact ⟨k, V.keep K q⟩
theorem own_D.keep {h' : Heap} {a : Addr} {ws : List Addr} {z : Int32} {L : List UInt64} (V : own_D Z h a z L) (K : Keep h h' ws) (q : a ∉ ws) : own_D Z h' a z L := by obtain ⟨k, V⟩ := V; exact ⟨k, V.keep K q⟩
theorem own_getI (L : List Int32) (i : Nat) : (L.map Value.int).getD i (.int 0) = .int (L.getD i 0) := by
  simp only [List.getD_eq_getElem?_getD, List.getElem?_map]
  cases L[i]? <;> rfl
theorem own_getDb (L : List UInt64) (i : Nat) : (L.map Value.double).getD i (.double 0) = .double (L.getD i 0) := by
  simp only [List.getD_eq_getElem?_getD, List.getElem?_map]
  cases L[i]? <;> rfl
theorem own_iald (X : Stand p l e R s m args below meth c T locs cells slots) (hx : p.tables.exec = Jvm.exec) (hZ : Z.Warmed39 s.vm) (eT : T.heap = h) {a : Addr} {z j : Int32} {L : List Int32} (V : own_I Z h a z L) (hj : ¬ j < 0 ∧ j < z) {g : JFrame} (hg : g.method = m) {rest : List Value} (hs : g.stack = .int j :: .ref a :: rest) (hd : decode c.code g.pc = .ok (.iaload, 1)) :
    ∀ target, Steps p.tables e below (T.setTop { g with pc := g.pc + 1, stack := .int (L.getD j.toNatClampNeg 0) :: rest }) target → Steps p.tables e below (T.setTop g) target := by
  obtain ⟨k, cl, Ar, q, S, N, H, G⟩ := V
  have hin := inb_of S hj
  exact X.iaload hx (j := j) (v := .int (L.getD j.toNatClampNeg 0)) (by rw [eT]; exact Ar.1) (State.isArrayOf_alike hZ.alike Ar.2.1) Ar.2.2 hin (Has.at H hin (own_getI L _)) hg hs hd
theorem own_dald (X : Stand p l e R s m args below meth c T locs cells slots) (hx : p.tables.exec = Jvm.exec) (hZ : Z.Warmed39 s.vm) (eT : T.heap = h) {a : Addr} {z j : Int32} {L : List UInt64} (V : own_D Z h a z L) (hj : ¬ j < 0 ∧ j < z) {g : JFrame} (hg : g.method = m) {rest : List Value} (hs : g.stack = .int j :: .ref a :: rest) (hd : decode c.code g.pc = .ok (.daload, 1)) :
    ∀ target, Steps p.tables e below (T.setTop { g with pc := g.pc + 1, stack := .double (L.getD j.toNatClampNeg 0) :: rest }) target → Steps p.tables e below (T.setTop g) target := by
  obtain ⟨k, cl, Ar, q, S, N, H, G⟩ := V
  have hin := inb_of S hj
  exact X.daload hx (j := j) (v := .double (L.getD j.toNatClampNeg 0)) (by rw [eT]; exact Ar.1) (State.isArrayOf_alike hZ.alike Ar.2.1) Ar.2.2 hin (Has.at H hin (own_getDb L _)) hg hs hd
theorem own_iast (X : Stand p l e R s m args below meth c T locs cells slots) (hx : p.tables.exec = Jvm.exec) (hZ : Z.Warmed39 s.vm) (eT : T.heap = h) {a : Addr} {z j x : Int32} {L : List Int32} (V : own_I Z h a z L) (hj : ¬ j < 0 ∧ j < z) (hL : j.toNatClampNeg < L.length) {g : JFrame} (hg : g.method = m) {rest : List Value} (hs : g.stack = .int x :: .int j :: .ref a :: rest) (hd : decode c.code g.pc = .ok (.iastore, 1)) :
    ∃ T' h', Stand p l e R s m args below meth c T' (locs ++ [⟨a, j.toNatClampNeg⟩]) cells slots ∧ T'.heap = h' ∧ Wr h h' a j.toNatClampNeg (.int x) ∧ own_I Z h' a z (L.set j.toNatClampNeg x) ∧ ∀ target, Steps p.tables e below (T'.setTop { g with pc := g.pc + 1, stack := rest }) target → Steps p.tables e below (T.setTop g) target := by
  obtain ⟨k, cl, Ar, q, S, N, H, G⟩ := V
  have hin := inb_of S hj
  obtain ⟨T', h', X', e', W', st⟩ := stI X hx hZ eT Ar (j := j) hin hg hs hd
  refine ⟨T', h', X', e', W', ⟨k, ?_⟩, st⟩
  rw [List.map_set]
  exact Arv.set Ar q S N H G rfl W' _ rfl (by rw [List.length_map]; exact hL)
theorem own_dast (X : Stand p l e R s m args below meth c T locs cells slots) (hx : p.tables.exec = Jvm.exec) (hZ : Z.Warmed39 s.vm) (eT : T.heap = h) {a : Addr} {z j : Int32} {x : UInt64} {L : List UInt64} (V : own_D Z h a z L) (hj : ¬ j < 0 ∧ j < z) (hL : j.toNatClampNeg < L.length) {g : JFrame} (hg : g.method = m) {rest : List Value} (hs : g.stack = .double x :: .int j :: .ref a :: rest) (hd : decode c.code g.pc = .ok (.dastore, 1)) :
    ∃ T' h', Stand p l e R s m args below meth c T' (locs ++ [⟨a, j.toNatClampNeg⟩]) cells slots ∧ T'.heap = h' ∧ Wr h h' a j.toNatClampNeg (.double x) ∧ own_D Z h' a z (L.set j.toNatClampNeg x) ∧ ∀ target, Steps p.tables e below (T'.setTop { g with pc := g.pc + 1, stack := rest }) target → Steps p.tables e below (T.setTop g) target := by
  obtain ⟨k, cl, Ar, q, S, N, H, G⟩ := V
  have hin := inb_of S hj
  obtain ⟨T', h', X', e', W', st⟩ := stD X hx hZ eT Ar (j := j) hin hg hs hd
  refine ⟨T', h', X', e', W', ⟨k, ?_⟩, st⟩
  rw [List.map_set]
  exact Arv.set Ar q S N H G rfl W' _ rfl (by rw [List.length_map]; exact hL)
theorem own_inew (X : Stand p l e R s m args below meth c T locs cells slots) (hx : p.tables.exec = Jvm.exec) (hZ : Z.Warmed39 s.vm) (w : (Cond.arrayClass .int).before a0 Z = true) (eT : T.heap = h) {g : JFrame} (hg : g.method = m) (hd : decode c.code g.pc = .ok (.newarray .int, 2)) {n : Int32} {rest : List Value} (hs : g.stack = .int n :: rest) (hn : ¬ n < 0) {cap : Nat} (hcap : n.toNatClampNeg ≤ cap) (hb : cap * 8 ≤ 536870912) (hc : cells + 1 ≤ R.cells) (hl : slots + cap ≤ R.slots) :
    ∃ T' h' a, Stand p l e R s m args below meth c T' locs (cells + 1) (slots + cap) ∧ T'.heap = h' ∧ Ext h h' ∧ a = h.size ∧ own_I Z h' a n (List.replicate cap 0) ∧ ∀ target, Steps p.tables e below (T'.setTop { g with pc := g.pc + 2, stack := .ref a :: rest }) target → Steps p.tables e below (T.setTop g) target := by
  obtain ⟨T', h', k, X', e', E', A', st⟩ := newP X hx hZ (aty := .int) w eT hg hd hs hn hcap hb hc hl
  refine ⟨T', h', h.size, X', e', E', rfl, ⟨k, ?_⟩, st⟩
  rw [List.map_replicate]
  exact (Arv.new A' hn).pad (pad_rep [] (.int 0) cap)
theorem own_dnew (X : Stand p l e R s m args below meth c T locs cells slots) (hx : p.tables.exec = Jvm.exec) (hZ : Z.Warmed39 s.vm) (w : (Cond.arrayClass .double).before a0 Z = true) (eT : T.heap = h) {g : JFrame} (hg : g.method = m) (hd : decode c.code g.pc = .ok (.newarray .double, 2)) {n : Int32} {rest : List Value} (hs : g.stack = .int n :: rest) (hn : ¬ n < 0) {cap : Nat} (hcap : n.toNatClampNeg ≤ cap) (hb : cap * 8 ≤ 536870912) (hc : cells + 1 ≤ R.cells) (hl : slots + cap ≤ R.slots) :
    ∃ T' h' a, Stand p l e R s m args below meth c T' locs (cells + 1) (slots + cap) ∧ T'.heap = h' ∧ Ext h h' ∧ a = h.size ∧ own_D Z h' a n (List.replicate cap 0) ∧ ∀ target, Steps p.tables e below (T'.setTop { g with pc := g.pc + 2, stack := .ref a :: rest }) target → Steps p.tables e below (T.setTop g) target := by
  obtain ⟨T', h', k, X', e', E', A', st⟩ := newP X hx hZ (aty := .double) w eT hg hd hs hn hcap hb hc hl
  refine ⟨T', h', h.size, X', e', E', rfl, ⟨k, ?_⟩, st⟩
  rw [List.map_replicate]
  exact (Arv.new A' hn).pad (pad_rep [] (.double 0) cap)
theorem own_ilen (X : Stand p l e R s m args below meth c T locs cells slots) (hx : p.tables.exec = Jvm.exec) (hZ : Z.Warmed39 s.vm) (eT : T.heap = h) {a : Addr} {z : Int32} {L : List Int32} (V : own_I Z h a z L) {g : JFrame} (hg : g.method = m) {rest : List Value} (hs : g.stack = .ref a :: rest) (hd : decode c.code g.pc = .ok (.arraylength, 1)) :
    ∀ target, Steps p.tables e below (T.setTop { g with pc := g.pc + 1, stack := .int z :: rest }) target → Steps p.tables e below (T.setTop g) target := by
  obtain ⟨k, cl, Ar, q, S, N, H, G⟩ := V
  intro target k
  rw [← len_of S N] at k
  exact X.arraylength hx (by rw [eT]; exact Ar.1) (State.isArrayOf_alike hZ.alike Ar.2.1) hg hs hd target k
theorem own_dlen (X : Stand p l e R s m args below meth c T locs cells slots) (hx : p.tables.exec = Jvm.exec) (hZ : Z.Warmed39 s.vm) (eT : T.heap = h) {a : Addr} {z : Int32} {L : List UInt64} (V : own_D Z h a z L) {g : JFrame} (hg : g.method = m) {rest : List Value} (hs : g.stack = .ref a :: rest) (hd : decode c.code g.pc = .ok (.arraylength, 1)) :
    ∀ target, Steps p.tables e below (T.setTop { g with pc := g.pc + 1, stack := .int z :: rest }) target → Steps p.tables e below (T.setTop g) target := by
  obtain ⟨k, cl, Ar, q, S, N, H, G⟩ := V
  intro target k
  rw [← len_of S N] at k
  exact X.arraylength hx (by rw [eT]; exact Ar.1) (State.isArrayOf_alike hZ.alike Ar.2.1) hg hs hd target k
end OwnArr
section OwnX
variable {p : Program} {l : Launch} {e : Env} {R : Room} {s : State} {m : MethodId} {args : Array Value} {below : List Frame} {meth : Method} {c : Code} {T : State} {locs : List Loc} {cells slots : Nat} {Z : State} {a0 : Array Value} {h : Heap}
theorem own_i2d0 : FP.i2d 0 = 0 := by decide +kernel
theorem own_mapX (L : List Int32) (i : Nat) : (L.map FP.i2d).getD i 0 = FP.i2d (L.getD i 0) := by
  simp only [List.getD_eq_getElem?_getD, List.getElem?_map]
  cases L[i]? with
  | none => exact own_i2d0.symm
  | some v => rfl
/-- a double[] that holds the doubles of these ints -/
def own_X (Z : State) (h : Heap) (a : Addr) (z : Int32) (L : List Int32) : Prop := own_D Z h a z (L.map FP.i2d)
theorem own_X.lt {a : Addr} {z : Int32} {L : List Int32} (V : own_X Z h a z L) : a < h.size := own_D.lt V
theorem own_X.ext {h' : Heap} {a : Addr} {z : Int32} {L : List Int32} (V : own_X Z h a z L) (E : Ext h h') : own_X Z h' a z L := own_D.ext V E
theorem own_X.other {h' : Heap} {a b : Addr} {sl : Nat} {v : Value} {z : Int32} {L : List Int32} (V : own_X Z h b z L) (W : Wr h h' a sl v) (q : b ≠ a) : own_X Z h' b z L := own_D.other V W q
theorem own_X.keep {h' : Heap} {a : Addr} {ws : List Addr} {z : Int32} {L : List Int32} (V : own_X Z h a z L) (K : Keep h h' ws) (q : a ∉ ws) : own_X Z h' a z L := own_D.keep V K q
theorem own_xald (X : Stand p l e R s m args below meth c T locs cells slots) (hx : p.tables.exec = Jvm.exec) (hZ : Z.Warmed39 s.vm) (eT : T.heap = h) {a : Addr} {z j : Int32} {L : List Int32} (V : own_X Z h a z L) (hj : ¬ j < 0 ∧ j < z) {g : JFrame} (hg : g.method = m) {rest : List Value} (hs : g.stack = .int j :: .ref a :: rest) (hd : decode c.code g.pc = .ok (.daload, 1)) :
    ∀ target, Steps p.tables e below (T.setTop { g with pc := g.pc + 1, stack := .double (FP.i2d (L.getD j.toNatClampNeg 0)) :: rest }) target → Steps p.tables e below (T.setTop g) target := by
  intro target k
  refine own_dald X hx hZ eT V hj hg hs hd target ?_
  rw [own_mapX]
  exact k
theorem own_xast (X : Stand p l e R s m args below meth c T locs cells slots) (hx : p.tables.exec = Jvm.exec) (hZ : Z.Warmed39 s.vm) (eT : T.heap = h) {a : Addr} {z j x : Int32} {L : List Int32} (V : own_X Z h a z L) (hj : ¬ j < 0 ∧ j < z) (hL : j.toNatClampNeg < L.length) {g : JFrame} (hg : g.method = m) {rest : List Value} (hs : g.stack = .double (FP.i2d x) :: .int j :: .ref a :: rest) (hd : decode c.code g.pc = .ok (.dastore, 1)) :
    ∃ T' h', Stand p l e R s m args below meth c T' (locs ++ [⟨a, j.toNatClampNeg⟩]) cells slots ∧ T'.heap = h' ∧ Wr h h' a j.toNatClampNeg (.double (FP.i2d x)) ∧ own_X Z h' a z (L.set j.toNatClampNeg x) ∧ ∀ target, Steps p.tables e below (T'.setTop { g with pc := g.pc + 1, stack := rest }) target → Steps p.tables e below (T.setTop g) target := by
  obtain ⟨T', h', X', e', W', V', st⟩ := own_dast X hx hZ eT V hj (by rw [List.length_map]; exact hL) hg hs hd
  refine ⟨T', h', X', e', W', ?_, st⟩
  rw [own_X, List.map_set]
  exact V'
theorem own_xnew (X : Stand p l e R s m args below meth c T locs cells slots) (hx : p.tables.exec = Jvm.exec) (hZ : Z.Warmed39 s.vm) (w : (Cond.arrayClass .double).before a0 Z = true) (eT : T.heap = h) {g : JFrame} (hg : g.method = m) (hd : decode c.code g.pc = .ok (.newarray .double, 2)) {n : Int32} {rest : List Value} (hs : g.stack = .int n :: rest) (hn : ¬ n < 0) {cap : Nat} (hcap : n.toNatClampNeg ≤ cap) (hb : cap * 8 ≤ 536870912) (hc : cells + 1 ≤ R.cells) (hl : slots + cap ≤ R.slots) :
    ∃ T' h' a, Stand p l e R s m args below meth c T' locs (cells + 1) (slots + cap) ∧ T'.heap = h' ∧ Ext h h' ∧ a = h.size ∧ own_X Z h' a n (List.replicate cap 0) ∧ ∀ target, Steps p.tables e below (T'.setTop { g with pc := g.pc + 2, stack := .ref a :: rest }) target → Steps p.tables e below (T.setTop g) target := by
  obtain ⟨T', h', a, X', e', E', ea, V', st⟩ := own_dnew X hx hZ w eT hg hd hs hn hcap hb hc hl
  refine ⟨T', h', a, X', e', E', ea, ?_, st⟩
  rw [own_X, List.map_replicate, own_i2d0]
  exact V'
theorem own_xlen (X : Stand p l e R s m args below meth c T locs cells slots) (hx : p.tables.exec = Jvm.exec) (hZ : Z.Warmed39 s.vm) (eT : T.heap = h) {a : Addr} {z : Int32} {L : List Int32} (V : own_X Z h a z L) {g : JFrame} (hg : g.method = m) {rest : List Value} (hs : g.stack = .ref a :: rest) (hd : decode c.code g.pc = .ok (.arraylength, 1)) :
    ∀ target, Steps p.tables e below (T.setTop { g with pc := g.pc + 1, stack := .int z :: rest }) target → Steps p.tables e below (T.setTop g) target := own_dlen X hx hZ eT V hg hs hd
theorem own_add0 (x : Int32) : Jvm.Free.Fl.NoNaN64 (FP.dadd (FP.i2d x) FP.dconst0) ∧ FP.dadd (FP.i2d x) FP.dconst0 = FP.i2d x := by
  have e : FP.dadd (FP.i2d x) FP.dconst0 = FP.i2d x := by
    have h1 := Int32.toInt_lt x
    have h2 := Int32.le_toInt x
    rw [i2d_w, show FP.dconst0 = FP.l2d 0 from (by decide +kernel)]
    rw [dadd_w (a := x.toInt64) (b := 0) ⟨by rw [Int32.toInt_toInt64]; omega, by rw [Int32.toInt_toInt64]; omega⟩ (by unfold B53; decide), Int64.add_zero]
  exact ⟨by rw [e]; exact (Jvm.Free.Fl.i2d_fin x).noNaN, e⟩
/-- a private method's 'selects' word, out of another method's of the same class -/
theorem own_selP (hZ : Z.Warmed39 s.vm) {C : String} {y y0 : MethodName} (w : (Cond.selects C y0 y0).before a0 Z = true) (hc0 : y0.cls = y.cls) (wp : (Cond.privateMethod y).before a0 Z = true) (wi : (Cond.instanceMethod y).before a0 Z = true) (hy : y.cls ≠ "java/lang/invoke/MethodHandle" ∧ y.cls ≠ "java/lang/invoke/VarHandle") : (Cond.selects y.cls y y).before args s = true := by
  have w' : (Cond.selects C y0 y0).before args s = true := mvT hZ w
  obtain ⟨c2, r2, m2, q1, q2, q3, q4, kP, hkP, hkPi⟩ := Cond.selects_spec w'
  exact Jvm.Stand.selects_self_of_private (hc0 ▸ findClass_of_methodNamed q3) hkP hkPi (Cond.privateMethod_at (args := args) (mvP hZ wp)) (mvT (args := args) hZ wi) hy
/-- a private instance method by its contract: it answers with a value and leaves all as it was -/
theorem own_pureP (X : Stand p l e R s m args below meth c T locs cells slots) (hx : p.tables.exec = Jvm.exec) (hZ : Z.Warmed39 s.vm) {own C : String} {index : Nat} {y y0 : MethodName} {bytes : ByteArray} {maxL : Nat} {ret : Option FieldType} {rm : Room} {a : Addr} {argsL rest : List Value} {val : Value} {W : Nat}
    (hM : MetFree l y (head1 [Cond.code y bytes maxL ret] rm) (fun a' U => a' = (.ref a :: argsL).toArray ∧ Z.Warmed39 U.vm ∧ U.heap = h) (fun _ _ _ _ _ => True) (fun _ U o U' => ∃ v L, o = .returned v ∧ (v = some val ∧ L = [] ∧ U'.heap = h) ∧ FrameEnd U o U' L rm.cells rm.slots))
    (hown : s.vm.findClass own = some m.cls) (w1 : (Cond.methodLink own index y).before a0 Z = true) (w5 : (Cond.instanceMethod y).before a0 Z = true) (wp : (Cond.privateMethod y).before a0 Z = true) (w6 : (Cond.selects C y0 y0).before a0 Z = true) (hc0 : y0.cls = y.cls) (w3 : (Cond.initialized y.cls).before a0 Z = true) (w4 : (Cond.code y bytes maxL ret).before a0 Z = true) (hy : y.cls ≠ "java/lang/invoke/MethodHandle" ∧ y.cls ≠ "java/lang/invoke/VarHandle") {C' : String} (E : Exa Z h a C')
    (hf : rm.frames + 1 ≤ R.frames) (hl : W + (maxL + 11) + rm.locals ≤ R.locals) (eT : T.heap = h) {g : JFrame} (hg : g.method = m) (hsize : g.locals.size = c.maxLocals) (hlen : ∀ sig, parseMethodDescriptor y.desc = some sig → argsL.length = sig.parameters.length)
    (hst : g.stack = argsL.reverse ++ .ref a :: rest) (hW : 2 * g.monitorRoom + (rest.map fun v => v.category).sum ≤ W) (hd : decode c.code g.pc = .ok (.invokevirtual index, 3)) (hc : cells + rm.cells ≤ R.cells) (hs : slots + rm.slots ≤ R.slots) (hc0' : rm.cells = 0 := by rfl) (hs0 : rm.slots = 0 := by rfl) :
    ∃ T', Stand p l e R s m args below meth c T' locs cells slots ∧ T'.heap = h ∧ ∀ target, Steps p.tables e below (T'.setTop { g with pc := g.pc + 3, stack := val :: rest }) target → Steps p.tables e below (T.setTop g) target := by
  obtain ⟨cq, q, q'⟩ := E.cell
  obtain ⟨_, _, ⟨T1, L1, k1, n1⟩, -, X1, ⟨Lc, hQ, l1, y1, z1⟩, st⟩ := X.privateBack hx (y := y) hown (mvT hZ w1) (mvT hZ w5) (own_selP hZ w6 hc0 wp w5 hy) (Cond.privateMethod_at (mvP hZ wp (args := #[]))) (mvT hZ w4) hy (backOf (W := W) (Q := fun v h' L => v = some val ∧ L = [] ∧ h' = h) hM hZ w4 w3 hf hl) hg hsize (Steps.refl _) (a := a) (by rw [eT]; exact q) q' (argsL := argsL) (rest := rest) hlen hst hW hd (fun _ _ => ⟨rfl, eT, hc, hs⟩)
  dsimp only [Pt.U, Pt.locs, Pt.cells, Pt.slots] at X1 l1 y1 z1 st hQ
  obtain ⟨rfl, rfl, hh⟩ := hQ
  rw [hc0'] at y1; rw [hs0] at z1
  subst l1 y1 z1
  rw [List.append_nil] at X1
  exact ⟨T1, X1, hh, fun target k => st.trans k⟩
/-- a private instance method by its contract, that writes -/
theorem own_callP (X : Stand p l e R s m args below meth c T locs cells slots) (hx : p.tables.exec = Jvm.exec) (hZ : Z.Warmed39 s.vm) {own C : String} {index : Nat} {y y0 : MethodName} {bytes : ByteArray} {maxL : Nat} {ret : Option FieldType} {rm : Room} {a : Addr} {argsL rest : List Value} {Q : Heap → Prop} {n0 W : Nat}
    (hM : MetFree l y (head1 [Cond.code y bytes maxL ret] rm) (fun a' U => a' = (.ref a :: argsL).toArray ∧ Z.Warmed39 U.vm ∧ U.heap = h) (fun _ _ _ _ _ => True) (fun _ U o U' => ∃ v L, o = .returned v ∧ (v = none ∧ Fr n0 L ∧ Q U'.heap) ∧ FrameEnd U o U' L rm.cells rm.slots))
    (hown : s.vm.findClass own = some m.cls) (w1 : (Cond.methodLink own index y).before a0 Z = true) (w5 : (Cond.instanceMethod y).before a0 Z = true) (wp : (Cond.privateMethod y).before a0 Z = true) (w6 : (Cond.selects C y0 y0).before a0 Z = true) (hc0 : y0.cls = y.cls) (w3 : (Cond.initialized y.cls).before a0 Z = true) (w4 : (Cond.code y bytes maxL ret).before a0 Z = true) (hy : y.cls ≠ "java/lang/invoke/MethodHandle" ∧ y.cls ≠ "java/lang/invoke/VarHandle") {C' : String} (E : Exa Z h a C') (N : Fr n0 locs)
    (hf : rm.frames + 1 ≤ R.frames) (hl : W + (maxL + 11) + rm.locals ≤ R.locals) (eT : T.heap = h) {g : JFrame} (hg : g.method = m) (hsize : g.locals.size = c.maxLocals) (hlen : ∀ sig, parseMethodDescriptor y.desc = some sig → argsL.length = sig.parameters.length)
    (hst : g.stack = argsL.reverse ++ .ref a :: rest) (hW : 2 * g.monitorRoom + (rest.map fun v => v.category).sum ≤ W) (hd : decode c.code g.pc = .ok (.invokevirtual index, 3)) (hc : cells + rm.cells ≤ R.cells) (hs : slots + rm.slots ≤ R.slots) (hc0' : rm.cells = 0 := by rfl) (hs0 : rm.slots = 0 := by rfl) :
    ∃ T' h' L', Stand p l e R s m args below meth c T' L' cells slots ∧ T'.heap = h' ∧ Fr n0 L' ∧ Q h' ∧ ∀ target, Steps p.tables e below (T'.setTop { g with pc := g.pc + 3, stack := rest }) target → Steps p.tables e below (T.setTop g) target := by
  obtain ⟨cq, q, q'⟩ := E.cell
  obtain ⟨_, _, ⟨T1, L1, k1, n1⟩, -, X1, ⟨Lc, hQ, l1, y1, z1⟩, st⟩ := X.privateBack hx (y := y) hown (mvT hZ w1) (mvT hZ w5) (own_selP hZ w6 hc0 wp w5 hy) (Cond.privateMethod_at (mvP hZ wp (args := #[]))) (mvT hZ w4) hy (backOf (W := W) (Q := fun v h' L => v = none ∧ Fr n0 L ∧ Q h') hM hZ w4 w3 hf hl) hg hsize (Steps.refl _) (a := a) (by rw [eT]; exact q) q' (argsL := argsL) (rest := rest) hlen hst hW hd (fun _ _ => ⟨rfl, eT, hc, hs⟩)
  dsimp only [Pt.U, Pt.locs, Pt.cells, Pt.slots] at X1 l1 y1 z1 st hQ
  obtain ⟨rfl, hN, hh⟩ := hQ
  rw [hc0'] at y1; rw [hs0] at z1
  subst l1 y1 z1
  exact ⟨T1, T1.heap, _, X1, rfl, N.app hN, hh, fun target k => st.trans k⟩
end OwnX
def own_max (x y : Int32) : Int32 := if x < y then y else x
def own_min (x y : Int32) : Int32 := if y < x then y else x
def own_cmp (x y : Int32) : Int32 := if x < y then -1 else if y < x then 1 else 0
/-- the first comes behind the second -/
def own_W (x i y j : Int32) : Prop := y < x ∨ (x = y ∧ j < i)
def own_worse (x i y j : Int32) : Int32 := if y < x then 1 else if x = y then (if j < i then 1 else 0) else 0
theorem own_worse_t {x i y j : Int32} (h : own_W x i y j) : own_worse x i y j = 1 := by
  unfold own_worse
  rcases h with h | ⟨rfl, h⟩
  · rw [if_pos h]
  · by_cases q : x < x
    · rw [if_pos q]
    · rw [if_neg q, if_pos rfl, if_pos h]
theorem own_nar (x i y j : Int32) : nar .boolean (own_worse x i y j) = own_worse x i y j := by
  unfold own_worse
  split
  · rfl
  · split
    · split
      · rfl
      · rfl
    · rfl
theorem own_worse_f {x i y j : Int32} (h : ¬ own_W x i y j) : own_worse x i y j = 0 := by
  unfold own_worse own_W at *
  rw [if_neg (fun k => h (Or.inl k))]
  split
  · rename_i k
    rw [if_neg (fun q => h (Or.inr ⟨k, q⟩))]
  · rfl
def own_cp (nn : Int32) (XL : List Int32) : List Int32 := (List.range nn.toNatClampNeg).map (fun i => XL.getD i 0) ++ List.replicate (6 - nn.toNatClampNeg) 0
section OwnCp
variable {p : Program} {l : Launch} {e : Env} {R : Room} {s : State} {m : MethodId} {args : Array Value} {below : List Frame} {meth : Method} {c : Code} {T : State} {locs : List Loc} {cells slots : Nat} {Z : State} {a0 : Array Value} {h : Heap}
theorem own_call_raw {own : String} {index : Nat} (X : Stand p l e R s m args below meth c T locs cells slots) (hx : p.tables.exec = Jvm.exec) (hZ : Z.Warmed39 s.vm) (hw : ∀ d ∈ tables_1, d.before a0 Z = true) (hown : s.vm.findClass own = some m.cls) (w1 : (Cond.methodLink own index doubleToRawLongBitsName).before a0 Z = true) (d : UInt64)
    {W : Nat} {g : JFrame} (hg : g.method = m) (hsize : g.locals.size = c.maxLocals) {rest : List Value} (hst : g.stack = .double d :: rest) (hW : 2 * g.monitorRoom + (rest.map fun v => v.category).sum ≤ W) (hd : decode c.code g.pc = .ok (.invokestatic index, 3)) (hf : 1 ≤ R.frames) (hl : W + (nativeFrameWords "java/lang/Double" "doubleToRawLongBits" 2 + 11) ≤ R.locals) (eT : T.heap = h) :
    ∃ T', Stand p l e R s m args below meth c T' locs cells slots ∧ T'.heap = h ∧ ∀ target, Steps p.tables e below (T'.setTop { g with pc := g.pc + 3, stack := .long d.toInt64 :: rest }) target → Steps p.tables e below (T.setTop g) target := by
  obtain ⟨vm', X', st⟩ := X.doubleToRawLongBits hx hown (mvT hZ w1) (mvT hZ (hw _ (List.mem_of_getElem? (i := 69) rfl))) (mvT hZ (hw _ (List.mem_of_getElem? (i := 68) rfl))) (mvT hZ (hw _ (List.mem_of_getElem? (i := 55) rfl))) hg hsize hst hd hf (by omega)
  exact ⟨_, X', eT, st⟩
theorem own_cp_vals (nn : Int32) (XL : List Int32) : ((own_cp nn XL).map FP.i2d).map Value.double = (((List.replicate 6 (0 : Int32)).map FP.i2d).map Value.double).take (0 : Int32).toNatClampNeg ++ (List.range nn.toNatClampNeg).map (fun i => ((XL.map FP.i2d).map Value.double).getD ((0 : Int32).toNatClampNeg + i) (.double 0)) ++ (((List.replicate 6 (0 : Int32)).map FP.i2d).map Value.double).drop ((0 : Int32).toNatClampNeg + nn.toNatClampNeg) := by
  have z0 : (0 : Int32).toNatClampNeg = 0 := rfl
  rw [z0, List.take_zero, List.nil_append, Nat.zero_add]
  unfold own_cp
  rw [List.map_append, List.map_append]
  congr 1
  · rw [List.map_map, List.map_map]
    refine List.map_congr_left fun i _ => ?_
    show Value.double (FP.i2d (XL.getD i 0)) = _
    rw [Nat.zero_add, own_getDb, own_mapX]
  · rw [List.map_replicate, List.map_replicate, List.map_replicate, List.map_replicate, List.drop_replicate]
theorem own_cp_valsI (nn : Int32) (XL : List Int32) : (own_cp nn XL).map Value.int = ((List.replicate 6 (0 : Int32)).map Value.int).take (0 : Int32).toNatClampNeg ++ (List.range nn.toNatClampNeg).map (fun i => (XL.map Value.int).getD ((0 : Int32).toNatClampNeg + i) (.int 0)) ++ ((List.replicate 6 (0 : Int32)).map Value.int).drop ((0 : Int32).toNatClampNeg + nn.toNatClampNeg) := by
  have z0 : (0 : Int32).toNatClampNeg = 0 := rfl
  rw [z0, List.take_zero, List.nil_append, Nat.zero_add]
  unfold own_cp
  rw [List.map_append]
  congr 1
  · rw [List.map_map]
    refine List.map_congr_left fun i _ => ?_
    show Value.int (XL.getD i 0) = _
    rw [Nat.zero_add, own_getI]
  · rw [List.map_replicate, List.map_replicate, List.drop_replicate]
theorem own_cpX {own : String} {index : Nat} (X : Stand p l e R s m args below meth c T locs cells slots) (hx : p.tables.exec = Jvm.exec) (hZ : Z.Warmed39 s.vm) (hw : ∀ d ∈ tables_1, d.before a0 Z = true) (hown : s.vm.findClass own = some m.cls) (w1 : (Cond.methodLink own index Jvm.Stand.acN).before a0 Z = true) (eT : T.heap = h)
    {a b : Addr} {z z' nn : Int32} {XL : List Int32} (A : own_X Z h a z XL) (B : own_X Z h b z' (List.replicate 6 0)) (h1 : ¬ nn < 0) (h2 : nn.toNatClampNeg ≤ z.toNatClampNeg) (h3 : nn.toNatClampNeg ≤ z'.toNatClampNeg) (h4 : nn.toNatClampNeg ≤ 6) {n0 : Nat} (N : Fr n0 locs) (ge : n0 ≤ b)
    {W : Nat} {g : JFrame} (hg : g.method = m) (hsize : g.locals.size = c.maxLocals) {rest : List Value} (hs : g.stack = .int nn :: .int 0 :: .ref b :: .int 0 :: .ref a :: rest) (hd : decode c.code g.pc = .ok (.invokestatic index, 3)) (hf : 1 ≤ R.frames) (hW : 2 * g.monitorRoom + (rest.map fun v => v.category).sum ≤ W) (hlo : W + (nativeFrameWords "java/lang/System" "arraycopy" 5 + 11) ≤ R.locals) :
    ∃ T' h' L, Stand p l e R s m args below meth c T' L cells slots ∧ T'.heap = h' ∧ Fr n0 L ∧ Keep h h' [b] ∧ own_X Z h' b z' (own_cp nn XL) ∧ ∀ target, Steps p.tables e below (T'.setTop { g with pc := g.pc + 3, stack := rest }) target → Steps p.tables e below (T.setTop g) target := by
  obtain ⟨k, A⟩ := A
  obtain ⟨k', B⟩ := B
  have z0 : (0 : Int32).toNatClampNeg = 0 := rfl
  obtain ⟨T', h', L, X', e', N', K', V', st⟩ := cpA X hx hZ hown w1 (hw _ (List.mem_of_getElem? (i := 79) rfl)) (hw _ (List.mem_of_getElem? (i := 77) rfl)) (hw _ (List.mem_of_getElem? (i := 78) rfl)) eT A B (Or.inl ⟨rfl, rfl⟩) (by decide) (by decide) h1 (by rw [z0]; omega) (by rw [z0]; omega) rfl (by rw [z0, List.length_map, List.length_map, List.length_replicate]; omega) N ge hg hsize hs hd hf hW hlo
  refine ⟨T', h', L, X', e', N', K', ⟨k', ?_⟩, st⟩
  rw [own_cp_vals]
  exact V'
theorem own_cpI {own : String} {index : Nat} (X : Stand p l e R s m args below meth c T locs cells slots) (hx : p.tables.exec = Jvm.exec) (hZ : Z.Warmed39 s.vm) (hw : ∀ d ∈ tables_1, d.before a0 Z = true) (hown : s.vm.findClass own = some m.cls) (w1 : (Cond.methodLink own index Jvm.Stand.acN).before a0 Z = true) (eT : T.heap = h)
    {a b : Addr} {z z' nn : Int32} {XL : List Int32} (A : own_I Z h a z XL) (B : own_I Z h b z' (List.replicate 6 0)) (h1 : ¬ nn < 0) (h2 : nn.toNatClampNeg ≤ z.toNatClampNeg) (h3 : nn.toNatClampNeg ≤ z'.toNatClampNeg) (h4 : nn.toNatClampNeg ≤ 6) {n0 : Nat} (N : Fr n0 locs) (ge : n0 ≤ b)
    {W : Nat} {g : JFrame} (hg : g.method = m) (hsize : g.locals.size = c.maxLocals) {rest : List Value} (hs : g.stack = .int nn :: .int 0 :: .ref b :: .int 0 :: .ref a :: rest) (hd : decode c.code g.pc = .ok (.invokestatic index, 3)) (hf : 1 ≤ R.frames) (hW : 2 * g.monitorRoom + (rest.map fun v => v.category).sum ≤ W) (hlo : W + (nativeFrameWords "java/lang/System" "arraycopy" 5 + 11) ≤ R.locals) :
    ∃ T' h' L, Stand p l e R s m args below meth c T' L cells slots ∧ T'.heap = h' ∧ Fr n0 L ∧ Keep h h' [b] ∧ own_I Z h' b z' (own_cp nn XL) ∧ ∀ target, Steps p.tables e below (T'.setTop { g with pc := g.pc + 3, stack := rest }) target → Steps p.tables e below (T.setTop g) target := by
  obtain ⟨k, A⟩ := A
  obtain ⟨k', B⟩ := B
  have z0 : (0 : Int32).toNatClampNeg = 0 := rfl
  obtain ⟨T', h', L, X', e', N', K', V', st⟩ := cpA X hx hZ hown w1 (hw _ (List.mem_of_getElem? (i := 79) rfl)) (hw _ (List.mem_of_getElem? (i := 77) rfl)) (hw _ (List.mem_of_getElem? (i := 78) rfl)) eT A B (Or.inl ⟨rfl, rfl⟩) (by decide) (by decide) h1 (by rw [z0]; omega) (by rw [z0]; omega) rfl (by rw [z0, List.length_map, List.length_replicate]; omega) N ge hg hsize hs hd hf hW hlo
  refine ⟨T', h', L, X', e', N', K', ⟨k', ?_⟩, st⟩
  rw [own_cp_valsI]
  exact V'
end OwnCp
theorem pd_ii : parseMethodDescriptor "(II)I" = some ⟨[.int, .int], some .int⟩ := by decide +kernel
theorem pd_d : parseMethodDescriptor "(D)Z" = some ⟨[.double], some .boolean⟩ := by decide +kernel
theorem pd_dj : parseMethodDescriptor "(D)J" = some ⟨[.double], some .long⟩ := by decide +kernel
theorem pd_dd : parseMethodDescriptor "(DD)I" = some ⟨[.double, .double], some .int⟩ := by decide +kernel
theorem pd_w4 : parseMethodDescriptor "(DIDI)Z" = some ⟨[.double, .int, .double, .int], some .boolean⟩ := by decide +kernel
theorem pd_w3 : parseMethodDescriptor "(DII)Z" = some ⟨[.double, .int, .int], some .boolean⟩ := by decide +kernel
theorem pd_put : parseMethodDescriptor "(IDI)V" = some ⟨[.int, .double, .int], none⟩ := by decide +kernel
theorem pd_cd : parseMethodDescriptor "([DI)[D" = some ⟨[.array .double, .int], some (.array .double)⟩ := by decide +kernel
theorem pd_ci : parseMethodDescriptor "([II)[I" = some ⟨[.array .int, .int], some (.array .int)⟩ := by decide +kernel
theorem pd_kth : parseMethodDescriptor "(IIIIII)I" = some ⟨[.int, .int, .int, .int, .int, .int], some .int⟩ := by decide +kernel
theorem pd_agr : parseMethodDescriptor "(DI)Z" = some ⟨[.double, .int], some .boolean⟩ := by decide +kernel
theorem d3_0 : decode jdk_29_method_69_code 0 = .ok (.iload_n 0, 1) := by decide +kernel
theorem d3_1 : decode jdk_29_method_69_code 1 = .ok (.iload_n 1, 1) := by decide +kernel
theorem d3_2 : decode jdk_29_method_69_code 2 = .ok (.if_icmp .gt 7, 3) := by decide +kernel
theorem d3_9 : decode jdk_29_method_69_code 9 = .ok (.iload_n 1, 1) := by decide +kernel
theorem d3_10 : decode jdk_29_method_69_code 10 = .ok (.ireturn, 1) := by decide +kernel
theorem ef_3 (m : MethodId) (x0 : Int32) (x1 : Int32) : entryFrame m #[(.int x0), (.int x1)] 2 = mkF m 0 #[.val (.int x0), .val (.int x1)] [] := by first | (simp [entryFrame, mkF, argsToLocals, Value.category]; done) | rfl
set_option maxRecDepth 65536 in
set_option maxHeartbeats 40000000 in
theorem rm3_t (l : Launch) (Z : State) (a0 : Array Value) (hw : ∀ d ∈ tables_1, d.before a0 Z = true) (ws : List Jvm.Cond) (p1 : Int32) (p2 : Int32) (h0 : Heap) (n0 : Nat) (Z0 : n0 ≤ h0.size) (hc2 : p2 < p1) :
    MetFree l (⟨"java/lang/Math", "min", "(II)I"⟩ : MethodName) (head1 (Jvm.Cond.code (⟨"java/lang/Math", "min", "(II)I"⟩ : MethodName) jdk_29_method_69_code 2 (some .int) :: ws) ({ frames := 0, cells := 0, slots := 0, locals := 0 } : Room)) (fun a U => a = #[(.int p1), (.int p2)] ∧ Z.Warmed39 U.vm ∧ U.heap = h0) (fun _ _ _ _ _ => True) (fun _ U o U' => ∃ v L, o = .returned v ∧ (v = some (.int (own_min p1 p2)) ∧ L = [] ∧ U'.heap = h0) ∧ FrameEnd U o U' L ({ frames := 0, cells := 0, slots := 0, locals := 0 } : Room).cells ({ frames := 0, cells := 0, slots := 0, locals := 0 } : Room).slots) := by
  refine MetFree.of_bodySF (Jvm.Free.JP.mathPlain rfl (by decide +kernel)) hisR ?_
  intro p e s m args below meth c s₁ Bd hml0 hP hK
  obtain ⟨rfl, hZ, hh⟩ := hP
  have hx := Bd.exec
  have hby := Bd.bytes
  have hml : c.maxLocals = 2 := hml0
  have hown : s.vm.findClass "java/lang/Math" = some m.cls := findClass_of_methodNamed Bd.named
  have hnm := (name_of_methodNamed Bd.named Bd.method).1
  have X0 : Stand p l e ({ frames := 0, cells := 0, slots := 0, locals := 0 } : Room) s m #[(.int p1), (.int p2)] below meth c s₁ [] 0 0 := Stand.of_body Bd
  have e0 : s₁.heap = h0 := by rw [← hh, Bd.state]; rfl
  have N0 := Fr.nil n0
  have pre0 : ∀ t, Steps p.tables e below (s₁.setTop (mkF m 0 #[.val (.int p1), .val (.int p2)] [])) t → Steps p.tables e below (s₁.setTop (entryFrame m #[(.int p1), (.int p2)] 2)) t := fun t k => castTop (ef_3 m p1 p2) k
  -- 3. LAWS

  obtain ⟨fs, hr, hrun, hended, hW, hsame⟩ := X0.leave (v := some (.int p2)) (fun h => by rw [Bd.returns] at h; cases h)
  refine ⟨_, _, pre0 _ ?_, hrun, hended, _, _, rfl, ?_, ⟨_, rfl⟩, hW, hsame.mono (by decide) (by decide)⟩
  -- 4. STEPS
  · show Steps p.tables e below (s₁.setTop (mkF m 0 #[.val (.int p1), .val (.int p2)] [])) _
    refine XS.iloadN X0.here hx rfl (hb hby d3_0) rfl ?_
    show Steps p.tables e below (s₁.setTop (mkF m 1 #[.val (.int p1), .val (.int p2)] [(.int p1)])) _
    refine XS.iloadN X0.here hx rfl (hb hby d3_1) rfl ?_
    show Steps p.tables e below (s₁.setTop (mkF m 2 #[.val (.int p1), .val (.int p2)] [(.int p2), (.int p1)])) _
    refine XS.icmpYes X0.here hx rfl (pc0 := 2) (pc' := 9) rfl (hb hby d3_2) rfl (tlt hc2).2.2.1 (by decide) (by decide) ?_
    show Steps p.tables e below (s₁.setTop (mkF m 9 #[.val (.int p1), .val (.int p2)] [])) _
    refine XS.iloadN X0.here hx rfl (hb hby d3_9) rfl ?_
    show Steps p.tables e below (s₁.setTop (mkF m 10 #[.val (.int p1), .val (.int p2)] [(.int p2)])) _
    exact retI X0 hx Bd.returns (hb hby d3_10) hr      -- retI stands in the head ('lawwalk <made dir>' prints it)
  · exact ⟨by rw [own_min, if_pos hc2], rfl, e0⟩
theorem d3_5 : decode jdk_29_method_69_code 5 = .ok (.iload_n 0, 1) := by decide +kernel
theorem d3_6 : decode jdk_29_method_69_code 6 = .ok (.goto 4, 3) := by decide +kernel
set_option maxRecDepth 65536 in
set_option maxHeartbeats 40000000 in
theorem rm3_f (l : Launch) (Z : State) (a0 : Array Value) (hw : ∀ d ∈ tables_1, d.before a0 Z = true) (ws : List Jvm.Cond) (p1 : Int32) (p2 : Int32) (h0 : Heap) (n0 : Nat) (Z0 : n0 ≤ h0.size) (hc2 : ¬ (p2 < p1)) :
    MetFree l (⟨"java/lang/Math", "min", "(II)I"⟩ : MethodName) (head1 (Jvm.Cond.code (⟨"java/lang/Math", "min", "(II)I"⟩ : MethodName) jdk_29_method_69_code 2 (some .int) :: ws) ({ frames := 0, cells := 0, slots := 0, locals := 0 } : Room)) (fun a U => a = #[(.int p1), (.int p2)] ∧ Z.Warmed39 U.vm ∧ U.heap = h0) (fun _ _ _ _ _ => True) (fun _ U o U' => ∃ v L, o = .returned v ∧ (v = some (.int (own_min p1 p2)) ∧ L = [] ∧ U'.heap = h0) ∧ FrameEnd U o U' L ({ frames := 0, cells := 0, slots := 0, locals := 0 } : Room).cells ({ frames := 0, cells := 0, slots := 0, locals := 0 } : Room).slots) := by
  refine MetFree.of_bodySF (Jvm.Free.JP.mathPlain rfl (by decide +kernel)) hisR ?_
  intro p e s m args below meth c s₁ Bd hml0 hP hK
  obtain ⟨rfl, hZ, hh⟩ := hP
  have hx := Bd.exec
  have hby := Bd.bytes
  have hml : c.maxLocals = 2 := hml0
  have hown : s.vm.findClass "java/lang/Math" = some m.cls := findClass_of_methodNamed Bd.named
  have hnm := (name_of_methodNamed Bd.named Bd.method).1
  have X0 : Stand p l e ({ frames := 0, cells := 0, slots := 0, locals := 0 } : Room) s m #[(.int p1), (.int p2)] below meth c s₁ [] 0 0 := Stand.of_body Bd
  have e0 : s₁.heap = h0 := by rw [← hh, Bd.state]; rfl
  have N0 := Fr.nil n0
  have pre0 : ∀ t, Steps p.tables e below (s₁.setTop (mkF m 0 #[.val (.int p1), .val (.int p2)] [])) t → Steps p.tables e below (s₁.setTop (entryFrame m #[(.int p1), (.int p2)] 2)) t := fun t k => castTop (ef_3 m p1 p2) k
  -- 3. LAWS

  obtain ⟨fs, hr, hrun, hended, hW, hsame⟩ := X0.leave (v := some (.int p1)) (fun h => by rw [Bd.returns] at h; cases h)
  refine ⟨_, _, pre0 _ ?_, hrun, hended, _, _, rfl, ?_, ⟨_, rfl⟩, hW, hsame.mono (by decide) (by decide)⟩
  -- 4. STEPS
  · show Steps p.tables e below (s₁.setTop (mkF m 0 #[.val (.int p1), .val (.int p2)] [])) _
    refine XS.iloadN X0.here hx rfl (hb hby d3_0) rfl ?_
    show Steps p.tables e below (s₁.setTop (mkF m 1 #[.val (.int p1), .val (.int p2)] [(.int p1)])) _
    refine XS.iloadN X0.here hx rfl (hb hby d3_1) rfl ?_
    show Steps p.tables e below (s₁.setTop (mkF m 2 #[.val (.int p1), .val (.int p2)] [(.int p2), (.int p1)])) _
    refine XS.icmpNo X0.here hx rfl (hb hby d3_2) rfl (flt hc2).2.2.1 ?_
    show Steps p.tables e below (s₁.setTop (mkF m 5 #[.val (.int p1), .val (.int p2)] [])) _
    refine XS.iloadN X0.here hx rfl (hb hby d3_5) rfl ?_
    show Steps p.tables e below (s₁.setTop (mkF m 6 #[.val (.int p1), .val (.int p2)] [(.int p1)])) _
    refine XS.goto X0.here hx rfl (pc0 := 6) (pc' := 10) rfl (hb hby d3_6) (by decide) (by decide) ?_
    show Steps p.tables e below (s₁.setTop (mkF m 10 #[.val (.int p1), .val (.int p2)] [(.int p1)])) _
    exact retI X0 hx Bd.returns (hb hby d3_10) hr      -- retI stands in the head ('lawwalk <made dir>' prints it)
  · exact ⟨by rw [own_min, if_neg hc2], rfl, e0⟩
theorem rm3 (l : Launch) (Z : State) (a0 : Array Value) (hw : ∀ d ∈ tables_1, d.before a0 Z = true) (ws : List Jvm.Cond) (p1 : Int32) (p2 : Int32) (h0 : Heap) (n0 : Nat) (Z0 : n0 ≤ h0.size) :
    MetFree l (⟨"java/lang/Math", "min", "(II)I"⟩ : MethodName) (head1 (Jvm.Cond.code (⟨"java/lang/Math", "min", "(II)I"⟩ : MethodName) jdk_29_method_69_code 2 (some .int) :: ws) ({ frames := 0, cells := 0, slots := 0, locals := 0 } : Room)) (fun a U => a = #[(.int p1), (.int p2)] ∧ Z.Warmed39 U.vm ∧ U.heap = h0) (fun _ _ _ _ _ => True) (fun _ U o U' => ∃ v L, o = .returned v ∧ (v = some (.int (own_min p1 p2)) ∧ L = [] ∧ U'.heap = h0) ∧ FrameEnd U o U' L ({ frames := 0, cells := 0, slots := 0, locals := 0 } : Room).cells ({ frames := 0, cells := 0, slots := 0, locals := 0 } : Room).slots) := by
  by_cases h : p2 < p1
  · exact rm3_t l Z a0 hw ws p1 p2 h0 n0 Z0 h
  · exact rm3_f l Z a0 hw ws p1 p2 h0 n0 Z0 h
theorem own_call_min {p : Program} {l : Launch} {e : Env} {R : Room} {s : State} {m : MethodId} {args : Array Value} {below : List Frame} {meth : Method} {c : Code} {T : State} {locs : List Loc} {cells slots : Nat} {Z : State} {a0 : Array Value} {h : Heap} {own : String} {index : Nat}
    (X : Stand p l e R s m args below meth c T locs cells slots) (hx : p.tables.exec = Jvm.exec) (hZ : Z.Warmed39 s.vm) (hw : ∀ d ∈ tables_1, d.before a0 Z = true) (hown : s.vm.findClass own = some m.cls) (w1 : (Cond.methodLink own index (⟨"java/lang/Math", "min", "(II)I"⟩ : MethodName)).before a0 Z = true) (x : Int32) (y : Int32)
    {W : Nat} {g : JFrame} (hg : g.method = m) (hsize : g.locals.size = c.maxLocals) {rest : List Value} (hst : g.stack = .int y :: .int x :: rest) (hW : 2 * g.monitorRoom + (rest.map fun v => v.category).sum ≤ W) (hd : decode c.code g.pc = .ok (.invokestatic index, 3)) (hf : 1 ≤ R.frames) (hl : W + 13 ≤ R.locals) (eT : T.heap = h) (hc : cells ≤ R.cells := by decide) (hs : slots ≤ R.slots := by decide) :
    ∃ T', Stand p l e R s m args below meth c T' locs cells slots ∧ T'.heap = h ∧ ∀ target, Steps p.tables e below (T'.setTop { g with pc := g.pc + 3, stack := .int (own_min x y) :: rest }) target → Steps p.tables e below (T.setTop g) target :=
  own_pureS X hx hZ (rm3 l Z a0 hw [] x y h 0 (Nat.zero_le _)) hown w1 (hw _ (List.mem_of_getElem? (i := 12) rfl)) (hw _ (List.mem_of_getElem? (i := 13) rfl)) (hw _ (List.mem_of_getElem? (i := 14) rfl)) (by decide) hf hl eT hg hsize (argsL := [.int x, .int y]) (lenOf pd_ii rfl) hst hW hd hc hs
theorem d9_0 : decode jdk_29_method_65_code 0 = .ok (.iload_n 0, 1) := by decide +kernel
theorem d9_1 : decode jdk_29_method_65_code 1 = .ok (.iload_n 1, 1) := by decide +kernel
theorem d9_2 : decode jdk_29_method_65_code 2 = .ok (.if_icmp .lt 7, 3) := by decide +kernel
theorem d9_9 : decode jdk_29_method_65_code 9 = .ok (.iload_n 1, 1) := by decide +kernel
theorem d9_10 : decode jdk_29_method_65_code 10 = .ok (.ireturn, 1) := by decide +kernel
theorem ef_9 (m : MethodId) (x0 : Int32) (x1 : Int32) : entryFrame m #[(.int x0), (.int x1)] 2 = mkF m 0 #[.val (.int x0), .val (.int x1)] [] := by first | (simp [entryFrame, mkF, argsToLocals, Value.category]; done) | rfl
set_option maxRecDepth 65536 in
set_option maxHeartbeats 40000000 in
theorem rm9_t (l : Launch) (Z : State) (a0 : Array Value) (hw : ∀ d ∈ tables_1, d.before a0 Z = true) (ws : List Jvm.Cond) (p1 : Int32) (p2 : Int32) (h0 : Heap) (n0 : Nat) (Z0 : n0 ≤ h0.size) (hc2 : p1 < p2) :
    MetFree l (⟨"java/lang/Math", "max", "(II)I"⟩ : MethodName) (head1 (Jvm.Cond.code (⟨"java/lang/Math", "max", "(II)I"⟩ : MethodName) jdk_29_method_65_code 2 (some .int) :: ws) ({ frames := 0, cells := 0, slots := 0, locals := 0 } : Room)) (fun a U => a = #[(.int p1), (.int p2)] ∧ Z.Warmed39 U.vm ∧ U.heap = h0) (fun _ _ _ _ _ => True) (fun _ U o U' => ∃ v L, o = .returned v ∧ (v = some (.int (own_max p1 p2)) ∧ L = [] ∧ U'.heap = h0) ∧ FrameEnd U o U' L ({ frames := 0, cells := 0, slots := 0, locals := 0 } : Room).cells ({ frames := 0, cells := 0, slots := 0, locals := 0 } : Room).slots) := by
  refine MetFree.of_bodySF (Jvm.Free.JP.mathPlain rfl (by decide +kernel)) hisR ?_
  intro p e s m args below meth c s₁ Bd hml0 hP hK
  obtain ⟨rfl, hZ, hh⟩ := hP
  have hx := Bd.exec
  have hby := Bd.bytes
  have hml : c.maxLocals = 2 := hml0
  have hown : s.vm.findClass "java/lang/Math" = some m.cls := findClass_of_methodNamed Bd.named
  have hnm := (name_of_methodNamed Bd.named Bd.method).1
  have X0 : Stand p l e ({ frames := 0, cells := 0, slots := 0, locals := 0 } : Room) s m #[(.int p1), (.int p2)] below meth c s₁ [] 0 0 := Stand.of_body Bd
  have e0 : s₁.heap = h0 := by rw [← hh, Bd.state]; rfl
  have N0 := Fr.nil n0
  have pre0 : ∀ t, Steps p.tables e below (s₁.setTop (mkF m 0 #[.val (.int p1), .val (.int p2)] [])) t → Steps p.tables e below (s₁.setTop (entryFrame m #[(.int p1), (.int p2)] 2)) t := fun t k => castTop (ef_9 m p1 p2) k
  -- 3. LAWS

  obtain ⟨fs, hr, hrun, hended, hW, hsame⟩ := X0.leave (v := some (.int p2)) (fun h => by rw [Bd.returns] at h; cases h)
  refine ⟨_, _, pre0 _ ?_, hrun, hended, _, _, rfl, ?_, ⟨_, rfl⟩, hW, hsame.mono (by decide) (by decide)⟩
  -- 4. STEPS
  · show Steps p.tables e below (s₁.setTop (mkF m 0 #[.val (.int p1), .val (.int p2)] [])) _
    refine XS.iloadN X0.here hx rfl (hb hby d9_0) rfl ?_
    show Steps p.tables e below (s₁.setTop (mkF m 1 #[.val (.int p1), .val (.int p2)] [(.int p1)])) _
    refine XS.iloadN X0.here hx rfl (hb hby d9_1) rfl ?_
    show Steps p.tables e below (s₁.setTop (mkF m 2 #[.val (.int p1), .val (.int p2)] [(.int p2), (.int p1)])) _
    refine XS.icmpYes X0.here hx rfl (pc0 := 2) (pc' := 9) rfl (hb hby d9_2) rfl (tlt hc2).1 (by decide) (by decide) ?_
    show Steps p.tables e below (s₁.setTop (mkF m 9 #[.val (.int p1), .val (.int p2)] [])) _
    refine XS.iloadN X0.here hx rfl (hb hby d9_9) rfl ?_
    show Steps p.tables e below (s₁.setTop (mkF m 10 #[.val (.int p1), .val (.int p2)] [(.int p2)])) _
    exact retI X0 hx Bd.returns (hb hby d9_10) hr      -- retI stands in the head ('lawwalk <made dir>' prints it)
  · exact ⟨by rw [own_max, if_pos hc2], rfl, e0⟩
theorem d9_5 : decode jdk_29_method_65_code 5 = .ok (.iload_n 0, 1) := by decide +kernel
theorem d9_6 : decode jdk_29_method_65_code 6 = .ok (.goto 4, 3) := by decide +kernel
set_option maxRecDepth 65536 in
set_option maxHeartbeats 40000000 in
theorem rm9_f (l : Launch) (Z : State) (a0 : Array Value) (hw : ∀ d ∈ tables_1, d.before a0 Z = true) (ws : List Jvm.Cond) (p1 : Int32) (p2 : Int32) (h0 : Heap) (n0 : Nat) (Z0 : n0 ≤ h0.size) (hc2 : ¬ (p1 < p2)) :
    MetFree l (⟨"java/lang/Math", "max", "(II)I"⟩ : MethodName) (head1 (Jvm.Cond.code (⟨"java/lang/Math", "max", "(II)I"⟩ : MethodName) jdk_29_method_65_code 2 (some .int) :: ws) ({ frames := 0, cells := 0, slots := 0, locals := 0 } : Room)) (fun a U => a = #[(.int p1), (.int p2)] ∧ Z.Warmed39 U.vm ∧ U.heap = h0) (fun _ _ _ _ _ => True) (fun _ U o U' => ∃ v L, o = .returned v ∧ (v = some (.int (own_max p1 p2)) ∧ L = [] ∧ U'.heap = h0) ∧ FrameEnd U o U' L ({ frames := 0, cells := 0, slots := 0, locals := 0 } : Room).cells ({ frames := 0, cells := 0, slots := 0, locals := 0 } : Room).slots) := by
  refine MetFree.of_bodySF (Jvm.Free.JP.mathPlain rfl (by decide +kernel)) hisR ?_
  intro p e s m args below meth c s₁ Bd hml0 hP hK
  obtain ⟨rfl, hZ, hh⟩ := hP
  have hx := Bd.exec
  have hby := Bd.bytes
  have hml : c.maxLocals = 2 := hml0
  have hown : s.vm.findClass "java/lang/Math" = some m.cls := findClass_of_methodNamed Bd.named
  have hnm := (name_of_methodNamed Bd.named Bd.method).1
  have X0 : Stand p l e ({ frames := 0, cells := 0, slots := 0, locals := 0 } : Room) s m #[(.int p1), (.int p2)] below meth c s₁ [] 0 0 := Stand.of_body Bd
  have e0 : s₁.heap = h0 := by rw [← hh, Bd.state]; rfl
  have N0 := Fr.nil n0
  have pre0 : ∀ t, Steps p.tables e below (s₁.setTop (mkF m 0 #[.val (.int p1), .val (.int p2)] [])) t → Steps p.tables e below (s₁.setTop (entryFrame m #[(.int p1), (.int p2)] 2)) t := fun t k => castTop (ef_9 m p1 p2) k
  -- 3. LAWS

  obtain ⟨fs, hr, hrun, hended, hW, hsame⟩ := X0.leave (v := some (.int p1)) (fun h => by rw [Bd.returns] at h; cases h)
  refine ⟨_, _, pre0 _ ?_, hrun, hended, _, _, rfl, ?_, ⟨_, rfl⟩, hW, hsame.mono (by decide) (by decide)⟩
  -- 4. STEPS
  · show Steps p.tables e below (s₁.setTop (mkF m 0 #[.val (.int p1), .val (.int p2)] [])) _
    refine XS.iloadN X0.here hx rfl (hb hby d9_0) rfl ?_
    show Steps p.tables e below (s₁.setTop (mkF m 1 #[.val (.int p1), .val (.int p2)] [(.int p1)])) _
    refine XS.iloadN X0.here hx rfl (hb hby d9_1) rfl ?_
    show Steps p.tables e below (s₁.setTop (mkF m 2 #[.val (.int p1), .val (.int p2)] [(.int p2), (.int p1)])) _
    refine XS.icmpNo X0.here hx rfl (hb hby d9_2) rfl (flt hc2).1 ?_
    show Steps p.tables e below (s₁.setTop (mkF m 5 #[.val (.int p1), .val (.int p2)] [])) _
    refine XS.iloadN X0.here hx rfl (hb hby d9_5) rfl ?_
    show Steps p.tables e below (s₁.setTop (mkF m 6 #[.val (.int p1), .val (.int p2)] [(.int p1)])) _
    refine XS.goto X0.here hx rfl (pc0 := 6) (pc' := 10) rfl (hb hby d9_6) (by decide) (by decide) ?_
    show Steps p.tables e below (s₁.setTop (mkF m 10 #[.val (.int p1), .val (.int p2)] [(.int p1)])) _
    exact retI X0 hx Bd.returns (hb hby d9_10) hr      -- retI stands in the head ('lawwalk <made dir>' prints it)
  · exact ⟨by rw [own_max, if_neg hc2], rfl, e0⟩
theorem rm9 (l : Launch) (Z : State) (a0 : Array Value) (hw : ∀ d ∈ tables_1, d.before a0 Z = true) (ws : List Jvm.Cond) (p1 : Int32) (p2 : Int32) (h0 : Heap) (n0 : Nat) (Z0 : n0 ≤ h0.size) :
    MetFree l (⟨"java/lang/Math", "max", "(II)I"⟩ : MethodName) (head1 (Jvm.Cond.code (⟨"java/lang/Math", "max", "(II)I"⟩ : MethodName) jdk_29_method_65_code 2 (some .int) :: ws) ({ frames := 0, cells := 0, slots := 0, locals := 0 } : Room)) (fun a U => a = #[(.int p1), (.int p2)] ∧ Z.Warmed39 U.vm ∧ U.heap = h0) (fun _ _ _ _ _ => True) (fun _ U o U' => ∃ v L, o = .returned v ∧ (v = some (.int (own_max p1 p2)) ∧ L = [] ∧ U'.heap = h0) ∧ FrameEnd U o U' L ({ frames := 0, cells := 0, slots := 0, locals := 0 } : Room).cells ({ frames := 0, cells := 0, slots := 0, locals := 0 } : Room).slots) := by
  by_cases h : p1 < p2
  · exact rm9_t l Z a0 hw ws p1 p2 h0 n0 Z0 h
  · exact rm9_f l Z a0 hw ws p1 p2 h0 n0 Z0 h
theorem own_call_max {p : Program} {l : Launch} {e : Env} {R : Room} {s : State} {m : MethodId} {args : Array Value} {below : List Frame} {meth : Method} {c : Code} {T : State} {locs : List Loc} {cells slots : Nat} {Z : State} {a0 : Array Value} {h : Heap} {own : String} {index : Nat}
    (X : Stand p l e R s m args below meth c T locs cells slots) (hx : p.tables.exec = Jvm.exec) (hZ : Z.Warmed39 s.vm) (hw : ∀ d ∈ tables_1, d.before a0 Z = true) (hown : s.vm.findClass own = some m.cls) (w1 : (Cond.methodLink own index (⟨"java/lang/Math", "max", "(II)I"⟩ : MethodName)).before a0 Z = true) (x : Int32) (y : Int32)
    {W : Nat} {g : JFrame} (hg : g.method = m) (hsize : g.locals.size = c.maxLocals) {rest : List Value} (hst : g.stack = .int y :: .int x :: rest) (hW : 2 * g.monitorRoom + (rest.map fun v => v.category).sum ≤ W) (hd : decode c.code g.pc = .ok (.invokestatic index, 3)) (hf : 1 ≤ R.frames) (hl : W + 13 ≤ R.locals) (eT : T.heap = h) (hc : cells ≤ R.cells := by decide) (hs : slots ≤ R.slots := by decide) :
    ∃ T', Stand p l e R s m args below meth c T' locs cells slots ∧ T'.heap = h ∧ ∀ target, Steps p.tables e below (T'.setTop { g with pc := g.pc + 3, stack := .int (own_max x y) :: rest }) target → Steps p.tables e below (T.setTop g) target :=
  own_pureS X hx hZ (rm9 l Z a0 hw [] x y h 0 (Nat.zero_le _)) hown w1 (hw _ (List.mem_of_getElem? (i := 48) rfl)) (hw _ (List.mem_of_getElem? (i := 13) rfl)) (hw _ (List.mem_of_getElem? (i := 49) rfl)) (by decide) hf hl eT hg hsize (argsL := [.int x, .int y]) (lenOf pd_ii rfl) hst hW hd hc hs
theorem d14_0 : decode jdk_117_method_6_code 0 = .ok (.dload_n 0, 1) := by decide +kernel
theorem d14_1 : decode jdk_117_method_6_code 1 = .ok (.dload_n 0, 1) := by decide +kernel
theorem d14_2 : decode jdk_117_method_6_code 2 = .ok (.dcmp .l, 1) := by decide +kernel
theorem d14_3 : decode jdk_117_method_6_code 3 = .ok (.ifCond .eq 7, 3) := by decide +kernel
theorem d14_10 : decode jdk_117_method_6_code 10 = .ok (.iconst 0, 1) := by decide +kernel
theorem d14_11 : decode jdk_117_method_6_code 11 = .ok (.ireturn, 1) := by decide +kernel
theorem pn_14 : plainName "java/lang/Double" = true := by first | (simp [plainName, overriddenIn]; done) | decide +kernel
theorem ef_14 (m : MethodId) (x0 : UInt64) : entryFrame m #[(.double x0)] 2 = mkF m 0 #[.val (.double x0), .second] [] := by first | (simp [entryFrame, mkF, argsToLocals, Value.category]; done) | rfl
set_option maxRecDepth 65536 in
set_option maxHeartbeats 40000000 in
theorem rm14 (l : Launch) (Z : State) (a0 : Array Value) (hw : ∀ d ∈ tables_1, d.before a0 Z = true) (ws : List Jvm.Cond) (d1 : UInt64) (t2 : Int32) (h0 : Heap) (n0 : Nat) (Z0 : n0 ≤ h0.size) (ht2 : cmpValue (FP.dcmp d1 d1) .l = t2) (hc3 : t2 = (0 : Int32)) :
    MetFree l (⟨"java/lang/Double", "isNaN", "(D)Z"⟩ : MethodName) (head1 (Jvm.Cond.code (⟨"java/lang/Double", "isNaN", "(D)Z"⟩ : MethodName) jdk_117_method_6_code 2 (some .boolean) :: ws) ({ frames := 0, cells := 0, slots := 0, locals := 0 } : Room)) (fun a U => a = #[(.double d1)] ∧ Z.Warmed39 U.vm ∧ U.heap = h0) (fun _ _ _ _ _ => True) (fun _ U o U' => ∃ v L, o = .returned v ∧ (v = some (.int (0 : Int32)) ∧ L = [] ∧ U'.heap = h0) ∧ FrameEnd U o U' L ({ frames := 0, cells := 0, slots := 0, locals := 0 } : Room).cells ({ frames := 0, cells := 0, slots := 0, locals := 0 } : Room).slots) := by
  refine MetFree.of_bodySF (plainFor_of_name pn_14) hisR ?_
  intro p e s m args below meth c s₁ Bd hml0 hP hK
  obtain ⟨rfl, hZ, hh⟩ := hP
  have hx := Bd.exec
  have hby := Bd.bytes
  have hml : c.maxLocals = 2 := hml0
  have hown : s.vm.findClass "java/lang/Double" = some m.cls := findClass_of_methodNamed Bd.named
  have hnm := (name_of_methodNamed Bd.named Bd.method).1
  have X0 : Stand p l e ({ frames := 0, cells := 0, slots := 0, locals := 0 } : Room) s m #[(.double d1)] below meth c s₁ [] 0 0 := Stand.of_body Bd
  have e0 : s₁.heap = h0 := by rw [← hh, Bd.state]; rfl
  have N0 := Fr.nil n0
  have pre0 : ∀ t, Steps p.tables e below (s₁.setTop (mkF m 0 #[.val (.double d1), .second] [])) t → Steps p.tables e below (s₁.setTop (entryFrame m #[(.double d1)] 2)) t := fun t k => castTop (ef_14 m d1) k
  -- 3. LAWS

  obtain ⟨fs, hr, hrun, hended, hW, hsame⟩ := X0.leave (v := some (.int (0 : Int32))) (fun h => by rw [Bd.returns] at h; cases h)
  refine ⟨_, _, pre0 _ ?_, hrun, hended, _, _, rfl, ?_, ⟨_, rfl⟩, hW, hsame.mono (by decide) (by decide)⟩
  -- 4. STEPS
  · show Steps p.tables e below (s₁.setTop (mkF m 0 #[.val (.double d1), .second] [])) _
    refine XS.dloadN X0.here hx rfl (hb hby d14_0) rfl ?_
    show Steps p.tables e below (s₁.setTop (mkF m 1 #[.val (.double d1), .second] [(.double d1)])) _
    refine XS.dloadN X0.here hx rfl (hb hby d14_1) rfl ?_
    show Steps p.tables e below (s₁.setTop (mkF m 2 #[.val (.double d1), .second] [(.double d1), (.double d1)])) _
    refine XS.dcmpS X0.here hx rfl (hb hby d14_2) rfl ht2 ?_
    show Steps p.tables e below (s₁.setTop (mkF m 3 #[.val (.double d1), .second] [(.int t2)])) _
    refine XS.ifYes X0.here hx rfl (pc0 := 3) (pc' := 10) rfl (hb hby d14_3) rfl ((if0 _ _).trans (teq hc3).1) (by decide) (by decide) ?_
    show Steps p.tables e below (s₁.setTop (mkF m 10 #[.val (.double d1), .second] [])) _
    refine XS.iconst X0.here hx rfl (hb hby d14_10) ?_
    show Steps p.tables e below (s₁.setTop (mkF m 11 #[.val (.double d1), .second] [(.int (0 : Int32))])) _
    exact retN X0 hx (t := .boolean) Bd.returns (by simp) (hb hby d14_11) hr
  · exact ⟨rfl, rfl, e0⟩
theorem own_call_nan {p : Program} {l : Launch} {e : Env} {R : Room} {s : State} {m : MethodId} {args : Array Value} {below : List Frame} {meth : Method} {c : Code} {T : State} {locs : List Loc} {cells slots : Nat} {Z : State} {a0 : Array Value} {h : Heap} {own : String} {index : Nat}
    (X : Stand p l e R s m args below meth c T locs cells slots) (hx : p.tables.exec = Jvm.exec) (hZ : Z.Warmed39 s.vm) (hw : ∀ d ∈ tables_1, d.before a0 Z = true) (hown : s.vm.findClass own = some m.cls) (w1 : (Cond.methodLink own index (⟨"java/lang/Double", "isNaN", "(D)Z"⟩ : MethodName)).before a0 Z = true) (d : UInt64) (hnn : Jvm.Free.Fl.NoNaN64 d)
    {W : Nat} {g : JFrame} (hg : g.method = m) (hsize : g.locals.size = c.maxLocals) {rest : List Value} (hst : g.stack = .double d :: rest) (hW : 2 * g.monitorRoom + (rest.map fun v => v.category).sum ≤ W) (hd : decode c.code g.pc = .ok (.invokestatic index, 3)) (hf : 1 ≤ R.frames) (hl : W + 13 ≤ R.locals) (eT : T.heap = h) (hc : cells ≤ R.cells := by decide) (hs : slots ≤ R.slots := by decide) :
    ∃ T', Stand p l e R s m args below meth c T' locs cells slots ∧ T'.heap = h ∧ ∀ target, Steps p.tables e below (T'.setTop { g with pc := g.pc + 3, stack := .int (0 : Int32) :: rest }) target → Steps p.tables e below (T.setTop g) target :=
  own_pureS X hx hZ (rm14 l Z a0 hw [] d _ h 0 (Nat.zero_le _) (dcmpV_self hnn _) rfl) hown w1 (hw _ (List.mem_of_getElem? (i := 65) rfl)) (hw _ (List.mem_of_getElem? (i := 55) rfl)) (hw _ (List.mem_of_getElem? (i := 66) rfl)) (by decide) hf hl eT hg hsize (argsL := [.double d]) (lenOf pd_d rfl) hst hW hd hc hs
theorem d13_0 : decode jdk_117_method_23_code 0 = .ok (.dload_n 0, 1) := by decide +kernel
theorem d13_1 : decode jdk_117_method_23_code 1 = .ok (.invokestatic 122, 3) := by decide +kernel
theorem d13_4 : decode jdk_117_method_23_code 4 = .ok (.ifCond .ne 8, 3) := by decide +kernel
theorem d13_7 : decode jdk_117_method_23_code 7 = .ok (.dload_n 0, 1) := by decide +kernel
theorem d13_8 : decode jdk_117_method_23_code 8 = .ok (.invokestatic 134, 3) := by decide +kernel
theorem d13_11 : decode jdk_117_method_23_code 11 = .ok (.lreturn, 1) := by decide +kernel
theorem pn_13 : plainName "java/lang/Double" = true := by first | (simp [plainName, overriddenIn]; done) | decide +kernel
theorem ef_13 (m : MethodId) (x0 : UInt64) : entryFrame m #[(.double x0)] 2 = mkF m 0 #[.val (.double x0), .second] [] := by first | (simp [entryFrame, mkF, argsToLocals, Value.category]; done) | rfl
set_option maxRecDepth 65536 in
set_option maxHeartbeats 40000000 in
theorem rm13 (l : Launch) (Z : State) (a0 : Array Value) (hw : ∀ d ∈ tables_1, d.before a0 Z = true) (ws : List Jvm.Cond) (d1 : UInt64) (h0 : Heap) (n0 : Nat) (Z0 : n0 ≤ h0.size) (hnn : Jvm.Free.Fl.NoNaN64 d1) :
    MetFree l (⟨"java/lang/Double", "doubleToLongBits", "(D)J"⟩ : MethodName) (head1 (Jvm.Cond.code (⟨"java/lang/Double", "doubleToLongBits", "(D)J"⟩ : MethodName) jdk_117_method_23_code 2 (some .long) :: ws) ({ frames := 1, cells := 0, slots := 0, locals := 40 } : Room)) (fun a U => a = #[(.double d1)] ∧ Z.Warmed39 U.vm ∧ U.heap = h0) (fun _ _ _ _ _ => True) (fun _ U o U' => ∃ v L, o = .returned v ∧ (v = some (.long (UInt64.toInt64 d1)) ∧ L = [] ∧ U'.heap = h0) ∧ FrameEnd U o U' L ({ frames := 1, cells := 0, slots := 0, locals := 40 } : Room).cells ({ frames := 1, cells := 0, slots := 0, locals := 40 } : Room).slots) := by
  refine MetFree.of_bodySF (plainFor_of_name pn_13) hisR ?_
  intro p e s m args below meth c s₁ Bd hml0 hP hK
  obtain ⟨rfl, hZ, hh⟩ := hP
  have hx := Bd.exec
  have hby := Bd.bytes
  have hml : c.maxLocals = 2 := hml0
  have hown : s.vm.findClass "java/lang/Double" = some m.cls := findClass_of_methodNamed Bd.named
  have hnm := (name_of_methodNamed Bd.named Bd.method).1
  have X0 : Stand p l e ({ frames := 1, cells := 0, slots := 0, locals := 40 } : Room) s m #[(.double d1)] below meth c s₁ [] 0 0 := Stand.of_body Bd
  have e0 : s₁.heap = h0 := by rw [← hh, Bd.state]; rfl
  have N0 := Fr.nil n0
  have pre0 : ∀ t, Steps p.tables e below (s₁.setTop (mkF m 0 #[.val (.double d1), .second] [])) t → Steps p.tables e below (s₁.setTop (entryFrame m #[(.double d1)] 2)) t := fun t k => castTop (ef_13 m d1) k
  -- 3. LAWS
  -- pc 1: java/lang/Double.isNaN
  obtain ⟨T2, X2, e2, st2⟩ := own_call_nan X0 hx hZ hw hown (hw _ (List.mem_of_getElem? (i := 64) rfl)) d1 hnn (W := 0) (g := (mkF m 1 #[.val (.double d1), .second] [(.double d1)])) rfl (by rw [hml]; rfl) (rest := []) rfl (by show 2 * 0 + _ ≤ _; exact Nat.le_of_eq rfl) (hb hby d13_1) (by decide) (by decide) e0
  -- pc 8: java/lang/Double.doubleToRawLongBits
  obtain ⟨T3, X3, e3, st3⟩ := own_call_raw X2 hx hZ hw hown (hw _ (List.mem_of_getElem? (i := 67) rfl)) d1 (W := 0) (g := (mkF m 8 #[.val (.double d1), .second] [(.double d1)])) rfl (by rw [hml]; rfl) (rest := []) rfl (by show 2 * 0 + _ ≤ _; exact Nat.le_of_eq rfl) (hb hby d13_8) (by decide) (by decide) e2
  obtain ⟨fs, hr, hrun, hended, hW, hsame⟩ := X3.leave (v := some (.long (UInt64.toInt64 d1))) (fun h => by rw [Bd.returns] at h; cases h)
  refine ⟨_, _, pre0 _ ?_, hrun, hended, _, _, rfl, ?_, ⟨_, rfl⟩, hW, hsame.mono (by decide) (by decide)⟩
  -- 4. STEPS
  · show Steps p.tables e below (s₁.setTop (mkF m 0 #[.val (.double d1), .second] [])) _
    refine XS.dloadN X0.here hx rfl (hb hby d13_0) rfl ?_
    show Steps p.tables e below (s₁.setTop (mkF m 1 #[.val (.double d1), .second] [(.double d1)])) _
    refine st2 _ ?_
    show Steps p.tables e below (T2.setTop (mkF m 4 #[.val (.double d1), .second] [(.int (0 : Int32))])) _
    refine XS.ifNo X2.here hx rfl (hb hby d13_4) rfl ((if0 _ _).trans (teq (rfl : (0 : Int32) = (0 : Int32))).2) ?_
    show Steps p.tables e below (T2.setTop (mkF m 7 #[.val (.double d1), .second] [])) _
    refine XS.dloadN X2.here hx rfl (hb hby d13_7) rfl ?_
    show Steps p.tables e below (T2.setTop (mkF m 8 #[.val (.double d1), .second] [(.double d1)])) _
    refine st3 _ ?_
    show Steps p.tables e below (T3.setTop (mkF m 11 #[.val (.double d1), .second] [(.long (UInt64.toInt64 d1))])) _
    exact own_retJ X3 hx Bd.returns (hb hby d13_11) hr
  · exact ⟨rfl, rfl, e3⟩
theorem own_call_bits {p : Program} {l : Launch} {e : Env} {R : Room} {s : State} {m : MethodId} {args : Array Value} {below : List Frame} {meth : Method} {c : Code} {T : State} {locs : List Loc} {cells slots : Nat} {Z : State} {a0 : Array Value} {h : Heap} {own : String} {index : Nat}
    (X : Stand p l e R s m args below meth c T locs cells slots) (hx : p.tables.exec = Jvm.exec) (hZ : Z.Warmed39 s.vm) (hw : ∀ d ∈ tables_1, d.before a0 Z = true) (hown : s.vm.findClass own = some m.cls) (w1 : (Cond.methodLink own index (⟨"java/lang/Double", "doubleToLongBits", "(D)J"⟩ : MethodName)).before a0 Z = true) (d : UInt64) (hnn : Jvm.Free.Fl.NoNaN64 d)
    {W : Nat} {g : JFrame} (hg : g.method = m) (hsize : g.locals.size = c.maxLocals) {rest : List Value} (hst : g.stack = .double d :: rest) (hW : 2 * g.monitorRoom + (rest.map fun v => v.category).sum ≤ W) (hd : decode c.code g.pc = .ok (.invokestatic index, 3)) (hf : 2 ≤ R.frames) (hl : W + 53 ≤ R.locals) (eT : T.heap = h) (hc : cells ≤ R.cells := by decide) (hs : slots ≤ R.slots := by decide) :
    ∃ T', Stand p l e R s m args below meth c T' locs cells slots ∧ T'.heap = h ∧ ∀ target, Steps p.tables e below (T'.setTop { g with pc := g.pc + 3, stack := .long (UInt64.toInt64 d) :: rest }) target → Steps p.tables e below (T.setTop g) target :=
  own_pureS X hx hZ (rm13 l Z a0 hw [] d h 0 (Nat.zero_le _) hnn) hown w1 (hw _ (List.mem_of_getElem? (i := 62) rfl)) (hw _ (List.mem_of_getElem? (i := 55) rfl)) (hw _ (List.mem_of_getElem? (i := 63) rfl)) (by decide) hf hl eT hg hsize (argsL := [.double d]) (lenOf pd_dj rfl) hst hW hd hc hs
theorem d11_0 : decode jdk_117_method_27_code 0 = .ok (.dload_n 0, 1) := by decide +kernel
theorem d11_1 : decode jdk_117_method_27_code 1 = .ok (.dload_n 2, 1) := by decide +kernel
theorem d11_2 : decode jdk_117_method_27_code 2 = .ok (.dcmp .g, 1) := by decide +kernel
theorem d11_3 : decode jdk_117_method_27_code 3 = .ok (.ifCond .ge 5, 3) := by decide +kernel
theorem d11_6 : decode jdk_117_method_27_code 6 = .ok (.iconst (-1), 1) := by decide +kernel
theorem d11_7 : decode jdk_117_method_27_code 7 = .ok (.ireturn, 1) := by decide +kernel
theorem pn_11 : plainName "java/lang/Double" = true := by first | (simp [plainName, overriddenIn]; done) | decide +kernel
theorem ef_11 (m : MethodId) (x0 : UInt64) (x1 : UInt64) : entryFrame m #[(.double x0), (.double x1)] 8 = mkF m 0 #[.val (.double x0), .second, .val (.double x1), .second, .unset, .unset, .unset, .unset] [] := by first | (simp [entryFrame, mkF, argsToLocals, Value.category]; done) | rfl
set_option maxRecDepth 65536 in
set_option maxHeartbeats 40000000 in
theorem rm11_f (l : Launch) (Z : State) (a0 : Array Value) (hw : ∀ d ∈ tables_1, d.before a0 Z = true) (ws : List Jvm.Cond) (x1 : Int32) (x2 : Int32) (t2 : Int32) (h0 : Heap) (n0 : Nat) (Z0 : n0 ≤ h0.size) (ht2 : cmpValue (FP.dcmp (FP.i2d x1) (FP.i2d x2)) .g = t2) (hc3 : t2 < (0 : Int32)) (hxy : x1 < x2) :
    MetFree l (⟨"java/lang/Double", "compare", "(DD)I"⟩ : MethodName) (head1 (Jvm.Cond.code (⟨"java/lang/Double", "compare", "(DD)I"⟩ : MethodName) jdk_117_method_27_code 8 (some .int) :: ws) ({ frames := 2, cells := 0, slots := 0, locals := 70 } : Room)) (fun a U => a = #[(.double (FP.i2d x1)), (.double (FP.i2d x2))] ∧ Z.Warmed39 U.vm ∧ U.heap = h0) (fun _ _ _ _ _ => True) (fun _ U o U' => ∃ v L, o = .returned v ∧ (v = some (.int (own_cmp x1 x2)) ∧ L = [] ∧ U'.heap = h0) ∧ FrameEnd U o U' L ({ frames := 2, cells := 0, slots := 0, locals := 70 } : Room).cells ({ frames := 2, cells := 0, slots := 0, locals := 70 } : Room).slots) := by
  refine MetFree.of_bodySF (plainFor_of_name pn_11) hisR ?_
  intro p e s m args below meth c s₁ Bd hml0 hP hK
  obtain ⟨rfl, hZ, hh⟩ := hP
  have hx := Bd.exec
  have hby := Bd.bytes
  have hml : c.maxLocals = 8 := hml0
  have hown : s.vm.findClass "java/lang/Double" = some m.cls := findClass_of_methodNamed Bd.named
  have hnm := (name_of_methodNamed Bd.named Bd.method).1
  have X0 : Stand p l e ({ frames := 2, cells := 0, slots := 0, locals := 70 } : Room) s m #[(.double (FP.i2d x1)), (.double (FP.i2d x2))] below meth c s₁ [] 0 0 := Stand.of_body Bd
  have e0 : s₁.heap = h0 := by rw [← hh, Bd.state]; rfl
  have N0 := Fr.nil n0
  have pre0 : ∀ t, Steps p.tables e below (s₁.setTop (mkF m 0 #[.val (.double (FP.i2d x1)), .second, .val (.double (FP.i2d x2)), .second, .unset, .unset, .unset, .unset] [])) t → Steps p.tables e below (s₁.setTop (entryFrame m #[(.double (FP.i2d x1)), (.double (FP.i2d x2))] 8)) t := fun t k => castTop (ef_11 m (FP.i2d x1) (FP.i2d x2)) k
  -- 3. LAWS

  obtain ⟨fs, hr, hrun, hended, hW, hsame⟩ := X0.leave (v := some (.int (-1 : Int32))) (fun h => by rw [Bd.returns] at h; cases h)
  refine ⟨_, _, pre0 _ ?_, hrun, hended, _, _, rfl, ?_, ⟨_, rfl⟩, hW, hsame.mono (by decide) (by decide)⟩
  -- 4. STEPS
  · show Steps p.tables e below (s₁.setTop (mkF m 0 #[.val (.double (FP.i2d x1)), .second, .val (.double (FP.i2d x2)), .second, .unset, .unset, .unset, .unset] [])) _
    refine XS.dloadN X0.here hx rfl (hb hby d11_0) rfl ?_
    show Steps p.tables e below (s₁.setTop (mkF m 1 #[.val (.double (FP.i2d x1)), .second, .val (.double (FP.i2d x2)), .second, .unset, .unset, .unset, .unset] [(.double (FP.i2d x1))])) _
    refine XS.dloadN X0.here hx rfl (hb hby d11_1) rfl ?_
    show Steps p.tables e below (s₁.setTop (mkF m 2 #[.val (.double (FP.i2d x1)), .second, .val (.double (FP.i2d x2)), .second, .unset, .unset, .unset, .unset] [(.double (FP.i2d x2)), (.double (FP.i2d x1))])) _
    refine XS.dcmpS X0.here hx rfl (hb hby d11_2) rfl ht2 ?_
    show Steps p.tables e below (s₁.setTop (mkF m 3 #[.val (.double (FP.i2d x1)), .second, .val (.double (FP.i2d x2)), .second, .unset, .unset, .unset, .unset] [(.int t2)])) _
    refine XS.ifNo X0.here hx rfl (hb hby d11_3) rfl ((if0 _ _).trans (tlt hc3).2.1) ?_
    show Steps p.tables e below (s₁.setTop (mkF m 6 #[.val (.double (FP.i2d x1)), .second, .val (.double (FP.i2d x2)), .second, .unset, .unset, .unset, .unset] [])) _
    refine XS.iconst X0.here hx rfl (hb hby d11_6) ?_
    show Steps p.tables e below (s₁.setTop (mkF m 7 #[.val (.double (FP.i2d x1)), .second, .val (.double (FP.i2d x2)), .second, .unset, .unset, .unset, .unset] [(.int (-1 : Int32))])) _
    exact retI X0 hx Bd.returns (hb hby d11_7) hr      -- retI stands in the head ('lawwalk <made dir>' prints it)
  · exact ⟨by rw [own_cmp, if_pos hxy], rfl, e0⟩
theorem d11_8 : decode jdk_117_method_27_code 8 = .ok (.dload_n 0, 1) := by decide +kernel
theorem d11_9 : decode jdk_117_method_27_code 9 = .ok (.dload_n 2, 1) := by decide +kernel
theorem d11_10 : decode jdk_117_method_27_code 10 = .ok (.dcmp .l, 1) := by decide +kernel
theorem d11_11 : decode jdk_117_method_27_code 11 = .ok (.ifCond .le 5, 3) := by decide +kernel
theorem d11_14 : decode jdk_117_method_27_code 14 = .ok (.iconst 1, 1) := by decide +kernel
theorem d11_15 : decode jdk_117_method_27_code 15 = .ok (.ireturn, 1) := by decide +kernel
set_option maxRecDepth 65536 in
set_option maxHeartbeats 40000000 in
theorem rm11_tf (l : Launch) (Z : State) (a0 : Array Value) (hw : ∀ d ∈ tables_1, d.before a0 Z = true) (ws : List Jvm.Cond) (x1 : Int32) (x2 : Int32) (t2 : Int32) (t10 : Int32) (h0 : Heap) (n0 : Nat) (Z0 : n0 ≤ h0.size) (ht2 : cmpValue (FP.dcmp (FP.i2d x1) (FP.i2d x2)) .g = t2) (hc3 : ¬ (t2 < (0 : Int32))) (ht10 : cmpValue (FP.dcmp (FP.i2d x1) (FP.i2d x2)) .l = t10) (hc11 : (0 : Int32) < t10) (hxy : ¬ x1 < x2) (hyx : x2 < x1) :
    MetFree l (⟨"java/lang/Double", "compare", "(DD)I"⟩ : MethodName) (head1 (Jvm.Cond.code (⟨"java/lang/Double", "compare", "(DD)I"⟩ : MethodName) jdk_117_method_27_code 8 (some .int) :: ws) ({ frames := 2, cells := 0, slots := 0, locals := 70 } : Room)) (fun a U => a = #[(.double (FP.i2d x1)), (.double (FP.i2d x2))] ∧ Z.Warmed39 U.vm ∧ U.heap = h0) (fun _ _ _ _ _ => True) (fun _ U o U' => ∃ v L, o = .returned v ∧ (v = some (.int (own_cmp x1 x2)) ∧ L = [] ∧ U'.heap = h0) ∧ FrameEnd U o U' L ({ frames := 2, cells := 0, slots := 0, locals := 70 } : Room).cells ({ frames := 2, cells := 0, slots := 0, locals := 70 } : Room).slots) := by
  refine MetFree.of_bodySF (plainFor_of_name pn_11) hisR ?_
  intro p e s m args below meth c s₁ Bd hml0 hP hK
  obtain ⟨rfl, hZ, hh⟩ := hP
  have hx := Bd.exec
  have hby := Bd.bytes
  have hml : c.maxLocals = 8 := hml0
  have hown : s.vm.findClass "java/lang/Double" = some m.cls := findClass_of_methodNamed Bd.named
  have hnm := (name_of_methodNamed Bd.named Bd.method).1
  have X0 : Stand p l e ({ frames := 2, cells := 0, slots := 0, locals := 70 } : Room) s m #[(.double (FP.i2d x1)), (.double (FP.i2d x2))] below meth c s₁ [] 0 0 := Stand.of_body Bd
  have e0 : s₁.heap = h0 := by rw [← hh, Bd.state]; rfl
  have N0 := Fr.nil n0
  have pre0 : ∀ t, Steps p.tables e below (s₁.setTop (mkF m 0 #[.val (.double (FP.i2d x1)), .second, .val (.double (FP.i2d x2)), .second, .unset, .unset, .unset, .unset] [])) t → Steps p.tables e below (s₁.setTop (entryFrame m #[(.double (FP.i2d x1)), (.double (FP.i2d x2))] 8)) t := fun t k => castTop (ef_11 m (FP.i2d x1) (FP.i2d x2)) k
  -- 3. LAWS

  obtain ⟨fs, hr, hrun, hended, hW, hsame⟩ := X0.leave (v := some (.int (1 : Int32))) (fun h => by rw [Bd.returns] at h; cases h)
  refine ⟨_, _, pre0 _ ?_, hrun, hended, _, _, rfl, ?_, ⟨_, rfl⟩, hW, hsame.mono (by decide) (by decide)⟩
  -- 4. STEPS
  · show Steps p.tables e below (s₁.setTop (mkF m 0 #[.val (.double (FP.i2d x1)), .second, .val (.double (FP.i2d x2)), .second, .unset, .unset, .unset, .unset] [])) _
    refine XS.dloadN X0.here hx rfl (hb hby d11_0) rfl ?_
    show Steps p.tables e below (s₁.setTop (mkF m 1 #[.val (.double (FP.i2d x1)), .second, .val (.double (FP.i2d x2)), .second, .unset, .unset, .unset, .unset] [(.double (FP.i2d x1))])) _
    refine XS.dloadN X0.here hx rfl (hb hby d11_1) rfl ?_
    show Steps p.tables e below (s₁.setTop (mkF m 2 #[.val (.double (FP.i2d x1)), .second, .val (.double (FP.i2d x2)), .second, .unset, .unset, .unset, .unset] [(.double (FP.i2d x2)), (.double (FP.i2d x1))])) _
    refine XS.dcmpS X0.here hx rfl (hb hby d11_2) rfl ht2 ?_
    show Steps p.tables e below (s₁.setTop (mkF m 3 #[.val (.double (FP.i2d x1)), .second, .val (.double (FP.i2d x2)), .second, .unset, .unset, .unset, .unset] [(.int t2)])) _
    refine XS.ifYes X0.here hx rfl (pc0 := 3) (pc' := 8) rfl (hb hby d11_3) rfl ((if0 _ _).trans (flt hc3).2.1) (by decide) (by decide) ?_
    show Steps p.tables e below (s₁.setTop (mkF m 8 #[.val (.double (FP.i2d x1)), .second, .val (.double (FP.i2d x2)), .second, .unset, .unset, .unset, .unset] [])) _
    refine XS.dloadN X0.here hx rfl (hb hby d11_8) rfl ?_
    show Steps p.tables e below (s₁.setTop (mkF m 9 #[.val (.double (FP.i2d x1)), .second, .val (.double (FP.i2d x2)), .second, .unset, .unset, .unset, .unset] [(.double (FP.i2d x1))])) _
    refine XS.dloadN X0.here hx rfl (hb hby d11_9) rfl ?_
    show Steps p.tables e below (s₁.setTop (mkF m 10 #[.val (.double (FP.i2d x1)), .second, .val (.double (FP.i2d x2)), .second, .unset, .unset, .unset, .unset] [(.double (FP.i2d x2)), (.double (FP.i2d x1))])) _
    refine XS.dcmpS X0.here hx rfl (hb hby d11_10) rfl ht10 ?_
    show Steps p.tables e below (s₁.setTop (mkF m 11 #[.val (.double (FP.i2d x1)), .second, .val (.double (FP.i2d x2)), .second, .unset, .unset, .unset, .unset] [(.int t10)])) _
    refine XS.ifNo X0.here hx rfl (hb hby d11_11) rfl ((if0 _ _).trans (tlt hc11).2.2.2) ?_
    show Steps p.tables e below (s₁.setTop (mkF m 14 #[.val (.double (FP.i2d x1)), .second, .val (.double (FP.i2d x2)), .second, .unset, .unset, .unset, .unset] [])) _
    refine XS.iconst X0.here hx rfl (hb hby d11_14) ?_
    show Steps p.tables e below (s₁.setTop (mkF m 15 #[.val (.double (FP.i2d x1)), .second, .val (.double (FP.i2d x2)), .second, .unset, .unset, .unset, .unset] [(.int (1 : Int32))])) _
    exact retI X0 hx Bd.returns (hb hby d11_15) hr      -- retI stands in the head ('lawwalk <made dir>' prints it)
  · exact ⟨by rw [own_cmp, if_neg hxy, if_pos hyx], rfl, e0⟩
theorem d11_16 : decode jdk_117_method_27_code 16 = .ok (.dload_n 0, 1) := by decide +kernel
theorem d11_17 : decode jdk_117_method_27_code 17 = .ok (.invokestatic 46, 3) := by decide +kernel
theorem d11_20 : decode jdk_117_method_27_code 20 = .ok (.lstore 4, 2) := by decide +kernel
theorem d11_22 : decode jdk_117_method_27_code 22 = .ok (.dload_n 2, 1) := by decide +kernel
theorem d11_23 : decode jdk_117_method_27_code 23 = .ok (.invokestatic 46, 3) := by decide +kernel
theorem d11_26 : decode jdk_117_method_27_code 26 = .ok (.lstore 6, 2) := by decide +kernel
theorem d11_28 : decode jdk_117_method_27_code 28 = .ok (.lload 4, 2) := by decide +kernel
theorem d11_30 : decode jdk_117_method_27_code 30 = .ok (.lload 6, 2) := by decide +kernel
theorem d11_32 : decode jdk_117_method_27_code 32 = .ok (.lcmp, 1) := by decide +kernel
theorem d11_33 : decode jdk_117_method_27_code 33 = .ok (.ifCond .ne 7, 3) := by decide +kernel
theorem d11_36 : decode jdk_117_method_27_code 36 = .ok (.iconst 0, 1) := by decide +kernel
theorem d11_37 : decode jdk_117_method_27_code 37 = .ok (.goto 16, 3) := by decide +kernel
theorem d11_53 : decode jdk_117_method_27_code 53 = .ok (.ireturn, 1) := by decide +kernel
set_option maxRecDepth 65536 in
set_option maxHeartbeats 40000000 in
theorem rm11_ttf (l : Launch) (Z : State) (a0 : Array Value) (hw : ∀ d ∈ tables_1, d.before a0 Z = true) (ws : List Jvm.Cond) (x1 : Int32) (x2 : Int32) (t2 : Int32) (t10 : Int32) (h0 : Heap) (n0 : Nat) (Z0 : n0 ≤ h0.size) (ht2 : cmpValue (FP.dcmp (FP.i2d x1) (FP.i2d x2)) .g = t2) (hc3 : ¬ (t2 < (0 : Int32))) (ht10 : cmpValue (FP.dcmp (FP.i2d x1) (FP.i2d x2)) .l = t10) (hc11 : ¬ ((0 : Int32) < t10)) (hc33 : (lcmpW (UInt64.toInt64 (FP.i2d x1)) (UInt64.toInt64 (FP.i2d x2))) = (0 : Int32)) (hxy : ¬ x1 < x2) (hyx : ¬ x2 < x1) :
    MetFree l (⟨"java/lang/Double", "compare", "(DD)I"⟩ : MethodName) (head1 (Jvm.Cond.code (⟨"java/lang/Double", "compare", "(DD)I"⟩ : MethodName) jdk_117_method_27_code 8 (some .int) :: ws) ({ frames := 2, cells := 0, slots := 0, locals := 70 } : Room)) (fun a U => a = #[(.double (FP.i2d x1)), (.double (FP.i2d x2))] ∧ Z.Warmed39 U.vm ∧ U.heap = h0) (fun _ _ _ _ _ => True) (fun _ U o U' => ∃ v L, o = .returned v ∧ (v = some (.int (own_cmp x1 x2)) ∧ L = [] ∧ U'.heap = h0) ∧ FrameEnd U o U' L ({ frames := 2, cells := 0, slots := 0, locals := 70 } : Room).cells ({ frames := 2, cells := 0, slots := 0, locals := 70 } : Room).slots) := by
  refine MetFree.of_bodySF (plainFor_of_name pn_11) hisR ?_
  intro p e s m args below meth c s₁ Bd hml0 hP hK
  obtain ⟨rfl, hZ, hh⟩ := hP
  have hx := Bd.exec
  have hby := Bd.bytes
  have hml : c.maxLocals = 8 := hml0
  have hown : s.vm.findClass "java/lang/Double" = some m.cls := findClass_of_methodNamed Bd.named
  have hnm := (name_of_methodNamed Bd.named Bd.method).1
  have X0 : Stand p l e ({ frames := 2, cells := 0, slots := 0, locals := 70 } : Room) s m #[(.double (FP.i2d x1)), (.double (FP.i2d x2))] below meth c s₁ [] 0 0 := Stand.of_body Bd
  have e0 : s₁.heap = h0 := by rw [← hh, Bd.state]; rfl
  have N0 := Fr.nil n0
  have pre0 : ∀ t, Steps p.tables e below (s₁.setTop (mkF m 0 #[.val (.double (FP.i2d x1)), .second, .val (.double (FP.i2d x2)), .second, .unset, .unset, .unset, .unset] [])) t → Steps p.tables e below (s₁.setTop (entryFrame m #[(.double (FP.i2d x1)), (.double (FP.i2d x2))] 8)) t := fun t k => castTop (ef_11 m (FP.i2d x1) (FP.i2d x2)) k
  -- 3. LAWS
  -- pc 17: java/lang/Double.doubleToLongBits
  obtain ⟨T3, X3, e3, st3⟩ := own_call_bits X0 hx hZ hw hown (hw _ (List.mem_of_getElem? (i := 61) rfl)) (FP.i2d x1) (Jvm.Free.Fl.i2d_fin _).noNaN (W := 0) (g := (mkF m 17 #[.val (.double (FP.i2d x1)), .second, .val (.double (FP.i2d x2)), .second, .unset, .unset, .unset, .unset] [(.double (FP.i2d x1))])) rfl (by rw [hml]; rfl) (rest := []) rfl (by show 2 * 0 + _ ≤ _; exact Nat.le_of_eq rfl) (hb hby d11_17) (by decide) (by decide) e0
  -- pc 23: java/lang/Double.doubleToLongBits
  obtain ⟨T4, X4, e4, st4⟩ := own_call_bits X3 hx hZ hw hown (hw _ (List.mem_of_getElem? (i := 61) rfl)) (FP.i2d x2) (Jvm.Free.Fl.i2d_fin _).noNaN (W := 0) (g := (mkF m 23 #[.val (.double (FP.i2d x1)), .second, .val (.double (FP.i2d x2)), .second, .val (.long (UInt64.toInt64 (FP.i2d x1))), .second, .unset, .unset] [(.double (FP.i2d x2))])) rfl (by rw [hml]; rfl) (rest := []) rfl (by show 2 * 0 + _ ≤ _; exact Nat.le_of_eq rfl) (hb hby d11_23) (by decide) (by decide) e3
  obtain ⟨fs, hr, hrun, hended, hW, hsame⟩ := X4.leave (v := some (.int (0 : Int32))) (fun h => by rw [Bd.returns] at h; cases h)
  refine ⟨_, _, pre0 _ ?_, hrun, hended, _, _, rfl, ?_, ⟨_, rfl⟩, hW, hsame.mono (by decide) (by decide)⟩
  -- 4. STEPS
  · show Steps p.tables e below (s₁.setTop (mkF m 0 #[.val (.double (FP.i2d x1)), .second, .val (.double (FP.i2d x2)), .second, .unset, .unset, .unset, .unset] [])) _
    refine XS.dloadN X0.here hx rfl (hb hby d11_0) rfl ?_
    show Steps p.tables e below (s₁.setTop (mkF m 1 #[.val (.double (FP.i2d x1)), .second, .val (.double (FP.i2d x2)), .second, .unset, .unset, .unset, .unset] [(.double (FP.i2d x1))])) _
    refine XS.dloadN X0.here hx rfl (hb hby d11_1) rfl ?_
    show Steps p.tables e below (s₁.setTop (mkF m 2 #[.val (.double (FP.i2d x1)), .second, .val (.double (FP.i2d x2)), .second, .unset, .unset, .unset, .unset] [(.double (FP.i2d x2)), (.double (FP.i2d x1))])) _
    refine XS.dcmpS X0.here hx rfl (hb hby d11_2) rfl ht2 ?_
    show Steps p.tables e below (s₁.setTop (mkF m 3 #[.val (.double (FP.i2d x1)), .second, .val (.double (FP.i2d x2)), .second, .unset, .unset, .unset, .unset] [(.int t2)])) _
    refine XS.ifYes X0.here hx rfl (pc0 := 3) (pc' := 8) rfl (hb hby d11_3) rfl ((if0 _ _).trans (flt hc3).2.1) (by decide) (by decide) ?_
    show Steps p.tables e below (s₁.setTop (mkF m 8 #[.val (.double (FP.i2d x1)), .second, .val (.double (FP.i2d x2)), .second, .unset, .unset, .unset, .unset] [])) _
    refine XS.dloadN X0.here hx rfl (hb hby d11_8) rfl ?_
    show Steps p.tables e below (s₁.setTop (mkF m 9 #[.val (.double (FP.i2d x1)), .second, .val (.double (FP.i2d x2)), .second, .unset, .unset, .unset, .unset] [(.double (FP.i2d x1))])) _
    refine XS.dloadN X0.here hx rfl (hb hby d11_9) rfl ?_
    show Steps p.tables e below (s₁.setTop (mkF m 10 #[.val (.double (FP.i2d x1)), .second, .val (.double (FP.i2d x2)), .second, .unset, .unset, .unset, .unset] [(.double (FP.i2d x2)), (.double (FP.i2d x1))])) _
    refine XS.dcmpS X0.here hx rfl (hb hby d11_10) rfl ht10 ?_
    show Steps p.tables e below (s₁.setTop (mkF m 11 #[.val (.double (FP.i2d x1)), .second, .val (.double (FP.i2d x2)), .second, .unset, .unset, .unset, .unset] [(.int t10)])) _
    refine XS.ifYes X0.here hx rfl (pc0 := 11) (pc' := 16) rfl (hb hby d11_11) rfl ((if0 _ _).trans (flt hc11).2.2.2) (by decide) (by decide) ?_
    show Steps p.tables e below (s₁.setTop (mkF m 16 #[.val (.double (FP.i2d x1)), .second, .val (.double (FP.i2d x2)), .second, .unset, .unset, .unset, .unset] [])) _
    refine XS.dloadN X0.here hx rfl (hb hby d11_16) rfl ?_
    show Steps p.tables e below (s₁.setTop (mkF m 17 #[.val (.double (FP.i2d x1)), .second, .val (.double (FP.i2d x2)), .second, .unset, .unset, .unset, .unset] [(.double (FP.i2d x1))])) _
    refine st3 _ ?_
    show Steps p.tables e below (T3.setTop (mkF m 20 #[.val (.double (FP.i2d x1)), .second, .val (.double (FP.i2d x2)), .second, .unset, .unset, .unset, .unset] [(.long (UInt64.toInt64 (FP.i2d x1)))])) _
    refine XS.lstore X3.here hx rfl (hb hby d11_20) rfl (l' := #[.val (.double (FP.i2d x1)), .second, .val (.double (FP.i2d x2)), .second, .val (.long (UInt64.toInt64 (FP.i2d x1))), .second, .unset, .unset]) rfl ?_
    show Steps p.tables e below (T3.setTop (mkF m 22 #[.val (.double (FP.i2d x1)), .second, .val (.double (FP.i2d x2)), .second, .val (.long (UInt64.toInt64 (FP.i2d x1))), .second, .unset, .unset] [])) _
    refine XS.dloadN X3.here hx rfl (hb hby d11_22) rfl ?_
    show Steps p.tables e below (T3.setTop (mkF m 23 #[.val (.double (FP.i2d x1)), .second, .val (.double (FP.i2d x2)), .second, .val (.long (UInt64.toInt64 (FP.i2d x1))), .second, .unset, .unset] [(.double (FP.i2d x2))])) _
    refine st4 _ ?_
    show Steps p.tables e below (T4.setTop (mkF m 26 #[.val (.double (FP.i2d x1)), .second, .val (.double (FP.i2d x2)), .second, .val (.long (UInt64.toInt64 (FP.i2d x1))), .second, .unset, .unset] [(.long (UInt64.toInt64 (FP.i2d x2)))])) _
    refine XS.lstore X4.here hx rfl (hb hby d11_26) rfl (l' := #[.val (.double (FP.i2d x1)), .second, .val (.double (FP.i2d x2)), .second, .val (.long (UInt64.toInt64 (FP.i2d x1))), .second, .val (.long (UInt64.toInt64 (FP.i2d x2))), .second]) rfl ?_
    show Steps p.tables e below (T4.setTop (mkF m 28 #[.val (.double (FP.i2d x1)), .second, .val (.double (FP.i2d x2)), .second, .val (.long (UInt64.toInt64 (FP.i2d x1))), .second, .val (.long (UInt64.toInt64 (FP.i2d x2))), .second] [])) _
    refine XS.lload X4.here hx rfl (hb hby d11_28) rfl ?_
    show Steps p.tables e below (T4.setTop (mkF m 30 #[.val (.double (FP.i2d x1)), .second, .val (.double (FP.i2d x2)), .second, .val (.long (UInt64.toInt64 (FP.i2d x1))), .second, .val (.long (UInt64.toInt64 (FP.i2d x2))), .second] [(.long (UInt64.toInt64 (FP.i2d x1)))])) _
    refine XS.lload X4.here hx rfl (hb hby d11_30) rfl ?_
    show Steps p.tables e below (T4.setTop (mkF m 32 #[.val (.double (FP.i2d x1)), .second, .val (.double (FP.i2d x2)), .second, .val (.long (UInt64.toInt64 (FP.i2d x1))), .second, .val (.long (UInt64.toInt64 (FP.i2d x2))), .second] [(.long (UInt64.toInt64 (FP.i2d x2))), (.long (UInt64.toInt64 (FP.i2d x1)))])) _
    refine XS.lcmp X4.here hx rfl (hb hby d11_32) rfl ?_
    show Steps p.tables e below (T4.setTop (mkF m 33 #[.val (.double (FP.i2d x1)), .second, .val (.double (FP.i2d x2)), .second, .val (.long (UInt64.toInt64 (FP.i2d x1))), .second, .val (.long (UInt64.toInt64 (FP.i2d x2))), .second] [(.int (lcmpW (UInt64.toInt64 (FP.i2d x1)) (UInt64.toInt64 (FP.i2d x2))))])) _
    refine XS.ifNo X4.here hx rfl (hb hby d11_33) rfl ((if0 _ _).trans (teq hc33).2) ?_
    show Steps p.tables e below (T4.setTop (mkF m 36 #[.val (.double (FP.i2d x1)), .second, .val (.double (FP.i2d x2)), .second, .val (.long (UInt64.toInt64 (FP.i2d x1))), .second, .val (.long (UInt64.toInt64 (FP.i2d x2))), .second] [])) _
    refine XS.iconst X4.here hx rfl (hb hby d11_36) ?_
    show Steps p.tables e below (T4.setTop (mkF m 37 #[.val (.double (FP.i2d x1)), .second, .val (.double (FP.i2d x2)), .second, .val (.long (UInt64.toInt64 (FP.i2d x1))), .second, .val (.long (UInt64.toInt64 (FP.i2d x2))), .second] [(.int (0 : Int32))])) _
    refine XS.goto X4.here hx rfl (pc0 := 37) (pc' := 53) rfl (hb hby d11_37) (by decide) (by decide) ?_
    show Steps p.tables e below (T4.setTop (mkF m 53 #[.val (.double (FP.i2d x1)), .second, .val (.double (FP.i2d x2)), .second, .val (.long (UInt64.toInt64 (FP.i2d x1))), .second, .val (.long (UInt64.toInt64 (FP.i2d x2))), .second] [(.int (0 : Int32))])) _
    exact retI X4 hx Bd.returns (hb hby d11_53) hr      -- retI stands in the head ('lawwalk <made dir>' prints it)
  · exact ⟨by rw [own_cmp, if_neg hxy, if_neg hyx], rfl, e4⟩
theorem own_dcmp (x y : Int32) : FP.dcmp (FP.i2d x) (FP.i2d y) = some (compare x.toInt y.toInt) := FP.Core.dcmp_int (FP.Core.i2d_int x) (FP.Core.i2d_int y)
theorem own_dcmp_lt {x y : Int32} (h : x < y) (o : CmpOp) : cmpValue (FP.dcmp (FP.i2d x) (FP.i2d y)) o = -1 := by
  rw [own_dcmp, (FP.Core.compare_lt_iff _ _).mpr (Int32.lt_iff_toInt_lt.mp h)]; rfl
theorem own_dcmp_gt {x y : Int32} (h : y < x) (o : CmpOp) : cmpValue (FP.dcmp (FP.i2d x) (FP.i2d y)) o = 1 := by
  rw [own_dcmp, (FP.Core.compare_gt_iff _ _).mpr (Int32.lt_iff_toInt_lt.mp h)]; rfl
theorem own_tri {x y : Int32} (h1 : ¬ x < y) (h2 : ¬ y < x) : x = y := by
  rw [Int32.lt_iff_toInt_lt] at h1 h2
  exact Int32.toInt_inj.mp (by omega)
theorem own_dcmp_eq (x : Int32) (o : CmpOp) : cmpValue (FP.dcmp (FP.i2d x) (FP.i2d x)) o = 0 := dcmpV_self (Jvm.Free.Fl.i2d_fin x).noNaN o
theorem own_lcmp_self (x : Int64) : lcmpW x x = 0 := by
  have h : ¬ x < x := Int64.lt_irrefl
  simp [lcmpW, h]
theorem rm11 (l : Launch) (Z : State) (a0 : Array Value) (hw : ∀ d ∈ tables_1, d.before a0 Z = true) (ws : List Jvm.Cond) (x1 : Int32) (x2 : Int32) (h0 : Heap) (n0 : Nat) (Z0 : n0 ≤ h0.size) :
    MetFree l (⟨"java/lang/Double", "compare", "(DD)I"⟩ : MethodName) (head1 (Jvm.Cond.code (⟨"java/lang/Double", "compare", "(DD)I"⟩ : MethodName) jdk_117_method_27_code 8 (some .int) :: ws) ({ frames := 2, cells := 0, slots := 0, locals := 70 } : Room)) (fun a U => a = #[(.double (FP.i2d x1)), (.double (FP.i2d x2))] ∧ Z.Warmed39 U.vm ∧ U.heap = h0) (fun _ _ _ _ _ => True) (fun _ U o U' => ∃ v L, o = .returned v ∧ (v = some (.int (own_cmp x1 x2)) ∧ L = [] ∧ U'.heap = h0) ∧ FrameEnd U o U' L ({ frames := 2, cells := 0, slots := 0, locals := 70 } : Room).cells ({ frames := 2, cells := 0, slots := 0, locals := 70 } : Room).slots) := by
  by_cases h : x1 < x2
  · exact rm11_f l Z a0 hw ws x1 x2 _ h0 n0 Z0 (own_dcmp_lt h _) (by decide) h
  · by_cases h' : x2 < x1
    · exact rm11_tf l Z a0 hw ws x1 x2 _ _ h0 n0 Z0 (own_dcmp_gt h' _) (by decide) (own_dcmp_gt h' _) (by decide) h h'
    · have hxy := own_tri h h'
      subst hxy
      exact rm11_ttf l Z a0 hw ws x1 x1 _ _ h0 n0 Z0 (own_dcmp_eq _ _) (by decide) (own_dcmp_eq _ _) (by decide) (own_lcmp_self _) h h'
theorem own_call_cmp {p : Program} {l : Launch} {e : Env} {R : Room} {s : State} {m : MethodId} {args : Array Value} {below : List Frame} {meth : Method} {c : Code} {T : State} {locs : List Loc} {cells slots : Nat} {Z : State} {a0 : Array Value} {h : Heap} {own : String} {index : Nat}
    (X : Stand p l e R s m args below meth c T locs cells slots) (hx : p.tables.exec = Jvm.exec) (hZ : Z.Warmed39 s.vm) (hw : ∀ d ∈ tables_1, d.before a0 Z = true) (hown : s.vm.findClass own = some m.cls) (w1 : (Cond.methodLink own index (⟨"java/lang/Double", "compare", "(DD)I"⟩ : MethodName)).before a0 Z = true) (x : Int32) (y : Int32)
    {W : Nat} {g : JFrame} (hg : g.method = m) (hsize : g.locals.size = c.maxLocals) {rest : List Value} (hst : g.stack = .double (FP.i2d y) :: .double (FP.i2d x) :: rest) (hW : 2 * g.monitorRoom + (rest.map fun v => v.category).sum ≤ W) (hd : decode c.code g.pc = .ok (.invokestatic index, 3)) (hf : 3 ≤ R.frames) (hl : W + 89 ≤ R.locals) (eT : T.heap = h) (hc : cells ≤ R.cells := by decide) (hs : slots ≤ R.slots := by decide) :
    ∃ T', Stand p l e R s m args below meth c T' locs cells slots ∧ T'.heap = h ∧ ∀ target, Steps p.tables e below (T'.setTop { g with pc := g.pc + 3, stack := .int (own_cmp x y) :: rest }) target → Steps p.tables e below (T.setTop g) target :=
  own_pureS X hx hZ (rm11 l Z a0 hw [] x y h 0 (Nat.zero_le _)) hown w1 (hw _ (List.mem_of_getElem? (i := 54) rfl)) (hw _ (List.mem_of_getElem? (i := 55) rfl)) (hw _ (List.mem_of_getElem? (i := 56) rfl)) (by decide) hf hl eT hg hsize (argsL := [.double (FP.i2d x), .double (FP.i2d y)]) (lenOf pd_dd rfl) hst hW hd hc hs
theorem own_cmp_pos {x y : Int32} : (0 : Int32) < own_cmp x y ↔ y < x := by
  unfold own_cmp
  split
  · rename_i h
    refine ⟨fun k => absurd k (by decide), fun k => ?_⟩
    rw [Int32.lt_iff_toInt_lt] at h k; omega
  · split
    · rename_i h; exact ⟨fun _ => h, fun _ => by decide⟩
    · rename_i h; exact ⟨fun k => absurd k (by decide), fun k => absurd k h⟩
theorem own_cmp_zero {x y : Int32} : own_cmp x y = 0 ↔ x = y := by
  unfold own_cmp
  split
  · rename_i h
    refine ⟨fun k => absurd k (by decide), fun k => ?_⟩
    subst k; rw [Int32.lt_iff_toInt_lt] at h; omega
  · split
    · rename_i h
      refine ⟨fun k => absurd k (by decide), fun k => ?_⟩
      subst k; rw [Int32.lt_iff_toInt_lt] at h; omega
    · rename_i h1 h2; exact ⟨fun _ => own_tri h1 h2, fun _ => rfl⟩
theorem d10_0 : decode prog_24_method_7_code 0 = .ok (.dload_n 0, 1) := by decide +kernel
theorem d10_1 : decode prog_24_method_7_code 1 = .ok (.dload_n 3, 1) := by decide +kernel
theorem d10_2 : decode prog_24_method_7_code 2 = .ok (.invokestatic 98, 3) := by decide +kernel
theorem d10_5 : decode prog_24_method_7_code 5 = .ok (.istore 6, 2) := by decide +kernel
theorem d10_7 : decode prog_24_method_7_code 7 = .ok (.iload 6, 2) := by decide +kernel
theorem d10_9 : decode prog_24_method_7_code 9 = .ok (.ifCond .gt 14, 3) := by decide +kernel
theorem d10_23 : decode prog_24_method_7_code 23 = .ok (.iconst 1, 1) := by decide +kernel
theorem d10_24 : decode prog_24_method_7_code 24 = .ok (.goto 4, 3) := by decide +kernel
theorem d10_28 : decode prog_24_method_7_code 28 = .ok (.ireturn, 1) := by decide +kernel
theorem pn_10 : plainName "com/example/triangulum/triangulum/search/Shortlist" = true := by first | (simp [plainName, overriddenIn]; done) | decide +kernel
theorem ef_10 (m : MethodId) (x0 : UInt64) (x1 : Int32) (x2 : UInt64) (x3 : Int32) : entryFrame m #[(.double x0), (.int x1), (.double x2), (.int x3)] 7 = mkF m 0 #[.val (.double x0), .second, .val (.int x1), .val (.double x2), .second, .val (.int x3), .unset] [] := by first | (simp [entryFrame, mkF, argsToLocals, Value.category]; done) | rfl
set_option maxRecDepth 65536 in
set_option maxHeartbeats 40000000 in
theorem rm10_t (l : Launch) (Z : State) (a0 : Array Value) (hw : ∀ d ∈ tables_1, d.before a0 Z = true) (ws : List Jvm.Cond) (x1 : Int32) (p2 : Int32) (x3 : Int32) (p4 : Int32) (h0 : Heap) (n0 : Nat) (Z0 : n0 ≤ h0.size) (hc9 : (0 : Int32) < (own_cmp x1 x3)) :
    MetFree l (⟨"com/example/triangulum/triangulum/search/Shortlist", "worse", "(DIDI)Z"⟩ : MethodName) (head1 (Jvm.Cond.code (⟨"com/example/triangulum/triangulum/search/Shortlist", "worse", "(DIDI)Z"⟩ : MethodName) prog_24_method_7_code 7 (some .boolean) :: ws) ({ frames := 3, cells := 0, slots := 0, locals := 100 } : Room)) (fun a U => a = #[(.double (FP.i2d x1)), (.int p2), (.double (FP.i2d x3)), (.int p4)] ∧ Z.Warmed39 U.vm ∧ U.heap = h0) (fun _ _ _ _ _ => True) (fun _ U o U' => ∃ v L, o = .returned v ∧ (v = some (.int (own_worse x1 p2 x3 p4)) ∧ L = [] ∧ U'.heap = h0) ∧ FrameEnd U o U' L ({ frames := 3, cells := 0, slots := 0, locals := 100 } : Room).cells ({ frames := 3, cells := 0, slots := 0, locals := 100 } : Room).slots) := by
  refine MetFree.of_bodySF (plainFor_of_name pn_10) hisR ?_
  intro p e s m args below meth c s₁ Bd hml0 hP hK
  obtain ⟨rfl, hZ, hh⟩ := hP
  have hx := Bd.exec
  have hby := Bd.bytes
  have hml : c.maxLocals = 7 := hml0
  have hown : s.vm.findClass "com/example/triangulum/triangulum/search/Shortlist" = some m.cls := findClass_of_methodNamed Bd.named
  have hnm := (name_of_methodNamed Bd.named Bd.method).1
  have X0 : Stand p l e ({ frames := 3, cells := 0, slots := 0, locals := 100 } : Room) s m #[(.double (FP.i2d x1)), (.int p2), (.double (FP.i2d x3)), (.int p4)] below meth c s₁ [] 0 0 := Stand.of_body Bd
  have e0 : s₁.heap = h0 := by rw [← hh, Bd.state]; rfl
  have N0 := Fr.nil n0
  have pre0 : ∀ t, Steps p.tables e below (s₁.setTop (mkF m 0 #[.val (.double (FP.i2d x1)), .second, .val (.int p2), .val (.double (FP.i2d x3)), .second, .val (.int p4), .unset] [])) t → Steps p.tables e below (s₁.setTop (entryFrame m #[(.double (FP.i2d x1)), (.int p2), (.double (FP.i2d x3)), (.int p4)] 7)) t := fun t k => castTop (ef_10 m (FP.i2d x1) p2 (FP.i2d x3) p4) k
  -- 3. LAWS
  -- pc 2: java/lang/Double.compare
  obtain ⟨T5, X5, e5, st5⟩ := own_call_cmp X0 hx hZ hw hown (hw _ (List.mem_of_getElem? (i := 53) rfl)) x1 x3 (W := 0) (g := (mkF m 2 #[.val (.double (FP.i2d x1)), .second, .val (.int p2), .val (.double (FP.i2d x3)), .second, .val (.int p4), .unset] [(.double (FP.i2d x3)), (.double (FP.i2d x1))])) rfl (by rw [hml]; rfl) (rest := []) rfl (by show 2 * 0 + _ ≤ _; exact Nat.le_of_eq rfl) (hb hby d10_2) (by decide) (by decide) e0
  obtain ⟨fs, hr, hrun, hended, hW, hsame⟩ := X5.leave (v := some (.int (1 : Int32))) (fun h => by rw [Bd.returns] at h; cases h)
  refine ⟨_, _, pre0 _ ?_, hrun, hended, _, _, rfl, ?_, ⟨_, rfl⟩, hW, hsame.mono (by decide) (by decide)⟩
  -- 4. STEPS
  · show Steps p.tables e below (s₁.setTop (mkF m 0 #[.val (.double (FP.i2d x1)), .second, .val (.int p2), .val (.double (FP.i2d x3)), .second, .val (.int p4), .unset] [])) _
    refine XS.dloadN X0.here hx rfl (hb hby d10_0) rfl ?_
    show Steps p.tables e below (s₁.setTop (mkF m 1 #[.val (.double (FP.i2d x1)), .second, .val (.int p2), .val (.double (FP.i2d x3)), .second, .val (.int p4), .unset] [(.double (FP.i2d x1))])) _
    refine XS.dloadN X0.here hx rfl (hb hby d10_1) rfl ?_
    show Steps p.tables e below (s₁.setTop (mkF m 2 #[.val (.double (FP.i2d x1)), .second, .val (.int p2), .val (.double (FP.i2d x3)), .second, .val (.int p4), .unset] [(.double (FP.i2d x3)), (.double (FP.i2d x1))])) _
    refine st5 _ ?_
    show Steps p.tables e below (T5.setTop (mkF m 5 #[.val (.double (FP.i2d x1)), .second, .val (.int p2), .val (.double (FP.i2d x3)), .second, .val (.int p4), .unset] [(.int (own_cmp x1 x3))])) _
    refine XS.istore X5.here hx rfl (hb hby d10_5) rfl (l' := #[.val (.double (FP.i2d x1)), .second, .val (.int p2), .val (.double (FP.i2d x3)), .second, .val (.int p4), .val (.int (own_cmp x1 x3))]) rfl ?_
    show Steps p.tables e below (T5.setTop (mkF m 7 #[.val (.double (FP.i2d x1)), .second, .val (.int p2), .val (.double (FP.i2d x3)), .second, .val (.int p4), .val (.int (own_cmp x1 x3))] [])) _
    refine XS.iload X5.here hx rfl (hb hby d10_7) rfl ?_
    show Steps p.tables e below (T5.setTop (mkF m 9 #[.val (.double (FP.i2d x1)), .second, .val (.int p2), .val (.double (FP.i2d x3)), .second, .val (.int p4), .val (.int (own_cmp x1 x3))] [(.int (own_cmp x1 x3))])) _
    refine XS.ifYes X5.here hx rfl (pc0 := 9) (pc' := 23) rfl (hb hby d10_9) rfl ((if0 _ _).trans (tlt hc9).2.2.1) (by decide) (by decide) ?_
    show Steps p.tables e below (T5.setTop (mkF m 23 #[.val (.double (FP.i2d x1)), .second, .val (.int p2), .val (.double (FP.i2d x3)), .second, .val (.int p4), .val (.int (own_cmp x1 x3))] [])) _
    refine XS.iconst X5.here hx rfl (hb hby d10_23) ?_
    show Steps p.tables e below (T5.setTop (mkF m 24 #[.val (.double (FP.i2d x1)), .second, .val (.int p2), .val (.double (FP.i2d x3)), .second, .val (.int p4), .val (.int (own_cmp x1 x3))] [(.int (1 : Int32))])) _
    refine XS.goto X5.here hx rfl (pc0 := 24) (pc' := 28) rfl (hb hby d10_24) (by decide) (by decide) ?_
    show Steps p.tables e below (T5.setTop (mkF m 28 #[.val (.double (FP.i2d x1)), .second, .val (.int p2), .val (.double (FP.i2d x3)), .second, .val (.int p4), .val (.int (own_cmp x1 x3))] [(.int (1 : Int32))])) _
    exact retN X5 hx (t := .boolean) Bd.returns (by simp) (hb hby d10_28) hr
  · exact ⟨by rw [own_worse_t (Or.inl (own_cmp_pos.mp hc9))], rfl, e5⟩
theorem d10_12 : decode prog_24_method_7_code 12 = .ok (.iload 6, 2) := by decide +kernel
theorem d10_14 : decode prog_24_method_7_code 14 = .ok (.ifCond .ne 13, 3) := by decide +kernel
theorem d10_27 : decode prog_24_method_7_code 27 = .ok (.iconst 0, 1) := by decide +kernel
set_option maxRecDepth 65536 in
set_option maxHeartbeats 40000000 in
theorem rm10_ft (l : Launch) (Z : State) (a0 : Array Value) (hw : ∀ d ∈ tables_1, d.before a0 Z = true) (ws : List Jvm.Cond) (x1 : Int32) (p2 : Int32) (x3 : Int32) (p4 : Int32) (h0 : Heap) (n0 : Nat) (Z0 : n0 ≤ h0.size) (hc9 : ¬ ((0 : Int32) < (own_cmp x1 x3))) (hc14 : ¬ ((own_cmp x1 x3) = (0 : Int32))) :
    MetFree l (⟨"com/example/triangulum/triangulum/search/Shortlist", "worse", "(DIDI)Z"⟩ : MethodName) (head1 (Jvm.Cond.code (⟨"com/example/triangulum/triangulum/search/Shortlist", "worse", "(DIDI)Z"⟩ : MethodName) prog_24_method_7_code 7 (some .boolean) :: ws) ({ frames := 3, cells := 0, slots := 0, locals := 100 } : Room)) (fun a U => a = #[(.double (FP.i2d x1)), (.int p2), (.double (FP.i2d x3)), (.int p4)] ∧ Z.Warmed39 U.vm ∧ U.heap = h0) (fun _ _ _ _ _ => True) (fun _ U o U' => ∃ v L, o = .returned v ∧ (v = some (.int (own_worse x1 p2 x3 p4)) ∧ L = [] ∧ U'.heap = h0) ∧ FrameEnd U o U' L ({ frames := 3, cells := 0, slots := 0, locals := 100 } : Room).cells ({ frames := 3, cells := 0, slots := 0, locals := 100 } : Room).slots) := by
  refine MetFree.of_bodySF (plainFor_of_name pn_10) hisR ?_
  intro p e s m args below meth c s₁ Bd hml0 hP hK
  obtain ⟨rfl, hZ, hh⟩ := hP
  have hx := Bd.exec
  have hby := Bd.bytes
  have hml : c.maxLocals = 7 := hml0
  have hown : s.vm.findClass "com/example/triangulum/triangulum/search/Shortlist" = some m.cls := findClass_of_methodNamed Bd.named
  have hnm := (name_of_methodNamed Bd.named Bd.method).1
  have X0 : Stand p l e ({ frames := 3, cells := 0, slots := 0, locals := 100 } : Room) s m #[(.double (FP.i2d x1)), (.int p2), (.double (FP.i2d x3)), (.int p4)] below meth c s₁ [] 0 0 := Stand.of_body Bd
  have e0 : s₁.heap = h0 := by rw [← hh, Bd.state]; rfl
  have N0 := Fr.nil n0
  have pre0 : ∀ t, Steps p.tables e below (s₁.setTop (mkF m 0 #[.val (.double (FP.i2d x1)), .second, .val (.int p2), .val (.double (FP.i2d x3)), .second, .val (.int p4), .unset] [])) t → Steps p.tables e below (s₁.setTop (entryFrame m #[(.double (FP.i2d x1)), (.int p2), (.double (FP.i2d x3)), (.int p4)] 7)) t := fun t k => castTop (ef_10 m (FP.i2d x1) p2 (FP.i2d x3) p4) k
  -- 3. LAWS
  -- pc 2: java/lang/Double.compare
  obtain ⟨T5, X5, e5, st5⟩ := own_call_cmp X0 hx hZ hw hown (hw _ (List.mem_of_getElem? (i := 53) rfl)) x1 x3 (W := 0) (g := (mkF m 2 #[.val (.double (FP.i2d x1)), .second, .val (.int p2), .val (.double (FP.i2d x3)), .second, .val (.int p4), .unset] [(.double (FP.i2d x3)), (.double (FP.i2d x1))])) rfl (by rw [hml]; rfl) (rest := []) rfl (by show 2 * 0 + _ ≤ _; exact Nat.le_of_eq rfl) (hb hby d10_2) (by decide) (by decide) e0
  obtain ⟨fs, hr, hrun, hended, hW, hsame⟩ := X5.leave (v := some (.int (0 : Int32))) (fun h => by rw [Bd.returns] at h; cases h)
  refine ⟨_, _, pre0 _ ?_, hrun, hended, _, _, rfl, ?_, ⟨_, rfl⟩, hW, hsame.mono (by decide) (by decide)⟩
  -- 4. STEPS
  · show Steps p.tables e below (s₁.setTop (mkF m 0 #[.val (.double (FP.i2d x1)), .second, .val (.int p2), .val (.double (FP.i2d x3)), .second, .val (.int p4), .unset] [])) _
    refine XS.dloadN X0.here hx rfl (hb hby d10_0) rfl ?_
    show Steps p.tables e below (s₁.setTop (mkF m 1 #[.val (.double (FP.i2d x1)), .second, .val (.int p2), .val (.double (FP.i2d x3)), .second, .val (.int p4), .unset] [(.double (FP.i2d x1))])) _
    refine XS.dloadN X0.here hx rfl (hb hby d10_1) rfl ?_
    show Steps p.tables e below (s₁.setTop (mkF m 2 #[.val (.double (FP.i2d x1)), .second, .val (.int p2), .val (.double (FP.i2d x3)), .second, .val (.int p4), .unset] [(.double (FP.i2d x3)), (.double (FP.i2d x1))])) _
    refine st5 _ ?_
    show Steps p.tables e below (T5.setTop (mkF m 5 #[.val (.double (FP.i2d x1)), .second, .val (.int p2), .val (.double (FP.i2d x3)), .second, .val (.int p4), .unset] [(.int (own_cmp x1 x3))])) _
    refine XS.istore X5.here hx rfl (hb hby d10_5) rfl (l' := #[.val (.double (FP.i2d x1)), .second, .val (.int p2), .val (.double (FP.i2d x3)), .second, .val (.int p4), .val (.int (own_cmp x1 x3))]) rfl ?_
    show Steps p.tables e below (T5.setTop (mkF m 7 #[.val (.double (FP.i2d x1)), .second, .val (.int p2), .val (.double (FP.i2d x3)), .second, .val (.int p4), .val (.int (own_cmp x1 x3))] [])) _
    refine XS.iload X5.here hx rfl (hb hby d10_7) rfl ?_
    show Steps p.tables e below (T5.setTop (mkF m 9 #[.val (.double (FP.i2d x1)), .second, .val (.int p2), .val (.double (FP.i2d x3)), .second, .val (.int p4), .val (.int (own_cmp x1 x3))] [(.int (own_cmp x1 x3))])) _
    refine XS.ifNo X5.here hx rfl (hb hby d10_9) rfl ((if0 _ _).trans (flt hc9).2.2.1) ?_
    show Steps p.tables e below (T5.setTop (mkF m 12 #[.val (.double (FP.i2d x1)), .second, .val (.int p2), .val (.double (FP.i2d x3)), .second, .val (.int p4), .val (.int (own_cmp x1 x3))] [])) _
    refine XS.iload X5.here hx rfl (hb hby d10_12) rfl ?_
    show Steps p.tables e below (T5.setTop (mkF m 14 #[.val (.double (FP.i2d x1)), .second, .val (.int p2), .val (.double (FP.i2d x3)), .second, .val (.int p4), .val (.int (own_cmp x1 x3))] [(.int (own_cmp x1 x3))])) _
    refine XS.ifYes X5.here hx rfl (pc0 := 14) (pc' := 27) rfl (hb hby d10_14) rfl ((if0 _ _).trans (feq hc14).2) (by decide) (by decide) ?_
    show Steps p.tables e below (T5.setTop (mkF m 27 #[.val (.double (FP.i2d x1)), .second, .val (.int p2), .val (.double (FP.i2d x3)), .second, .val (.int p4), .val (.int (own_cmp x1 x3))] [])) _
    refine XS.iconst X5.here hx rfl (hb hby d10_27) ?_
    show Steps p.tables e below (T5.setTop (mkF m 28 #[.val (.double (FP.i2d x1)), .second, .val (.int p2), .val (.double (FP.i2d x3)), .second, .val (.int p4), .val (.int (own_cmp x1 x3))] [(.int (0 : Int32))])) _
    exact retN X5 hx (t := .boolean) Bd.returns (by simp) (hb hby d10_28) hr
  · exact ⟨by rw [own_worse_f (fun k => k.elim (fun q => hc9 (own_cmp_pos.mpr q)) (fun q => hc14 (own_cmp_zero.mpr q.1)))], rfl, e5⟩
theorem d10_17 : decode prog_24_method_7_code 17 = .ok (.iload_n 2, 1) := by decide +kernel
theorem d10_18 : decode prog_24_method_7_code 18 = .ok (.iload 5, 2) := by decide +kernel
theorem d10_20 : decode prog_24_method_7_code 20 = .ok (.if_icmp .le 7, 3) := by decide +kernel
set_option maxRecDepth 65536 in
set_option maxHeartbeats 40000000 in
theorem rm10_fft (l : Launch) (Z : State) (a0 : Array Value) (hw : ∀ d ∈ tables_1, d.before a0 Z = true) (ws : List Jvm.Cond) (x1 : Int32) (p2 : Int32) (x3 : Int32) (p4 : Int32) (h0 : Heap) (n0 : Nat) (Z0 : n0 ≤ h0.size) (hc9 : ¬ ((0 : Int32) < (own_cmp x1 x3))) (hc14 : (own_cmp x1 x3) = (0 : Int32)) (hc20 : ¬ (p4 < p2)) :
    MetFree l (⟨"com/example/triangulum/triangulum/search/Shortlist", "worse", "(DIDI)Z"⟩ : MethodName) (head1 (Jvm.Cond.code (⟨"com/example/triangulum/triangulum/search/Shortlist", "worse", "(DIDI)Z"⟩ : MethodName) prog_24_method_7_code 7 (some .boolean) :: ws) ({ frames := 3, cells := 0, slots := 0, locals := 100 } : Room)) (fun a U => a = #[(.double (FP.i2d x1)), (.int p2), (.double (FP.i2d x3)), (.int p4)] ∧ Z.Warmed39 U.vm ∧ U.heap = h0) (fun _ _ _ _ _ => True) (fun _ U o U' => ∃ v L, o = .returned v ∧ (v = some (.int (own_worse x1 p2 x3 p4)) ∧ L = [] ∧ U'.heap = h0) ∧ FrameEnd U o U' L ({ frames := 3, cells := 0, slots := 0, locals := 100 } : Room).cells ({ frames := 3, cells := 0, slots := 0, locals := 100 } : Room).slots) := by
  refine MetFree.of_bodySF (plainFor_of_name pn_10) hisR ?_
  intro p e s m args below meth c s₁ Bd hml0 hP hK
  obtain ⟨rfl, hZ, hh⟩ := hP
  have hx := Bd.exec
  have hby := Bd.bytes
  have hml : c.maxLocals = 7 := hml0
  have hown : s.vm.findClass "com/example/triangulum/triangulum/search/Shortlist" = some m.cls := findClass_of_methodNamed Bd.named
  have hnm := (name_of_methodNamed Bd.named Bd.method).1
  have X0 : Stand p l e ({ frames := 3, cells := 0, slots := 0, locals := 100 } : Room) s m #[(.double (FP.i2d x1)), (.int p2), (.double (FP.i2d x3)), (.int p4)] below meth c s₁ [] 0 0 := Stand.of_body Bd
  have e0 : s₁.heap = h0 := by rw [← hh, Bd.state]; rfl
  have N0 := Fr.nil n0
  have pre0 : ∀ t, Steps p.tables e below (s₁.setTop (mkF m 0 #[.val (.double (FP.i2d x1)), .second, .val (.int p2), .val (.double (FP.i2d x3)), .second, .val (.int p4), .unset] [])) t → Steps p.tables e below (s₁.setTop (entryFrame m #[(.double (FP.i2d x1)), (.int p2), (.double (FP.i2d x3)), (.int p4)] 7)) t := fun t k => castTop (ef_10 m (FP.i2d x1) p2 (FP.i2d x3) p4) k
  -- 3. LAWS
  -- pc 2: java/lang/Double.compare
  obtain ⟨T5, X5, e5, st5⟩ := own_call_cmp X0 hx hZ hw hown (hw _ (List.mem_of_getElem? (i := 53) rfl)) x1 x3 (W := 0) (g := (mkF m 2 #[.val (.double (FP.i2d x1)), .second, .val (.int p2), .val (.double (FP.i2d x3)), .second, .val (.int p4), .unset] [(.double (FP.i2d x3)), (.double (FP.i2d x1))])) rfl (by rw [hml]; rfl) (rest := []) rfl (by show 2 * 0 + _ ≤ _; exact Nat.le_of_eq rfl) (hb hby d10_2) (by decide) (by decide) e0
  obtain ⟨fs, hr, hrun, hended, hW, hsame⟩ := X5.leave (v := some (.int (0 : Int32))) (fun h => by rw [Bd.returns] at h; cases h)
  refine ⟨_, _, pre0 _ ?_, hrun, hended, _, _, rfl, ?_, ⟨_, rfl⟩, hW, hsame.mono (by decide) (by decide)⟩
  -- 4. STEPS
  · show Steps p.tables e below (s₁.setTop (mkF m 0 #[.val (.double (FP.i2d x1)), .second, .val (.int p2), .val (.double (FP.i2d x3)), .second, .val (.int p4), .unset] [])) _
    refine XS.dloadN X0.here hx rfl (hb hby d10_0) rfl ?_
    show Steps p.tables e below (s₁.setTop (mkF m 1 #[.val (.double (FP.i2d x1)), .second, .val (.int p2), .val (.double (FP.i2d x3)), .second, .val (.int p4), .unset] [(.double (FP.i2d x1))])) _
    refine XS.dloadN X0.here hx rfl (hb hby d10_1) rfl ?_
    show Steps p.tables e below (s₁.setTop (mkF m 2 #[.val (.double (FP.i2d x1)), .second, .val (.int p2), .val (.double (FP.i2d x3)), .second, .val (.int p4), .unset] [(.double (FP.i2d x3)), (.double (FP.i2d x1))])) _
    refine st5 _ ?_
    show Steps p.tables e below (T5.setTop (mkF m 5 #[.val (.double (FP.i2d x1)), .second, .val (.int p2), .val (.double (FP.i2d x3)), .second, .val (.int p4), .unset] [(.int (own_cmp x1 x3))])) _
    refine XS.istore X5.here hx rfl (hb hby d10_5) rfl (l' := #[.val (.double (FP.i2d x1)), .second, .val (.int p2), .val (.double (FP.i2d x3)), .second, .val (.int p4), .val (.int (own_cmp x1 x3))]) rfl ?_
    show Steps p.tables e below (T5.setTop (mkF m 7 #[.val (.double (FP.i2d x1)), .second, .val (.int p2), .val (.double (FP.i2d x3)), .second, .val (.int p4), .val (.int (own_cmp x1 x3))] [])) _
    refine XS.iload X5.here hx rfl (hb hby d10_7) rfl ?_
    show Steps p.tables e below (T5.setTop (mkF m 9 #[.val (.double (FP.i2d x1)), .second, .val (.int p2), .val (.double (FP.i2d x3)), .second, .val (.int p4), .val (.int (own_cmp x1 x3))] [(.int (own_cmp x1 x3))])) _
    refine XS.ifNo X5.here hx rfl (hb hby d10_9) rfl ((if0 _ _).trans (flt hc9).2.2.1) ?_
    show Steps p.tables e below (T5.setTop (mkF m 12 #[.val (.double (FP.i2d x1)), .second, .val (.int p2), .val (.double (FP.i2d x3)), .second, .val (.int p4), .val (.int (own_cmp x1 x3))] [])) _
    refine XS.iload X5.here hx rfl (hb hby d10_12) rfl ?_
    show Steps p.tables e below (T5.setTop (mkF m 14 #[.val (.double (FP.i2d x1)), .second, .val (.int p2), .val (.double (FP.i2d x3)), .second, .val (.int p4), .val (.int (own_cmp x1 x3))] [(.int (own_cmp x1 x3))])) _
    refine XS.ifNo X5.here hx rfl (hb hby d10_14) rfl ((if0 _ _).trans (teq hc14).2) ?_
    show Steps p.tables e below (T5.setTop (mkF m 17 #[.val (.double (FP.i2d x1)), .second, .val (.int p2), .val (.double (FP.i2d x3)), .second, .val (.int p4), .val (.int (own_cmp x1 x3))] [])) _
    refine XS.iloadN X5.here hx rfl (hb hby d10_17) rfl ?_
    show Steps p.tables e below (T5.setTop (mkF m 18 #[.val (.double (FP.i2d x1)), .second, .val (.int p2), .val (.double (FP.i2d x3)), .second, .val (.int p4), .val (.int (own_cmp x1 x3))] [(.int p2)])) _
    refine XS.iload X5.here hx rfl (hb hby d10_18) rfl ?_
    show Steps p.tables e below (T5.setTop (mkF m 20 #[.val (.double (FP.i2d x1)), .second, .val (.int p2), .val (.double (FP.i2d x3)), .second, .val (.int p4), .val (.int (own_cmp x1 x3))] [(.int p4), (.int p2)])) _
    refine XS.icmpYes X5.here hx rfl (pc0 := 20) (pc' := 27) rfl (hb hby d10_20) rfl (flt hc20).2.2.2 (by decide) (by decide) ?_
    show Steps p.tables e below (T5.setTop (mkF m 27 #[.val (.double (FP.i2d x1)), .second, .val (.int p2), .val (.double (FP.i2d x3)), .second, .val (.int p4), .val (.int (own_cmp x1 x3))] [])) _
    refine XS.iconst X5.here hx rfl (hb hby d10_27) ?_
    show Steps p.tables e below (T5.setTop (mkF m 28 #[.val (.double (FP.i2d x1)), .second, .val (.int p2), .val (.double (FP.i2d x3)), .second, .val (.int p4), .val (.int (own_cmp x1 x3))] [(.int (0 : Int32))])) _
    exact retN X5 hx (t := .boolean) Bd.returns (by simp) (hb hby d10_28) hr
  · exact ⟨by rw [own_worse_f (fun k => k.elim (fun q => hc9 (own_cmp_pos.mpr q)) (fun q => hc20 q.2))], rfl, e5⟩
set_option maxRecDepth 65536 in
set_option maxHeartbeats 40000000 in
theorem rm10_fff (l : Launch) (Z : State) (a0 : Array Value) (hw : ∀ d ∈ tables_1, d.before a0 Z = true) (ws : List Jvm.Cond) (x1 : Int32) (p2 : Int32) (x3 : Int32) (p4 : Int32) (h0 : Heap) (n0 : Nat) (Z0 : n0 ≤ h0.size) (hc9 : ¬ ((0 : Int32) < (own_cmp x1 x3))) (hc14 : (own_cmp x1 x3) = (0 : Int32)) (hc20 : p4 < p2) :
    MetFree l (⟨"com/example/triangulum/triangulum/search/Shortlist", "worse", "(DIDI)Z"⟩ : MethodName) (head1 (Jvm.Cond.code (⟨"com/example/triangulum/triangulum/search/Shortlist", "worse", "(DIDI)Z"⟩ : MethodName) prog_24_method_7_code 7 (some .boolean) :: ws) ({ frames := 3, cells := 0, slots := 0, locals := 100 } : Room)) (fun a U => a = #[(.double (FP.i2d x1)), (.int p2), (.double (FP.i2d x3)), (.int p4)] ∧ Z.Warmed39 U.vm ∧ U.heap = h0) (fun _ _ _ _ _ => True) (fun _ U o U' => ∃ v L, o = .returned v ∧ (v = some (.int (own_worse x1 p2 x3 p4)) ∧ L = [] ∧ U'.heap = h0) ∧ FrameEnd U o U' L ({ frames := 3, cells := 0, slots := 0, locals := 100 } : Room).cells ({ frames := 3, cells := 0, slots := 0, locals := 100 } : Room).slots) := by
  refine MetFree.of_bodySF (plainFor_of_name pn_10) hisR ?_
  intro p e s m args below meth c s₁ Bd hml0 hP hK
  obtain ⟨rfl, hZ, hh⟩ := hP
  have hx := Bd.exec
  have hby := Bd.bytes
  have hml : c.maxLocals = 7 := hml0
  have hown : s.vm.findClass "com/example/triangulum/triangulum/search/Shortlist" = some m.cls := findClass_of_methodNamed Bd.named
  have hnm := (name_of_methodNamed Bd.named Bd.method).1
  have X0 : Stand p l e ({ frames := 3, cells := 0, slots := 0, locals := 100 } : Room) s m #[(.double (FP.i2d x1)), (.int p2), (.double (FP.i2d x3)), (.int p4)] below meth c s₁ [] 0 0 := Stand.of_body Bd
  have e0 : s₁.heap = h0 := by rw [← hh, Bd.state]; rfl
  have N0 := Fr.nil n0
  have pre0 : ∀ t, Steps p.tables e below (s₁.setTop (mkF m 0 #[.val (.double (FP.i2d x1)), .second, .val (.int p2), .val (.double (FP.i2d x3)), .second, .val (.int p4), .unset] [])) t → Steps p.tables e below (s₁.setTop (entryFrame m #[(.double (FP.i2d x1)), (.int p2), (.double (FP.i2d x3)), (.int p4)] 7)) t := fun t k => castTop (ef_10 m (FP.i2d x1) p2 (FP.i2d x3) p4) k
  -- 3. LAWS
  -- pc 2: java/lang/Double.compare
  obtain ⟨T5, X5, e5, st5⟩ := own_call_cmp X0 hx hZ hw hown (hw _ (List.mem_of_getElem? (i := 53) rfl)) x1 x3 (W := 0) (g := (mkF m 2 #[.val (.double (FP.i2d x1)), .second, .val (.int p2), .val (.double (FP.i2d x3)), .second, .val (.int p4), .unset] [(.double (FP.i2d x3)), (.double (FP.i2d x1))])) rfl (by rw [hml]; rfl) (rest := []) rfl (by show 2 * 0 + _ ≤ _; exact Nat.le_of_eq rfl) (hb hby d10_2) (by decide) (by decide) e0
  obtain ⟨fs, hr, hrun, hended, hW, hsame⟩ := X5.leave (v := some (.int (1 : Int32))) (fun h => by rw [Bd.returns] at h; cases h)
  refine ⟨_, _, pre0 _ ?_, hrun, hended, _, _, rfl, ?_, ⟨_, rfl⟩, hW, hsame.mono (by decide) (by decide)⟩
  -- 4. STEPS
  · show Steps p.tables e below (s₁.setTop (mkF m 0 #[.val (.double (FP.i2d x1)), .second, .val (.int p2), .val (.double (FP.i2d x3)), .second, .val (.int p4), .unset] [])) _
    refine XS.dloadN X0.here hx rfl (hb hby d10_0) rfl ?_
    show Steps p.tables e below (s₁.setTop (mkF m 1 #[.val (.double (FP.i2d x1)), .second, .val (.int p2), .val (.double (FP.i2d x3)), .second, .val (.int p4), .unset] [(.double (FP.i2d x1))])) _
    refine XS.dloadN X0.here hx rfl (hb hby d10_1) rfl ?_
    show Steps p.tables e below (s₁.setTop (mkF m 2 #[.val (.double (FP.i2d x1)), .second, .val (.int p2), .val (.double (FP.i2d x3)), .second, .val (.int p4), .unset] [(.double (FP.i2d x3)), (.double (FP.i2d x1))])) _
    refine st5 _ ?_
    show Steps p.tables e below (T5.setTop (mkF m 5 #[.val (.double (FP.i2d x1)), .second, .val (.int p2), .val (.double (FP.i2d x3)), .second, .val (.int p4), .unset] [(.int (own_cmp x1 x3))])) _
    refine XS.istore X5.here hx rfl (hb hby d10_5) rfl (l' := #[.val (.double (FP.i2d x1)), .second, .val (.int p2), .val (.double (FP.i2d x3)), .second, .val (.int p4), .val (.int (own_cmp x1 x3))]) rfl ?_
    show Steps p.tables e below (T5.setTop (mkF m 7 #[.val (.double (FP.i2d x1)), .second, .val (.int p2), .val (.double (FP.i2d x3)), .second, .val (.int p4), .val (.int (own_cmp x1 x3))] [])) _
    refine XS.iload X5.here hx rfl (hb hby d10_7) rfl ?_
    show Steps p.tables e below (T5.setTop (mkF m 9 #[.val (.double (FP.i2d x1)), .second, .val (.int p2), .val (.double (FP.i2d x3)), .second, .val (.int p4), .val (.int (own_cmp x1 x3))] [(.int (own_cmp x1 x3))])) _
    refine XS.ifNo X5.here hx rfl (hb hby d10_9) rfl ((if0 _ _).trans (flt hc9).2.2.1) ?_
    show Steps p.tables e below (T5.setTop (mkF m 12 #[.val (.double (FP.i2d x1)), .second, .val (.int p2), .val (.double (FP.i2d x3)), .second, .val (.int p4), .val (.int (own_cmp x1 x3))] [])) _
    refine XS.iload X5.here hx rfl (hb hby d10_12) rfl ?_
    show Steps p.tables e below (T5.setTop (mkF m 14 #[.val (.double (FP.i2d x1)), .second, .val (.int p2), .val (.double (FP.i2d x3)), .second, .val (.int p4), .val (.int (own_cmp x1 x3))] [(.int (own_cmp x1 x3))])) _
    refine XS.ifNo X5.here hx rfl (hb hby d10_14) rfl ((if0 _ _).trans (teq hc14).2) ?_
    show Steps p.tables e below (T5.setTop (mkF m 17 #[.val (.double (FP.i2d x1)), .second, .val (.int p2), .val (.double (FP.i2d x3)), .second, .val (.int p4), .val (.int (own_cmp x1 x3))] [])) _
    refine XS.iloadN X5.here hx rfl (hb hby d10_17) rfl ?_
    show Steps p.tables e below (T5.setTop (mkF m 18 #[.val (.double (FP.i2d x1)), .second, .val (.int p2), .val (.double (FP.i2d x3)), .second, .val (.int p4), .val (.int (own_cmp x1 x3))] [(.int p2)])) _
    refine XS.iload X5.here hx rfl (hb hby d10_18) rfl ?_
    show Steps p.tables e below (T5.setTop (mkF m 20 #[.val (.double (FP.i2d x1)), .second, .val (.int p2), .val (.double (FP.i2d x3)), .second, .val (.int p4), .val (.int (own_cmp x1 x3))] [(.int p4), (.int p2)])) _
    refine XS.icmpNo X5.here hx rfl (hb hby d10_20) rfl (tlt hc20).2.2.2 ?_
    show Steps p.tables e below (T5.setTop (mkF m 23 #[.val (.double (FP.i2d x1)), .second, .val (.int p2), .val (.double (FP.i2d x3)), .second, .val (.int p4), .val (.int (own_cmp x1 x3))] [])) _
    refine XS.iconst X5.here hx rfl (hb hby d10_23) ?_
    show Steps p.tables e below (T5.setTop (mkF m 24 #[.val (.double (FP.i2d x1)), .second, .val (.int p2), .val (.double (FP.i2d x3)), .second, .val (.int p4), .val (.int (own_cmp x1 x3))] [(.int (1 : Int32))])) _
    refine XS.goto X5.here hx rfl (pc0 := 24) (pc' := 28) rfl (hb hby d10_24) (by decide) (by decide) ?_
    show Steps p.tables e below (T5.setTop (mkF m 28 #[.val (.double (FP.i2d x1)), .second, .val (.int p2), .val (.double (FP.i2d x3)), .second, .val (.int p4), .val (.int (own_cmp x1 x3))] [(.int (1 : Int32))])) _
    exact retN X5 hx (t := .boolean) Bd.returns (by simp) (hb hby d10_28) hr
  · exact ⟨by rw [own_worse_t (Or.inr ⟨own_cmp_zero.mp hc14, hc20⟩)], rfl, e5⟩
theorem rm10 (l : Launch) (Z : State) (a0 : Array Value) (hw : ∀ d ∈ tables_1, d.before a0 Z = true) (ws : List Jvm.Cond) (x1 : Int32) (p2 : Int32) (x3 : Int32) (p4 : Int32) (h0 : Heap) (n0 : Nat) (Z0 : n0 ≤ h0.size) :
    MetFree l (⟨"com/example/triangulum/triangulum/search/Shortlist", "worse", "(DIDI)Z"⟩ : MethodName) (head1 (Jvm.Cond.code (⟨"com/example/triangulum/triangulum/search/Shortlist", "worse", "(DIDI)Z"⟩ : MethodName) prog_24_method_7_code 7 (some .boolean) :: ws) ({ frames := 3, cells := 0, slots := 0, locals := 100 } : Room)) (fun a U => a = #[(.double (FP.i2d x1)), (.int p2), (.double (FP.i2d x3)), (.int p4)] ∧ Z.Warmed39 U.vm ∧ U.heap = h0) (fun _ _ _ _ _ => True) (fun _ U o U' => ∃ v L, o = .returned v ∧ (v = some (.int (own_worse x1 p2 x3 p4)) ∧ L = [] ∧ U'.heap = h0) ∧ FrameEnd U o U' L ({ frames := 3, cells := 0, slots := 0, locals := 100 } : Room).cells ({ frames := 3, cells := 0, slots := 0, locals := 100 } : Room).slots) := by
  by_cases h : (0 : Int32) < own_cmp x1 x3
  · exact rm10_t l Z a0 hw ws x1 p2 x3 p4 h0 n0 Z0 h
  · by_cases h1 : own_cmp x1 x3 = (0 : Int32)
    · by_cases h2 : p4 < p2
      · exact rm10_fff l Z a0 hw ws x1 p2 x3 p4 h0 n0 Z0 h h1 h2
      · exact rm10_fft l Z a0 hw ws x1 p2 x3 p4 h0 n0 Z0 h h1 h2
    · exact rm10_ft l Z a0 hw ws x1 p2 x3 p4 h0 n0 Z0 h h1
theorem own_call_w4 {p : Program} {l : Launch} {e : Env} {R : Room} {s : State} {m : MethodId} {args : Array Value} {below : List Frame} {meth : Method} {c : Code} {T : State} {locs : List Loc} {cells slots : Nat} {Z : State} {a0 : Array Value} {h : Heap} {own : String} {index : Nat}
    (X : Stand p l e R s m args below meth c T locs cells slots) (hx : p.tables.exec = Jvm.exec) (hZ : Z.Warmed39 s.vm) (hw : ∀ d ∈ tables_1, d.before a0 Z = true) (hown : s.vm.findClass own = some m.cls) (w1 : (Cond.methodLink own index (⟨"com/example/triangulum/triangulum/search/Shortlist", "worse", "(DIDI)Z"⟩ : MethodName)).before a0 Z = true) (x : Int32) (i : Int32) (y : Int32) (j : Int32)
    {W : Nat} {g : JFrame} (hg : g.method = m) (hsize : g.locals.size = c.maxLocals) {rest : List Value} (hst : g.stack = .int j :: .double (FP.i2d y) :: .int i :: .double (FP.i2d x) :: rest) (hW : 2 * g.monitorRoom + (rest.map fun v => v.category).sum ≤ W) (hd : decode c.code g.pc = .ok (.invokestatic index, 3)) (hf : 4 ≤ R.frames) (hl : W + 118 ≤ R.locals) (eT : T.heap = h) (hc : cells ≤ R.cells := by decide) (hs : slots ≤ R.slots := by decide) :
    ∃ T', Stand p l e R s m args below meth c T' locs cells slots ∧ T'.heap = h ∧ ∀ target, Steps p.tables e below (T'.setTop { g with pc := g.pc + 3, stack := .int (own_worse x i y j) :: rest }) target → Steps p.tables e below (T.setTop g) target :=
  own_pureS X hx hZ (rm10 l Z a0 hw [] x i y j h 0 (Nat.zero_le _)) hown w1 (hw _ (List.mem_of_getElem? (i := 51) rfl)) (hw _ (List.mem_of_getElem? (i := 2) rfl)) (hw _ (List.mem_of_getElem? (i := 52) rfl)) (by decide) hf hl eT hg hsize (argsL := [.double (FP.i2d x), .int i, .double (FP.i2d y), .int j]) (lenOf pd_w4 rfl) hst hW hd hc hs
theorem d12_0 : decode prog_24_method_6_code 0 = .ok (.dload_n 1, 1) := by decide +kernel
theorem d12_1 : decode prog_24_method_6_code 1 = .ok (.iload_n 3, 1) := by decide +kernel
theorem d12_2 : decode prog_24_method_6_code 2 = .ok (.aload_n 0, 1) := by decide +kernel
theorem d12_3 : decode prog_24_method_6_code 3 = .ok (.getfield 28, 3) := by decide +kernel
theorem d12_6 : decode prog_24_method_6_code 6 = .ok (.iload 4, 2) := by decide +kernel
theorem d12_8 : decode prog_24_method_6_code 8 = .ok (.daload, 1) := by decide +kernel
theorem d12_9 : decode prog_24_method_6_code 9 = .ok (.aload_n 0, 1) := by decide +kernel
theorem d12_10 : decode prog_24_method_6_code 10 = .ok (.getfield 32, 3) := by decide +kernel
theorem d12_13 : decode prog_24_method_6_code 13 = .ok (.iload 4, 2) := by decide +kernel
theorem d12_15 : decode prog_24_method_6_code 15 = .ok (.iaload, 1) := by decide +kernel
theorem d12_16 : decode prog_24_method_6_code 16 = .ok (.invokestatic 59, 3) := by decide +kernel
theorem d12_19 : decode prog_24_method_6_code 19 = .ok (.ireturn, 1) := by decide +kernel
theorem pn_12 : plainName "com/example/triangulum/triangulum/search/Shortlist" = true := by first | (simp [plainName, overriddenIn]; done) | decide +kernel
theorem ef_12 (m : MethodId) (x0 : Addr) (x1 : UInt64) (x2 : Int32) (x3 : Int32) : entryFrame m #[(.ref x0), (.double x1), (.int x2), (.int x3)] 5 = mkF m 0 #[.val (.ref x0), .val (.double x1), .second, .val (.int x2), .val (.int x3)] [] := by first | (simp [entryFrame, mkF, argsToLocals, Value.category]; done) | rfl
set_option maxRecDepth 65536 in
set_option maxHeartbeats 40000000 in
theorem rm12 (l : Launch) (Z : State) (a0 : Array Value) (hw : ∀ d ∈ tables_1, d.before a0 Z = true) (ws : List Jvm.Cond) (a1 : Addr) (x2 : Int32) (p3 : Int32) (p4 : Int32) (zl : Int32) (XL : List Int32) (IL : List Int32) (c_distances : Addr) (c_indexes : Addr) (h0 : Heap) (n0 : Nat) (Z0 : n0 ≤ h0.size) (V_c_distances : own_X Z h0 c_distances zl XL) (V_c_indexes : own_I Z h0 c_indexes zl IL) (F_distances_a1 : Fld Z h0 a1 "com/example/triangulum/triangulum/search/Shortlist" "distances" "[D" (.ref c_distances)) (F_indexes_a1 : Fld Z h0 a1 "com/example/triangulum/triangulum/search/Shortlist" "indexes" "[I" (.ref c_indexes)) (hj8 : ¬ p4 < 0 ∧ p4 < zl) (hj15 : ¬ p4 < 0 ∧ p4 < zl) :
    MetFree l (⟨"com/example/triangulum/triangulum/search/Shortlist", "worse", "(DII)Z"⟩ : MethodName) (head1 (Jvm.Cond.code (⟨"com/example/triangulum/triangulum/search/Shortlist", "worse", "(DII)Z"⟩ : MethodName) prog_24_method_6_code 5 (some .boolean) :: ws) ({ frames := 4, cells := 0, slots := 0, locals := 130 } : Room)) (fun a U => a = #[(.ref a1), (.double (FP.i2d x2)), (.int p3), (.int p4)] ∧ Z.Warmed39 U.vm ∧ U.heap = h0) (fun _ _ _ _ _ => True) (fun _ U o U' => ∃ v L, o = .returned v ∧ (v = some (.int (own_worse x2 p3 (XL.getD (p4).toNatClampNeg 0) (IL.getD (p4).toNatClampNeg 0))) ∧ L = [] ∧ U'.heap = h0) ∧ FrameEnd U o U' L ({ frames := 4, cells := 0, slots := 0, locals := 130 } : Room).cells ({ frames := 4, cells := 0, slots := 0, locals := 130 } : Room).slots) := by
  refine MetFree.of_bodySF (plainFor_of_name pn_12) hisR ?_
  intro p e s m args below meth c s₁ Bd hml0 hP hK
  obtain ⟨rfl, hZ, hh⟩ := hP
  have hx := Bd.exec
  have hby := Bd.bytes
  have hml : c.maxLocals = 5 := hml0
  have hown : s.vm.findClass "com/example/triangulum/triangulum/search/Shortlist" = some m.cls := findClass_of_methodNamed Bd.named
  have hnm := (name_of_methodNamed Bd.named Bd.method).1
  have X0 : Stand p l e ({ frames := 4, cells := 0, slots := 0, locals := 130 } : Room) s m #[(.ref a1), (.double (FP.i2d x2)), (.int p3), (.int p4)] below meth c s₁ [] 0 0 := Stand.of_body Bd
  have e0 : s₁.heap = h0 := by rw [← hh, Bd.state]; rfl
  have N0 := Fr.nil n0
  have pre0 : ∀ t, Steps p.tables e below (s₁.setTop (mkF m 0 #[.val (.ref a1), .val (.double (FP.i2d x2)), .second, .val (.int p3), .val (.int p4)] [])) t → Steps p.tables e below (s₁.setTop (entryFrame m #[(.ref a1), (.double (FP.i2d x2)), (.int p3), (.int p4)] 5)) t := fun t k => castTop (ef_12 m a1 (FP.i2d x2) p3 p4) k
  -- 3. LAWS
  obtain ⟨T5, X5, e5, st5⟩ := getF X0 hx hZ hown (host := "") (Or.inl (hw _ (List.mem_of_getElem? (i := 16) rfl))) Via.refl e0 F_distances_a1 (g := (mkF m 3 #[.val (.ref a1), .val (.double (FP.i2d x2)), .second, .val (.int p3), .val (.int p4)] [(.ref a1), (.int p3), (.double (FP.i2d x2))])) rfl rfl (hb hby d12_3)
  obtain ⟨T6, X6, e6, st6⟩ := getF X5 hx hZ hown (host := "") (Or.inl (hw _ (List.mem_of_getElem? (i := 19) rfl))) Via.refl e5 F_indexes_a1 (g := (mkF m 10 #[.val (.ref a1), .val (.double (FP.i2d x2)), .second, .val (.int p3), .val (.int p4)] [(.ref a1), (.double (FP.i2d (XL.getD (p4).toNatClampNeg 0))), (.int p3), (.double (FP.i2d x2))])) rfl rfl (hb hby d12_10)
  -- pc 16: com/example/triangulum/triangulum/search/Shortlist.worse
  obtain ⟨T7, X7, e7, st7⟩ := own_call_w4 X6 hx hZ hw hown (hw _ (List.mem_of_getElem? (i := 50) rfl)) x2 p3 (XL.getD (p4).toNatClampNeg 0) (IL.getD (p4).toNatClampNeg 0) (W := 0) (g := (mkF m 16 #[.val (.ref a1), .val (.double (FP.i2d x2)), .second, .val (.int p3), .val (.int p4)] [(.int (IL.getD (p4).toNatClampNeg 0)), (.double (FP.i2d (XL.getD (p4).toNatClampNeg 0))), (.int p3), (.double (FP.i2d x2))])) rfl (by rw [hml]; rfl) (rest := []) rfl (by show 2 * 0 + _ ≤ _; exact Nat.le_of_eq rfl) (hb hby d12_16) (by decide) (by decide) e6
  obtain ⟨fs, hr, hrun, hended, hW, hsame⟩ := X7.leave (v := some (.int (own_worse x2 p3 (XL.getD (p4).toNatClampNeg 0) (IL.getD (p4).toNatClampNeg 0)))) (fun h => by rw [Bd.returns] at h; cases h)
  refine ⟨_, _, pre0 _ ?_, hrun, hended, _, _, rfl, ?_, ⟨_, rfl⟩, hW, hsame.mono (by decide) (by decide)⟩
  -- 4. STEPS
  · show Steps p.tables e below (s₁.setTop (mkF m 0 #[.val (.ref a1), .val (.double (FP.i2d x2)), .second, .val (.int p3), .val (.int p4)] [])) _
    refine XS.dloadN X0.here hx rfl (hb hby d12_0) rfl ?_
    show Steps p.tables e below (s₁.setTop (mkF m 1 #[.val (.ref a1), .val (.double (FP.i2d x2)), .second, .val (.int p3), .val (.int p4)] [(.double (FP.i2d x2))])) _
    refine XS.iloadN X0.here hx rfl (hb hby d12_1) rfl ?_
    show Steps p.tables e below (s₁.setTop (mkF m 2 #[.val (.ref a1), .val (.double (FP.i2d x2)), .second, .val (.int p3), .val (.int p4)] [(.int p3), (.double (FP.i2d x2))])) _
    refine XS.aloadN X0.here hx rfl (hb hby d12_2) rfl rfl ?_
    show Steps p.tables e below (s₁.setTop (mkF m 3 #[.val (.ref a1), .val (.double (FP.i2d x2)), .second, .val (.int p3), .val (.int p4)] [(.ref a1), (.int p3), (.double (FP.i2d x2))])) _
    refine st5 _ ?_
    show Steps p.tables e below (T5.setTop (mkF m 6 #[.val (.ref a1), .val (.double (FP.i2d x2)), .second, .val (.int p3), .val (.int p4)] [(.ref c_distances), (.int p3), (.double (FP.i2d x2))])) _
    refine XS.iload X5.here hx rfl (hb hby d12_6) rfl ?_
    show Steps p.tables e below (T5.setTop (mkF m 8 #[.val (.ref a1), .val (.double (FP.i2d x2)), .second, .val (.int p3), .val (.int p4)] [(.int p4), (.ref c_distances), (.int p3), (.double (FP.i2d x2))])) _
    refine own_xald X5 hx hZ e5 V_c_distances hj8 (g := (mkF m 8 #[.val (.ref a1), .val (.double (FP.i2d x2)), .second, .val (.int p3), .val (.int p4)] [(.int p4), (.ref c_distances), (.int p3), (.double (FP.i2d x2))])) rfl rfl (hb hby d12_8) _ ?_
    show Steps p.tables e below (T5.setTop (mkF m 9 #[.val (.ref a1), .val (.double (FP.i2d x2)), .second, .val (.int p3), .val (.int p4)] [(.double (FP.i2d (XL.getD (p4).toNatClampNeg 0))), (.int p3), (.double (FP.i2d x2))])) _
    refine XS.aloadN X5.here hx rfl (hb hby d12_9) rfl rfl ?_
    show Steps p.tables e below (T5.setTop (mkF m 10 #[.val (.ref a1), .val (.double (FP.i2d x2)), .second, .val (.int p3), .val (.int p4)] [(.ref a1), (.double (FP.i2d (XL.getD (p4).toNatClampNeg 0))), (.int p3), (.double (FP.i2d x2))])) _
    refine st6 _ ?_
    show Steps p.tables e below (T6.setTop (mkF m 13 #[.val (.ref a1), .val (.double (FP.i2d x2)), .second, .val (.int p3), .val (.int p4)] [(.ref c_indexes), (.double (FP.i2d (XL.getD (p4).toNatClampNeg 0))), (.int p3), (.double (FP.i2d x2))])) _
    refine XS.iload X6.here hx rfl (hb hby d12_13) rfl ?_
    show Steps p.tables e below (T6.setTop (mkF m 15 #[.val (.ref a1), .val (.double (FP.i2d x2)), .second, .val (.int p3), .val (.int p4)] [(.int p4), (.ref c_indexes), (.double (FP.i2d (XL.getD (p4).toNatClampNeg 0))), (.int p3), (.double (FP.i2d x2))])) _
    refine own_iald X6 hx hZ e6 V_c_indexes hj15 (g := (mkF m 15 #[.val (.ref a1), .val (.double (FP.i2d x2)), .second, .val (.int p3), .val (.int p4)] [(.int p4), (.ref c_indexes), (.double (FP.i2d (XL.getD (p4).toNatClampNeg 0))), (.int p3), (.double (FP.i2d x2))])) rfl rfl (hb hby d12_15) _ ?_
    show Steps p.tables e below (T6.setTop (mkF m 16 #[.val (.ref a1), .val (.double (FP.i2d x2)), .second, .val (.int p3), .val (.int p4)] [(.int (IL.getD (p4).toNatClampNeg 0)), (.double (FP.i2d (XL.getD (p4).toNatClampNeg 0))), (.int p3), (.double (FP.i2d x2))])) _
    refine st7 _ ?_
    show Steps p.tables e below (T7.setTop (mkF m 19 #[.val (.ref a1), .val (.double (FP.i2d x2)), .second, .val (.int p3), .val (.int p4)] [(.int (own_worse x2 p3 (XL.getD (p4).toNatClampNeg 0) (IL.getD (p4).toNatClampNeg 0)))])) _
    exact retN X7 hx (t := .boolean) Bd.returns (by simp) (hb hby d12_19) (by rw [own_nar]; exact hr)
  · exact ⟨rfl, rfl, e7⟩
theorem own_w3 {p : Program} {l : Launch} {e : Env} {R : Room} {s : State} {m : MethodId} {args : Array Value} {below : List Frame} {meth : Method} {c : Code} {T : State} {locs : List Loc} {cells slots : Nat} {Z : State} {a0 : Array Value} {h : Heap} {own : String} {index : Nat}
    (X : Stand p l e R s m args below meth c T locs cells slots) (hx : p.tables.exec = Jvm.exec) (hZ : Z.Warmed39 s.vm) (hw : ∀ d ∈ tables_1, d.before a0 Z = true) (hown : s.vm.findClass own = some m.cls) (w1 : (Cond.methodLink own index (⟨"com/example/triangulum/triangulum/search/Shortlist", "worse", "(DII)Z"⟩ : MethodName)).before a0 Z = true)
    {a ad ai : Addr} {z x i j : Int32} {XL IL : List Int32} (E : Exa Z h a "com/example/triangulum/triangulum/search/Shortlist") (Fd : Fld Z h a "com/example/triangulum/triangulum/search/Shortlist" "distances" "[D" (.ref ad)) (Fi : Fld Z h a "com/example/triangulum/triangulum/search/Shortlist" "indexes" "[I" (.ref ai)) (Vx : own_X Z h ad z XL) (Vi : own_I Z h ai z IL) (hj : ¬ j < 0 ∧ j < z)
    {W : Nat} {g : JFrame} (hg : g.method = m) (hsize : g.locals.size = c.maxLocals) {rest : List Value} (hst : g.stack = .int j :: .int i :: .double (FP.i2d x) :: .ref a :: rest) (hW : 2 * g.monitorRoom + (rest.map fun v => v.category).sum ≤ W) (hd : decode c.code g.pc = .ok (.invokevirtual index, 3)) (hf : 5 ≤ R.frames) (hl : W + 146 ≤ R.locals) (eT : T.heap = h) (hc : cells ≤ R.cells := by decide) (hs : slots ≤ R.slots := by decide) :
    ∃ T', Stand p l e R s m args below meth c T' locs cells slots ∧ T'.heap = h ∧ ∀ target, Steps p.tables e below (T'.setTop { g with pc := g.pc + 3, stack := .int (own_worse x i (XL.getD j.toNatClampNeg 0) (IL.getD j.toNatClampNeg 0)) :: rest }) target → Steps p.tables e below (T.setTop g) target :=
  own_pureP X hx hZ (rm12 l Z a0 hw [] a x i j z XL IL ad ai h 0 (Nat.zero_le _) Vx Vi Fd Fi hj hj) hown w1 (hw _ (List.mem_of_getElem? (i := 58) rfl)) (hw _ (List.mem_of_getElem? (i := 59) rfl)) (hw _ (List.mem_of_getElem? (i := 24) rfl)) rfl (hw _ (List.mem_of_getElem? (i := 2) rfl)) (hw _ (List.mem_of_getElem? (i := 60) rfl)) (by decide) E hf hl eT hg hsize (argsL := [.double (FP.i2d x), .int i, .int j]) (lenOf pd_w3 rfl) hst hW hd hc hs
theorem d8_0 : decode prog_24_method_8_code 0 = .ok (.aload_n 0, 1) := by decide +kernel
theorem d8_1 : decode prog_24_method_8_code 1 = .ok (.getfield 28, 3) := by decide +kernel
theorem d8_4 : decode prog_24_method_8_code 4 = .ok (.iload_n 1, 1) := by decide +kernel
theorem d8_5 : decode prog_24_method_8_code 5 = .ok (.dload_n 2, 1) := by decide +kernel
theorem d8_6 : decode prog_24_method_8_code 6 = .ok (.dastore, 1) := by decide +kernel
theorem d8_7 : decode prog_24_method_8_code 7 = .ok (.aload_n 0, 1) := by decide +kernel
theorem d8_8 : decode prog_24_method_8_code 8 = .ok (.getfield 32, 3) := by decide +kernel
theorem d8_11 : decode prog_24_method_8_code 11 = .ok (.iload_n 1, 1) := by decide +kernel
theorem d8_12 : decode prog_24_method_8_code 12 = .ok (.iload 4, 2) := by decide +kernel
theorem d8_14 : decode prog_24_method_8_code 14 = .ok (.iastore, 1) := by decide +kernel
theorem d8_15 : decode prog_24_method_8_code 15 = .ok (.return_, 1) := by decide +kernel
theorem pn_8 : plainName "com/example/triangulum/triangulum/search/Shortlist" = true := by first | (simp [plainName, overriddenIn]; done) | decide +kernel
theorem ef_8 (m : MethodId) (x0 : Addr) (x1 : Int32) (x2 : UInt64) (x3 : Int32) : entryFrame m #[(.ref x0), (.int x1), (.double x2), (.int x3)] 5 = mkF m 0 #[.val (.ref x0), .val (.int x1), .val (.double x2), .second, .val (.int x3)] [] := by first | (simp [entryFrame, mkF, argsToLocals, Value.category]; done) | rfl
def Q8 (Z : State) (a1 : Addr) (p2 : Int32) (x3 : Int32) (p4 : Int32) (zl : Int32) (XL : List Int32) (IL : List Int32) (c_distances : Addr) (c_indexes : Addr) (h0 : Heap) (n0 : Nat) (v : Option Value) (h : Heap) (L : List Loc) : Prop := v = none ∧ Fr n0 L ∧ Keep h0 h [c_distances, c_indexes] ∧ own_X Z h c_distances zl (XL.set (p2).toNatClampNeg x3) ∧ own_I Z h c_indexes zl (IL.set (p2).toNatClampNeg p4)
set_option maxRecDepth 65536 in
set_option maxHeartbeats 40000000 in
theorem rm8 (l : Launch) (Z : State) (a0 : Array Value) (hw : ∀ d ∈ tables_1, d.before a0 Z = true) (ws : List Jvm.Cond) (a1 : Addr) (p2 : Int32) (x3 : Int32) (p4 : Int32) (zl : Int32) (XL : List Int32) (IL : List Int32) (c_distances : Addr) (c_indexes : Addr) (h0 : Heap) (n0 : Nat) (Z0 : n0 ≤ h0.size) (V_c_distances : own_X Z h0 c_distances zl XL) (V_c_indexes : own_I Z h0 c_indexes zl IL) (hdi : c_distances ≠ c_indexes) (had : a1 ≠ c_distances) (hai : a1 ≠ c_indexes) (F_distances_a1 : Fld Z h0 a1 "com/example/triangulum/triangulum/search/Shortlist" "distances" "[D" (.ref c_distances)) (F_indexes_a1 : Fld Z h0 a1 "com/example/triangulum/triangulum/search/Shortlist" "indexes" "[I" (.ref c_indexes)) (g_c_distances : n0 ≤ c_distances) (g_c_indexes : n0 ≤ c_indexes) (hj6 : ¬ p2 < 0 ∧ p2 < zl) (hl6 : (p2).toNatClampNeg < XL.length) (hj14 : ¬ p2 < 0 ∧ p2 < zl) (hl14 : (p2).toNatClampNeg < IL.length) :
    MetFree l (⟨"com/example/triangulum/triangulum/search/Shortlist", "put", "(IDI)V"⟩ : MethodName) (head1 (Jvm.Cond.code (⟨"com/example/triangulum/triangulum/search/Shortlist", "put", "(IDI)V"⟩ : MethodName) prog_24_method_8_code 5 none :: ws) ({ frames := 0, cells := 0, slots := 0, locals := 0 } : Room)) (fun a U => a = #[(.ref a1), (.int p2), (.double (FP.i2d x3)), (.int p4)] ∧ Z.Warmed39 U.vm ∧ U.heap = h0) (fun _ _ _ _ _ => True) (fun _ U o U' => ∃ v L, o = .returned v ∧ Q8 Z a1 p2 x3 p4 zl XL IL c_distances c_indexes h0 n0 v U'.heap L ∧ FrameEnd U o U' L ({ frames := 0, cells := 0, slots := 0, locals := 0 } : Room).cells ({ frames := 0, cells := 0, slots := 0, locals := 0 } : Room).slots) := by
  refine MetFree.of_bodySF (plainFor_of_name pn_8) hisR ?_
  intro p e s m args below meth c s₁ Bd hml0 hP hK
  obtain ⟨rfl, hZ, hh⟩ := hP
  have hx := Bd.exec
  have hby := Bd.bytes
  have hml : c.maxLocals = 5 := hml0
  have hown : s.vm.findClass "com/example/triangulum/triangulum/search/Shortlist" = some m.cls := findClass_of_methodNamed Bd.named
  have hnm := (name_of_methodNamed Bd.named Bd.method).1
  have X0 : Stand p l e ({ frames := 0, cells := 0, slots := 0, locals := 0 } : Room) s m #[(.ref a1), (.int p2), (.double (FP.i2d x3)), (.int p4)] below meth c s₁ [] 0 0 := Stand.of_body Bd
  have e0 : s₁.heap = h0 := by rw [← hh, Bd.state]; rfl
  have N0 := Fr.nil n0
  have pre0 : ∀ t, Steps p.tables e below (s₁.setTop (mkF m 0 #[.val (.ref a1), .val (.int p2), .val (.double (FP.i2d x3)), .second, .val (.int p4)] [])) t → Steps p.tables e below (s₁.setTop (entryFrame m #[(.ref a1), (.int p2), (.double (FP.i2d x3)), (.int p4)] 5)) t := fun t k => castTop (ef_8 m a1 p2 (FP.i2d x3) p4) k
  -- 3. LAWS
  obtain ⟨T5, X5, e5, st5⟩ := getF X0 hx hZ hown (host := "") (Or.inl (hw _ (List.mem_of_getElem? (i := 16) rfl))) Via.refl e0 F_distances_a1 (g := (mkF m 1 #[.val (.ref a1), .val (.int p2), .val (.double (FP.i2d x3)), .second, .val (.int p4)] [(.ref a1)])) rfl rfl (hb hby d8_1)
  obtain ⟨T6, h6, X6, e6, W6, V_c_distances_6, st6⟩ := own_xast X5 hx hZ e5 V_c_distances hj6 hl6 (g := (mkF m 6 #[.val (.ref a1), .val (.int p2), .val (.double (FP.i2d x3)), .second, .val (.int p4)] [(.double (FP.i2d x3)), (.int p2), (.ref c_distances)])) rfl rfl (hb hby d8_6)
  have K6 : Keep h0 h6 [c_distances, c_indexes] := (Keep.refl h0 [c_distances, c_indexes]).wr W6 (Or.inl (List.mem_of_getElem? (i := 0) rfl))
  have N6 := Fr.snoc X6 N0 g_c_distances
  obtain ⟨T7, X7, e7, st7⟩ := getF X6 hx hZ hown (host := "") (Or.inl (hw _ (List.mem_of_getElem? (i := 19) rfl))) Via.refl e6 (F_indexes_a1.other W6 (Or.inl had)) (g := (mkF m 8 #[.val (.ref a1), .val (.int p2), .val (.double (FP.i2d x3)), .second, .val (.int p4)] [(.ref a1)])) rfl rfl (hb hby d8_8)
  obtain ⟨T8, h8, X8, e8, W8, V_c_indexes_14, st8⟩ := own_iast X7 hx hZ e7 (V_c_indexes.other W6 (Ne.symm hdi)) hj14 hl14 (g := (mkF m 14 #[.val (.ref a1), .val (.int p2), .val (.double (FP.i2d x3)), .second, .val (.int p4)] [(.int p4), (.int p2), (.ref c_indexes)])) rfl rfl (hb hby d8_14)
  have K8 : Keep h0 h8 [c_distances, c_indexes] := K6.wr W8 (Or.inl (List.mem_of_getElem? (i := 1) rfl))
  have N8 := Fr.snoc X8 N6 g_c_indexes
  obtain ⟨fs, hr, hrun, hended, hW, hsame⟩ := X8.leave (v := none) (fun _ => rfl)
  refine ⟨_, _, pre0 _ ?_, hrun, hended, _, _, rfl, ?_, ⟨_, rfl⟩, hW, hsame.mono (by decide) (by decide)⟩
  -- 4. STEPS
  · show Steps p.tables e below (s₁.setTop (mkF m 0 #[.val (.ref a1), .val (.int p2), .val (.double (FP.i2d x3)), .second, .val (.int p4)] [])) _
    refine XS.aloadN X0.here hx rfl (hb hby d8_0) rfl rfl ?_
    show Steps p.tables e below (s₁.setTop (mkF m 1 #[.val (.ref a1), .val (.int p2), .val (.double (FP.i2d x3)), .second, .val (.int p4)] [(.ref a1)])) _
    refine st5 _ ?_
    show Steps p.tables e below (T5.setTop (mkF m 4 #[.val (.ref a1), .val (.int p2), .val (.double (FP.i2d x3)), .second, .val (.int p4)] [(.ref c_distances)])) _
    refine XS.iloadN X5.here hx rfl (hb hby d8_4) rfl ?_
    show Steps p.tables e below (T5.setTop (mkF m 5 #[.val (.ref a1), .val (.int p2), .val (.double (FP.i2d x3)), .second, .val (.int p4)] [(.int p2), (.ref c_distances)])) _
    refine XS.dloadN X5.here hx rfl (hb hby d8_5) rfl ?_
    show Steps p.tables e below (T5.setTop (mkF m 6 #[.val (.ref a1), .val (.int p2), .val (.double (FP.i2d x3)), .second, .val (.int p4)] [(.double (FP.i2d x3)), (.int p2), (.ref c_distances)])) _
    refine st6 _ ?_
    show Steps p.tables e below (T6.setTop (mkF m 7 #[.val (.ref a1), .val (.int p2), .val (.double (FP.i2d x3)), .second, .val (.int p4)] [])) _
    refine XS.aloadN X6.here hx rfl (hb hby d8_7) rfl rfl ?_
    show Steps p.tables e below (T6.setTop (mkF m 8 #[.val (.ref a1), .val (.int p2), .val (.double (FP.i2d x3)), .second, .val (.int p4)] [(.ref a1)])) _
    refine st7 _ ?_
    show Steps p.tables e below (T7.setTop (mkF m 11 #[.val (.ref a1), .val (.int p2), .val (.double (FP.i2d x3)), .second, .val (.int p4)] [(.ref c_indexes)])) _
    refine XS.iloadN X7.here hx rfl (hb hby d8_11) rfl ?_
    show Steps p.tables e below (T7.setTop (mkF m 12 #[.val (.ref a1), .val (.int p2), .val (.double (FP.i2d x3)), .second, .val (.int p4)] [(.int p2), (.ref c_indexes)])) _
    refine XS.iload X7.here hx rfl (hb hby d8_12) rfl ?_
    show Steps p.tables e below (T7.setTop (mkF m 14 #[.val (.ref a1), .val (.int p2), .val (.double (FP.i2d x3)), .second, .val (.int p4)] [(.int p4), (.int p2), (.ref c_indexes)])) _
    refine st8 _ ?_
    show Steps p.tables e below (T8.setTop (mkF m 15 #[.val (.ref a1), .val (.int p2), .val (.double (FP.i2d x3)), .second, .val (.int p4)] [])) _
    exact X8.returnOut hx Bd.returns (hb hby d8_15) hr
  · show Q8 Z a1 p2 x3 p4 zl XL IL c_distances c_indexes h0 n0 _ T8.heap _
    rw [e8]
    exact ⟨rfl, N8, K8, (V_c_distances_6.other W8 hdi), V_c_indexes_14⟩
theorem own_put {p : Program} {l : Launch} {e : Env} {R : Room} {s : State} {m : MethodId} {args : Array Value} {below : List Frame} {meth : Method} {c : Code} {T : State} {locs : List Loc} {cells slots : Nat} {Z : State} {a0 : Array Value} {h : Heap} {own : String} {index : Nat} {n0 : Nat}
    (X : Stand p l e R s m args below meth c T locs cells slots) (hx : p.tables.exec = Jvm.exec) (hZ : Z.Warmed39 s.vm) (hw : ∀ d ∈ tables_1, d.before a0 Z = true) (hown : s.vm.findClass own = some m.cls) (w1 : (Cond.methodLink own index (⟨"com/example/triangulum/triangulum/search/Shortlist", "put", "(IDI)V"⟩ : MethodName)).before a0 Z = true)
    {a ad ai : Addr} {z x i j : Int32} {XL IL : List Int32} (E : Exa Z h a "com/example/triangulum/triangulum/search/Shortlist") (Fd : Fld Z h a "com/example/triangulum/triangulum/search/Shortlist" "distances" "[D" (.ref ad)) (Fi : Fld Z h a "com/example/triangulum/triangulum/search/Shortlist" "indexes" "[I" (.ref ai)) (Vx : own_X Z h ad z XL) (Vi : own_I Z h ai z IL) (hdi : ad ≠ ai) (had : a ≠ ad) (hai : a ≠ ai) (gd : n0 ≤ ad) (gi : n0 ≤ ai) (N : Fr n0 locs) (hj : ¬ j < 0 ∧ j < z) (hlx : j.toNatClampNeg < XL.length) (hli : j.toNatClampNeg < IL.length)
    {W : Nat} {g : JFrame} (hg : g.method = m) (hsize : g.locals.size = c.maxLocals) {rest : List Value} (hst : g.stack = .int i :: .double (FP.i2d x) :: .int j :: .ref a :: rest) (hW : 2 * g.monitorRoom + (rest.map fun v => v.category).sum ≤ W) (hd : decode c.code g.pc = .ok (.invokevirtual index, 3)) (hf : 1 ≤ R.frames) (hl : W + 16 ≤ R.locals) (eT : T.heap = h) (hc : cells ≤ R.cells := by decide) (hs : slots ≤ R.slots := by decide) :
    ∃ T' h' L', Stand p l e R s m args below meth c T' L' cells slots ∧ T'.heap = h' ∧ Fr n0 L' ∧ (Keep h h' [ad, ai] ∧ own_X Z h' ad z (XL.set j.toNatClampNeg x) ∧ own_I Z h' ai z (IL.set j.toNatClampNeg i)) ∧ ∀ target, Steps p.tables e below (T'.setTop { g with pc := g.pc + 3, stack := rest }) target → Steps p.tables e below (T.setTop g) target :=
  own_callP X hx hZ (Q := fun h' => Keep h h' [ad, ai] ∧ own_X Z h' ad z (XL.set j.toNatClampNeg x) ∧ own_I Z h' ai z (IL.set j.toNatClampNeg i)) (n0 := n0) (rm8 l Z a0 hw [] a j x i z XL IL ad ai h n0 (Nat.le_trans gd (Nat.le_of_lt Vx.lt)) Vx Vi hdi had hai Fd Fi gd gi hj hlx hj hli) hown w1 (hw _ (List.mem_of_getElem? (i := 43) rfl)) (hw _ (List.mem_of_getElem? (i := 44) rfl)) (hw _ (List.mem_of_getElem? (i := 24) rfl)) rfl (hw _ (List.mem_of_getElem? (i := 2) rfl)) (hw _ (List.mem_of_getElem? (i := 45) rfl)) (by decide) E N hf hl eT hg hsize (argsL := [.int j, .double (FP.i2d x), .int i]) (lenOf pd_put rfl) hst hW hd hc hs
theorem d15_0 : decode jdk_65_method_127_code 0 = .ok (.iload_n 1, 1) := by decide +kernel
theorem d15_1 : decode jdk_65_method_127_code 1 = .ok (.aload_n 0, 1) := by decide +kernel
theorem d15_2 : decode jdk_65_method_127_code 2 = .ok (.arraylength, 1) := by decide +kernel
theorem d15_3 : decode jdk_65_method_127_code 3 = .ok (.if_icmp .ne 11, 3) := by decide +kernel
theorem d15_14 : decode jdk_65_method_127_code 14 = .ok (.iload_n 1, 1) := by decide +kernel
theorem d15_15 : decode jdk_65_method_127_code 15 = .ok (.newarray .double, 2) := by decide +kernel
theorem d15_17 : decode jdk_65_method_127_code 17 = .ok (.astore_n 2, 1) := by decide +kernel
theorem d15_18 : decode jdk_65_method_127_code 18 = .ok (.aload_n 0, 1) := by decide +kernel
theorem d15_19 : decode jdk_65_method_127_code 19 = .ok (.iconst 0, 1) := by decide +kernel
theorem d15_20 : decode jdk_65_method_127_code 20 = .ok (.aload_n 2, 1) := by decide +kernel
theorem d15_21 : decode jdk_65_method_127_code 21 = .ok (.iconst 0, 1) := by decide +kernel
theorem d15_22 : decode jdk_65_method_127_code 22 = .ok (.aload_n 0, 1) := by decide +kernel
theorem d15_23 : decode jdk_65_method_127_code 23 = .ok (.arraylength, 1) := by decide +kernel
theorem d15_24 : decode jdk_65_method_127_code 24 = .ok (.iload_n 1, 1) := by decide +kernel
theorem d15_25 : decode jdk_65_method_127_code 25 = .ok (.invokestatic 304, 3) := by decide +kernel
theorem d15_28 : decode jdk_65_method_127_code 28 = .ok (.invokestatic 150, 3) := by decide +kernel
theorem d15_31 : decode jdk_65_method_127_code 31 = .ok (.aload_n 2, 1) := by decide +kernel
theorem d15_32 : decode jdk_65_method_127_code 32 = .ok (.areturn, 1) := by decide +kernel
theorem pn_15 : plainName "java/util/Arrays" = true := by first | (simp [plainName, overriddenIn]; done) | decide +kernel
theorem ef_15 (m : MethodId) (x0 : Addr) (x1 : Int32) : entryFrame m #[(.ref x0), (.int x1)] 3 = mkF m 0 #[.val (.ref x0), .val (.int x1), .unset] [] := by first | (simp [entryFrame, mkF, argsToLocals, Value.category]; done) | rfl
set_option maxRecDepth 65536 in
set_option maxHeartbeats 40000000 in
theorem rm15 (l : Launch) (Z : State) (a0 : Array Value) (hw : ∀ d ∈ tables_1, d.before a0 Z = true) (ws : List Jvm.Cond) (a1 : Addr) (p2 : Int32) (zl : Int32) (XL : List Int32) (h0 : Heap) (n0 : Nat) (Z0 : n0 ≤ h0.size) (V_a1 : own_X Z h0 a1 zl XL) (hc3 : ¬ (p2 = zl)) (hneg15 : ¬ p2 < 0) (hcap15 : (p2).toNatClampNeg ≤ 6) (hm1 : ¬ (own_min zl p2) < 0) (hm2 : (own_min zl p2).toNatClampNeg ≤ zl.toNatClampNeg) (hm3 : (own_min zl p2).toNatClampNeg ≤ p2.toNatClampNeg) (hm4 : (own_min zl p2).toNatClampNeg ≤ 6) :
    MetFree l (⟨"java/util/Arrays", "copyOf", "([DI)[D"⟩ : MethodName) (head1 (Jvm.Cond.code (⟨"java/util/Arrays", "copyOf", "([DI)[D"⟩ : MethodName) jdk_65_method_127_code 3 (some (.array .double)) :: ws) ({ frames := 1, cells := 1, slots := 6, locals := 60 } : Room)) (fun a U => a = #[(.ref a1), (.int p2)] ∧ Z.Warmed39 U.vm ∧ U.heap = h0) (fun _ _ _ _ _ => True) (fun _ U o U' => ∃ v L, o = .returned v ∧ (v = some (.ref h0.size) ∧ Fr n0 L ∧ Keep h0 U'.heap [] ∧ own_X Z U'.heap h0.size p2 (own_cp (own_min zl p2) XL)) ∧ FrameEnd U o U' L ({ frames := 1, cells := 1, slots := 6, locals := 60 } : Room).cells ({ frames := 1, cells := 1, slots := 6, locals := 60 } : Room).slots) := by
  refine MetFree.of_bodySF (plainFor_of_name pn_15) hisR ?_
  intro p e s m args below meth c s₁ Bd hml0 hP hK
  obtain ⟨rfl, hZ, hh⟩ := hP
  have hx := Bd.exec
  have hby := Bd.bytes
  have hml : c.maxLocals = 3 := hml0
  have hown : s.vm.findClass "java/util/Arrays" = some m.cls := findClass_of_methodNamed Bd.named
  have hnm := (name_of_methodNamed Bd.named Bd.method).1
  have X0 : Stand p l e ({ frames := 1, cells := 1, slots := 6, locals := 60 } : Room) s m #[(.ref a1), (.int p2)] below meth c s₁ [] 0 0 := Stand.of_body Bd
  have e0 : s₁.heap = h0 := by rw [← hh, Bd.state]; rfl
  have N0 := Fr.nil n0
  have pre0 : ∀ t, Steps p.tables e below (s₁.setTop (mkF m 0 #[.val (.ref a1), .val (.int p2), .unset] [])) t → Steps p.tables e below (s₁.setTop (entryFrame m #[(.ref a1), (.int p2)] 3)) t := fun t k => castTop (ef_15 m a1 p2) k
  -- 3. LAWS
  obtain ⟨T3, h3, b15, X3, e3, E3, g3, V_b15, st3⟩ := own_xnew X0 hx hZ (hw _ (List.mem_of_getElem? (i := 15) rfl)) e0 (g := (mkF m 15 #[.val (.ref a1), .val (.int p2), .unset] [(.int p2)])) rfl (hb hby d15_15) rfl hneg15 (cap := 6) hcap15 (by decide) (by decide) (by decide)
  have g_b15 : n0 ≤ b15 := Nat.le_trans Z0 (Nat.le_of_eq g3.symm)
  have sz_b15 : h0.size ≤ b15 := (Nat.le_trans (Keep.refl h0 []).1 (Nat.le_of_eq g3.symm))
  have K3 : Keep h0 h3 [] := (Keep.refl h0 []).ext E3
  -- pc 25: java/lang/Math.min
  obtain ⟨T4, X4, e4, st4⟩ := own_call_min X3 hx hZ hw hown (hw _ (List.mem_of_getElem? (i := 75) rfl)) zl p2 (W := 4) (g := (mkF m 25 #[.val (.ref a1), .val (.int p2), .val (.ref b15)] [(.int p2), (.int zl), (.int (0 : Int32)), (.ref b15), (.int (0 : Int32)), (.ref a1)])) rfl (by rw [hml]; rfl) (rest := [(.int (0 : Int32)), (.ref b15), (.int (0 : Int32)), (.ref a1)]) rfl (by show 2 * 0 + _ ≤ _; exact Nat.le_of_eq rfl) (hb hby d15_25) (by decide) (by decide) e3
  -- pc 28: java/lang/System.arraycopy
  obtain ⟨T5, h5, L5, X5, e5, N5, Kc5, V_c5, st5⟩ := own_cpX X4 hx hZ hw hown (hw _ (List.mem_of_getElem? (i := 76) rfl)) e4 (V_a1.ext E3) V_b15 hm1 hm2 hm3 hm4 N0 g_b15 (W := 0) (g := (mkF m 28 #[.val (.ref a1), .val (.int p2), .val (.ref b15)] [(.int (own_min zl p2)), (.int (0 : Int32)), (.ref b15), (.int (0 : Int32)), (.ref a1)])) rfl (by rw [hml]; rfl) (rest := []) rfl (hb hby d15_28) (by decide) (by show 2 * 0 + _ ≤ _; exact Nat.le_of_eq rfl) (by decide)
  have K5 : Keep h0 h5 [] := K3.trans Kc5 (allS (Or.inr sz_b15) all0)
  obtain ⟨fs, hr, hrun, hended, hW, hsame⟩ := X5.leave (v := some (.ref b15)) (fun h => by rw [Bd.returns] at h; cases h)
  refine ⟨_, _, pre0 _ ?_, hrun, hended, _, _, rfl, ?_, ⟨_, rfl⟩, hW, hsame.mono (by decide) (by decide)⟩
  -- 4. STEPS
  · show Steps p.tables e below (s₁.setTop (mkF m 0 #[.val (.ref a1), .val (.int p2), .unset] [])) _
    refine XS.iloadN X0.here hx rfl (hb hby d15_0) rfl ?_
    show Steps p.tables e below (s₁.setTop (mkF m 1 #[.val (.ref a1), .val (.int p2), .unset] [(.int p2)])) _
    refine XS.aloadN X0.here hx rfl (hb hby d15_1) rfl rfl ?_
    show Steps p.tables e below (s₁.setTop (mkF m 2 #[.val (.ref a1), .val (.int p2), .unset] [(.ref a1), (.int p2)])) _
    refine own_xlen X0 hx hZ e0 V_a1 (g := (mkF m 2 #[.val (.ref a1), .val (.int p2), .unset] [(.ref a1), (.int p2)])) rfl rfl (hb hby d15_2) _ ?_
    show Steps p.tables e below (s₁.setTop (mkF m 3 #[.val (.ref a1), .val (.int p2), .unset] [(.int zl), (.int p2)])) _
    refine XS.icmpYes X0.here hx rfl (pc0 := 3) (pc' := 14) rfl (hb hby d15_3) rfl (feq hc3).2 (by decide) (by decide) ?_
    show Steps p.tables e below (s₁.setTop (mkF m 14 #[.val (.ref a1), .val (.int p2), .unset] [])) _
    refine XS.iloadN X0.here hx rfl (hb hby d15_14) rfl ?_
    show Steps p.tables e below (s₁.setTop (mkF m 15 #[.val (.ref a1), .val (.int p2), .unset] [(.int p2)])) _
    refine st3 _ ?_
    show Steps p.tables e below (T3.setTop (mkF m 17 #[.val (.ref a1), .val (.int p2), .unset] [(.ref b15)])) _
    refine XS.astoreN X3.here hx rfl (hb hby d15_17) rfl rfl (l' := #[.val (.ref a1), .val (.int p2), .val (.ref b15)]) rfl ?_
    show Steps p.tables e below (T3.setTop (mkF m 18 #[.val (.ref a1), .val (.int p2), .val (.ref b15)] [])) _
    refine XS.aloadN X3.here hx rfl (hb hby d15_18) rfl rfl ?_
    show Steps p.tables e below (T3.setTop (mkF m 19 #[.val (.ref a1), .val (.int p2), .val (.ref b15)] [(.ref a1)])) _
    refine XS.iconst X3.here hx rfl (hb hby d15_19) ?_
    show Steps p.tables e below (T3.setTop (mkF m 20 #[.val (.ref a1), .val (.int p2), .val (.ref b15)] [(.int (0 : Int32)), (.ref a1)])) _
    refine XS.aloadN X3.here hx rfl (hb hby d15_20) rfl rfl ?_
    show Steps p.tables e below (T3.setTop (mkF m 21 #[.val (.ref a1), .val (.int p2), .val (.ref b15)] [(.ref b15), (.int (0 : Int32)), (.ref a1)])) _
    refine XS.iconst X3.here hx rfl (hb hby d15_21) ?_
    show Steps p.tables e below (T3.setTop (mkF m 22 #[.val (.ref a1), .val (.int p2), .val (.ref b15)] [(.int (0 : Int32)), (.ref b15), (.int (0 : Int32)), (.ref a1)])) _
    refine XS.aloadN X3.here hx rfl (hb hby d15_22) rfl rfl ?_
    show Steps p.tables e below (T3.setTop (mkF m 23 #[.val (.ref a1), .val (.int p2), .val (.ref b15)] [(.ref a1), (.int (0 : Int32)), (.ref b15), (.int (0 : Int32)), (.ref a1)])) _
    refine own_xlen X3 hx hZ e3 (V_a1.ext E3) (g := (mkF m 23 #[.val (.ref a1), .val (.int p2), .val (.ref b15)] [(.ref a1), (.int (0 : Int32)), (.ref b15), (.int (0 : Int32)), (.ref a1)])) rfl rfl (hb hby d15_23) _ ?_
    show Steps p.tables e below (T3.setTop (mkF m 24 #[.val (.ref a1), .val (.int p2), .val (.ref b15)] [(.int zl), (.int (0 : Int32)), (.ref b15), (.int (0 : Int32)), (.ref a1)])) _
    refine XS.iloadN X3.here hx rfl (hb hby d15_24) rfl ?_
    show Steps p.tables e below (T3.setTop (mkF m 25 #[.val (.ref a1), .val (.int p2), .val (.ref b15)] [(.int p2), (.int zl), (.int (0 : Int32)), (.ref b15), (.int (0 : Int32)), (.ref a1)])) _
    refine st4 _ ?_
    show Steps p.tables e below (T4.setTop (mkF m 28 #[.val (.ref a1), .val (.int p2), .val (.ref b15)] [(.int (own_min zl p2)), (.int (0 : Int32)), (.ref b15), (.int (0 : Int32)), (.ref a1)])) _
    refine st5 _ ?_
    show Steps p.tables e below (T5.setTop (mkF m 31 #[.val (.ref a1), .val (.int p2), .val (.ref b15)] [])) _
    refine XS.aloadN X5.here hx rfl (hb hby d15_31) rfl rfl ?_
    show Steps p.tables e below (T5.setTop (mkF m 32 #[.val (.ref a1), .val (.int p2), .val (.ref b15)] [(.ref b15)])) _
    jvm_step X5.here [X5.here.top, hx, (hb hby d15_32), X5.method', Bd.returns, Value.isRef, FieldType.isReference]
    first | (intro acts; rw [hr _ acts rfl rfl rfl]) | rw [hr _ _ rfl rfl rfl]
    exact Steps.refl _
  · show _ ∧ _ ∧ Keep h0 T5.heap [] ∧ own_X Z T5.heap h0.size p2 (own_cp (own_min zl p2) XL)
    rw [e5]
    exact ⟨by rw [g3], N5, K5, by rw [← g3]; exact V_c5⟩
theorem own_copyX {p : Program} {l : Launch} {e : Env} {R : Room} {s : State} {m : MethodId} {args : Array Value} {below : List Frame} {meth : Method} {c : Code} {T : State} {locs : List Loc} {cells slots : Nat} {Z : State} {a0 : Array Value} {h : Heap} {own : String} {index : Nat} {n0 : Nat}
    (X : Stand p l e R s m args below meth c T locs cells slots) (hx : p.tables.exec = Jvm.exec) (hZ : Z.Warmed39 s.vm) (hw : ∀ d ∈ tables_1, d.before a0 Z = true) (hown : s.vm.findClass own = some m.cls) (w1 : (Cond.methodLink own index (⟨"java/util/Arrays", "copyOf", "([DI)[D"⟩ : MethodName)).before a0 Z = true)
    {a : Addr} {z nn : Int32} {XL : List Int32} (V : own_X Z h a z XL) (N : Fr n0 locs) (hn0 : n0 ≤ h.size) (h1 : ¬ z < 0) (h2 : z < nn) (h3 : nn.toNatClampNeg ≤ 6)
    {W : Nat} {g : JFrame} (hg : g.method = m) (hsize : g.locals.size = c.maxLocals) {rest : List Value} (hst : g.stack = .int nn :: .ref a :: rest) (hW : 2 * g.monitorRoom + (rest.map fun v => v.category).sum ≤ W) (hd : decode c.code g.pc = .ok (.invokestatic index, 3)) (hf : 2 ≤ R.frames) (hl : W + 74 ≤ R.locals) (eT : T.heap = h) (hc : cells + 1 ≤ R.cells := by decide) (hs : slots + 6 ≤ R.slots := by decide) :
    ∃ T' h' b L', Stand p l e R s m args below meth c T' L' (cells + 1) (slots + 6) ∧ T'.heap = h' ∧ b = h.size ∧ Fr n0 L' ∧ Keep h h' [] ∧ own_X Z h' b nn (own_cp z XL) ∧ ∀ target, Steps p.tables e below (T'.setTop { g with pc := g.pc + 3, stack := .ref b :: rest }) target → Steps p.tables e below (T.setTop g) target := by
  have q1 := Int32.lt_iff_toInt_lt.mp h2
  have q0 : ¬ z.toInt < 0 := fun k => h1 (Int32.lt_iff_toInt_lt.mpr k)
  have em : own_min z nn = z := if_neg (fun k => by rw [Int32.lt_iff_toInt_lt] at k; omega)
  have hn : ¬ nn < 0 := fun k => by have := Int32.lt_iff_toInt_lt.mp k; rw [show (0 : Int32).toInt = 0 from rfl] at this; omega
  have hle : z.toNatClampNeg ≤ nn.toNatClampNeg := by simp only [Int32.toNatClampNeg]; omega
  have hM := rm15 l Z a0 hw [] a nn z XL h n0 hn0 V (fun k => by rw [k] at q1; omega) hn h3 (by rw [em]; exact h1) (by rw [em]; exact Nat.le_refl _) (by rw [em]; exact hle) (by rw [em]; exact Nat.le_trans hle h3)
  rw [em] at hM
  obtain ⟨_, _, ⟨T1, L1, k1, n1⟩, -, X1, ⟨Lc, hQ, l1, y1, z1⟩, st⟩ := Jvm.LawKit.callS X hx (y := (⟨"java/util/Arrays", "copyOf", "([DI)[D"⟩ : MethodName)) hown (mvT hZ w1) (mvT hZ (hw _ (List.mem_of_getElem? (i := 72) rfl))) (mvT hZ (hw _ (List.mem_of_getElem? (i := 73) rfl))) (mvT hZ (hw _ (List.mem_of_getElem? (i := 74) rfl))) (by decide) (backOf (W := W) (Q := fun v h' L => v = some (.ref h.size) ∧ Fr n0 L ∧ Keep h h' [] ∧ own_X Z h' h.size nn (own_cp z XL)) hM hZ (hw _ (List.mem_of_getElem? (i := 74) rfl)) (hw _ (List.mem_of_getElem? (i := 73) rfl)) hf hl) hg hsize (argsL := [.ref a, .int nn]) (rest := rest) (lenOf pd_cd rfl) hst hW hd (fun _ _ => ⟨rfl, eT, hc, hs⟩)
  dsimp only [Pt.U, Pt.locs, Pt.cells, Pt.slots] at X1 l1 y1 z1 st hQ
  obtain ⟨rfl, hN, hK, hV⟩ := hQ
  subst l1 y1 z1
  exact ⟨T1, T1.heap, h.size, _, X1, rfl, rfl, N.app hN, hK, hV, st⟩
theorem d16_0 : decode jdk_65_method_123_code 0 = .ok (.iload_n 1, 1) := by decide +kernel
theorem d16_1 : decode jdk_65_method_123_code 1 = .ok (.aload_n 0, 1) := by decide +kernel
theorem d16_2 : decode jdk_65_method_123_code 2 = .ok (.arraylength, 1) := by decide +kernel
theorem d16_3 : decode jdk_65_method_123_code 3 = .ok (.if_icmp .ne 11, 3) := by decide +kernel
theorem d16_14 : decode jdk_65_method_123_code 14 = .ok (.iload_n 1, 1) := by decide +kernel
theorem d16_15 : decode jdk_65_method_123_code 15 = .ok (.newarray .int, 2) := by decide +kernel
theorem d16_17 : decode jdk_65_method_123_code 17 = .ok (.astore_n 2, 1) := by decide +kernel
theorem d16_18 : decode jdk_65_method_123_code 18 = .ok (.aload_n 0, 1) := by decide +kernel
theorem d16_19 : decode jdk_65_method_123_code 19 = .ok (.iconst 0, 1) := by decide +kernel
theorem d16_20 : decode jdk_65_method_123_code 20 = .ok (.aload_n 2, 1) := by decide +kernel
theorem d16_21 : decode jdk_65_method_123_code 21 = .ok (.iconst 0, 1) := by decide +kernel
theorem d16_22 : decode jdk_65_method_123_code 22 = .ok (.aload_n 0, 1) := by decide +kernel
theorem d16_23 : decode jdk_65_method_123_code 23 = .ok (.arraylength, 1) := by decide +kernel
theorem d16_24 : decode jdk_65_method_123_code 24 = .ok (.iload_n 1, 1) := by decide +kernel
theorem d16_25 : decode jdk_65_method_123_code 25 = .ok (.invokestatic 304, 3) := by decide +kernel
theorem d16_28 : decode jdk_65_method_123_code 28 = .ok (.invokestatic 150, 3) := by decide +kernel
theorem d16_31 : decode jdk_65_method_123_code 31 = .ok (.aload_n 2, 1) := by decide +kernel
theorem d16_32 : decode jdk_65_method_123_code 32 = .ok (.areturn, 1) := by decide +kernel
theorem pn_16 : plainName "java/util/Arrays" = true := by first | (simp [plainName, overriddenIn]; done) | decide +kernel
theorem ef_16 (m : MethodId) (x0 : Addr) (x1 : Int32) : entryFrame m #[(.ref x0), (.int x1)] 3 = mkF m 0 #[.val (.ref x0), .val (.int x1), .unset] [] := by first | (simp [entryFrame, mkF, argsToLocals, Value.category]; done) | rfl
set_option maxRecDepth 65536 in
set_option maxHeartbeats 40000000 in
theorem rm16 (l : Launch) (Z : State) (a0 : Array Value) (hw : ∀ d ∈ tables_1, d.before a0 Z = true) (ws : List Jvm.Cond) (a1 : Addr) (p2 : Int32) (zl : Int32) (XL : List Int32) (h0 : Heap) (n0 : Nat) (Z0 : n0 ≤ h0.size) (V_a1 : own_I Z h0 a1 zl XL) (hc3 : ¬ (p2 = zl)) (hneg15 : ¬ p2 < 0) (hcap15 : (p2).toNatClampNeg ≤ 6) (hm1 : ¬ (own_min zl p2) < 0) (hm2 : (own_min zl p2).toNatClampNeg ≤ zl.toNatClampNeg) (hm3 : (own_min zl p2).toNatClampNeg ≤ p2.toNatClampNeg) (hm4 : (own_min zl p2).toNatClampNeg ≤ 6) :
    MetFree l (⟨"java/util/Arrays", "copyOf", "([II)[I"⟩ : MethodName) (head1 (Jvm.Cond.code (⟨"java/util/Arrays", "copyOf", "([II)[I"⟩ : MethodName) jdk_65_method_123_code 3 (some (.array .int)) :: ws) ({ frames := 1, cells := 1, slots := 6, locals := 60 } : Room)) (fun a U => a = #[(.ref a1), (.int p2)] ∧ Z.Warmed39 U.vm ∧ U.heap = h0) (fun _ _ _ _ _ => True) (fun _ U o U' => ∃ v L, o = .returned v ∧ (v = some (.ref h0.size) ∧ Fr n0 L ∧ Keep h0 U'.heap [] ∧ own_I Z U'.heap h0.size p2 (own_cp (own_min zl p2) XL)) ∧ FrameEnd U o U' L ({ frames := 1, cells := 1, slots := 6, locals := 60 } : Room).cells ({ frames := 1, cells := 1, slots := 6, locals := 60 } : Room).slots) := by
  refine MetFree.of_bodySF (plainFor_of_name pn_16) hisR ?_
  intro p e s m args below meth c s₁ Bd hml0 hP hK
  obtain ⟨rfl, hZ, hh⟩ := hP
  have hx := Bd.exec
  have hby := Bd.bytes
  have hml : c.maxLocals = 3 := hml0
  have hown : s.vm.findClass "java/util/Arrays" = some m.cls := findClass_of_methodNamed Bd.named
  have hnm := (name_of_methodNamed Bd.named Bd.method).1
  have X0 : Stand p l e ({ frames := 1, cells := 1, slots := 6, locals := 60 } : Room) s m #[(.ref a1), (.int p2)] below meth c s₁ [] 0 0 := Stand.of_body Bd
  have e0 : s₁.heap = h0 := by rw [← hh, Bd.state]; rfl
  have N0 := Fr.nil n0
  have pre0 : ∀ t, Steps p.tables e below (s₁.setTop (mkF m 0 #[.val (.ref a1), .val (.int p2), .unset] [])) t → Steps p.tables e below (s₁.setTop (entryFrame m #[(.ref a1), (.int p2)] 3)) t := fun t k => castTop (ef_16 m a1 p2) k
  -- 3. LAWS
  obtain ⟨T3, h3, b15, X3, e3, E3, g3, V_b15, st3⟩ := own_inew X0 hx hZ (hw _ (List.mem_of_getElem? (i := 18) rfl)) e0 (g := (mkF m 15 #[.val (.ref a1), .val (.int p2), .unset] [(.int p2)])) rfl (hb hby d16_15) rfl hneg15 (cap := 6) hcap15 (by decide) (by decide) (by decide)
  have g_b15 : n0 ≤ b15 := Nat.le_trans Z0 (Nat.le_of_eq g3.symm)
  have sz_b15 : h0.size ≤ b15 := (Nat.le_trans (Keep.refl h0 []).1 (Nat.le_of_eq g3.symm))
  have K3 : Keep h0 h3 [] := (Keep.refl h0 []).ext E3
  -- pc 25: java/lang/Math.min
  obtain ⟨T4, X4, e4, st4⟩ := own_call_min X3 hx hZ hw hown (hw _ (List.mem_of_getElem? (i := 75) rfl)) zl p2 (W := 4) (g := (mkF m 25 #[.val (.ref a1), .val (.int p2), .val (.ref b15)] [(.int p2), (.int zl), (.int (0 : Int32)), (.ref b15), (.int (0 : Int32)), (.ref a1)])) rfl (by rw [hml]; rfl) (rest := [(.int (0 : Int32)), (.ref b15), (.int (0 : Int32)), (.ref a1)]) rfl (by show 2 * 0 + _ ≤ _; exact Nat.le_of_eq rfl) (hb hby d16_25) (by decide) (by decide) e3
  -- pc 28: java/lang/System.arraycopy
  obtain ⟨T5, h5, L5, X5, e5, N5, Kc5, V_c5, st5⟩ := own_cpI X4 hx hZ hw hown (hw _ (List.mem_of_getElem? (i := 76) rfl)) e4 (V_a1.ext E3) V_b15 hm1 hm2 hm3 hm4 N0 g_b15 (W := 0) (g := (mkF m 28 #[.val (.ref a1), .val (.int p2), .val (.ref b15)] [(.int (own_min zl p2)), (.int (0 : Int32)), (.ref b15), (.int (0 : Int32)), (.ref a1)])) rfl (by rw [hml]; rfl) (rest := []) rfl (hb hby d16_28) (by decide) (by show 2 * 0 + _ ≤ _; exact Nat.le_of_eq rfl) (by decide)
  have K5 : Keep h0 h5 [] := K3.trans Kc5 (allS (Or.inr sz_b15) all0)
  obtain ⟨fs, hr, hrun, hended, hW, hsame⟩ := X5.leave (v := some (.ref b15)) (fun h => by rw [Bd.returns] at h; cases h)
  refine ⟨_, _, pre0 _ ?_, hrun, hended, _, _, rfl, ?_, ⟨_, rfl⟩, hW, hsame.mono (by decide) (by decide)⟩
  -- 4. STEPS
  · show Steps p.tables e below (s₁.setTop (mkF m 0 #[.val (.ref a1), .val (.int p2), .unset] [])) _
    refine XS.iloadN X0.here hx rfl (hb hby d16_0) rfl ?_
    show Steps p.tables e below (s₁.setTop (mkF m 1 #[.val (.ref a1), .val (.int p2), .unset] [(.int p2)])) _
    refine XS.aloadN X0.here hx rfl (hb hby d16_1) rfl rfl ?_
    show Steps p.tables e below (s₁.setTop (mkF m 2 #[.val (.ref a1), .val (.int p2), .unset] [(.ref a1), (.int p2)])) _
    refine own_ilen X0 hx hZ e0 V_a1 (g := (mkF m 2 #[.val (.ref a1), .val (.int p2), .unset] [(.ref a1), (.int p2)])) rfl rfl (hb hby d16_2) _ ?_
    show Steps p.tables e below (s₁.setTop (mkF m 3 #[.val (.ref a1), .val (.int p2), .unset] [(.int zl), (.int p2)])) _
    refine XS.icmpYes X0.here hx rfl (pc0 := 3) (pc' := 14) rfl (hb hby d16_3) rfl (feq hc3).2 (by decide) (by decide) ?_
    show Steps p.tables e below (s₁.setTop (mkF m 14 #[.val (.ref a1), .val (.int p2), .unset] [])) _
    refine XS.iloadN X0.here hx rfl (hb hby d16_14) rfl ?_
    show Steps p.tables e below (s₁.setTop (mkF m 15 #[.val (.ref a1), .val (.int p2), .unset] [(.int p2)])) _
    refine st3 _ ?_
    show Steps p.tables e below (T3.setTop (mkF m 17 #[.val (.ref a1), .val (.int p2), .unset] [(.ref b15)])) _
    refine XS.astoreN X3.here hx rfl (hb hby d16_17) rfl rfl (l' := #[.val (.ref a1), .val (.int p2), .val (.ref b15)]) rfl ?_
    show Steps p.tables e below (T3.setTop (mkF m 18 #[.val (.ref a1), .val (.int p2), .val (.ref b15)] [])) _
    refine XS.aloadN X3.here hx rfl (hb hby d16_18) rfl rfl ?_
    show Steps p.tables e below (T3.setTop (mkF m 19 #[.val (.ref a1), .val (.int p2), .val (.ref b15)] [(.ref a1)])) _
    refine XS.iconst X3.here hx rfl (hb hby d16_19) ?_
    show Steps p.tables e below (T3.setTop (mkF m 20 #[.val (.ref a1), .val (.int p2), .val (.ref b15)] [(.int (0 : Int32)), (.ref a1)])) _
    refine XS.aloadN X3.here hx rfl (hb hby d16_20) rfl rfl ?_
    show Steps p.tables e below (T3.setTop (mkF m 21 #[.val (.ref a1), .val (.int p2), .val (.ref b15)] [(.ref b15), (.int (0 : Int32)), (.ref a1)])) _
    refine XS.iconst X3.here hx rfl (hb hby d16_21) ?_
    show Steps p.tables e below (T3.setTop (mkF m 22 #[.val (.ref a1), .val (.int p2), .val (.ref b15)] [(.int (0 : Int32)), (.ref b15), (.int (0 : Int32)), (.ref a1)])) _
    refine XS.aloadN X3.here hx rfl (hb hby d16_22) rfl rfl ?_
    show Steps p.tables e below (T3.setTop (mkF m 23 #[.val (.ref a1), .val (.int p2), .val (.ref b15)] [(.ref a1), (.int (0 : Int32)), (.ref b15), (.int (0 : Int32)), (.ref a1)])) _
    refine own_ilen X3 hx hZ e3 (V_a1.ext E3) (g := (mkF m 23 #[.val (.ref a1), .val (.int p2), .val (.ref b15)] [(.ref a1), (.int (0 : Int32)), (.ref b15), (.int (0 : Int32)), (.ref a1)])) rfl rfl (hb hby d16_23) _ ?_
    show Steps p.tables e below (T3.setTop (mkF m 24 #[.val (.ref a1), .val (.int p2), .val (.ref b15)] [(.int zl), (.int (0 : Int32)), (.ref b15), (.int (0 : Int32)), (.ref a1)])) _
    refine XS.iloadN X3.here hx rfl (hb hby d16_24) rfl ?_
    show Steps p.tables e below (T3.setTop (mkF m 25 #[.val (.ref a1), .val (.int p2), .val (.ref b15)] [(.int p2), (.int zl), (.int (0 : Int32)), (.ref b15), (.int (0 : Int32)), (.ref a1)])) _
    refine st4 _ ?_
    show Steps p.tables e below (T4.setTop (mkF m 28 #[.val (.ref a1), .val (.int p2), .val (.ref b15)] [(.int (own_min zl p2)), (.int (0 : Int32)), (.ref b15), (.int (0 : Int32)), (.ref a1)])) _
    refine st5 _ ?_
    show Steps p.tables e below (T5.setTop (mkF m 31 #[.val (.ref a1), .val (.int p2), .val (.ref b15)] [])) _
    refine XS.aloadN X5.here hx rfl (hb hby d16_31) rfl rfl ?_
    show Steps p.tables e below (T5.setTop (mkF m 32 #[.val (.ref a1), .val (.int p2), .val (.ref b15)] [(.ref b15)])) _
    jvm_step X5.here [X5.here.top, hx, (hb hby d16_32), X5.method', Bd.returns, Value.isRef, FieldType.isReference]
    first | (intro acts; rw [hr _ acts rfl rfl rfl]) | rw [hr _ _ rfl rfl rfl]
    exact Steps.refl _
  · show _ ∧ _ ∧ Keep h0 T5.heap [] ∧ own_I Z T5.heap h0.size p2 (own_cp (own_min zl p2) XL)
    rw [e5]
    exact ⟨by rw [g3], N5, K5, by rw [← g3]; exact V_c5⟩
theorem own_copyI {p : Program} {l : Launch} {e : Env} {R : Room} {s : State} {m : MethodId} {args : Array Value} {below : List Frame} {meth : Method} {c : Code} {T : State} {locs : List Loc} {cells slots : Nat} {Z : State} {a0 : Array Value} {h : Heap} {own : String} {index : Nat} {n0 : Nat}
    (X : Stand p l e R s m args below meth c T locs cells slots) (hx : p.tables.exec = Jvm.exec) (hZ : Z.Warmed39 s.vm) (hw : ∀ d ∈ tables_1, d.before a0 Z = true) (hown : s.vm.findClass own = some m.cls) (w1 : (Cond.methodLink own index (⟨"java/util/Arrays", "copyOf", "([II)[I"⟩ : MethodName)).before a0 Z = true)
    {a : Addr} {z nn : Int32} {XL : List Int32} (V : own_I Z h a z XL) (N : Fr n0 locs) (hn0 : n0 ≤ h.size) (h1 : ¬ z < 0) (h2 : z < nn) (h3 : nn.toNatClampNeg ≤ 6)
    {W : Nat} {g : JFrame} (hg : g.method = m) (hsize : g.locals.size = c.maxLocals) {rest : List Value} (hst : g.stack = .int nn :: .ref a :: rest) (hW : 2 * g.monitorRoom + (rest.map fun v => v.category).sum ≤ W) (hd : decode c.code g.pc = .ok (.invokestatic index, 3)) (hf : 2 ≤ R.frames) (hl : W + 74 ≤ R.locals) (eT : T.heap = h) (hc : cells + 1 ≤ R.cells := by decide) (hs : slots + 6 ≤ R.slots := by decide) :
    ∃ T' h' b L', Stand p l e R s m args below meth c T' L' (cells + 1) (slots + 6) ∧ T'.heap = h' ∧ b = h.size ∧ Fr n0 L' ∧ Keep h h' [] ∧ own_I Z h' b nn (own_cp z XL) ∧ ∀ target, Steps p.tables e below (T'.setTop { g with pc := g.pc + 3, stack := .ref b :: rest }) target → Steps p.tables e below (T.setTop g) target := by
  have q1 := Int32.lt_iff_toInt_lt.mp h2
  have q0 : ¬ z.toInt < 0 := fun k => h1 (Int32.lt_iff_toInt_lt.mpr k)
  have em : own_min z nn = z := if_neg (fun k => by rw [Int32.lt_iff_toInt_lt] at k; omega)
  have hn : ¬ nn < 0 := fun k => by have := Int32.lt_iff_toInt_lt.mp k; rw [show (0 : Int32).toInt = 0 from rfl] at this; omega
  have hle : z.toNatClampNeg ≤ nn.toNatClampNeg := by simp only [Int32.toNatClampNeg]; omega
  have hM := rm16 l Z a0 hw [] a nn z XL h n0 hn0 V (fun k => by rw [k] at q1; omega) hn h3 (by rw [em]; exact h1) (by rw [em]; exact Nat.le_refl _) (by rw [em]; exact hle) (by rw [em]; exact Nat.le_trans hle h3)
  rw [em] at hM
  obtain ⟨_, _, ⟨T1, L1, k1, n1⟩, -, X1, ⟨Lc, hQ, l1, y1, z1⟩, st⟩ := Jvm.LawKit.callS X hx (y := (⟨"java/util/Arrays", "copyOf", "([II)[I"⟩ : MethodName)) hown (mvT hZ w1) (mvT hZ (hw _ (List.mem_of_getElem? (i := 81) rfl))) (mvT hZ (hw _ (List.mem_of_getElem? (i := 73) rfl))) (mvT hZ (hw _ (List.mem_of_getElem? (i := 82) rfl))) (by decide) (backOf (W := W) (Q := fun v h' L => v = some (.ref h.size) ∧ Fr n0 L ∧ Keep h h' [] ∧ own_I Z h' h.size nn (own_cp z XL)) hM hZ (hw _ (List.mem_of_getElem? (i := 82) rfl)) (hw _ (List.mem_of_getElem? (i := 73) rfl)) hf hl) hg hsize (argsL := [.ref a, .int nn]) (rest := rest) (lenOf pd_ci rfl) hst hW hd (fun _ _ => ⟨rfl, eT, hc, hs⟩)
  dsimp only [Pt.U, Pt.locs, Pt.cells, Pt.slots] at X1 l1 y1 z1 st hQ
  obtain ⟨rfl, hN, hK, hV⟩ := hQ
  subst l1 y1 z1
  exact ⟨T1, T1.heap, h.size, _, X1, rfl, rfl, N.app hN, hK, hV, st⟩
def own_lim (k sz : Int32) (XL : List Int32) : UInt64 := if sz < k then (9218868437227405312 : UInt64) else FP.i2d (XL.getD ((0 : Int32)).toNatClampNeg 0)
theorem d4_0 : decode prog_24_method_3_code 0 = .ok (.aload_n 0, 1) := by decide +kernel
theorem d4_1 : decode prog_24_method_3_code 1 = .ok (.getfield 36, 3) := by decide +kernel
theorem d4_4 : decode prog_24_method_3_code 4 = .ok (.aload_n 0, 1) := by decide +kernel
theorem d4_5 : decode prog_24_method_3_code 5 = .ok (.getfield 16, 3) := by decide +kernel
theorem d4_8 : decode prog_24_method_3_code 8 = .ok (.if_icmp .ge 9, 3) := by decide +kernel
theorem d4_11 : decode prog_24_method_3_code 11 = .ok (.ldc2_w 64, 3) := by decide +kernel
theorem d4_14 : decode prog_24_method_3_code 14 = .ok (.goto 9, 3) := by decide +kernel
theorem d4_23 : decode prog_24_method_3_code 23 = .ok (.dreturn, 1) := by decide +kernel
theorem pn_4 : plainName "com/example/triangulum/triangulum/search/Shortlist" = true := by first | (simp [plainName, overriddenIn]; done) | decide +kernel
theorem ef_4 (m : MethodId) (x0 : Addr) : entryFrame m #[(.ref x0)] 1 = mkF m 0 #[.val (.ref x0)] [] := by first | (simp [entryFrame, mkF, argsToLocals, Value.category]; done) | rfl
set_option maxRecDepth 65536 in
set_option maxHeartbeats 40000000 in
theorem rm4_f (l : Launch) (Z : State) (a0 : Array Value) (hw : ∀ d ∈ tables_1, d.before a0 Z = true) (ws : List Jvm.Cond) (a1 : Addr) (zl : Int32) (XL : List Int32) (c_k : Int32) (c_size : Int32) (c_distances : Addr) (h0 : Heap) (n0 : Nat) (Z0 : n0 ≤ h0.size) (V_c_distances : own_X Z h0 c_distances zl XL) (F_k_a1 : Fld Z h0 a1 "com/example/triangulum/triangulum/search/Shortlist" "k" "I" (.int c_k)) (F_size_a1 : Fld Z h0 a1 "com/example/triangulum/triangulum/search/Shortlist" "size" "I" (.int c_size)) (F_distances_a1 : Fld Z h0 a1 "com/example/triangulum/triangulum/search/Shortlist" "distances" "[D" (.ref c_distances)) (hc8 : c_size < c_k) :
    MetFree l (⟨"com/example/triangulum/triangulum/search/Shortlist", "limit", "()D"⟩ : MethodName) (head1 (Jvm.Cond.code (⟨"com/example/triangulum/triangulum/search/Shortlist", "limit", "()D"⟩ : MethodName) prog_24_method_3_code 1 (some .double) :: ws) ({ frames := 0, cells := 0, slots := 0, locals := 0 } : Room)) (fun a U => a = #[(.ref a1)] ∧ Z.Warmed39 U.vm ∧ U.heap = h0) (fun _ _ _ _ _ => True) (fun _ U o U' => ∃ v L, o = .returned v ∧ (v = some (.double (own_lim c_k c_size XL)) ∧ L = [] ∧ U'.heap = h0) ∧ FrameEnd U o U' L ({ frames := 0, cells := 0, slots := 0, locals := 0 } : Room).cells ({ frames := 0, cells := 0, slots := 0, locals := 0 } : Room).slots) := by
  refine MetFree.of_bodySF (plainFor_of_name pn_4) hisR ?_
  intro p e s m args below meth c s₁ Bd hml0 hP hK
  obtain ⟨rfl, hZ, hh⟩ := hP
  have hx := Bd.exec
  have hby := Bd.bytes
  have hml : c.maxLocals = 1 := hml0
  have hown : s.vm.findClass "com/example/triangulum/triangulum/search/Shortlist" = some m.cls := findClass_of_methodNamed Bd.named
  have hnm := (name_of_methodNamed Bd.named Bd.method).1
  have X0 : Stand p l e ({ frames := 0, cells := 0, slots := 0, locals := 0 } : Room) s m #[(.ref a1)] below meth c s₁ [] 0 0 := Stand.of_body Bd
  have e0 : s₁.heap = h0 := by rw [← hh, Bd.state]; rfl
  have N0 := Fr.nil n0
  have pre0 : ∀ t, Steps p.tables e below (s₁.setTop (mkF m 0 #[.val (.ref a1)] [])) t → Steps p.tables e below (s₁.setTop (entryFrame m #[(.ref a1)] 1)) t := fun t k => castTop (ef_4 m a1) k
  -- 3. LAWS
  obtain ⟨T2, X2, e2, st2⟩ := getF X0 hx hZ hown (host := "") (Or.inl (hw _ (List.mem_of_getElem? (i := 26) rfl))) Via.refl e0 F_size_a1 (g := (mkF m 1 #[.val (.ref a1)] [(.ref a1)])) rfl rfl (hb hby d4_1)
  obtain ⟨T3, X3, e3, st3⟩ := getF X2 hx hZ hown (host := "") (Or.inl (hw _ (List.mem_of_getElem? (i := 9) rfl))) Via.refl e2 F_k_a1 (g := (mkF m 5 #[.val (.ref a1)] [(.ref a1), (.int c_size)])) rfl rfl (hb hby d4_5)
  obtain ⟨fs, hr, hrun, hended, hW, hsame⟩ := X3.leave (v := some (.double (9218868437227405312 : UInt64))) (fun h => by rw [Bd.returns] at h; cases h)
  refine ⟨_, _, pre0 _ ?_, hrun, hended, _, _, rfl, ?_, ⟨_, rfl⟩, hW, hsame.mono (by decide) (by decide)⟩
  -- 4. STEPS
  · show Steps p.tables e below (s₁.setTop (mkF m 0 #[.val (.ref a1)] [])) _
    refine XS.aloadN X0.here hx rfl (hb hby d4_0) rfl rfl ?_
    show Steps p.tables e below (s₁.setTop (mkF m 1 #[.val (.ref a1)] [(.ref a1)])) _
    refine st2 _ ?_
    show Steps p.tables e below (T2.setTop (mkF m 4 #[.val (.ref a1)] [(.int c_size)])) _
    refine XS.aloadN X2.here hx rfl (hb hby d4_4) rfl rfl ?_
    show Steps p.tables e below (T2.setTop (mkF m 5 #[.val (.ref a1)] [(.ref a1), (.int c_size)])) _
    refine st3 _ ?_
    show Steps p.tables e below (T3.setTop (mkF m 8 #[.val (.ref a1)] [(.int c_k), (.int c_size)])) _
    refine XS.icmpNo X3.here hx rfl (hb hby d4_8) rfl (tlt hc8).2.1 ?_
    show Steps p.tables e below (T3.setTop (mkF m 11 #[.val (.ref a1)] [])) _
    refine X3.ldc2DoubleC hx hown (mvT hZ (hw _ (List.mem_of_getElem? (i := 28) rfl))) (g := (mkF m 11 #[.val (.ref a1)] [])) rfl (hb hby d4_11) _ ?_
    show Steps p.tables e below (T3.setTop (mkF m 14 #[.val (.ref a1)] [(.double (9218868437227405312 : UInt64))])) _
    refine XS.goto X3.here hx rfl (pc0 := 14) (pc' := 23) rfl (hb hby d4_14) (by decide) (by decide) ?_
    show Steps p.tables e below (T3.setTop (mkF m 23 #[.val (.ref a1)] [(.double (9218868437227405312 : UInt64))])) _
    exact own_retD X3 hx Bd.returns (hb hby d4_23) hr
  · exact ⟨by rw [own_lim, if_pos hc8], rfl, e3⟩
theorem d4_17 : decode prog_24_method_3_code 17 = .ok (.aload_n 0, 1) := by decide +kernel
theorem d4_18 : decode prog_24_method_3_code 18 = .ok (.getfield 28, 3) := by decide +kernel
theorem d4_21 : decode prog_24_method_3_code 21 = .ok (.iconst 0, 1) := by decide +kernel
theorem d4_22 : decode prog_24_method_3_code 22 = .ok (.daload, 1) := by decide +kernel
set_option maxRecDepth 65536 in
set_option maxHeartbeats 40000000 in
theorem rm4_t (l : Launch) (Z : State) (a0 : Array Value) (hw : ∀ d ∈ tables_1, d.before a0 Z = true) (ws : List Jvm.Cond) (a1 : Addr) (zl : Int32) (XL : List Int32) (c_k : Int32) (c_size : Int32) (c_distances : Addr) (h0 : Heap) (n0 : Nat) (Z0 : n0 ≤ h0.size) (V_c_distances : own_X Z h0 c_distances zl XL) (F_k_a1 : Fld Z h0 a1 "com/example/triangulum/triangulum/search/Shortlist" "k" "I" (.int c_k)) (F_size_a1 : Fld Z h0 a1 "com/example/triangulum/triangulum/search/Shortlist" "size" "I" (.int c_size)) (F_distances_a1 : Fld Z h0 a1 "com/example/triangulum/triangulum/search/Shortlist" "distances" "[D" (.ref c_distances)) (hc8 : ¬ (c_size < c_k)) (hj22 : ¬ (0 : Int32) < 0 ∧ (0 : Int32) < zl) :
    MetFree l (⟨"com/example/triangulum/triangulum/search/Shortlist", "limit", "()D"⟩ : MethodName) (head1 (Jvm.Cond.code (⟨"com/example/triangulum/triangulum/search/Shortlist", "limit", "()D"⟩ : MethodName) prog_24_method_3_code 1 (some .double) :: ws) ({ frames := 0, cells := 0, slots := 0, locals := 0 } : Room)) (fun a U => a = #[(.ref a1)] ∧ Z.Warmed39 U.vm ∧ U.heap = h0) (fun _ _ _ _ _ => True) (fun _ U o U' => ∃ v L, o = .returned v ∧ (v = some (.double (own_lim c_k c_size XL)) ∧ L = [] ∧ U'.heap = h0) ∧ FrameEnd U o U' L ({ frames := 0, cells := 0, slots := 0, locals := 0 } : Room).cells ({ frames := 0, cells := 0, slots := 0, locals := 0 } : Room).slots) := by
  refine MetFree.of_bodySF (plainFor_of_name pn_4) hisR ?_
  intro p e s m args below meth c s₁ Bd hml0 hP hK
  obtain ⟨rfl, hZ, hh⟩ := hP
  have hx := Bd.exec
  have hby := Bd.bytes
  have hml : c.maxLocals = 1 := hml0
  have hown : s.vm.findClass "com/example/triangulum/triangulum/search/Shortlist" = some m.cls := findClass_of_methodNamed Bd.named
  have hnm := (name_of_methodNamed Bd.named Bd.method).1
  have X0 : Stand p l e ({ frames := 0, cells := 0, slots := 0, locals := 0 } : Room) s m #[(.ref a1)] below meth c s₁ [] 0 0 := Stand.of_body Bd
  have e0 : s₁.heap = h0 := by rw [← hh, Bd.state]; rfl
  have N0 := Fr.nil n0
  have pre0 : ∀ t, Steps p.tables e below (s₁.setTop (mkF m 0 #[.val (.ref a1)] [])) t → Steps p.tables e below (s₁.setTop (entryFrame m #[(.ref a1)] 1)) t := fun t k => castTop (ef_4 m a1) k
  -- 3. LAWS
  obtain ⟨T2, X2, e2, st2⟩ := getF X0 hx hZ hown (host := "") (Or.inl (hw _ (List.mem_of_getElem? (i := 26) rfl))) Via.refl e0 F_size_a1 (g := (mkF m 1 #[.val (.ref a1)] [(.ref a1)])) rfl rfl (hb hby d4_1)
  obtain ⟨T3, X3, e3, st3⟩ := getF X2 hx hZ hown (host := "") (Or.inl (hw _ (List.mem_of_getElem? (i := 9) rfl))) Via.refl e2 F_k_a1 (g := (mkF m 5 #[.val (.ref a1)] [(.ref a1), (.int c_size)])) rfl rfl (hb hby d4_5)
  obtain ⟨T4, X4, e4, st4⟩ := getF X3 hx hZ hown (host := "") (Or.inl (hw _ (List.mem_of_getElem? (i := 16) rfl))) Via.refl e3 F_distances_a1 (g := (mkF m 18 #[.val (.ref a1)] [(.ref a1)])) rfl rfl (hb hby d4_18)
  obtain ⟨fs, hr, hrun, hended, hW, hsame⟩ := X4.leave (v := some (.double (FP.i2d (XL.getD ((0 : Int32)).toNatClampNeg 0)))) (fun h => by rw [Bd.returns] at h; cases h)
  refine ⟨_, _, pre0 _ ?_, hrun, hended, _, _, rfl, ?_, ⟨_, rfl⟩, hW, hsame.mono (by decide) (by decide)⟩
  -- 4. STEPS
  · show Steps p.tables e below (s₁.setTop (mkF m 0 #[.val (.ref a1)] [])) _
    refine XS.aloadN X0.here hx rfl (hb hby d4_0) rfl rfl ?_
    show Steps p.tables e below (s₁.setTop (mkF m 1 #[.val (.ref a1)] [(.ref a1)])) _
    refine st2 _ ?_
    show Steps p.tables e below (T2.setTop (mkF m 4 #[.val (.ref a1)] [(.int c_size)])) _
    refine XS.aloadN X2.here hx rfl (hb hby d4_4) rfl rfl ?_
    show Steps p.tables e below (T2.setTop (mkF m 5 #[.val (.ref a1)] [(.ref a1), (.int c_size)])) _
    refine st3 _ ?_
    show Steps p.tables e below (T3.setTop (mkF m 8 #[.val (.ref a1)] [(.int c_k), (.int c_size)])) _
    refine XS.icmpYes X3.here hx rfl (pc0 := 8) (pc' := 17) rfl (hb hby d4_8) rfl (flt hc8).2.1 (by decide) (by decide) ?_
    show Steps p.tables e below (T3.setTop (mkF m 17 #[.val (.ref a1)] [])) _
    refine XS.aloadN X3.here hx rfl (hb hby d4_17) rfl rfl ?_
    show Steps p.tables e below (T3.setTop (mkF m 18 #[.val (.ref a1)] [(.ref a1)])) _
    refine st4 _ ?_
    show Steps p.tables e below (T4.setTop (mkF m 21 #[.val (.ref a1)] [(.ref c_distances)])) _
    refine XS.iconst X4.here hx rfl (hb hby d4_21) ?_
    show Steps p.tables e below (T4.setTop (mkF m 22 #[.val (.ref a1)] [(.int (0 : Int32)), (.ref c_distances)])) _
    refine own_xald X4 hx hZ e4 V_c_distances hj22 (g := (mkF m 22 #[.val (.ref a1)] [(.int (0 : Int32)), (.ref c_distances)])) rfl rfl (hb hby d4_22) _ ?_
    show Steps p.tables e below (T4.setTop (mkF m 23 #[.val (.ref a1)] [(.double (FP.i2d (XL.getD ((0 : Int32)).toNatClampNeg 0)))])) _
    exact own_retD X4 hx Bd.returns (hb hby d4_23) hr
  · exact ⟨by rw [own_lim, if_neg hc8], rfl, e4⟩
theorem rm4 (l : Launch) (Z : State) (a0 : Array Value) (hw : ∀ d ∈ tables_1, d.before a0 Z = true) (ws : List Jvm.Cond) (a1 : Addr) (zl : Int32) (XL : List Int32) (c_k : Int32) (c_size : Int32) (c_distances : Addr) (h0 : Heap) (n0 : Nat) (Z0 : n0 ≤ h0.size) (V_c_distances : own_X Z h0 c_distances zl XL) (F_k_a1 : Fld Z h0 a1 "com/example/triangulum/triangulum/search/Shortlist" "k" "I" (.int c_k)) (F_size_a1 : Fld Z h0 a1 "com/example/triangulum/triangulum/search/Shortlist" "size" "I" (.int c_size)) (F_distances_a1 : Fld Z h0 a1 "com/example/triangulum/triangulum/search/Shortlist" "distances" "[D" (.ref c_distances)) (hz : ¬ c_size < c_k → (0 : Int32) < zl) :
    MetFree l (⟨"com/example/triangulum/triangulum/search/Shortlist", "limit", "()D"⟩ : MethodName) (head1 (Jvm.Cond.code (⟨"com/example/triangulum/triangulum/search/Shortlist", "limit", "()D"⟩ : MethodName) prog_24_method_3_code 1 (some .double) :: ws) ({ frames := 0, cells := 0, slots := 0, locals := 0 } : Room)) (fun a U => a = #[(.ref a1)] ∧ Z.Warmed39 U.vm ∧ U.heap = h0) (fun _ _ _ _ _ => True) (fun _ U o U' => ∃ v L, o = .returned v ∧ (v = some (.double (own_lim c_k c_size XL)) ∧ L = [] ∧ U'.heap = h0) ∧ FrameEnd U o U' L ({ frames := 0, cells := 0, slots := 0, locals := 0 } : Room).cells ({ frames := 0, cells := 0, slots := 0, locals := 0 } : Room).slots) := by
  by_cases h : c_size < c_k
  · exact rm4_f l Z a0 hw ws a1 zl XL c_k c_size c_distances h0 n0 Z0 V_c_distances F_k_a1 F_size_a1 F_distances_a1 h
  · exact rm4_t l Z a0 hw ws a1 zl XL c_k c_size c_distances h0 n0 Z0 V_c_distances F_k_a1 F_size_a1 F_distances_a1 h ⟨by decide, hz h⟩
def own_L (x0 x1 x2 x3 : Int32) : List Int32 := [x0, x1, x2, x3, 0, 0]
theorem own_set0 (a b c d v : Int32) : (own_L a b c d).set ((0 : Int32)).toNatClampNeg v = own_L v b c d := rfl
theorem own_set1 (a b c d v : Int32) : (own_L a b c d).set ((1 : Int32)).toNatClampNeg v = own_L a v c d := rfl
theorem own_set2 (a b c d v : Int32) : (own_L a b c d).set ((2 : Int32)).toNatClampNeg v = own_L a b v d := rfl
theorem own_set3 (a b c d v : Int32) : (own_L a b c d).set ((3 : Int32)).toNatClampNeg v = own_L a b c v := rfl
theorem own_get0 (a b c d : Int32) : (own_L a b c d).getD ((0 : Int32)).toNatClampNeg 0 = a := rfl
theorem own_get1 (a b c d : Int32) : (own_L a b c d).getD ((1 : Int32)).toNatClampNeg 0 = b := rfl
theorem own_get2 (a b c d : Int32) : (own_L a b c d).getD ((2 : Int32)).toNatClampNeg 0 = c := rfl
theorem own_get3 (a b c d : Int32) : (own_L a b c d).getD ((3 : Int32)).toNatClampNeg 0 = d := rfl
theorem own_cp0 : own_cp 0 (own_L 0 0 0 0) = own_L 0 0 0 0 := rfl
theorem own_cp1 (a : Int32) : own_cp 1 (own_L a 0 0 0) = own_L a 0 0 0 := rfl
theorem own_cp2 (a b : Int32) : own_cp 2 (own_L a b 0 0) = own_L a b 0 0 := rfl
theorem own_cp3 (a b c : Int32) : own_cp 3 (own_L a b c 0) = own_L a b c 0 := rfl
theorem own_lt {j c z : Int32} (h1 : j < c) (h2 : c < z) : j < z := by
  rw [Int32.lt_iff_toInt_lt] at *; omega
theorem own_w1 {x i y j : Int32} (h : own_W x i y j) : ¬ own_worse x i y j = 0 := fun k => absurd ((own_worse_t h).symm.trans k) (by decide)
/-- the Shortlist at a: k, size, the capacity z, what the two arrays hold -/
def own_S (Z : State) (n0 : Nat) (h : Heap) (a ad ai : Addr) (k sz z : Int32) (XL IL : List Int32) : Prop := Exa Z h a "com/example/triangulum/triangulum/search/Shortlist" ∧ Fld Z h a "com/example/triangulum/triangulum/search/Shortlist" "k" "I" (.int k) ∧ Fld Z h a "com/example/triangulum/triangulum/search/Shortlist" "size" "I" (.int sz) ∧ Fld Z h a "com/example/triangulum/triangulum/search/Shortlist" "distances" "[D" (.ref ad) ∧ Fld Z h a "com/example/triangulum/triangulum/search/Shortlist" "indexes" "[I" (.ref ai) ∧ own_X Z h ad z XL ∧ own_I Z h ai z IL ∧ n0 ≤ a ∧ n0 ≤ ad ∧ n0 ≤ ai ∧ a ≠ ad ∧ a ≠ ai ∧ ad ≠ ai
theorem d1_0 : decode prog_24_method_1_code 0 = .ok (.aload_n 0, 1) := by decide +kernel
theorem d1_1 : decode prog_24_method_1_code 1 = .ok (.invokespecial 1, 3) := by decide +kernel
theorem d1_4 : decode prog_24_method_1_code 4 = .ok (.iload_n 1, 1) := by decide +kernel
theorem d1_5 : decode prog_24_method_1_code 5 = .ok (.iconst 1, 1) := by decide +kernel
theorem d1_6 : decode prog_24_method_1_code 6 = .ok (.if_icmp .ge 17, 3) := by decide +kernel
theorem d1_23 : decode prog_24_method_1_code 23 = .ok (.aload_n 0, 1) := by decide +kernel
theorem d1_24 : decode prog_24_method_1_code 24 = .ok (.iload_n 1, 1) := by decide +kernel
theorem d1_25 : decode prog_24_method_1_code 25 = .ok (.putfield 16, 3) := by decide +kernel
theorem d1_28 : decode prog_24_method_1_code 28 = .ok (.aload_n 0, 1) := by decide +kernel
theorem d1_29 : decode prog_24_method_1_code 29 = .ok (.iload_n 1, 1) := by decide +kernel
theorem d1_30 : decode prog_24_method_1_code 30 = .ok (.iload_n 2, 1) := by decide +kernel
theorem d1_31 : decode prog_24_method_1_code 31 = .ok (.invokestatic 22, 3) := by decide +kernel
theorem d1_34 : decode prog_24_method_1_code 34 = .ok (.newarray .double, 2) := by decide +kernel
theorem d1_36 : decode prog_24_method_1_code 36 = .ok (.putfield 28, 3) := by decide +kernel
theorem d1_39 : decode prog_24_method_1_code 39 = .ok (.aload_n 0, 1) := by decide +kernel
theorem d1_40 : decode prog_24_method_1_code 40 = .ok (.aload_n 0, 1) := by decide +kernel
theorem d1_41 : decode prog_24_method_1_code 41 = .ok (.getfield 28, 3) := by decide +kernel
theorem d1_44 : decode prog_24_method_1_code 44 = .ok (.arraylength, 1) := by decide +kernel
theorem d1_45 : decode prog_24_method_1_code 45 = .ok (.newarray .int, 2) := by decide +kernel
theorem d1_47 : decode prog_24_method_1_code 47 = .ok (.putfield 32, 3) := by decide +kernel
theorem d1_50 : decode prog_24_method_1_code 50 = .ok (.return_, 1) := by decide +kernel
theorem pn_1 : plainName "com/example/triangulum/triangulum/search/Shortlist" = true := by first | (simp [plainName, overriddenIn]; done) | decide +kernel
theorem ef_1 (m : MethodId) (x0 : Addr) (x1 : Int32) (x2 : Int32) : entryFrame m #[(.ref x0), (.int x1), (.int x2)] 3 = mkF m 0 #[.val (.ref x0), .val (.int x1), .val (.int x2)] [] := by first | (simp [entryFrame, mkF, argsToLocals, Value.category]; done) | rfl
def own_Q1 (Z : State) (n0 : Nat) (a1 : Addr) (p2 p3 c_size : Int32) (h0 : Heap) (v : Option Value) (h : Heap) (L : List Loc) : Prop := v = none ∧ Fr n0 L ∧ Keep h0 h [a1] ∧ ∃ bd bi, own_S Z n0 h a1 bd bi p2 c_size (own_min p2 p3) (List.replicate 6 0) (List.replicate 6 0)
set_option maxRecDepth 65536 in
set_option maxHeartbeats 40000000 in
theorem rm1 (l : Launch) (Z : State) (a0 : Array Value) (hw : ∀ d ∈ tables_1, d.before a0 Z = true) (ws : List Jvm.Cond) (a1 : Addr) (p2 : Int32) (p3 : Int32) (c_size : Int32) (u_k_a1 : Value) (u_distances_a1 : Value) (u_indexes_a1 : Value) (h0 : Heap) (n0 : Nat) (Z0 : n0 ≤ h0.size) (F_size_a1 : Fld Z h0 a1 "com/example/triangulum/triangulum/search/Shortlist" "size" "I" (.int c_size)) (E_a1 : Exa Z h0 a1 "com/example/triangulum/triangulum/search/Shortlist") (F_k_a1 : Fld Z h0 a1 "com/example/triangulum/triangulum/search/Shortlist" "k" "I" u_k_a1) (g_a1 : n0 ≤ a1) (F_distances_a1 : Fld Z h0 a1 "com/example/triangulum/triangulum/search/Shortlist" "distances" "[D" u_distances_a1) (F_indexes_a1 : Fld Z h0 a1 "com/example/triangulum/triangulum/search/Shortlist" "indexes" "[I" u_indexes_a1) (hc6 : ¬ (p2 < (1 : Int32))) (hneg34 : ¬ (own_min p2 p3) < 0) (hcap34 : ((own_min p2 p3)).toNatClampNeg ≤ 6) (hneg45 : ¬ (own_min p2 p3) < 0) (hcap45 : ((own_min p2 p3)).toNatClampNeg ≤ 6) :
    MetFree l (⟨"com/example/triangulum/triangulum/search/Shortlist", "<init>", "(II)V"⟩ : MethodName) (head1 (Jvm.Cond.code (⟨"com/example/triangulum/triangulum/search/Shortlist", "<init>", "(II)V"⟩ : MethodName) prog_24_method_1_code 3 none :: ws) ({ frames := 1, cells := 2, slots := 12, locals := 40 } : Room)) (fun a U => a = #[(.ref a1), (.int p2), (.int p3)] ∧ Z.Warmed39 U.vm ∧ U.heap = h0) (fun _ _ _ _ _ => True) (fun _ U o U' => ∃ v L, o = .returned v ∧ own_Q1 Z n0 a1 p2 p3 c_size h0 v U'.heap L ∧ FrameEnd U o U' L ({ frames := 1, cells := 2, slots := 12, locals := 40 } : Room).cells ({ frames := 1, cells := 2, slots := 12, locals := 40 } : Room).slots) := by
  refine MetFree.of_bodySF (plainFor_of_name pn_1) hisR ?_
  intro p e s m args below meth c s₁ Bd hml0 hP hK
  obtain ⟨rfl, hZ, hh⟩ := hP
  have hx := Bd.exec
  have hby := Bd.bytes
  have hml : c.maxLocals = 3 := hml0
  have hown : s.vm.findClass "com/example/triangulum/triangulum/search/Shortlist" = some m.cls := findClass_of_methodNamed Bd.named
  have hnm := (name_of_methodNamed Bd.named Bd.method).1
  have X0 : Stand p l e ({ frames := 1, cells := 2, slots := 12, locals := 40 } : Room) s m #[(.ref a1), (.int p2), (.int p3)] below meth c s₁ [] 0 0 := Stand.of_body Bd
  have e0 : s₁.heap = h0 := by rw [← hh, Bd.state]; rfl
  have N0 := Fr.nil n0
  have pre0 : ∀ t, Steps p.tables e below (s₁.setTop (mkF m 0 #[.val (.ref a1), .val (.int p2), .val (.int p3)] [])) t → Steps p.tables e below (s₁.setTop (entryFrame m #[(.ref a1), (.int p2), (.int p3)] 3)) t := fun t k => castTop (ef_1 m a1 p2 p3) k
  -- 3. LAWS
  obtain ⟨T4, X4, e4, st4⟩ := initO X0 hx hZ hown (hw _ (List.mem_of_getElem? (i := 6) rfl)) (hw _ (List.mem_of_getElem? (i := 7) rfl)) (hw _ (List.mem_of_getElem? (i := 8) rfl)) e0 (g := (mkF m 1 #[.val (.ref a1), .val (.int p2), .val (.int p3)] [(.ref a1)])) rfl (by rw [hml]; rfl) rfl (hb hby d1_1) (by decide) (W := 0) (by show 2 * 0 + _ ≤ _; exact Nat.le_of_eq rfl) (by decide)
  obtain ⟨T5, h5, X5, e5, W5, st5⟩ := putF X4 hx hZ hown (host := "") (Or.inl (hw _ (List.mem_of_getElem? (i := 9) rfl))) Via.refl e4 F_k_a1 E_a1 (Or.inr ⟨(hw _ (List.mem_of_getElem? (i := 10) rfl)), rfl, hnm⟩) (hw _ (List.mem_of_getElem? (i := 1) rfl)) (ty := .int) (by decide) rfl rfl (g := (mkF m 25 #[.val (.ref a1), .val (.int p2), .val (.int p3)] [(.int p2), (.ref a1)])) rfl rfl (hb hby d1_25)
  have Fw5 := F_k_a1.same W5      -- the field now holds (.int p2)
  have K5 : Keep h0 h5 [a1] := (Keep.refl h0 [a1]).wr W5 (Or.inl (List.mem_of_getElem? (i := 0) rfl))
  have N5 := Fr.snoc X5 N0 g_a1
  -- pc 31: java/lang/Math.min
  obtain ⟨T6, X6, e6, st6⟩ := own_call_min X5 hx hZ hw hown (hw _ (List.mem_of_getElem? (i := 11) rfl)) p2 p3 (W := 1) (g := (mkF m 31 #[.val (.ref a1), .val (.int p2), .val (.int p3)] [(.int p3), (.int p2), (.ref a1)])) rfl (by rw [hml]; rfl) (rest := [(.ref a1)]) rfl (by show 2 * 0 + _ ≤ _; exact Nat.le_of_eq rfl) (hb hby d1_31) (by decide) (by decide) e5
  obtain ⟨T7, h7, b34, X7, e7, E7, g7, V_b34, st7⟩ := own_xnew X6 hx hZ (hw _ (List.mem_of_getElem? (i := 15) rfl)) e6 (g := (mkF m 34 #[.val (.ref a1), .val (.int p2), .val (.int p3)] [(.int (own_min p2 p3)), (.ref a1)])) rfl (hb hby d1_34) rfl hneg34 (cap := 6) hcap34 (by decide) (by decide) (by decide)
  have g_b34 : n0 ≤ b34 := Nat.le_trans (Nat.le_trans Z0 (Keep.of_wr W5).1) (Nat.le_of_eq g7.symm)
  have sz_b34 : h0.size ≤ b34 := (Nat.le_trans K5.1 (Nat.le_of_eq g7.symm))
  have K7 : Keep h0 h7 [a1] := K5.ext E7
  obtain ⟨T8, h8, X8, e8, W8, st8⟩ := putF X7 hx hZ hown (host := "") (Or.inl (hw _ (List.mem_of_getElem? (i := 16) rfl))) Via.refl e7 ((F_distances_a1.other W5 (Or.inr (slot_ne (Or.inl (hw _ (List.mem_of_getElem? (i := 17) rfl))) (Or.inr (hw _ (List.mem_of_getElem? (i := 10) rfl))) (by decide) (t := (.array .double)) (t' := .int) (by decide) (by decide)))).ext E7) ((E_a1.wr W5).ext E7) (Or.inl (hw _ (List.mem_of_getElem? (i := 17) rfl))) (hw _ (List.mem_of_getElem? (i := 1) rfl)) (ty := (.array .double)) (by decide) rfl rfl (g := (mkF m 36 #[.val (.ref a1), .val (.int p2), .val (.int p3)] [(.ref b34), (.ref a1)])) rfl rfl (hb hby d1_36)
  have Fw8 := ((F_distances_a1.other W5 (Or.inr (slot_ne (Or.inl (hw _ (List.mem_of_getElem? (i := 17) rfl))) (Or.inr (hw _ (List.mem_of_getElem? (i := 10) rfl))) (by decide) (t := (.array .double)) (t' := .int) (by decide) (by decide)))).ext E7).same W8      -- the field now holds (.ref b34)
  have K8 : Keep h0 h8 [a1] := K7.wr W8 (Or.inl (List.mem_of_getElem? (i := 0) rfl))
  have N8 := Fr.snoc X8 N5 g_a1
  obtain ⟨T9, X9, e9, st9⟩ := getF X8 hx hZ hown (host := "") (Or.inl (hw _ (List.mem_of_getElem? (i := 16) rfl))) Via.refl e8 Fw8 (g := (mkF m 41 #[.val (.ref a1), .val (.int p2), .val (.int p3)] [(.ref a1), (.ref a1)])) rfl rfl (hb hby d1_41)
  obtain ⟨T10, h10, b45, X10, e10, E10, g10, V_b45, st10⟩ := own_inew X9 hx hZ (hw _ (List.mem_of_getElem? (i := 18) rfl)) e9 (g := (mkF m 45 #[.val (.ref a1), .val (.int p2), .val (.int p3)] [(.int (own_min p2 p3)), (.ref a1)])) rfl (hb hby d1_45) rfl hneg45 (cap := 6) hcap45 (by decide) (by decide) (by decide)
  have g_b45 : n0 ≤ b45 := Nat.le_trans (Nat.le_trans (Nat.le_trans (Nat.le_trans Z0 (Keep.of_wr W5).1) E7.1) (Keep.of_wr W8).1) (Nat.le_of_eq g10.symm)
  have sz_b45 : h0.size ≤ b45 := (Nat.le_trans K8.1 (Nat.le_of_eq g10.symm))
  have K10 : Keep h0 h10 [a1] := K8.ext E10
  obtain ⟨T11, h11, X11, e11, W11, st11⟩ := putF X10 hx hZ hown (host := "") (Or.inl (hw _ (List.mem_of_getElem? (i := 19) rfl))) Via.refl e10 ((((F_indexes_a1.other W5 (Or.inr (slot_ne (Or.inl (hw _ (List.mem_of_getElem? (i := 20) rfl))) (Or.inr (hw _ (List.mem_of_getElem? (i := 10) rfl))) (by decide) (t := (.array .int)) (t' := .int) (by decide) (by decide)))).ext E7).other W8 (Or.inr (slot_ne (Or.inl (hw _ (List.mem_of_getElem? (i := 20) rfl))) (Or.inl (hw _ (List.mem_of_getElem? (i := 17) rfl))) (by decide) (t := (.array .int)) (t' := (.array .double)) (by decide) (by decide)))).ext E10) ((((E_a1.wr W5).ext E7).wr W8).ext E10) (Or.inl (hw _ (List.mem_of_getElem? (i := 20) rfl))) (hw _ (List.mem_of_getElem? (i := 1) rfl)) (ty := (.array .int)) (by decide) rfl rfl (g := (mkF m 47 #[.val (.ref a1), .val (.int p2), .val (.int p3)] [(.ref b45), (.ref a1)])) rfl rfl (hb hby d1_47)
  have Fw11 := ((((F_indexes_a1.other W5 (Or.inr (slot_ne (Or.inl (hw _ (List.mem_of_getElem? (i := 20) rfl))) (Or.inr (hw _ (List.mem_of_getElem? (i := 10) rfl))) (by decide) (t := (.array .int)) (t' := .int) (by decide) (by decide)))).ext E7).other W8 (Or.inr (slot_ne (Or.inl (hw _ (List.mem_of_getElem? (i := 20) rfl))) (Or.inl (hw _ (List.mem_of_getElem? (i := 17) rfl))) (by decide) (t := (.array .int)) (t' := (.array .double)) (by decide) (by decide)))).ext E10).same W11      -- the field now holds (.ref b45)
  have K11 : Keep h0 h11 [a1] := K10.wr W11 (Or.inl (List.mem_of_getElem? (i := 0) rfl))
  have N11 := Fr.snoc X11 N8 g_a1
  obtain ⟨fs, hr, hrun, hended, hW, hsame⟩ := X11.leave (v := none) (fun _ => rfl)
  refine ⟨_, _, pre0 _ ?_, hrun, hended, _, _, rfl, ?_, ⟨_, rfl⟩, hW, hsame.mono (by decide) (by decide)⟩
  -- 4. STEPS
  · show Steps p.tables e below (s₁.setTop (mkF m 0 #[.val (.ref a1), .val (.int p2), .val (.int p3)] [])) _
    refine XS.aloadN X0.here hx rfl (hb hby d1_0) rfl rfl ?_
    show Steps p.tables e below (s₁.setTop (mkF m 1 #[.val (.ref a1), .val (.int p2), .val (.int p3)] [(.ref a1)])) _
    refine st4 _ ?_
    show Steps p.tables e below (T4.setTop (mkF m 4 #[.val (.ref a1), .val (.int p2), .val (.int p3)] [])) _
    refine XS.iloadN X4.here hx rfl (hb hby d1_4) rfl ?_
    show Steps p.tables e below (T4.setTop (mkF m 5 #[.val (.ref a1), .val (.int p2), .val (.int p3)] [(.int p2)])) _
    refine XS.iconst X4.here hx rfl (hb hby d1_5) ?_
    show Steps p.tables e below (T4.setTop (mkF m 6 #[.val (.ref a1), .val (.int p2), .val (.int p3)] [(.int (1 : Int32)), (.int p2)])) _
    refine XS.icmpYes X4.here hx rfl (pc0 := 6) (pc' := 23) rfl (hb hby d1_6) rfl (flt hc6).2.1 (by decide) (by decide) ?_
    show Steps p.tables e below (T4.setTop (mkF m 23 #[.val (.ref a1), .val (.int p2), .val (.int p3)] [])) _
    refine XS.aloadN X4.here hx rfl (hb hby d1_23) rfl rfl ?_
    show Steps p.tables e below (T4.setTop (mkF m 24 #[.val (.ref a1), .val (.int p2), .val (.int p3)] [(.ref a1)])) _
    refine XS.iloadN X4.here hx rfl (hb hby d1_24) rfl ?_
    show Steps p.tables e below (T4.setTop (mkF m 25 #[.val (.ref a1), .val (.int p2), .val (.int p3)] [(.int p2), (.ref a1)])) _
    refine st5 _ ?_
    show Steps p.tables e below (T5.setTop (mkF m 28 #[.val (.ref a1), .val (.int p2), .val (.int p3)] [])) _
    refine XS.aloadN X5.here hx rfl (hb hby d1_28) rfl rfl ?_
    show Steps p.tables e below (T5.setTop (mkF m 29 #[.val (.ref a1), .val (.int p2), .val (.int p3)] [(.ref a1)])) _
    refine XS.iloadN X5.here hx rfl (hb hby d1_29) rfl ?_
    show Steps p.tables e below (T5.setTop (mkF m 30 #[.val (.ref a1), .val (.int p2), .val (.int p3)] [(.int p2), (.ref a1)])) _
    refine XS.iloadN X5.here hx rfl (hb hby d1_30) rfl ?_
    show Steps p.tables e below (T5.setTop (mkF m 31 #[.val (.ref a1), .val (.int p2), .val (.int p3)] [(.int p3), (.int p2), (.ref a1)])) _
    refine st6 _ ?_
    show Steps p.tables e below (T6.setTop (mkF m 34 #[.val (.ref a1), .val (.int p2), .val (.int p3)] [(.int (own_min p2 p3)), (.ref a1)])) _
    refine st7 _ ?_
    show Steps p.tables e below (T7.setTop (mkF m 36 #[.val (.ref a1), .val (.int p2), .val (.int p3)] [(.ref b34), (.ref a1)])) _
    refine st8 _ ?_
    show Steps p.tables e below (T8.setTop (mkF m 39 #[.val (.ref a1), .val (.int p2), .val (.int p3)] [])) _
    refine XS.aloadN X8.here hx rfl (hb hby d1_39) rfl rfl ?_
    show Steps p.tables e below (T8.setTop (mkF m 40 #[.val (.ref a1), .val (.int p2), .val (.int p3)] [(.ref a1)])) _
    refine XS.aloadN X8.here hx rfl (hb hby d1_40) rfl rfl ?_
    show Steps p.tables e below (T8.setTop (mkF m 41 #[.val (.ref a1), .val (.int p2), .val (.int p3)] [(.ref a1), (.ref a1)])) _
    refine st9 _ ?_
    show Steps p.tables e below (T9.setTop (mkF m 44 #[.val (.ref a1), .val (.int p2), .val (.int p3)] [(.ref b34), (.ref a1)])) _
    refine own_xlen X9 hx hZ e9 (V_b34.other W8 (Ne.symm (Nat.ne_of_lt (Nat.lt_of_lt_of_le (F_size_a1.other W5 (Or.inr (slot_ne (Or.inl (hw _ (List.mem_of_getElem? (i := 27) rfl))) (Or.inr (hw _ (List.mem_of_getElem? (i := 10) rfl))) (by decide) (t := .int) (t' := .int) (by decide) (by decide)))).lt (Nat.le_of_eq g7.symm))))) (g := (mkF m 44 #[.val (.ref a1), .val (.int p2), .val (.int p3)] [(.ref b34), (.ref a1)])) rfl rfl (hb hby d1_44) _ ?_
    show Steps p.tables e below (T9.setTop (mkF m 45 #[.val (.ref a1), .val (.int p2), .val (.int p3)] [(.int (own_min p2 p3)), (.ref a1)])) _
    refine st10 _ ?_
    show Steps p.tables e below (T10.setTop (mkF m 47 #[.val (.ref a1), .val (.int p2), .val (.int p3)] [(.ref b45), (.ref a1)])) _
    refine st11 _ ?_
    show Steps p.tables e below (T11.setTop (mkF m 50 #[.val (.ref a1), .val (.int p2), .val (.int p3)] [])) _
    exact X11.returnOut hx Bd.returns (hb hby d1_50) hr
  · show own_Q1 Z n0 a1 p2 p3 c_size h0 _ T11.heap _
    rw [e11]
    have la : a1 < b34 := Nat.lt_of_lt_of_le (Exa.lt E_a1) sz_b34
    have lb : a1 < b45 := Nat.lt_of_lt_of_le (Exa.lt E_a1) sz_b45
    exact ⟨rfl, N11, K11, b34, b45, (((((E_a1.wr W5).ext E7).wr W8).ext E10).wr W11), ((((Fw5.ext E7).other W8 (Or.inr (slot_ne (Or.inr (hw _ (List.mem_of_getElem? (i := 10) rfl))) (Or.inl (hw _ (List.mem_of_getElem? (i := 17) rfl))) (by decide) (t := .int) (t' := (.array .double)) (by decide) (by decide)))).ext E10).other W11 (Or.inr (slot_ne (Or.inr (hw _ (List.mem_of_getElem? (i := 10) rfl))) (Or.inl (hw _ (List.mem_of_getElem? (i := 20) rfl))) (by decide) (t := .int) (t' := (.array .int)) (by decide) (by decide)))), (((((F_size_a1.other W5 (Or.inr (slot_ne (Or.inl (hw _ (List.mem_of_getElem? (i := 27) rfl))) (Or.inr (hw _ (List.mem_of_getElem? (i := 10) rfl))) (by decide) (t := .int) (t' := .int) (by decide) (by decide)))).ext E7).other W8 (Or.inr (slot_ne (Or.inl (hw _ (List.mem_of_getElem? (i := 27) rfl))) (Or.inl (hw _ (List.mem_of_getElem? (i := 17) rfl))) (by decide) (t := .int) (t' := (.array .double)) (by decide) (by decide)))).ext E10).other W11 (Or.inr (slot_ne (Or.inl (hw _ (List.mem_of_getElem? (i := 27) rfl))) (Or.inl (hw _ (List.mem_of_getElem? (i := 20) rfl))) (by decide) (t := .int) (t' := (.array .int)) (by decide) (by decide)))), ((Fw8.ext E10).other W11 (Or.inr (slot_ne (Or.inl (hw _ (List.mem_of_getElem? (i := 17) rfl))) (Or.inl (hw _ (List.mem_of_getElem? (i := 20) rfl))) (by decide) (t := (.array .double)) (t' := (.array .int)) (by decide) (by decide)))), Fw11, (((V_b34.other W8 (Ne.symm (Nat.ne_of_lt (Nat.lt_of_lt_of_le (F_size_a1.other W5 (Or.inr (slot_ne (Or.inl (hw _ (List.mem_of_getElem? (i := 27) rfl))) (Or.inr (hw _ (List.mem_of_getElem? (i := 10) rfl))) (by decide) (t := .int) (t' := .int) (by decide) (by decide)))).lt (Nat.le_of_eq g7.symm))))).ext E10).other W11 (Ne.symm (Nat.ne_of_lt (Nat.lt_of_lt_of_le (F_size_a1.other W5 (Or.inr (slot_ne (Or.inl (hw _ (List.mem_of_getElem? (i := 27) rfl))) (Or.inr (hw _ (List.mem_of_getElem? (i := 10) rfl))) (by decide) (t := .int) (t' := .int) (by decide) (by decide)))).lt (Nat.le_of_eq g7.symm))))), (V_b45.other W11 (Ne.symm (Nat.ne_of_lt (Nat.lt_of_lt_of_le (((F_size_a1.other W5 (Or.inr (slot_ne (Or.inl (hw _ (List.mem_of_getElem? (i := 27) rfl))) (Or.inr (hw _ (List.mem_of_getElem? (i := 10) rfl))) (by decide) (t := .int) (t' := .int) (by decide) (by decide)))).ext E7).other W8 (Or.inr (slot_ne (Or.inl (hw _ (List.mem_of_getElem? (i := 27) rfl))) (Or.inl (hw _ (List.mem_of_getElem? (i := 17) rfl))) (by decide) (t := .int) (t' := (.array .double)) (by decide) (by decide)))).lt (Nat.le_of_eq g10.symm))))), g_a1, g_b34, g_b45, Nat.ne_of_lt la, Nat.ne_of_lt lb, Nat.ne_of_lt (Nat.lt_of_lt_of_le (V_b34.other W8 (Ne.symm (Nat.ne_of_lt la))).lt (Nat.le_of_eq g10.symm))⟩
theorem d7_0 : decode prog_24_method_2_code 0 = .ok (.dload_n 2, 1) := by decide +kernel
theorem d7_1 : decode prog_24_method_2_code 1 = .ok (.dconst 0, 1) := by decide +kernel
theorem d7_2 : decode prog_24_method_2_code 2 = .ok (.dadd, 1) := by decide +kernel
theorem d7_3 : decode prog_24_method_2_code 3 = .ok (.dstore_n 2, 1) := by decide +kernel
theorem d7_4 : decode prog_24_method_2_code 4 = .ok (.aload_n 0, 1) := by decide +kernel
theorem d7_5 : decode prog_24_method_2_code 5 = .ok (.getfield 36, 3) := by decide +kernel
theorem d7_8 : decode prog_24_method_2_code 8 = .ok (.aload_n 0, 1) := by decide +kernel
theorem d7_9 : decode prog_24_method_2_code 9 = .ok (.getfield 16, 3) := by decide +kernel
theorem d7_12 : decode prog_24_method_2_code 12 = .ok (.if_icmp .ge 135, 3) := by decide +kernel
set_option maxRecDepth 65536 in
set_option maxHeartbeats 40000000 in
theorem own_oA {p : Program} {l : Launch} {e : Env} {s : State} {m : MethodId} {args : Array Value} {below : List Frame} {meth : Method} {c : Code} {T0 : State} {locs : List Loc} {Z : State} {a0 : Array Value} {h0 : Heap} {n0 : Nat} (a1 : Addr) (p2 : Int32) (x3 : Int32) (zl : Int32) (XL : List Int32) (IL : List Int32) (c_k : Int32) (c_size : Int32) (c_distances : Addr) (c_indexes : Addr)
    (X0 : Stand p l e ({ frames := 5, cells := 2, slots := 12, locals := 160 } : Room) s m args below meth c T0 locs 0 0) (hx : p.tables.exec = Jvm.exec) (hZ : Z.Warmed39 s.vm) (hw : ∀ d ∈ tables_1, d.before a0 Z = true) (hby : c.code = prog_24_method_2_code) (hml : c.maxLocals = 6) (hown : s.vm.findClass "com/example/triangulum/triangulum/search/Shortlist" = some m.cls) (e0 : T0.heap = h0) (N0 : Fr n0 locs) (Z0 : n0 ≤ h0.size) (S0 : own_S Z n0 h0 a1 c_distances c_indexes c_k c_size zl XL IL) (hc12 : c_size < c_k) :
    ∃ (T' : State) (h' : Heap) (locs' : List Loc), Stand p l e ({ frames := 5, cells := 2, slots := 12, locals := 160 } : Room) s m args below meth c T' locs' 0 0 ∧ T'.heap = h' ∧ Fr n0 locs' ∧ h0.size ≤ h'.size ∧ own_S Z n0 h' a1 c_distances c_indexes c_k c_size zl XL IL ∧
      ∀ target, Steps p.tables e below (T'.setTop (mkF m 15 #[.val (.ref a1), .val (.int p2), .val (.double (FP.i2d x3)), .second, .unset, .unset] [])) target → Steps p.tables e below (T0.setTop (mkF m 0 #[.val (.ref a1), .val (.int p2), .val (.double (FP.i2d x3)), .second, .unset, .unset] [])) target := by
  obtain ⟨E_a1, F_k_a1, F_size_a1, F_distances_a1, F_indexes_a1, V_c_distances, V_c_indexes, g_a1, g_c_distances, g_c_indexes, had, hai, hdi⟩ := S0
  obtain ⟨T4, X4, e4, st4⟩ := getF X0 hx hZ hown (host := "") (Or.inl (hw _ (List.mem_of_getElem? (i := 26) rfl))) Via.refl e0 F_size_a1 (g := (mkF m 5 #[.val (.ref a1), .val (.int p2), .val (.double (FP.i2d x3)), .second, .unset, .unset] [(.ref a1)])) rfl rfl (hb hby d7_5)
  obtain ⟨T5, X5, e5, st5⟩ := getF X4 hx hZ hown (host := "") (Or.inl (hw _ (List.mem_of_getElem? (i := 9) rfl))) Via.refl e4 F_k_a1 (g := (mkF m 9 #[.val (.ref a1), .val (.int p2), .val (.double (FP.i2d x3)), .second, .unset, .unset] [(.ref a1), (.int c_size)])) rfl rfl (hb hby d7_9)
  refine ⟨T5, _, _, X5, e5, N0, (Nat.le_refl _), ⟨E_a1, F_k_a1, F_size_a1, F_distances_a1, F_indexes_a1, V_c_distances, V_c_indexes, g_a1, g_c_distances, g_c_indexes, had, hai, hdi⟩, fun target kt => ?_⟩
  -- 4. STEPS
  show Steps p.tables e below (T0.setTop (mkF m 0 #[.val (.ref a1), .val (.int p2), .val (.double (FP.i2d x3)), .second, .unset, .unset] [])) _
  refine XS.dloadN X0.here hx rfl (hb hby d7_0) rfl ?_
  show Steps p.tables e below (T0.setTop (mkF m 1 #[.val (.ref a1), .val (.int p2), .val (.double (FP.i2d x3)), .second, .unset, .unset] [(.double (FP.i2d x3))])) _
  refine XS.dconst0 X0.here hx rfl (hb hby d7_1) rfl ?_
  show Steps p.tables e below (T0.setTop (mkF m 2 #[.val (.ref a1), .val (.int p2), .val (.double (FP.i2d x3)), .second, .unset, .unset] [(.double FP.dconst0), (.double (FP.i2d x3))])) _
  refine XS.daddS X0.here hx rfl (hb hby d7_2) rfl (own_add0 x3).1 (own_add0 x3).2 ?_
  show Steps p.tables e below (T0.setTop (mkF m 3 #[.val (.ref a1), .val (.int p2), .val (.double (FP.i2d x3)), .second, .unset, .unset] [(.double (FP.i2d x3))])) _
  refine XS.dstoreN X0.here hx rfl (hb hby d7_3) rfl (l' := #[.val (.ref a1), .val (.int p2), .val (.double (FP.i2d x3)), .second, .unset, .unset]) rfl ?_
  show Steps p.tables e below (T0.setTop (mkF m 4 #[.val (.ref a1), .val (.int p2), .val (.double (FP.i2d x3)), .second, .unset, .unset] [])) _
  refine XS.aloadN X0.here hx rfl (hb hby d7_4) rfl rfl ?_
  show Steps p.tables e below (T0.setTop (mkF m 5 #[.val (.ref a1), .val (.int p2), .val (.double (FP.i2d x3)), .second, .unset, .unset] [(.ref a1)])) _
  refine st4 _ ?_
  show Steps p.tables e below (T4.setTop (mkF m 8 #[.val (.ref a1), .val (.int p2), .val (.double (FP.i2d x3)), .second, .unset, .unset] [(.int c_size)])) _
  refine XS.aloadN X4.here hx rfl (hb hby d7_8) rfl rfl ?_
  show Steps p.tables e below (T4.setTop (mkF m 9 #[.val (.ref a1), .val (.int p2), .val (.double (FP.i2d x3)), .second, .unset, .unset] [(.ref a1), (.int c_size)])) _
  refine st5 _ ?_
  show Steps p.tables e below (T5.setTop (mkF m 12 #[.val (.ref a1), .val (.int p2), .val (.double (FP.i2d x3)), .second, .unset, .unset] [(.int c_k), (.int c_size)])) _
  refine XS.icmpNo X5.here hx rfl (hb hby d7_12) rfl (tlt hc12).2.1 ?_
  exact kt
set_option maxRecDepth 65536 in
set_option maxHeartbeats 40000000 in
theorem own_oB {p : Program} {l : Launch} {e : Env} {s : State} {m : MethodId} {args : Array Value} {below : List Frame} {meth : Method} {c : Code} {T0 : State} {locs : List Loc} {Z : State} {a0 : Array Value} {h0 : Heap} {n0 : Nat} (a1 : Addr) (p2 : Int32) (x3 : Int32) (zl : Int32) (XL : List Int32) (IL : List Int32) (c_k : Int32) (c_size : Int32) (c_distances : Addr) (c_indexes : Addr)
    (X0 : Stand p l e ({ frames := 5, cells := 2, slots := 12, locals := 160 } : Room) s m args below meth c T0 locs 0 0) (hx : p.tables.exec = Jvm.exec) (hZ : Z.Warmed39 s.vm) (hw : ∀ d ∈ tables_1, d.before a0 Z = true) (hby : c.code = prog_24_method_2_code) (hml : c.maxLocals = 6) (hown : s.vm.findClass "com/example/triangulum/triangulum/search/Shortlist" = some m.cls) (e0 : T0.heap = h0) (N0 : Fr n0 locs) (Z0 : n0 ≤ h0.size) (S0 : own_S Z n0 h0 a1 c_distances c_indexes c_k c_size zl XL IL) (hc12 : ¬ (c_size < c_k)) :
    ∃ (T' : State) (h' : Heap) (locs' : List Loc), Stand p l e ({ frames := 5, cells := 2, slots := 12, locals := 160 } : Room) s m args below meth c T' locs' 0 0 ∧ T'.heap = h' ∧ Fr n0 locs' ∧ h0.size ≤ h'.size ∧ own_S Z n0 h' a1 c_distances c_indexes c_k c_size zl XL IL ∧
      ∀ target, Steps p.tables e below (T'.setTop (mkF m 147 #[.val (.ref a1), .val (.int p2), .val (.double (FP.i2d x3)), .second, .unset, .unset] [])) target → Steps p.tables e below (T0.setTop (mkF m 0 #[.val (.ref a1), .val (.int p2), .val (.double (FP.i2d x3)), .second, .unset, .unset] [])) target := by
  obtain ⟨E_a1, F_k_a1, F_size_a1, F_distances_a1, F_indexes_a1, V_c_distances, V_c_indexes, g_a1, g_c_distances, g_c_indexes, had, hai, hdi⟩ := S0
  obtain ⟨T4, X4, e4, st4⟩ := getF X0 hx hZ hown (host := "") (Or.inl (hw _ (List.mem_of_getElem? (i := 26) rfl))) Via.refl e0 F_size_a1 (g := (mkF m 5 #[.val (.ref a1), .val (.int p2), .val (.double (FP.i2d x3)), .second, .unset, .unset] [(.ref a1)])) rfl rfl (hb hby d7_5)
  obtain ⟨T5, X5, e5, st5⟩ := getF X4 hx hZ hown (host := "") (Or.inl (hw _ (List.mem_of_getElem? (i := 9) rfl))) Via.refl e4 F_k_a1 (g := (mkF m 9 #[.val (.ref a1), .val (.int p2), .val (.double (FP.i2d x3)), .second, .unset, .unset] [(.ref a1), (.int c_size)])) rfl rfl (hb hby d7_9)
  refine ⟨T5, _, _, X5, e5, N0, (Nat.le_refl _), ⟨E_a1, F_k_a1, F_size_a1, F_distances_a1, F_indexes_a1, V_c_distances, V_c_indexes, g_a1, g_c_distances, g_c_indexes, had, hai, hdi⟩, fun target kt => ?_⟩
  -- 4. STEPS
  show Steps p.tables e below (T0.setTop (mkF m 0 #[.val (.ref a1), .val (.int p2), .val (.double (FP.i2d x3)), .second, .unset, .unset] [])) _
  refine XS.dloadN X0.here hx rfl (hb hby d7_0) rfl ?_
  show Steps p.tables e below (T0.setTop (mkF m 1 #[.val (.ref a1), .val (.int p2), .val (.double (FP.i2d x3)), .second, .unset, .unset] [(.double (FP.i2d x3))])) _
  refine XS.dconst0 X0.here hx rfl (hb hby d7_1) rfl ?_
  show Steps p.tables e below (T0.setTop (mkF m 2 #[.val (.ref a1), .val (.int p2), .val (.double (FP.i2d x3)), .second, .unset, .unset] [(.double FP.dconst0), (.double (FP.i2d x3))])) _
  refine XS.daddS X0.here hx rfl (hb hby d7_2) rfl (own_add0 x3).1 (own_add0 x3).2 ?_
  show Steps p.tables e below (T0.setTop (mkF m 3 #[.val (.ref a1), .val (.int p2), .val (.double (FP.i2d x3)), .second, .unset, .unset] [(.double (FP.i2d x3))])) _
  refine XS.dstoreN X0.here hx rfl (hb hby d7_3) rfl (l' := #[.val (.ref a1), .val (.int p2), .val (.double (FP.i2d x3)), .second, .unset, .unset]) rfl ?_
  show Steps p.tables e below (T0.setTop (mkF m 4 #[.val (.ref a1), .val (.int p2), .val (.double (FP.i2d x3)), .second, .unset, .unset] [])) _
  refine XS.aloadN X0.here hx rfl (hb hby d7_4) rfl rfl ?_
  show Steps p.tables e below (T0.setTop (mkF m 5 #[.val (.ref a1), .val (.int p2), .val (.double (FP.i2d x3)), .second, .unset, .unset] [(.ref a1)])) _
  refine st4 _ ?_
  show Steps p.tables e below (T4.setTop (mkF m 8 #[.val (.ref a1), .val (.int p2), .val (.double (FP.i2d x3)), .second, .unset, .unset] [(.int c_size)])) _
  refine XS.aloadN X4.here hx rfl (hb hby d7_8) rfl rfl ?_
  show Steps p.tables e below (T4.setTop (mkF m 9 #[.val (.ref a1), .val (.int p2), .val (.double (FP.i2d x3)), .second, .unset, .unset] [(.ref a1), (.int c_size)])) _
  refine st5 _ ?_
  show Steps p.tables e below (T5.setTop (mkF m 12 #[.val (.ref a1), .val (.int p2), .val (.double (FP.i2d x3)), .second, .unset, .unset] [(.int c_k), (.int c_size)])) _
  refine XS.icmpYes X5.here hx rfl (pc0 := 12) (pc' := 147) rfl (hb hby d7_12) rfl (flt hc12).2.1 (by decide) (by decide) ?_
  exact kt
theorem d7_15 : decode prog_24_method_2_code 15 = .ok (.aload_n 0, 1) := by decide +kernel
theorem d7_16 : decode prog_24_method_2_code 16 = .ok (.getfield 36, 3) := by decide +kernel
theorem d7_19 : decode prog_24_method_2_code 19 = .ok (.aload_n 0, 1) := by decide +kernel
theorem d7_20 : decode prog_24_method_2_code 20 = .ok (.getfield 28, 3) := by decide +kernel
theorem d7_23 : decode prog_24_method_2_code 23 = .ok (.arraylength, 1) := by decide +kernel
theorem d7_24 : decode prog_24_method_2_code 24 = .ok (.if_icmp .ne 40, 3) := by decide +kernel
set_option maxRecDepth 65536 in
set_option maxHeartbeats 40000000 in
theorem own_oGt {p : Program} {l : Launch} {e : Env} {s : State} {m : MethodId} {args : Array Value} {below : List Frame} {meth : Method} {c : Code} {T0 : State} {locs : List Loc} {Z : State} {a0 : Array Value} {h0 : Heap} {n0 : Nat} (a1 : Addr) (p2 : Int32) (x3 : Int32) (zl : Int32) (XL : List Int32) (IL : List Int32) (c_k : Int32) (c_size : Int32) (c_distances : Addr) (c_indexes : Addr)
    (X0 : Stand p l e ({ frames := 5, cells := 2, slots := 12, locals := 160 } : Room) s m args below meth c T0 locs 0 0) (hx : p.tables.exec = Jvm.exec) (hZ : Z.Warmed39 s.vm) (hw : ∀ d ∈ tables_1, d.before a0 Z = true) (hby : c.code = prog_24_method_2_code) (hml : c.maxLocals = 6) (hown : s.vm.findClass "com/example/triangulum/triangulum/search/Shortlist" = some m.cls) (e0 : T0.heap = h0) (N0 : Fr n0 locs) (Z0 : n0 ≤ h0.size) (S0 : own_S Z n0 h0 a1 c_distances c_indexes c_k c_size zl XL IL) (hc24 : ¬ (c_size = zl)) :
    ∃ (T' : State) (h' : Heap) (locs' : List Loc), Stand p l e ({ frames := 5, cells := 2, slots := 12, locals := 160 } : Room) s m args below meth c T' locs' 0 0 ∧ T'.heap = h' ∧ Fr n0 locs' ∧ h0.size ≤ h'.size ∧ own_S Z n0 h' a1 c_distances c_indexes c_k c_size zl XL IL ∧
      ∀ target, Steps p.tables e below (T'.setTop (mkF m 64 #[.val (.ref a1), .val (.int p2), .val (.double (FP.i2d x3)), .second, .unset, .unset] [])) target → Steps p.tables e below (T0.setTop (mkF m 15 #[.val (.ref a1), .val (.int p2), .val (.double (FP.i2d x3)), .second, .unset, .unset] [])) target := by
  obtain ⟨E_a1, F_k_a1, F_size_a1, F_distances_a1, F_indexes_a1, V_c_distances, V_c_indexes, g_a1, g_c_distances, g_c_indexes, had, hai, hdi⟩ := S0
  obtain ⟨T4, X4, e4, st4⟩ := getF X0 hx hZ hown (host := "") (Or.inl (hw _ (List.mem_of_getElem? (i := 26) rfl))) Via.refl e0 F_size_a1 (g := (mkF m 16 #[.val (.ref a1), .val (.int p2), .val (.double (FP.i2d x3)), .second, .unset, .unset] [(.ref a1)])) rfl rfl (hb hby d7_16)
  obtain ⟨T5, X5, e5, st5⟩ := getF X4 hx hZ hown (host := "") (Or.inl (hw _ (List.mem_of_getElem? (i := 16) rfl))) Via.refl e4 F_distances_a1 (g := (mkF m 20 #[.val (.ref a1), .val (.int p2), .val (.double (FP.i2d x3)), .second, .unset, .unset] [(.ref a1), (.int c_size)])) rfl rfl (hb hby d7_20)
  refine ⟨T5, _, _, X5, e5, N0, (Nat.le_refl _), ⟨E_a1, F_k_a1, F_size_a1, F_distances_a1, F_indexes_a1, V_c_distances, V_c_indexes, g_a1, g_c_distances, g_c_indexes, had, hai, hdi⟩, fun target kt => ?_⟩
  -- 4. STEPS
  show Steps p.tables e below (T0.setTop (mkF m 15 #[.val (.ref a1), .val (.int p2), .val (.double (FP.i2d x3)), .second, .unset, .unset] [])) _
  refine XS.aloadN X0.here hx rfl (hb hby d7_15) rfl rfl ?_
  show Steps p.tables e below (T0.setTop (mkF m 16 #[.val (.ref a1), .val (.int p2), .val (.double (FP.i2d x3)), .second, .unset, .unset] [(.ref a1)])) _
  refine st4 _ ?_
  show Steps p.tables e below (T4.setTop (mkF m 19 #[.val (.ref a1), .val (.int p2), .val (.double (FP.i2d x3)), .second, .unset, .unset] [(.int c_size)])) _
  refine XS.aloadN X4.here hx rfl (hb hby d7_19) rfl rfl ?_
  show Steps p.tables e below (T4.setTop (mkF m 20 #[.val (.ref a1), .val (.int p2), .val (.double (FP.i2d x3)), .second, .unset, .unset] [(.ref a1), (.int c_size)])) _
  refine st5 _ ?_
  show Steps p.tables e below (T5.setTop (mkF m 23 #[.val (.ref a1), .val (.int p2), .val (.double (FP.i2d x3)), .second, .unset, .unset] [(.ref c_distances), (.int c_size)])) _
  refine own_xlen X5 hx hZ e5 V_c_distances (g := (mkF m 23 #[.val (.ref a1), .val (.int p2), .val (.double (FP.i2d x3)), .second, .unset, .unset] [(.ref c_distances), (.int c_size)])) rfl rfl (hb hby d7_23) _ ?_
  show Steps p.tables e below (T5.setTop (mkF m 24 #[.val (.ref a1), .val (.int p2), .val (.double (FP.i2d x3)), .second, .unset, .unset] [(.int zl), (.int c_size)])) _
  refine XS.icmpYes X5.here hx rfl (pc0 := 24) (pc' := 64) rfl (hb hby d7_24) rfl (feq hc24).2 (by decide) (by decide) ?_
  exact kt
theorem d7_27 : decode prog_24_method_2_code 27 = .ok (.aload_n 0, 1) := by decide +kernel
theorem d7_28 : decode prog_24_method_2_code 28 = .ok (.aload_n 0, 1) := by decide +kernel
theorem d7_29 : decode prog_24_method_2_code 29 = .ok (.getfield 28, 3) := by decide +kernel
theorem d7_32 : decode prog_24_method_2_code 32 = .ok (.iconst 1, 1) := by decide +kernel
theorem d7_33 : decode prog_24_method_2_code 33 = .ok (.iconst 2, 1) := by decide +kernel
theorem d7_34 : decode prog_24_method_2_code 34 = .ok (.aload_n 0, 1) := by decide +kernel
theorem d7_35 : decode prog_24_method_2_code 35 = .ok (.getfield 36, 3) := by decide +kernel
theorem d7_38 : decode prog_24_method_2_code 38 = .ok (.imul, 1) := by decide +kernel
theorem d7_39 : decode prog_24_method_2_code 39 = .ok (.invokestatic 39, 3) := by decide +kernel
theorem d7_42 : decode prog_24_method_2_code 42 = .ok (.invokestatic 42, 3) := by decide +kernel
theorem d7_45 : decode prog_24_method_2_code 45 = .ok (.putfield 28, 3) := by decide +kernel
theorem d7_48 : decode prog_24_method_2_code 48 = .ok (.aload_n 0, 1) := by decide +kernel
theorem d7_49 : decode prog_24_method_2_code 49 = .ok (.aload_n 0, 1) := by decide +kernel
theorem d7_50 : decode prog_24_method_2_code 50 = .ok (.getfield 32, 3) := by decide +kernel
theorem d7_53 : decode prog_24_method_2_code 53 = .ok (.aload_n 0, 1) := by decide +kernel
theorem d7_54 : decode prog_24_method_2_code 54 = .ok (.getfield 28, 3) := by decide +kernel
theorem d7_57 : decode prog_24_method_2_code 57 = .ok (.arraylength, 1) := by decide +kernel
theorem d7_58 : decode prog_24_method_2_code 58 = .ok (.invokestatic 48, 3) := by decide +kernel
theorem d7_61 : decode prog_24_method_2_code 61 = .ok (.putfield 32, 3) := by decide +kernel
set_option maxRecDepth 65536 in
set_option maxHeartbeats 40000000 in
theorem own_oGf {p : Program} {l : Launch} {e : Env} {s : State} {m : MethodId} {args : Array Value} {below : List Frame} {meth : Method} {c : Code} {T0 : State} {locs : List Loc} {Z : State} {a0 : Array Value} {h0 : Heap} {n0 : Nat} (a1 : Addr) (p2 : Int32) (x3 : Int32) (zl : Int32) (XL : List Int32) (IL : List Int32) (c_k : Int32) (c_size : Int32) (c_distances : Addr) (c_indexes : Addr)
    (X0 : Stand p l e ({ frames := 5, cells := 2, slots := 12, locals := 160 } : Room) s m args below meth c T0 locs 0 0) (hx : p.tables.exec = Jvm.exec) (hZ : Z.Warmed39 s.vm) (hw : ∀ d ∈ tables_1, d.before a0 Z = true) (hby : c.code = prog_24_method_2_code) (hml : c.maxLocals = 6) (hown : s.vm.findClass "com/example/triangulum/triangulum/search/Shortlist" = some m.cls) (e0 : T0.heap = h0) (N0 : Fr n0 locs) (Z0 : n0 ≤ h0.size) (S0 : own_S Z n0 h0 a1 c_distances c_indexes c_k c_size zl XL IL) (hc24 : c_size = zl) (hcz42a : ¬ zl < 0) (hcz42b : zl < (own_max (1 : Int32) ((2 : Int32) * c_size))) (hcz42c : (own_max (1 : Int32) ((2 : Int32) * c_size)).toNatClampNeg ≤ 6) (hcz58a : ¬ zl < 0) (hcz58b : zl < (own_max (1 : Int32) ((2 : Int32) * c_size))) (hcz58c : (own_max (1 : Int32) ((2 : Int32) * c_size)).toNatClampNeg ≤ 6) :
    ∃ (T' : State) (h' : Heap) (locs' : List Loc) (b42 : Addr) (b58 : Addr), Stand p l e ({ frames := 5, cells := 2, slots := 12, locals := 160 } : Room) s m args below meth c T' locs' 2 12 ∧ T'.heap = h' ∧ Fr n0 locs' ∧ h0.size ≤ h'.size ∧ own_S Z n0 h' a1 b42 b58 c_k c_size (own_max (1 : Int32) ((2 : Int32) * c_size)) (own_cp zl XL) (own_cp zl IL) ∧
      ∀ target, Steps p.tables e below (T'.setTop (mkF m 64 #[.val (.ref a1), .val (.int p2), .val (.double (FP.i2d x3)), .second, .unset, .unset] [])) target → Steps p.tables e below (T0.setTop (mkF m 15 #[.val (.ref a1), .val (.int p2), .val (.double (FP.i2d x3)), .second, .unset, .unset] [])) target := by
  obtain ⟨E_a1, F_k_a1, F_size_a1, F_distances_a1, F_indexes_a1, V_c_distances, V_c_indexes, g_a1, g_c_distances, g_c_indexes, had, hai, hdi⟩ := S0
  obtain ⟨T4, X4, e4, st4⟩ := getF X0 hx hZ hown (host := "") (Or.inl (hw _ (List.mem_of_getElem? (i := 26) rfl))) Via.refl e0 F_size_a1 (g := (mkF m 16 #[.val (.ref a1), .val (.int p2), .val (.double (FP.i2d x3)), .second, .unset, .unset] [(.ref a1)])) rfl rfl (hb hby d7_16)
  obtain ⟨T5, X5, e5, st5⟩ := getF X4 hx hZ hown (host := "") (Or.inl (hw _ (List.mem_of_getElem? (i := 16) rfl))) Via.refl e4 F_distances_a1 (g := (mkF m 20 #[.val (.ref a1), .val (.int p2), .val (.double (FP.i2d x3)), .second, .unset, .unset] [(.ref a1), (.int c_size)])) rfl rfl (hb hby d7_20)
  obtain ⟨T6, X6, e6, st6⟩ := getF X5 hx hZ hown (host := "") (Or.inl (hw _ (List.mem_of_getElem? (i := 16) rfl))) Via.refl e5 F_distances_a1 (g := (mkF m 29 #[.val (.ref a1), .val (.int p2), .val (.double (FP.i2d x3)), .second, .unset, .unset] [(.ref a1), (.ref a1)])) rfl rfl (hb hby d7_29)
  obtain ⟨T7, X7, e7, st7⟩ := getF X6 hx hZ hown (host := "") (Or.inl (hw _ (List.mem_of_getElem? (i := 26) rfl))) Via.refl e6 F_size_a1 (g := (mkF m 35 #[.val (.ref a1), .val (.int p2), .val (.double (FP.i2d x3)), .second, .unset, .unset] [(.ref a1), (.int (2 : Int32)), (.int (1 : Int32)), (.ref c_distances), (.ref a1)])) rfl rfl (hb hby d7_35)
  -- pc 39: java/lang/Math.max
  obtain ⟨T8, X8, e8, st8⟩ := own_call_max X7 hx hZ hw hown (hw _ (List.mem_of_getElem? (i := 70) rfl)) (1 : Int32) ((2 : Int32) * c_size) (W := 2) (g := (mkF m 39 #[.val (.ref a1), .val (.int p2), .val (.double (FP.i2d x3)), .second, .unset, .unset] [(.int ((2 : Int32) * c_size)), (.int (1 : Int32)), (.ref c_distances), (.ref a1)])) rfl (by rw [hml]; rfl) (rest := [(.ref c_distances), (.ref a1)]) rfl (by show 2 * 0 + _ ≤ _; exact Nat.le_of_eq rfl) (hb hby d7_39) (by decide) (by decide) e7
  -- pc 42: java/util/Arrays.copyOf
  obtain ⟨T9, h9, b42, L9, X9, e9, g9, N9, Kc9, V_b42, st9⟩ := own_copyX X8 hx hZ hw hown (hw _ (List.mem_of_getElem? (i := 71) rfl)) V_c_distances N0 Z0 hcz42a hcz42b hcz42c (W := 1) (g := (mkF m 42 #[.val (.ref a1), .val (.int p2), .val (.double (FP.i2d x3)), .second, .unset, .unset] [(.int (own_max (1 : Int32) ((2 : Int32) * c_size))), (.ref c_distances), (.ref a1)])) rfl (by rw [hml]; rfl) (rest := [(.ref a1)]) rfl (by show 2 * 0 + _ ≤ _; exact Nat.le_of_eq rfl) (hb hby d7_42) (by decide) (by decide) e8
  have g_b42 : n0 ≤ b42 := Nat.le_trans Z0 (Nat.le_of_eq g9.symm)
  have K9 : Keep h0 h9 [a1] := (Keep.refl h0 [a1]).trans Kc9 all0
  obtain ⟨T10, h10, X10, e10, W10, st10⟩ := putF X9 hx hZ hown (host := "") (Or.inl (hw _ (List.mem_of_getElem? (i := 16) rfl))) Via.refl e9 (F_distances_a1.keep Kc9 nin0) (E_a1.keep Kc9) (Or.inl (hw _ (List.mem_of_getElem? (i := 17) rfl))) (hw _ (List.mem_of_getElem? (i := 1) rfl)) (ty := (.array .double)) (by decide) rfl rfl (g := (mkF m 45 #[.val (.ref a1), .val (.int p2), .val (.double (FP.i2d x3)), .second, .unset, .unset] [(.ref b42), (.ref a1)])) rfl rfl (hb hby d7_45)
  have Fw10 := (F_distances_a1.keep Kc9 nin0).same W10      -- the field now holds (.ref b42)
  have K10 : Keep h0 h10 [a1] := K9.wr W10 (Or.inl (List.mem_of_getElem? (i := 0) rfl))
  have N10 := Fr.snoc X10 N9 g_a1
  obtain ⟨T11, X11, e11, st11⟩ := getF X10 hx hZ hown (host := "") (Or.inl (hw _ (List.mem_of_getElem? (i := 19) rfl))) Via.refl e10 ((F_indexes_a1.keep Kc9 nin0).other W10 (Or.inr (slot_ne (Or.inl (hw _ (List.mem_of_getElem? (i := 20) rfl))) (Or.inl (hw _ (List.mem_of_getElem? (i := 17) rfl))) (by decide) (t := (.array .int)) (t' := (.array .double)) (by decide) (by decide)))) (g := (mkF m 50 #[.val (.ref a1), .val (.int p2), .val (.double (FP.i2d x3)), .second, .unset, .unset] [(.ref a1), (.ref a1)])) rfl rfl (hb hby d7_50)
  obtain ⟨T12, X12, e12, st12⟩ := getF X11 hx hZ hown (host := "") (Or.inl (hw _ (List.mem_of_getElem? (i := 16) rfl))) Via.refl e11 Fw10 (g := (mkF m 54 #[.val (.ref a1), .val (.int p2), .val (.double (FP.i2d x3)), .second, .unset, .unset] [(.ref a1), (.ref c_indexes), (.ref a1)])) rfl rfl (hb hby d7_54)
  -- pc 58: java/util/Arrays.copyOf
  obtain ⟨T13, h13, b58, L13, X13, e13, g13, N13, Kc13, V_b58, st13⟩ := own_copyI X12 hx hZ hw hown (hw _ (List.mem_of_getElem? (i := 80) rfl)) ((V_c_indexes.keep Kc9 nin0).other W10 (Ne.symm hai)) N10 (Nat.le_trans (Nat.le_trans Z0 Kc9.1) (Keep.of_wr W10).1) hcz58a hcz58b hcz58c (W := 1) (g := (mkF m 58 #[.val (.ref a1), .val (.int p2), .val (.double (FP.i2d x3)), .second, .unset, .unset] [(.int (own_max (1 : Int32) ((2 : Int32) * c_size))), (.ref c_indexes), (.ref a1)])) rfl (by rw [hml]; rfl) (rest := [(.ref a1)]) rfl (by show 2 * 0 + _ ≤ _; exact Nat.le_of_eq rfl) (hb hby d7_58) (by decide) (by decide) e12
  have g_b58 : n0 ≤ b58 := Nat.le_trans (Nat.le_trans (Nat.le_trans Z0 Kc9.1) (Keep.of_wr W10).1) (Nat.le_of_eq g13.symm)
  have K13 : Keep h0 h13 [a1] := K10.trans Kc13 all0
  obtain ⟨T14, h14, X14, e14, W14, st14⟩ := putF X13 hx hZ hown (host := "") (Or.inl (hw _ (List.mem_of_getElem? (i := 19) rfl))) Via.refl e13 (((F_indexes_a1.keep Kc9 nin0).other W10 (Or.inr (slot_ne (Or.inl (hw _ (List.mem_of_getElem? (i := 20) rfl))) (Or.inl (hw _ (List.mem_of_getElem? (i := 17) rfl))) (by decide) (t := (.array .int)) (t' := (.array .double)) (by decide) (by decide)))).keep Kc13 nin0) (((E_a1.keep Kc9).wr W10).keep Kc13) (Or.inl (hw _ (List.mem_of_getElem? (i := 20) rfl))) (hw _ (List.mem_of_getElem? (i := 1) rfl)) (ty := (.array .int)) (by decide) rfl rfl (g := (mkF m 61 #[.val (.ref a1), .val (.int p2), .val (.double (FP.i2d x3)), .second, .unset, .unset] [(.ref b58), (.ref a1)])) rfl rfl (hb hby d7_61)
  have Fw14 := (((F_indexes_a1.keep Kc9 nin0).other W10 (Or.inr (slot_ne (Or.inl (hw _ (List.mem_of_getElem? (i := 20) rfl))) (Or.inl (hw _ (List.mem_of_getElem? (i := 17) rfl))) (by decide) (t := (.array .int)) (t' := (.array .double)) (by decide) (by decide)))).keep Kc13 nin0).same W14      -- the field now holds (.ref b58)
  have K14 : Keep h0 h14 [a1] := K13.wr W14 (Or.inl (List.mem_of_getElem? (i := 0) rfl))
  have N14 := Fr.snoc X14 N13 g_a1
  refine ⟨T14, _, _, b42, b58, X14, e14, N14, (Nat.le_trans (Nat.le_trans (Nat.le_trans (Nat.le_trans (Nat.le_refl _) Kc9.1) (Keep.of_wr W10).1) Kc13.1) (Keep.of_wr W14).1), ⟨((((E_a1.keep Kc9).wr W10).keep Kc13).wr W14), ((((F_k_a1.keep Kc9 nin0).other W10 (Or.inr (slot_ne (Or.inr (hw _ (List.mem_of_getElem? (i := 10) rfl))) (Or.inl (hw _ (List.mem_of_getElem? (i := 17) rfl))) (by decide) (t := .int) (t' := (.array .double)) (by decide) (by decide)))).keep Kc13 nin0).other W14 (Or.inr (slot_ne (Or.inr (hw _ (List.mem_of_getElem? (i := 10) rfl))) (Or.inl (hw _ (List.mem_of_getElem? (i := 20) rfl))) (by decide) (t := .int) (t' := (.array .int)) (by decide) (by decide)))), ((((F_size_a1.keep Kc9 nin0).other W10 (Or.inr (slot_ne (Or.inl (hw _ (List.mem_of_getElem? (i := 27) rfl))) (Or.inl (hw _ (List.mem_of_getElem? (i := 17) rfl))) (by decide) (t := .int) (t' := (.array .double)) (by decide) (by decide)))).keep Kc13 nin0).other W14 (Or.inr (slot_ne (Or.inl (hw _ (List.mem_of_getElem? (i := 27) rfl))) (Or.inl (hw _ (List.mem_of_getElem? (i := 20) rfl))) (by decide) (t := .int) (t' := (.array .int)) (by decide) (by decide)))), ((Fw10.keep Kc13 nin0).other W14 (Or.inr (slot_ne (Or.inl (hw _ (List.mem_of_getElem? (i := 17) rfl))) (Or.inl (hw _ (List.mem_of_getElem? (i := 20) rfl))) (by decide) (t := (.array .double)) (t' := (.array .int)) (by decide) (by decide)))), Fw14, (((V_b42.other W10 (Ne.symm (Nat.ne_of_lt (Nat.lt_of_lt_of_le F_k_a1.lt (Nat.le_of_eq g9.symm))))).keep Kc13 nin0).other W14 (Ne.symm (Nat.ne_of_lt (Nat.lt_of_lt_of_le F_k_a1.lt (Nat.le_of_eq g9.symm))))), (V_b58.other W14 (Ne.symm (Nat.ne_of_lt (Nat.lt_of_lt_of_le ((F_k_a1.keep Kc9 nin0).other W10 (Or.inr (slot_ne (Or.inr (hw _ (List.mem_of_getElem? (i := 10) rfl))) (Or.inl (hw _ (List.mem_of_getElem? (i := 17) rfl))) (by decide) (t := .int) (t' := (.array .double)) (by decide) (by decide)))).lt (Nat.le_of_eq g13.symm))))), g_a1, g_b42, g_b58, (Nat.ne_of_lt (Nat.lt_of_lt_of_le F_k_a1.lt (Nat.le_of_eq g9.symm))), (Nat.ne_of_lt (Nat.lt_of_lt_of_le ((F_k_a1.keep Kc9 nin0).other W10 (Or.inr (slot_ne (Or.inr (hw _ (List.mem_of_getElem? (i := 10) rfl))) (Or.inl (hw _ (List.mem_of_getElem? (i := 17) rfl))) (by decide) (t := .int) (t' := (.array .double)) (by decide) (by decide)))).lt (Nat.le_of_eq g13.symm))), (Nat.ne_of_lt (Nat.lt_of_lt_of_le (V_b42.other W10 (Ne.symm (Nat.ne_of_lt (Nat.lt_of_lt_of_le F_k_a1.lt (Nat.le_of_eq g9.symm))))).lt (Nat.le_of_eq g13.symm)))⟩, fun target kt => ?_⟩
  -- 4. STEPS
  show Steps p.tables e below (T0.setTop (mkF m 15 #[.val (.ref a1), .val (.int p2), .val (.double (FP.i2d x3)), .second, .unset, .unset] [])) _
  refine XS.aloadN X0.here hx rfl (hb hby d7_15) rfl rfl ?_
  show Steps p.tables e below (T0.setTop (mkF m 16 #[.val (.ref a1), .val (.int p2), .val (.double (FP.i2d x3)), .second, .unset, .unset] [(.ref a1)])) _
  refine st4 _ ?_
  show Steps p.tables e below (T4.setTop (mkF m 19 #[.val (.ref a1), .val (.int p2), .val (.double (FP.i2d x3)), .second, .unset, .unset] [(.int c_size)])) _
  refine XS.aloadN X4.here hx rfl (hb hby d7_19) rfl rfl ?_
  show Steps p.tables e below (T4.setTop (mkF m 20 #[.val (.ref a1), .val (.int p2), .val (.double (FP.i2d x3)), .second, .unset, .unset] [(.ref a1), (.int c_size)])) _
  refine st5 _ ?_
  show Steps p.tables e below (T5.setTop (mkF m 23 #[.val (.ref a1), .val (.int p2), .val (.double (FP.i2d x3)), .second, .unset, .unset] [(.ref c_distances), (.int c_size)])) _
  refine own_xlen X5 hx hZ e5 V_c_distances (g := (mkF m 23 #[.val (.ref a1), .val (.int p2), .val (.double (FP.i2d x3)), .second, .unset, .unset] [(.ref c_distances), (.int c_size)])) rfl rfl (hb hby d7_23) _ ?_
  show Steps p.tables e below (T5.setTop (mkF m 24 #[.val (.ref a1), .val (.int p2), .val (.double (FP.i2d x3)), .second, .unset, .unset] [(.int zl), (.int c_size)])) _
  refine XS.icmpNo X5.here hx rfl (hb hby d7_24) rfl (teq hc24).2 ?_
  show Steps p.tables e below (T5.setTop (mkF m 27 #[.val (.ref a1), .val (.int p2), .val (.double (FP.i2d x3)), .second, .unset, .unset] [])) _
  refine XS.aloadN X5.here hx rfl (hb hby d7_27) rfl rfl ?_
  show Steps p.tables e below (T5.setTop (mkF m 28 #[.val (.ref a1), .val (.int p2), .val (.double (FP.i2d x3)), .second, .unset, .unset] [(.ref a1)])) _
  refine XS.aloadN X5.here hx rfl (hb hby d7_28) rfl rfl ?_
  show Steps p.tables e below (T5.setTop (mkF m 29 #[.val (.ref a1), .val (.int p2), .val (.double (FP.i2d x3)), .second, .unset, .unset] [(.ref a1), (.ref a1)])) _
  refine st6 _ ?_
  show Steps p.tables e below (T6.setTop (mkF m 32 #[.val (.ref a1), .val (.int p2), .val (.double (FP.i2d x3)), .second, .unset, .unset] [(.ref c_distances), (.ref a1)])) _
  refine XS.iconst X6.here hx rfl (hb hby d7_32) ?_
  show Steps p.tables e below (T6.setTop (mkF m 33 #[.val (.ref a1), .val (.int p2), .val (.double (FP.i2d x3)), .second, .unset, .unset] [(.int (1 : Int32)), (.ref c_distances), (.ref a1)])) _
  refine XS.iconst X6.here hx rfl (hb hby d7_33) ?_
  show Steps p.tables e below (T6.setTop (mkF m 34 #[.val (.ref a1), .val (.int p2), .val (.double (FP.i2d x3)), .second, .unset, .unset] [(.int (2 : Int32)), (.int (1 : Int32)), (.ref c_distances), (.ref a1)])) _
  refine XS.aloadN X6.here hx rfl (hb hby d7_34) rfl rfl ?_
  show Steps p.tables e below (T6.setTop (mkF m 35 #[.val (.ref a1), .val (.int p2), .val (.double (FP.i2d x3)), .second, .unset, .unset] [(.ref a1), (.int (2 : Int32)), (.int (1 : Int32)), (.ref c_distances), (.ref a1)])) _
  refine st7 _ ?_
  show Steps p.tables e below (T7.setTop (mkF m 38 #[.val (.ref a1), .val (.int p2), .val (.double (FP.i2d x3)), .second, .unset, .unset] [(.int c_size), (.int (2 : Int32)), (.int (1 : Int32)), (.ref c_distances), (.ref a1)])) _
  refine XS.imul X7.here hx rfl (hb hby d7_38) rfl ?_
  show Steps p.tables e below (T7.setTop (mkF m 39 #[.val (.ref a1), .val (.int p2), .val (.double (FP.i2d x3)), .second, .unset, .unset] [(.int ((2 : Int32) * c_size)), (.int (1 : Int32)), (.ref c_distances), (.ref a1)])) _
  refine st8 _ ?_
  show Steps p.tables e below (T8.setTop (mkF m 42 #[.val (.ref a1), .val (.int p2), .val (.double (FP.i2d x3)), .second, .unset, .unset] [(.int (own_max (1 : Int32) ((2 : Int32) * c_size))), (.ref c_distances), (.ref a1)])) _
  refine st9 _ ?_
  show Steps p.tables e below (T9.setTop (mkF m 45 #[.val (.ref a1), .val (.int p2), .val (.double (FP.i2d x3)), .second, .unset, .unset] [(.ref b42), (.ref a1)])) _
  refine st10 _ ?_
  show Steps p.tables e below (T10.setTop (mkF m 48 #[.val (.ref a1), .val (.int p2), .val (.double (FP.i2d x3)), .second, .unset, .unset] [])) _
  refine XS.aloadN X10.here hx rfl (hb hby d7_48) rfl rfl ?_
  show Steps p.tables e below (T10.setTop (mkF m 49 #[.val (.ref a1), .val (.int p2), .val (.double (FP.i2d x3)), .second, .unset, .unset] [(.ref a1)])) _
  refine XS.aloadN X10.here hx rfl (hb hby d7_49) rfl rfl ?_
  show Steps p.tables e below (T10.setTop (mkF m 50 #[.val (.ref a1), .val (.int p2), .val (.double (FP.i2d x3)), .second, .unset, .unset] [(.ref a1), (.ref a1)])) _
  refine st11 _ ?_
  show Steps p.tables e below (T11.setTop (mkF m 53 #[.val (.ref a1), .val (.int p2), .val (.double (FP.i2d x3)), .second, .unset, .unset] [(.ref c_indexes), (.ref a1)])) _
  refine XS.aloadN X11.here hx rfl (hb hby d7_53) rfl rfl ?_
  show Steps p.tables e below (T11.setTop (mkF m 54 #[.val (.ref a1), .val (.int p2), .val (.double (FP.i2d x3)), .second, .unset, .unset] [(.ref a1), (.ref c_indexes), (.ref a1)])) _
  refine st12 _ ?_
  show Steps p.tables e below (T12.setTop (mkF m 57 #[.val (.ref a1), .val (.int p2), .val (.double (FP.i2d x3)), .second, .unset, .unset] [(.ref b42), (.ref c_indexes), (.ref a1)])) _
  refine own_xlen X12 hx hZ e12 (V_b42.other W10 (Ne.symm (Nat.ne_of_lt (Nat.lt_of_lt_of_le F_k_a1.lt (Nat.le_of_eq g9.symm))))) (g := (mkF m 57 #[.val (.ref a1), .val (.int p2), .val (.double (FP.i2d x3)), .second, .unset, .unset] [(.ref b42), (.ref c_indexes), (.ref a1)])) rfl rfl (hb hby d7_57) _ ?_
  show Steps p.tables e below (T12.setTop (mkF m 58 #[.val (.ref a1), .val (.int p2), .val (.double (FP.i2d x3)), .second, .unset, .unset] [(.int (own_max (1 : Int32) ((2 : Int32) * c_size))), (.ref c_indexes), (.ref a1)])) _
  refine st13 _ ?_
  show Steps p.tables e below (T13.setTop (mkF m 61 #[.val (.ref a1), .val (.int p2), .val (.double (FP.i2d x3)), .second, .unset, .unset] [(.ref b58), (.ref a1)])) _
  refine st14 _ ?_
  exact kt
theorem d7_64 : decode prog_24_method_2_code 64 = .ok (.aload_n 0, 1) := by decide +kernel
theorem d7_65 : decode prog_24_method_2_code 65 = .ok (.dup, 1) := by decide +kernel
theorem d7_66 : decode prog_24_method_2_code 66 = .ok (.getfield 36, 3) := by decide +kernel
theorem d7_69 : decode prog_24_method_2_code 69 = .ok (.dup_x1, 1) := by decide +kernel
theorem d7_70 : decode prog_24_method_2_code 70 = .ok (.iconst 1, 1) := by decide +kernel
theorem d7_71 : decode prog_24_method_2_code 71 = .ok (.iadd, 1) := by decide +kernel
theorem d7_72 : decode prog_24_method_2_code 72 = .ok (.putfield 36, 3) := by decide +kernel
theorem d7_75 : decode prog_24_method_2_code 75 = .ok (.istore 4, 2) := by decide +kernel
set_option maxRecDepth 65536 in
set_option maxHeartbeats 40000000 in
theorem own_oS {p : Program} {l : Launch} {e : Env} {s : State} {m : MethodId} {args : Array Value} {below : List Frame} {meth : Method} {c : Code} {T0 : State} {locs : List Loc} {Z : State} {a0 : Array Value} {h0 : Heap} {n0 : Nat} (a1 : Addr) (p2 : Int32) (x3 : Int32) (zl : Int32) (XL : List Int32) (IL : List Int32) (c_k : Int32) (c_size : Int32) (c_distances : Addr) (c_indexes : Addr)
    (X0 : Stand p l e ({ frames := 5, cells := 2, slots := 12, locals := 160 } : Room) s m args below meth c T0 locs 2 12) (hx : p.tables.exec = Jvm.exec) (hZ : Z.Warmed39 s.vm) (hw : ∀ d ∈ tables_1, d.before a0 Z = true) (hby : c.code = prog_24_method_2_code) (hml : c.maxLocals = 6) (hown : s.vm.findClass "com/example/triangulum/triangulum/search/Shortlist" = some m.cls) (e0 : T0.heap = h0) (N0 : Fr n0 locs) (Z0 : n0 ≤ h0.size) (S0 : own_S Z n0 h0 a1 c_distances c_indexes c_k c_size zl XL IL) :
    ∃ (T' : State) (h' : Heap) (locs' : List Loc), Stand p l e ({ frames := 5, cells := 2, slots := 12, locals := 160 } : Room) s m args below meth c T' locs' 2 12 ∧ T'.heap = h' ∧ Fr n0 locs' ∧ h0.size ≤ h'.size ∧ own_S Z n0 h' a1 c_distances c_indexes c_k (c_size + (1 : Int32)) zl XL IL ∧
      ∀ target, Steps p.tables e below (T'.setTop (mkF m 77 #[.val (.ref a1), .val (.int p2), .val (.double (FP.i2d x3)), .second, .val (.int c_size), .unset] [])) target → Steps p.tables e below (T0.setTop (mkF m 64 #[.val (.ref a1), .val (.int p2), .val (.double (FP.i2d x3)), .second, .unset, .unset] [])) target := by
  obtain ⟨E_a1, F_k_a1, F_size_a1, F_distances_a1, F_indexes_a1, V_c_distances, V_c_indexes, g_a1, g_c_distances, g_c_indexes, had, hai, hdi⟩ := S0
  obtain ⟨T4, X4, e4, st4⟩ := getF X0 hx hZ hown (host := "") (Or.inl (hw _ (List.mem_of_getElem? (i := 26) rfl))) Via.refl e0 F_size_a1 (g := (mkF m 66 #[.val (.ref a1), .val (.int p2), .val (.double (FP.i2d x3)), .second, .unset, .unset] [(.ref a1), (.ref a1)])) rfl rfl (hb hby d7_66)
  obtain ⟨T5, h5, X5, e5, W5, st5⟩ := putF X4 hx hZ hown (host := "") (Or.inl (hw _ (List.mem_of_getElem? (i := 26) rfl))) Via.refl e4 F_size_a1 E_a1 (Or.inl (hw _ (List.mem_of_getElem? (i := 27) rfl))) (hw _ (List.mem_of_getElem? (i := 1) rfl)) (ty := .int) (by decide) rfl rfl (g := (mkF m 72 #[.val (.ref a1), .val (.int p2), .val (.double (FP.i2d x3)), .second, .unset, .unset] [(.int (c_size + (1 : Int32))), (.ref a1), (.int c_size)])) rfl rfl (hb hby d7_72)
  have Fw5 := F_size_a1.same W5      -- the field now holds (.int (c_size + (1 : Int32)))
  have K5 : Keep h0 h5 [a1] := (Keep.refl h0 [a1]).wr W5 (Or.inl (List.mem_of_getElem? (i := 0) rfl))
  have N5 := Fr.snoc X5 N0 g_a1
  refine ⟨T5, _, _, X5, e5, N5, (Nat.le_trans (Nat.le_refl _) (Keep.of_wr W5).1), ⟨(E_a1.wr W5), (F_k_a1.other W5 (Or.inr (slot_ne (Or.inr (hw _ (List.mem_of_getElem? (i := 10) rfl))) (Or.inl (hw _ (List.mem_of_getElem? (i := 27) rfl))) (by decide) (t := .int) (t' := .int) (by decide) (by decide)))), Fw5, (F_distances_a1.other W5 (Or.inr (slot_ne (Or.inl (hw _ (List.mem_of_getElem? (i := 17) rfl))) (Or.inl (hw _ (List.mem_of_getElem? (i := 27) rfl))) (by decide) (t := (.array .double)) (t' := .int) (by decide) (by decide)))), (F_indexes_a1.other W5 (Or.inr (slot_ne (Or.inl (hw _ (List.mem_of_getElem? (i := 20) rfl))) (Or.inl (hw _ (List.mem_of_getElem? (i := 27) rfl))) (by decide) (t := (.array .int)) (t' := .int) (by decide) (by decide)))), (V_c_distances.other W5 (Ne.symm had)), (V_c_indexes.other W5 (Ne.symm hai)), g_a1, g_c_distances, g_c_indexes, had, hai, hdi⟩, fun target kt => ?_⟩
  -- 4. STEPS
  show Steps p.tables e below (T0.setTop (mkF m 64 #[.val (.ref a1), .val (.int p2), .val (.double (FP.i2d x3)), .second, .unset, .unset] [])) _
  refine XS.aloadN X0.here hx rfl (hb hby d7_64) rfl rfl ?_
  show Steps p.tables e below (T0.setTop (mkF m 65 #[.val (.ref a1), .val (.int p2), .val (.double (FP.i2d x3)), .second, .unset, .unset] [(.ref a1)])) _
  refine XS.dup X0.here hx rfl (hb hby d7_65) rfl rfl ?_
  show Steps p.tables e below (T0.setTop (mkF m 66 #[.val (.ref a1), .val (.int p2), .val (.double (FP.i2d x3)), .second, .unset, .unset] [(.ref a1), (.ref a1)])) _
  refine st4 _ ?_
  show Steps p.tables e below (T4.setTop (mkF m 69 #[.val (.ref a1), .val (.int p2), .val (.double (FP.i2d x3)), .second, .unset, .unset] [(.int c_size), (.ref a1)])) _
  refine XS.dupX1 X4.here hx rfl (hb hby d7_69) rfl rfl rfl ?_
  show Steps p.tables e below (T4.setTop (mkF m 70 #[.val (.ref a1), .val (.int p2), .val (.double (FP.i2d x3)), .second, .unset, .unset] [(.int c_size), (.ref a1), (.int c_size)])) _
  refine XS.iconst X4.here hx rfl (hb hby d7_70) ?_
  show Steps p.tables e below (T4.setTop (mkF m 71 #[.val (.ref a1), .val (.int p2), .val (.double (FP.i2d x3)), .second, .unset, .unset] [(.int (1 : Int32)), (.int c_size), (.ref a1), (.int c_size)])) _
  refine XS.iadd X4.here hx rfl (hb hby d7_71) rfl ?_
  show Steps p.tables e below (T4.setTop (mkF m 72 #[.val (.ref a1), .val (.int p2), .val (.double (FP.i2d x3)), .second, .unset, .unset] [(.int (c_size + (1 : Int32))), (.ref a1), (.int c_size)])) _
  refine st5 _ ?_
  show Steps p.tables e below (T5.setTop (mkF m 75 #[.val (.ref a1), .val (.int p2), .val (.double (FP.i2d x3)), .second, .unset, .unset] [(.int c_size)])) _
  refine XS.istore X5.here hx rfl (hb hby d7_75) rfl (l' := #[.val (.ref a1), .val (.int p2), .val (.double (FP.i2d x3)), .second, .val (.int c_size), .unset]) rfl ?_
  exact kt
theorem d7_77 : decode prog_24_method_2_code 77 = .ok (.iload 4, 2) := by decide +kernel
theorem d7_79 : decode prog_24_method_2_code 79 = .ok (.ifCond .le 57, 3) := by decide +kernel
set_option maxRecDepth 65536 in
set_option maxHeartbeats 40000000 in
theorem own_oU1 {p : Program} {l : Launch} {e : Env} {s : State} {m : MethodId} {args : Array Value} {below : List Frame} {meth : Method} {c : Code} {T0 : State} {locs : List Loc} {Z : State} {a0 : Array Value} {h0 : Heap} {n0 : Nat} (a1 : Addr) (p2 : Int32) (x3 : Int32) (sl : Int32) (zl : Int32) (XL : List Int32) (IL : List Int32) (c_k : Int32) (c_size : Int32) (c_distances : Addr) (c_indexes : Addr)
    (X0 : Stand p l e ({ frames := 5, cells := 2, slots := 12, locals := 160 } : Room) s m args below meth c T0 locs 2 12) (hx : p.tables.exec = Jvm.exec) (hZ : Z.Warmed39 s.vm) (hw : ∀ d ∈ tables_1, d.before a0 Z = true) (hby : c.code = prog_24_method_2_code) (hml : c.maxLocals = 6) (hown : s.vm.findClass "com/example/triangulum/triangulum/search/Shortlist" = some m.cls) (e0 : T0.heap = h0) (N0 : Fr n0 locs) (Z0 : n0 ≤ h0.size) (S0 : own_S Z n0 h0 a1 c_distances c_indexes c_k c_size zl XL IL) (hc79 : ¬ ((0 : Int32) < sl)) :
    ∃ (T' : State) (h' : Heap) (locs' : List Loc), Stand p l e ({ frames := 5, cells := 2, slots := 12, locals := 160 } : Room) s m args below meth c T' locs' 2 12 ∧ T'.heap = h' ∧ Fr n0 locs' ∧ h0.size ≤ h'.size ∧ own_S Z n0 h' a1 c_distances c_indexes c_k c_size zl XL IL ∧
      ∀ target, Steps p.tables e below (T'.setTop (mkF m 136 #[.val (.ref a1), .val (.int p2), .val (.double (FP.i2d x3)), .second, .val (.int sl), .unset] [])) target → Steps p.tables e below (T0.setTop (mkF m 77 #[.val (.ref a1), .val (.int p2), .val (.double (FP.i2d x3)), .second, .val (.int sl), .unset] [])) target := by
  obtain ⟨E_a1, F_k_a1, F_size_a1, F_distances_a1, F_indexes_a1, V_c_distances, V_c_indexes, g_a1, g_c_distances, g_c_indexes, had, hai, hdi⟩ := S0

  refine ⟨T0, _, _, X0, e0, N0, (Nat.le_refl _), ⟨E_a1, F_k_a1, F_size_a1, F_distances_a1, F_indexes_a1, V_c_distances, V_c_indexes, g_a1, g_c_distances, g_c_indexes, had, hai, hdi⟩, fun target kt => ?_⟩
  -- 4. STEPS
  show Steps p.tables e below (T0.setTop (mkF m 77 #[.val (.ref a1), .val (.int p2), .val (.double (FP.i2d x3)), .second, .val (.int sl), .unset] [])) _
  refine XS.iload X0.here hx rfl (hb hby d7_77) rfl ?_
  show Steps p.tables e below (T0.setTop (mkF m 79 #[.val (.ref a1), .val (.int p2), .val (.double (FP.i2d x3)), .second, .val (.int sl), .unset] [(.int sl)])) _
  refine XS.ifYes X0.here hx rfl (pc0 := 79) (pc' := 136) rfl (hb hby d7_79) rfl ((if0 _ _).trans (flt hc79).2.2.2) (by decide) (by decide) ?_
  exact kt
theorem d7_82 : decode prog_24_method_2_code 82 = .ok (.aload_n 0, 1) := by decide +kernel
theorem d7_83 : decode prog_24_method_2_code 83 = .ok (.dload_n 2, 1) := by decide +kernel
theorem d7_84 : decode prog_24_method_2_code 84 = .ok (.iload_n 1, 1) := by decide +kernel
theorem d7_85 : decode prog_24_method_2_code 85 = .ok (.iload 4, 2) := by decide +kernel
theorem d7_87 : decode prog_24_method_2_code 87 = .ok (.iconst 1, 1) := by decide +kernel
theorem d7_88 : decode prog_24_method_2_code 88 = .ok (.isub, 1) := by decide +kernel
theorem d7_89 : decode prog_24_method_2_code 89 = .ok (.iconst 2, 1) := by decide +kernel
theorem d7_90 : decode prog_24_method_2_code 90 = .ok (.idiv, 1) := by decide +kernel
theorem d7_91 : decode prog_24_method_2_code 91 = .ok (.invokevirtual 51, 3) := by decide +kernel
theorem d7_94 : decode prog_24_method_2_code 94 = .ok (.ifCond .eq 42, 3) := by decide +kernel
set_option maxRecDepth 65536 in
set_option maxHeartbeats 40000000 in
theorem own_oU2 {p : Program} {l : Launch} {e : Env} {s : State} {m : MethodId} {args : Array Value} {below : List Frame} {meth : Method} {c : Code} {T0 : State} {locs : List Loc} {Z : State} {a0 : Array Value} {h0 : Heap} {n0 : Nat} (a1 : Addr) (p2 : Int32) (x3 : Int32) (sl : Int32) (zl : Int32) (XL : List Int32) (IL : List Int32) (c_k : Int32) (c_size : Int32) (c_distances : Addr) (c_indexes : Addr)
    (X0 : Stand p l e ({ frames := 5, cells := 2, slots := 12, locals := 160 } : Room) s m args below meth c T0 locs 2 12) (hx : p.tables.exec = Jvm.exec) (hZ : Z.Warmed39 s.vm) (hw : ∀ d ∈ tables_1, d.before a0 Z = true) (hby : c.code = prog_24_method_2_code) (hml : c.maxLocals = 6) (hown : s.vm.findClass "com/example/triangulum/triangulum/search/Shortlist" = some m.cls) (e0 : T0.heap = h0) (N0 : Fr n0 locs) (Z0 : n0 ≤ h0.size) (S0 : own_S Z n0 h0 a1 c_distances c_indexes c_k c_size zl XL IL) (hc79 : (0 : Int32) < sl) (hj91 : ¬ ((sl - (1 : Int32)) / (2 : Int32)) < 0 ∧ ((sl - (1 : Int32)) / (2 : Int32)) < zl) (hc94 : (own_worse x3 p2 (XL.getD (((sl - (1 : Int32)) / (2 : Int32))).toNatClampNeg 0) (IL.getD (((sl - (1 : Int32)) / (2 : Int32))).toNatClampNeg 0)) = (0 : Int32)) :
    ∃ (T' : State) (h' : Heap) (locs' : List Loc), Stand p l e ({ frames := 5, cells := 2, slots := 12, locals := 160 } : Room) s m args below meth c T' locs' 2 12 ∧ T'.heap = h' ∧ Fr n0 locs' ∧ h0.size ≤ h'.size ∧ own_S Z n0 h' a1 c_distances c_indexes c_k c_size zl XL IL ∧
      ∀ target, Steps p.tables e below (T'.setTop (mkF m 136 #[.val (.ref a1), .val (.int p2), .val (.double (FP.i2d x3)), .second, .val (.int sl), .unset] [])) target → Steps p.tables e below (T0.setTop (mkF m 77 #[.val (.ref a1), .val (.int p2), .val (.double (FP.i2d x3)), .second, .val (.int sl), .unset] [])) target := by
  obtain ⟨E_a1, F_k_a1, F_size_a1, F_distances_a1, F_indexes_a1, V_c_distances, V_c_indexes, g_a1, g_c_distances, g_c_indexes, had, hai, hdi⟩ := S0
  -- pc 91: com/example/triangulum/triangulum/search/Shortlist.worse
  obtain ⟨T4, X4, e4, st4⟩ := own_w3 X0 hx hZ hw hown (hw _ (List.mem_of_getElem? (i := 57) rfl)) (x := x3) (i := p2) E_a1 F_distances_a1 F_indexes_a1 V_c_distances V_c_indexes hj91 (W := 0) (g := (mkF m 91 #[.val (.ref a1), .val (.int p2), .val (.double (FP.i2d x3)), .second, .val (.int sl), .unset] [(.int ((sl - (1 : Int32)) / (2 : Int32))), (.int p2), (.double (FP.i2d x3)), (.ref a1)])) rfl (by rw [hml]; rfl) (rest := []) rfl (by show 2 * 0 + _ ≤ _; exact Nat.le_of_eq rfl) (hb hby d7_91) (by decide) (by decide) e0
  refine ⟨T4, _, _, X4, e4, N0, (Nat.le_refl _), ⟨E_a1, F_k_a1, F_size_a1, F_distances_a1, F_indexes_a1, V_c_distances, V_c_indexes, g_a1, g_c_distances, g_c_indexes, had, hai, hdi⟩, fun target kt => ?_⟩
  -- 4. STEPS
  show Steps p.tables e below (T0.setTop (mkF m 77 #[.val (.ref a1), .val (.int p2), .val (.double (FP.i2d x3)), .second, .val (.int sl), .unset] [])) _
  refine XS.iload X0.here hx rfl (hb hby d7_77) rfl ?_
  show Steps p.tables e below (T0.setTop (mkF m 79 #[.val (.ref a1), .val (.int p2), .val (.double (FP.i2d x3)), .second, .val (.int sl), .unset] [(.int sl)])) _
  refine XS.ifNo X0.here hx rfl (hb hby d7_79) rfl ((if0 _ _).trans (tlt hc79).2.2.2) ?_
  show Steps p.tables e below (T0.setTop (mkF m 82 #[.val (.ref a1), .val (.int p2), .val (.double (FP.i2d x3)), .second, .val (.int sl), .unset] [])) _
  refine XS.aloadN X0.here hx rfl (hb hby d7_82) rfl rfl ?_
  show Steps p.tables e below (T0.setTop (mkF m 83 #[.val (.ref a1), .val (.int p2), .val (.double (FP.i2d x3)), .second, .val (.int sl), .unset] [(.ref a1)])) _
  refine XS.dloadN X0.here hx rfl (hb hby d7_83) rfl ?_
  show Steps p.tables e below (T0.setTop (mkF m 84 #[.val (.ref a1), .val (.int p2), .val (.double (FP.i2d x3)), .second, .val (.int sl), .unset] [(.double (FP.i2d x3)), (.ref a1)])) _
  refine XS.iloadN X0.here hx rfl (hb hby d7_84) rfl ?_
  show Steps p.tables e below (T0.setTop (mkF m 85 #[.val (.ref a1), .val (.int p2), .val (.double (FP.i2d x3)), .second, .val (.int sl), .unset] [(.int p2), (.double (FP.i2d x3)), (.ref a1)])) _
  refine XS.iload X0.here hx rfl (hb hby d7_85) rfl ?_
  show Steps p.tables e below (T0.setTop (mkF m 87 #[.val (.ref a1), .val (.int p2), .val (.double (FP.i2d x3)), .second, .val (.int sl), .unset] [(.int sl), (.int p2), (.double (FP.i2d x3)), (.ref a1)])) _
  refine XS.iconst X0.here hx rfl (hb hby d7_87) ?_
  show Steps p.tables e below (T0.setTop (mkF m 88 #[.val (.ref a1), .val (.int p2), .val (.double (FP.i2d x3)), .second, .val (.int sl), .unset] [(.int (1 : Int32)), (.int sl), (.int p2), (.double (FP.i2d x3)), (.ref a1)])) _
  refine XS.isub X0.here hx rfl (hb hby d7_88) rfl ?_
  show Steps p.tables e below (T0.setTop (mkF m 89 #[.val (.ref a1), .val (.int p2), .val (.double (FP.i2d x3)), .second, .val (.int sl), .unset] [(.int (sl - (1 : Int32))), (.int p2), (.double (FP.i2d x3)), (.ref a1)])) _
  refine XS.iconst X0.here hx rfl (hb hby d7_89) ?_
  show Steps p.tables e below (T0.setTop (mkF m 90 #[.val (.ref a1), .val (.int p2), .val (.double (FP.i2d x3)), .second, .val (.int sl), .unset] [(.int (2 : Int32)), (.int (sl - (1 : Int32))), (.int p2), (.double (FP.i2d x3)), (.ref a1)])) _
  refine XS.idiv X0.here hx rfl (hb hby d7_90) rfl (by decide) ?_
  show Steps p.tables e below (T0.setTop (mkF m 91 #[.val (.ref a1), .val (.int p2), .val (.double (FP.i2d x3)), .second, .val (.int sl), .unset] [(.int ((sl - (1 : Int32)) / (2 : Int32))), (.int p2), (.double (FP.i2d x3)), (.ref a1)])) _
  refine st4 _ ?_
  show Steps p.tables e below (T4.setTop (mkF m 94 #[.val (.ref a1), .val (.int p2), .val (.double (FP.i2d x3)), .second, .val (.int sl), .unset] [(.int (own_worse x3 p2 (XL.getD (((sl - (1 : Int32)) / (2 : Int32))).toNatClampNeg 0) (IL.getD (((sl - (1 : Int32)) / (2 : Int32))).toNatClampNeg 0)))])) _
  refine XS.ifYes X4.here hx rfl (pc0 := 94) (pc' := 136) rfl (hb hby d7_94) rfl ((if0 _ _).trans (teq hc94).1) (by decide) (by decide) ?_
  exact kt
theorem d7_97 : decode prog_24_method_2_code 97 = .ok (.aload_n 0, 1) := by decide +kernel
theorem d7_98 : decode prog_24_method_2_code 98 = .ok (.iload 4, 2) := by decide +kernel
theorem d7_100 : decode prog_24_method_2_code 100 = .ok (.aload_n 0, 1) := by decide +kernel
theorem d7_101 : decode prog_24_method_2_code 101 = .ok (.getfield 28, 3) := by decide +kernel
theorem d7_104 : decode prog_24_method_2_code 104 = .ok (.iload 4, 2) := by decide +kernel
theorem d7_106 : decode prog_24_method_2_code 106 = .ok (.iconst 1, 1) := by decide +kernel
theorem d7_107 : decode prog_24_method_2_code 107 = .ok (.isub, 1) := by decide +kernel
theorem d7_108 : decode prog_24_method_2_code 108 = .ok (.iconst 2, 1) := by decide +kernel
theorem d7_109 : decode prog_24_method_2_code 109 = .ok (.idiv, 1) := by decide +kernel
theorem d7_110 : decode prog_24_method_2_code 110 = .ok (.daload, 1) := by decide +kernel
theorem d7_111 : decode prog_24_method_2_code 111 = .ok (.aload_n 0, 1) := by decide +kernel
theorem d7_112 : decode prog_24_method_2_code 112 = .ok (.getfield 32, 3) := by decide +kernel
theorem d7_115 : decode prog_24_method_2_code 115 = .ok (.iload 4, 2) := by decide +kernel
theorem d7_117 : decode prog_24_method_2_code 117 = .ok (.iconst 1, 1) := by decide +kernel
theorem d7_118 : decode prog_24_method_2_code 118 = .ok (.isub, 1) := by decide +kernel
theorem d7_119 : decode prog_24_method_2_code 119 = .ok (.iconst 2, 1) := by decide +kernel
theorem d7_120 : decode prog_24_method_2_code 120 = .ok (.idiv, 1) := by decide +kernel
theorem d7_121 : decode prog_24_method_2_code 121 = .ok (.iaload, 1) := by decide +kernel
theorem d7_122 : decode prog_24_method_2_code 122 = .ok (.invokevirtual 55, 3) := by decide +kernel
theorem d7_125 : decode prog_24_method_2_code 125 = .ok (.iload 4, 2) := by decide +kernel
theorem d7_127 : decode prog_24_method_2_code 127 = .ok (.iconst 1, 1) := by decide +kernel
theorem d7_128 : decode prog_24_method_2_code 128 = .ok (.isub, 1) := by decide +kernel
theorem d7_129 : decode prog_24_method_2_code 129 = .ok (.iconst 2, 1) := by decide +kernel
theorem d7_130 : decode prog_24_method_2_code 130 = .ok (.idiv, 1) := by decide +kernel
theorem d7_131 : decode prog_24_method_2_code 131 = .ok (.istore 4, 2) := by decide +kernel
theorem d7_133 : decode prog_24_method_2_code 133 = .ok (.goto (-56), 3) := by decide +kernel
set_option maxRecDepth 65536 in
set_option maxHeartbeats 40000000 in
theorem own_oU3 {p : Program} {l : Launch} {e : Env} {s : State} {m : MethodId} {args : Array Value} {below : List Frame} {meth : Method} {c : Code} {T0 : State} {locs : List Loc} {Z : State} {a0 : Array Value} {h0 : Heap} {n0 : Nat} (a1 : Addr) (p2 : Int32) (x3 : Int32) (sl : Int32) (zl : Int32) (XL : List Int32) (IL : List Int32) (c_k : Int32) (c_size : Int32) (c_distances : Addr) (c_indexes : Addr)
    (X0 : Stand p l e ({ frames := 5, cells := 2, slots := 12, locals := 160 } : Room) s m args below meth c T0 locs 2 12) (hx : p.tables.exec = Jvm.exec) (hZ : Z.Warmed39 s.vm) (hw : ∀ d ∈ tables_1, d.before a0 Z = true) (hby : c.code = prog_24_method_2_code) (hml : c.maxLocals = 6) (hown : s.vm.findClass "com/example/triangulum/triangulum/search/Shortlist" = some m.cls) (e0 : T0.heap = h0) (N0 : Fr n0 locs) (Z0 : n0 ≤ h0.size) (S0 : own_S Z n0 h0 a1 c_distances c_indexes c_k c_size zl XL IL) (hc79 : (0 : Int32) < sl) (hj91 : ¬ ((sl - (1 : Int32)) / (2 : Int32)) < 0 ∧ ((sl - (1 : Int32)) / (2 : Int32)) < zl) (hc94 : ¬ ((own_worse x3 p2 (XL.getD (((sl - (1 : Int32)) / (2 : Int32))).toNatClampNeg 0) (IL.getD (((sl - (1 : Int32)) / (2 : Int32))).toNatClampNeg 0)) = (0 : Int32))) (hj110 : ¬ ((sl - (1 : Int32)) / (2 : Int32)) < 0 ∧ ((sl - (1 : Int32)) / (2 : Int32)) < zl) (hj121 : ¬ ((sl - (1 : Int32)) / (2 : Int32)) < 0 ∧ ((sl - (1 : Int32)) / (2 : Int32)) < zl) (hj122 : ¬ sl < 0 ∧ sl < zl) (hlx122 : (sl).toNatClampNeg < XL.length) (hli122 : (sl).toNatClampNeg < IL.length) :
    ∃ (T' : State) (h' : Heap) (locs' : List Loc), Stand p l e ({ frames := 5, cells := 2, slots := 12, locals := 160 } : Room) s m args below meth c T' locs' 2 12 ∧ T'.heap = h' ∧ Fr n0 locs' ∧ h0.size ≤ h'.size ∧ own_S Z n0 h' a1 c_distances c_indexes c_k c_size zl (XL.set (sl).toNatClampNeg (XL.getD (((sl - (1 : Int32)) / (2 : Int32))).toNatClampNeg 0)) (IL.set (sl).toNatClampNeg (IL.getD (((sl - (1 : Int32)) / (2 : Int32))).toNatClampNeg 0)) ∧
      ∀ target, Steps p.tables e below (T'.setTop (mkF m 77 #[.val (.ref a1), .val (.int p2), .val (.double (FP.i2d x3)), .second, .val (.int ((sl - (1 : Int32)) / (2 : Int32))), .unset] [])) target → Steps p.tables e below (T0.setTop (mkF m 77 #[.val (.ref a1), .val (.int p2), .val (.double (FP.i2d x3)), .second, .val (.int sl), .unset] [])) target := by
  obtain ⟨E_a1, F_k_a1, F_size_a1, F_distances_a1, F_indexes_a1, V_c_distances, V_c_indexes, g_a1, g_c_distances, g_c_indexes, had, hai, hdi⟩ := S0
  -- pc 91: com/example/triangulum/triangulum/search/Shortlist.worse
  obtain ⟨T4, X4, e4, st4⟩ := own_w3 X0 hx hZ hw hown (hw _ (List.mem_of_getElem? (i := 57) rfl)) (x := x3) (i := p2) E_a1 F_distances_a1 F_indexes_a1 V_c_distances V_c_indexes hj91 (W := 0) (g := (mkF m 91 #[.val (.ref a1), .val (.int p2), .val (.double (FP.i2d x3)), .second, .val (.int sl), .unset] [(.int ((sl - (1 : Int32)) / (2 : Int32))), (.int p2), (.double (FP.i2d x3)), (.ref a1)])) rfl (by rw [hml]; rfl) (rest := []) rfl (by show 2 * 0 + _ ≤ _; exact Nat.le_of_eq rfl) (hb hby d7_91) (by decide) (by decide) e0
  obtain ⟨T5, X5, e5, st5⟩ := getF X4 hx hZ hown (host := "") (Or.inl (hw _ (List.mem_of_getElem? (i := 16) rfl))) Via.refl e4 F_distances_a1 (g := (mkF m 101 #[.val (.ref a1), .val (.int p2), .val (.double (FP.i2d x3)), .second, .val (.int sl), .unset] [(.ref a1), (.int sl), (.ref a1)])) rfl rfl (hb hby d7_101)
  obtain ⟨T6, X6, e6, st6⟩ := getF X5 hx hZ hown (host := "") (Or.inl (hw _ (List.mem_of_getElem? (i := 19) rfl))) Via.refl e5 F_indexes_a1 (g := (mkF m 112 #[.val (.ref a1), .val (.int p2), .val (.double (FP.i2d x3)), .second, .val (.int sl), .unset] [(.ref a1), (.double (FP.i2d (XL.getD (((sl - (1 : Int32)) / (2 : Int32))).toNatClampNeg 0))), (.int sl), (.ref a1)])) rfl rfl (hb hby d7_112)
  -- pc 122: com/example/triangulum/triangulum/search/Shortlist.put
  obtain ⟨T7, h7, L7, X7, e7, N7, ⟨Kc7, Vx7, Vi7⟩, st7⟩ := own_put X6 hx hZ hw hown (hw _ (List.mem_of_getElem? (i := 42) rfl)) E_a1 F_distances_a1 F_indexes_a1 V_c_distances V_c_indexes hdi had hai g_c_distances g_c_indexes N0 hj122 hlx122 hli122 (W := 0) (g := (mkF m 122 #[.val (.ref a1), .val (.int p2), .val (.double (FP.i2d x3)), .second, .val (.int sl), .unset] [(.int (IL.getD (((sl - (1 : Int32)) / (2 : Int32))).toNatClampNeg 0)), (.double (FP.i2d (XL.getD (((sl - (1 : Int32)) / (2 : Int32))).toNatClampNeg 0))), (.int sl), (.ref a1)])) rfl (by rw [hml]; rfl) (rest := []) rfl (by show 2 * 0 + _ ≤ _; exact Nat.le_of_eq rfl) (hb hby d7_122) (by decide) (by decide) e6
  refine ⟨T7, _, _, X7, e7, N7, (Nat.le_trans (Nat.le_refl _) Kc7.1), ⟨(E_a1.keep Kc7), (F_k_a1.keep Kc7 (ninS had (ninS hai nin0))), (F_size_a1.keep Kc7 (ninS had (ninS hai nin0))), (F_distances_a1.keep Kc7 (ninS had (ninS hai nin0))), (F_indexes_a1.keep Kc7 (ninS had (ninS hai nin0))), Vx7, Vi7, g_a1, g_c_distances, g_c_indexes, had, hai, hdi⟩, fun target kt => ?_⟩
  -- 4. STEPS
  show Steps p.tables e below (T0.setTop (mkF m 77 #[.val (.ref a1), .val (.int p2), .val (.double (FP.i2d x3)), .second, .val (.int sl), .unset] [])) _
  refine XS.iload X0.here hx rfl (hb hby d7_77) rfl ?_
  show Steps p.tables e below (T0.setTop (mkF m 79 #[.val (.ref a1), .val (.int p2), .val (.double (FP.i2d x3)), .second, .val (.int sl), .unset] [(.int sl)])) _
  refine XS.ifNo X0.here hx rfl (hb hby d7_79) rfl ((if0 _ _).trans (tlt hc79).2.2.2) ?_
  show Steps p.tables e below (T0.setTop (mkF m 82 #[.val (.ref a1), .val (.int p2), .val (.double (FP.i2d x3)), .second, .val (.int sl), .unset] [])) _
  refine XS.aloadN X0.here hx rfl (hb hby d7_82) rfl rfl ?_
  show Steps p.tables e below (T0.setTop (mkF m 83 #[.val (.ref a1), .val (.int p2), .val (.double (FP.i2d x3)), .second, .val (.int sl), .unset] [(.ref a1)])) _
  refine XS.dloadN X0.here hx rfl (hb hby d7_83) rfl ?_
  show Steps p.tables e below (T0.setTop (mkF m 84 #[.val (.ref a1), .val (.int p2), .val (.double (FP.i2d x3)), .second, .val (.int sl), .unset] [(.double (FP.i2d x3)), (.ref a1)])) _
  refine XS.iloadN X0.here hx rfl (hb hby d7_84) rfl ?_
  show Steps p.tables e below (T0.setTop (mkF m 85 #[.val (.ref a1), .val (.int p2), .val (.double (FP.i2d x3)), .second, .val (.int sl), .unset] [(.int p2), (.double (FP.i2d x3)), (.ref a1)])) _
  refine XS.iload X0.here hx rfl (hb hby d7_85) rfl ?_
  show Steps p.tables e below (T0.setTop (mkF m 87 #[.val (.ref a1), .val (.int p2), .val (.double (FP.i2d x3)), .second, .val (.int sl), .unset] [(.int sl), (.int p2), (.double (FP.i2d x3)), (.ref a1)])) _
  refine XS.iconst X0.here hx rfl (hb hby d7_87) ?_
  show Steps p.tables e below (T0.setTop (mkF m 88 #[.val (.ref a1), .val (.int p2), .val (.double (FP.i2d x3)), .second, .val (.int sl), .unset] [(.int (1 : Int32)), (.int sl), (.int p2), (.double (FP.i2d x3)), (.ref a1)])) _
  refine XS.isub X0.here hx rfl (hb hby d7_88) rfl ?_
  show Steps p.tables e below (T0.setTop (mkF m 89 #[.val (.ref a1), .val (.int p2), .val (.double (FP.i2d x3)), .second, .val (.int sl), .unset] [(.int (sl - (1 : Int32))), (.int p2), (.double (FP.i2d x3)), (.ref a1)])) _
  refine XS.iconst X0.here hx rfl (hb hby d7_89) ?_
  show Steps p.tables e below (T0.setTop (mkF m 90 #[.val (.ref a1), .val (.int p2), .val (.double (FP.i2d x3)), .second, .val (.int sl), .unset] [(.int (2 : Int32)), (.int (sl - (1 : Int32))), (.int p2), (.double (FP.i2d x3)), (.ref a1)])) _
  refine XS.idiv X0.here hx rfl (hb hby d7_90) rfl (by decide) ?_
  show Steps p.tables e below (T0.setTop (mkF m 91 #[.val (.ref a1), .val (.int p2), .val (.double (FP.i2d x3)), .second, .val (.int sl), .unset] [(.int ((sl - (1 : Int32)) / (2 : Int32))), (.int p2), (.double (FP.i2d x3)), (.ref a1)])) _
  refine st4 _ ?_
  show Steps p.tables e below (T4.setTop (mkF m 94 #[.val (.ref a1), .val (.int p2), .val (.double (FP.i2d x3)), .second, .val (.int sl), .unset] [(.int (own_worse x3 p2 (XL.getD (((sl - (1 : Int32)) / (2 : Int32))).toNatClampNeg 0) (IL.getD (((sl - (1 : Int32)) / (2 : Int32))).toNatClampNeg 0)))])) _
  refine XS.ifNo X4.here hx rfl (hb hby d7_94) rfl ((if0 _ _).trans (feq hc94).1) ?_
  show Steps p.tables e below (T4.setTop (mkF m 97 #[.val (.ref a1), .val (.int p2), .val (.double (FP.i2d x3)), .second, .val (.int sl), .unset] [])) _
  refine XS.aloadN X4.here hx rfl (hb hby d7_97) rfl rfl ?_
  show Steps p.tables e below (T4.setTop (mkF m 98 #[.val (.ref a1), .val (.int p2), .val (.double (FP.i2d x3)), .second, .val (.int sl), .unset] [(.ref a1)])) _
  refine XS.iload X4.here hx rfl (hb hby d7_98) rfl ?_
  show Steps p.tables e below (T4.setTop (mkF m 100 #[.val (.ref a1), .val (.int p2), .val (.double (FP.i2d x3)), .second, .val (.int sl), .unset] [(.int sl), (.ref a1)])) _
  refine XS.aloadN X4.here hx rfl (hb hby d7_100) rfl rfl ?_
  show Steps p.tables e below (T4.setTop (mkF m 101 #[.val (.ref a1), .val (.int p2), .val (.double (FP.i2d x3)), .second, .val (.int sl), .unset] [(.ref a1), (.int sl), (.ref a1)])) _
  refine st5 _ ?_
  show Steps p.tables e below (T5.setTop (mkF m 104 #[.val (.ref a1), .val (.int p2), .val (.double (FP.i2d x3)), .second, .val (.int sl), .unset] [(.ref c_distances), (.int sl), (.ref a1)])) _
  refine XS.iload X5.here hx rfl (hb hby d7_104) rfl ?_
  show Steps p.tables e below (T5.setTop (mkF m 106 #[.val (.ref a1), .val (.int p2), .val (.double (FP.i2d x3)), .second, .val (.int sl), .unset] [(.int sl), (.ref c_distances), (.int sl), (.ref a1)])) _
  refine XS.iconst X5.here hx rfl (hb hby d7_106) ?_
  show Steps p.tables e below (T5.setTop (mkF m 107 #[.val (.ref a1), .val (.int p2), .val (.double (FP.i2d x3)), .second, .val (.int sl), .unset] [(.int (1 : Int32)), (.int sl), (.ref c_distances), (.int sl), (.ref a1)])) _
  refine XS.isub X5.here hx rfl (hb hby d7_107) rfl ?_
  show Steps p.tables e below (T5.setTop (mkF m 108 #[.val (.ref a1), .val (.int p2), .val (.double (FP.i2d x3)), .second, .val (.int sl), .unset] [(.int (sl - (1 : Int32))), (.ref c_distances), (.int sl), (.ref a1)])) _
  refine XS.iconst X5.here hx rfl (hb hby d7_108) ?_
  show Steps p.tables e below (T5.setTop (mkF m 109 #[.val (.ref a1), .val (.int p2), .val (.double (FP.i2d x3)), .second, .val (.int sl), .unset] [(.int (2 : Int32)), (.int (sl - (1 : Int32))), (.ref c_distances), (.int sl), (.ref a1)])) _
  refine XS.idiv X5.here hx rfl (hb hby d7_109) rfl (by decide) ?_
  show Steps p.tables e below (T5.setTop (mkF m 110 #[.val (.ref a1), .val (.int p2), .val (.double (FP.i2d x3)), .second, .val (.int sl), .unset] [(.int ((sl - (1 : Int32)) / (2 : Int32))), (.ref c_distances), (.int sl), (.ref a1)])) _
  refine own_xald X5 hx hZ e5 V_c_distances hj110 (g := (mkF m 110 #[.val (.ref a1), .val (.int p2), .val (.double (FP.i2d x3)), .second, .val (.int sl), .unset] [(.int ((sl - (1 : Int32)) / (2 : Int32))), (.ref c_distances), (.int sl), (.ref a1)])) rfl rfl (hb hby d7_110) _ ?_
  show Steps p.tables e below (T5.setTop (mkF m 111 #[.val (.ref a1), .val (.int p2), .val (.double (FP.i2d x3)), .second, .val (.int sl), .unset] [(.double (FP.i2d (XL.getD (((sl - (1 : Int32)) / (2 : Int32))).toNatClampNeg 0))), (.int sl), (.ref a1)])) _
  refine XS.aloadN X5.here hx rfl (hb hby d7_111) rfl rfl ?_
  show Steps p.tables e below (T5.setTop (mkF m 112 #[.val (.ref a1), .val (.int p2), .val (.double (FP.i2d x3)), .second, .val (.int sl), .unset] [(.ref a1), (.double (FP.i2d (XL.getD (((sl - (1 : Int32)) / (2 : Int32))).toNatClampNeg 0))), (.int sl), (.ref a1)])) _
  refine st6 _ ?_
  show Steps p.tables e below (T6.setTop (mkF m 115 #[.val (.ref a1), .val (.int p2), .val (.double (FP.i2d x3)), .second, .val (.int sl), .unset] [(.ref c_indexes), (.double (FP.i2d (XL.getD (((sl - (1 : Int32)) / (2 : Int32))).toNatClampNeg 0))), (.int sl), (.ref a1)])) _
  refine XS.iload X6.here hx rfl (hb hby d7_115) rfl ?_
  show Steps p.tables e below (T6.setTop (mkF m 117 #[.val (.ref a1), .val (.int p2), .val (.double (FP.i2d x3)), .second, .val (.int sl), .unset] [(.int sl), (.ref c_indexes), (.double (FP.i2d (XL.getD (((sl - (1 : Int32)) / (2 : Int32))).toNatClampNeg 0))), (.int sl), (.ref a1)])) _
  refine XS.iconst X6.here hx rfl (hb hby d7_117) ?_
  show Steps p.tables e below (T6.setTop (mkF m 118 #[.val (.ref a1), .val (.int p2), .val (.double (FP.i2d x3)), .second, .val (.int sl), .unset] [(.int (1 : Int32)), (.int sl), (.ref c_indexes), (.double (FP.i2d (XL.getD (((sl - (1 : Int32)) / (2 : Int32))).toNatClampNeg 0))), (.int sl), (.ref a1)])) _
  refine XS.isub X6.here hx rfl (hb hby d7_118) rfl ?_
  show Steps p.tables e below (T6.setTop (mkF m 119 #[.val (.ref a1), .val (.int p2), .val (.double (FP.i2d x3)), .second, .val (.int sl), .unset] [(.int (sl - (1 : Int32))), (.ref c_indexes), (.double (FP.i2d (XL.getD (((sl - (1 : Int32)) / (2 : Int32))).toNatClampNeg 0))), (.int sl), (.ref a1)])) _
  refine XS.iconst X6.here hx rfl (hb hby d7_119) ?_
  show Steps p.tables e below (T6.setTop (mkF m 120 #[.val (.ref a1), .val (.int p2), .val (.double (FP.i2d x3)), .second, .val (.int sl), .unset] [(.int (2 : Int32)), (.int (sl - (1 : Int32))), (.ref c_indexes), (.double (FP.i2d (XL.getD (((sl - (1 : Int32)) / (2 : Int32))).toNatClampNeg 0))), (.int sl), (.ref a1)])) _
  refine XS.idiv X6.here hx rfl (hb hby d7_120) rfl (by decide) ?_
  show Steps p.tables e below (T6.setTop (mkF m 121 #[.val (.ref a1), .val (.int p2), .val (.double (FP.i2d x3)), .second, .val (.int sl), .unset] [(.int ((sl - (1 : Int32)) / (2 : Int32))), (.ref c_indexes), (.double (FP.i2d (XL.getD (((sl - (1 : Int32)) / (2 : Int32))).toNatClampNeg 0))), (.int sl), (.ref a1)])) _
  refine own_iald X6 hx hZ e6 V_c_indexes hj121 (g := (mkF m 121 #[.val (.ref a1), .val (.int p2), .val (.double (FP.i2d x3)), .second, .val (.int sl), .unset] [(.int ((sl - (1 : Int32)) / (2 : Int32))), (.ref c_indexes), (.double (FP.i2d (XL.getD (((sl - (1 : Int32)) / (2 : Int32))).toNatClampNeg 0))), (.int sl), (.ref a1)])) rfl rfl (hb hby d7_121) _ ?_
  show Steps p.tables e below (T6.setTop (mkF m 122 #[.val (.ref a1), .val (.int p2), .val (.double (FP.i2d x3)), .second, .val (.int sl), .unset] [(.int (IL.getD (((sl - (1 : Int32)) / (2 : Int32))).toNatClampNeg 0)), (.double (FP.i2d (XL.getD (((sl - (1 : Int32)) / (2 : Int32))).toNatClampNeg 0))), (.int sl), (.ref a1)])) _
  refine st7 _ ?_
  show Steps p.tables e below (T7.setTop (mkF m 125 #[.val (.ref a1), .val (.int p2), .val (.double (FP.i2d x3)), .second, .val (.int sl), .unset] [])) _
  refine XS.iload X7.here hx rfl (hb hby d7_125) rfl ?_
  show Steps p.tables e below (T7.setTop (mkF m 127 #[.val (.ref a1), .val (.int p2), .val (.double (FP.i2d x3)), .second, .val (.int sl), .unset] [(.int sl)])) _
  refine XS.iconst X7.here hx rfl (hb hby d7_127) ?_
  show Steps p.tables e below (T7.setTop (mkF m 128 #[.val (.ref a1), .val (.int p2), .val (.double (FP.i2d x3)), .second, .val (.int sl), .unset] [(.int (1 : Int32)), (.int sl)])) _
  refine XS.isub X7.here hx rfl (hb hby d7_128) rfl ?_
  show Steps p.tables e below (T7.setTop (mkF m 129 #[.val (.ref a1), .val (.int p2), .val (.double (FP.i2d x3)), .second, .val (.int sl), .unset] [(.int (sl - (1 : Int32)))])) _
  refine XS.iconst X7.here hx rfl (hb hby d7_129) ?_
  show Steps p.tables e below (T7.setTop (mkF m 130 #[.val (.ref a1), .val (.int p2), .val (.double (FP.i2d x3)), .second, .val (.int sl), .unset] [(.int (2 : Int32)), (.int (sl - (1 : Int32)))])) _
  refine XS.idiv X7.here hx rfl (hb hby d7_130) rfl (by decide) ?_
  show Steps p.tables e below (T7.setTop (mkF m 131 #[.val (.ref a1), .val (.int p2), .val (.double (FP.i2d x3)), .second, .val (.int sl), .unset] [(.int ((sl - (1 : Int32)) / (2 : Int32)))])) _
  refine XS.istore X7.here hx rfl (hb hby d7_131) rfl (l' := #[.val (.ref a1), .val (.int p2), .val (.double (FP.i2d x3)), .second, .val (.int ((sl - (1 : Int32)) / (2 : Int32))), .unset]) rfl ?_
  show Steps p.tables e below (T7.setTop (mkF m 133 #[.val (.ref a1), .val (.int p2), .val (.double (FP.i2d x3)), .second, .val (.int ((sl - (1 : Int32)) / (2 : Int32))), .unset] [])) _
  refine XS.goto X7.here hx rfl (pc0 := 133) (pc' := 77) rfl (hb hby d7_133) (by decide) (by decide) ?_
  exact kt
theorem d7_136 : decode prog_24_method_2_code 136 = .ok (.aload_n 0, 1) := by decide +kernel
theorem d7_137 : decode prog_24_method_2_code 137 = .ok (.iload 4, 2) := by decide +kernel
theorem d7_139 : decode prog_24_method_2_code 139 = .ok (.dload_n 2, 1) := by decide +kernel
theorem d7_140 : decode prog_24_method_2_code 140 = .ok (.iload_n 1, 1) := by decide +kernel
theorem d7_141 : decode prog_24_method_2_code 141 = .ok (.invokevirtual 55, 3) := by decide +kernel
theorem d7_144 : decode prog_24_method_2_code 144 = .ok (.goto 147, 3) := by decide +kernel
set_option maxRecDepth 65536 in
set_option maxHeartbeats 40000000 in
theorem own_oP {p : Program} {l : Launch} {e : Env} {s : State} {m : MethodId} {args : Array Value} {below : List Frame} {meth : Method} {c : Code} {T0 : State} {locs : List Loc} {Z : State} {a0 : Array Value} {h0 : Heap} {n0 : Nat} (a1 : Addr) (p2 : Int32) (x3 : Int32) (sl : Int32) (zl : Int32) (XL : List Int32) (IL : List Int32) (c_k : Int32) (c_size : Int32) (c_distances : Addr) (c_indexes : Addr)
    (X0 : Stand p l e ({ frames := 5, cells := 2, slots := 12, locals := 160 } : Room) s m args below meth c T0 locs 2 12) (hx : p.tables.exec = Jvm.exec) (hZ : Z.Warmed39 s.vm) (hw : ∀ d ∈ tables_1, d.before a0 Z = true) (hby : c.code = prog_24_method_2_code) (hml : c.maxLocals = 6) (hown : s.vm.findClass "com/example/triangulum/triangulum/search/Shortlist" = some m.cls) (e0 : T0.heap = h0) (N0 : Fr n0 locs) (Z0 : n0 ≤ h0.size) (S0 : own_S Z n0 h0 a1 c_distances c_indexes c_k c_size zl XL IL) (hj141 : ¬ sl < 0 ∧ sl < zl) (hlx141 : (sl).toNatClampNeg < XL.length) (hli141 : (sl).toNatClampNeg < IL.length) :
    ∃ (T' : State) (h' : Heap) (locs' : List Loc), Stand p l e ({ frames := 5, cells := 2, slots := 12, locals := 160 } : Room) s m args below meth c T' locs' 2 12 ∧ T'.heap = h' ∧ Fr n0 locs' ∧ h0.size ≤ h'.size ∧ own_S Z n0 h' a1 c_distances c_indexes c_k c_size zl (XL.set (sl).toNatClampNeg x3) (IL.set (sl).toNatClampNeg p2) ∧
      ∀ target, Steps p.tables e below (T'.setTop (mkF m 291 #[.val (.ref a1), .val (.int p2), .val (.double (FP.i2d x3)), .second, .val (.int sl), .unset] [])) target → Steps p.tables e below (T0.setTop (mkF m 136 #[.val (.ref a1), .val (.int p2), .val (.double (FP.i2d x3)), .second, .val (.int sl), .unset] [])) target := by
  obtain ⟨E_a1, F_k_a1, F_size_a1, F_distances_a1, F_indexes_a1, V_c_distances, V_c_indexes, g_a1, g_c_distances, g_c_indexes, had, hai, hdi⟩ := S0
  -- pc 141: com/example/triangulum/triangulum/search/Shortlist.put
  obtain ⟨T4, h4, L4, X4, e4, N4, ⟨Kc4, Vx4, Vi4⟩, st4⟩ := own_put X0 hx hZ hw hown (hw _ (List.mem_of_getElem? (i := 42) rfl)) E_a1 F_distances_a1 F_indexes_a1 V_c_distances V_c_indexes hdi had hai g_c_distances g_c_indexes N0 hj141 hlx141 hli141 (W := 0) (g := (mkF m 141 #[.val (.ref a1), .val (.int p2), .val (.double (FP.i2d x3)), .second, .val (.int sl), .unset] [(.int p2), (.double (FP.i2d x3)), (.int sl), (.ref a1)])) rfl (by rw [hml]; rfl) (rest := []) rfl (by show 2 * 0 + _ ≤ _; exact Nat.le_of_eq rfl) (hb hby d7_141) (by decide) (by decide) e0
  refine ⟨T4, _, _, X4, e4, N4, (Nat.le_trans (Nat.le_refl _) Kc4.1), ⟨(E_a1.keep Kc4), (F_k_a1.keep Kc4 (ninS had (ninS hai nin0))), (F_size_a1.keep Kc4 (ninS had (ninS hai nin0))), (F_distances_a1.keep Kc4 (ninS had (ninS hai nin0))), (F_indexes_a1.keep Kc4 (ninS had (ninS hai nin0))), Vx4, Vi4, g_a1, g_c_distances, g_c_indexes, had, hai, hdi⟩, fun target kt => ?_⟩
  -- 4. STEPS
  show Steps p.tables e below (T0.setTop (mkF m 136 #[.val (.ref a1), .val (.int p2), .val (.double (FP.i2d x3)), .second, .val (.int sl), .unset] [])) _
  refine XS.aloadN X0.here hx rfl (hb hby d7_136) rfl rfl ?_
  show Steps p.tables e below (T0.setTop (mkF m 137 #[.val (.ref a1), .val (.int p2), .val (.double (FP.i2d x3)), .second, .val (.int sl), .unset] [(.ref a1)])) _
  refine XS.iload X0.here hx rfl (hb hby d7_137) rfl ?_
  show Steps p.tables e below (T0.setTop (mkF m 139 #[.val (.ref a1), .val (.int p2), .val (.double (FP.i2d x3)), .second, .val (.int sl), .unset] [(.int sl), (.ref a1)])) _
  refine XS.dloadN X0.here hx rfl (hb hby d7_139) rfl ?_
  show Steps p.tables e below (T0.setTop (mkF m 140 #[.val (.ref a1), .val (.int p2), .val (.double (FP.i2d x3)), .second, .val (.int sl), .unset] [(.double (FP.i2d x3)), (.int sl), (.ref a1)])) _
  refine XS.iloadN X0.here hx rfl (hb hby d7_140) rfl ?_
  show Steps p.tables e below (T0.setTop (mkF m 141 #[.val (.ref a1), .val (.int p2), .val (.double (FP.i2d x3)), .second, .val (.int sl), .unset] [(.int p2), (.double (FP.i2d x3)), (.int sl), (.ref a1)])) _
  refine st4 _ ?_
  show Steps p.tables e below (T4.setTop (mkF m 144 #[.val (.ref a1), .val (.int p2), .val (.double (FP.i2d x3)), .second, .val (.int sl), .unset] [])) _
  refine XS.goto X4.here hx rfl (pc0 := 144) (pc' := 291) rfl (hb hby d7_144) (by decide) (by decide) ?_
  exact kt
theorem d7_147 : decode prog_24_method_2_code 147 = .ok (.aload_n 0, 1) := by decide +kernel
theorem d7_148 : decode prog_24_method_2_code 148 = .ok (.getfield 28, 3) := by decide +kernel
theorem d7_151 : decode prog_24_method_2_code 151 = .ok (.iconst 0, 1) := by decide +kernel
theorem d7_152 : decode prog_24_method_2_code 152 = .ok (.daload, 1) := by decide +kernel
theorem d7_153 : decode prog_24_method_2_code 153 = .ok (.aload_n 0, 1) := by decide +kernel
theorem d7_154 : decode prog_24_method_2_code 154 = .ok (.getfield 32, 3) := by decide +kernel
theorem d7_157 : decode prog_24_method_2_code 157 = .ok (.iconst 0, 1) := by decide +kernel
theorem d7_158 : decode prog_24_method_2_code 158 = .ok (.iaload, 1) := by decide +kernel
theorem d7_159 : decode prog_24_method_2_code 159 = .ok (.dload_n 2, 1) := by decide +kernel
theorem d7_160 : decode prog_24_method_2_code 160 = .ok (.iload_n 1, 1) := by decide +kernel
theorem d7_161 : decode prog_24_method_2_code 161 = .ok (.invokestatic 59, 3) := by decide +kernel
theorem d7_164 : decode prog_24_method_2_code 164 = .ok (.ifCond .eq 127, 3) := by decide +kernel
set_option maxRecDepth 65536 in
set_option maxHeartbeats 40000000 in
theorem own_oRt {p : Program} {l : Launch} {e : Env} {s : State} {m : MethodId} {args : Array Value} {below : List Frame} {meth : Method} {c : Code} {T0 : State} {locs : List Loc} {Z : State} {a0 : Array Value} {h0 : Heap} {n0 : Nat} (a1 : Addr) (p2 : Int32) (x3 : Int32) (zl : Int32) (XL : List Int32) (IL : List Int32) (c_k : Int32) (c_size : Int32) (c_distances : Addr) (c_indexes : Addr)
    (X0 : Stand p l e ({ frames := 5, cells := 2, slots := 12, locals := 160 } : Room) s m args below meth c T0 locs 2 12) (hx : p.tables.exec = Jvm.exec) (hZ : Z.Warmed39 s.vm) (hw : ∀ d ∈ tables_1, d.before a0 Z = true) (hby : c.code = prog_24_method_2_code) (hml : c.maxLocals = 6) (hown : s.vm.findClass "com/example/triangulum/triangulum/search/Shortlist" = some m.cls) (e0 : T0.heap = h0) (N0 : Fr n0 locs) (Z0 : n0 ≤ h0.size) (S0 : own_S Z n0 h0 a1 c_distances c_indexes c_k c_size zl XL IL) (hj152 : ¬ (0 : Int32) < 0 ∧ (0 : Int32) < zl) (hj158 : ¬ (0 : Int32) < 0 ∧ (0 : Int32) < zl) (hc164 : (own_worse (XL.getD ((0 : Int32)).toNatClampNeg 0) (IL.getD ((0 : Int32)).toNatClampNeg 0) x3 p2) = (0 : Int32)) :
    ∃ (T' : State) (h' : Heap) (locs' : List Loc), Stand p l e ({ frames := 5, cells := 2, slots := 12, locals := 160 } : Room) s m args below meth c T' locs' 2 12 ∧ T'.heap = h' ∧ Fr n0 locs' ∧ h0.size ≤ h'.size ∧ own_S Z n0 h' a1 c_distances c_indexes c_k c_size zl XL IL ∧
      ∀ target, Steps p.tables e below (T'.setTop (mkF m 291 #[.val (.ref a1), .val (.int p2), .val (.double (FP.i2d x3)), .second, .unset, .unset] [])) target → Steps p.tables e below (T0.setTop (mkF m 147 #[.val (.ref a1), .val (.int p2), .val (.double (FP.i2d x3)), .second, .unset, .unset] [])) target := by
  obtain ⟨E_a1, F_k_a1, F_size_a1, F_distances_a1, F_indexes_a1, V_c_distances, V_c_indexes, g_a1, g_c_distances, g_c_indexes, had, hai, hdi⟩ := S0
  obtain ⟨T4, X4, e4, st4⟩ := getF X0 hx hZ hown (host := "") (Or.inl (hw _ (List.mem_of_getElem? (i := 16) rfl))) Via.refl e0 F_distances_a1 (g := (mkF m 148 #[.val (.ref a1), .val (.int p2), .val (.double (FP.i2d x3)), .second, .unset, .unset] [(.ref a1)])) rfl rfl (hb hby d7_148)
  obtain ⟨T5, X5, e5, st5⟩ := getF X4 hx hZ hown (host := "") (Or.inl (hw _ (List.mem_of_getElem? (i := 19) rfl))) Via.refl e4 F_indexes_a1 (g := (mkF m 154 #[.val (.ref a1), .val (.int p2), .val (.double (FP.i2d x3)), .second, .unset, .unset] [(.ref a1), (.double (FP.i2d (XL.getD ((0 : Int32)).toNatClampNeg 0)))])) rfl rfl (hb hby d7_154)
  -- pc 161: com/example/triangulum/triangulum/search/Shortlist.worse
  obtain ⟨T6, X6, e6, st6⟩ := own_call_w4 X5 hx hZ hw hown (hw _ (List.mem_of_getElem? (i := 50) rfl)) (XL.getD ((0 : Int32)).toNatClampNeg 0) (IL.getD ((0 : Int32)).toNatClampNeg 0) x3 p2 (W := 0) (g := (mkF m 161 #[.val (.ref a1), .val (.int p2), .val (.double (FP.i2d x3)), .second, .unset, .unset] [(.int p2), (.double (FP.i2d x3)), (.int (IL.getD ((0 : Int32)).toNatClampNeg 0)), (.double (FP.i2d (XL.getD ((0 : Int32)).toNatClampNeg 0)))])) rfl (by rw [hml]; rfl) (rest := []) rfl (by show 2 * 0 + _ ≤ _; exact Nat.le_of_eq rfl) (hb hby d7_161) (by decide) (by decide) e5
  refine ⟨T6, _, _, X6, e6, N0, (Nat.le_refl _), ⟨E_a1, F_k_a1, F_size_a1, F_distances_a1, F_indexes_a1, V_c_distances, V_c_indexes, g_a1, g_c_distances, g_c_indexes, had, hai, hdi⟩, fun target kt => ?_⟩
  -- 4. STEPS
  show Steps p.tables e below (T0.setTop (mkF m 147 #[.val (.ref a1), .val (.int p2), .val (.double (FP.i2d x3)), .second, .unset, .unset] [])) _
  refine XS.aloadN X0.here hx rfl (hb hby d7_147) rfl rfl ?_
  show Steps p.tables e below (T0.setTop (mkF m 148 #[.val (.ref a1), .val (.int p2), .val (.double (FP.i2d x3)), .second, .unset, .unset] [(.ref a1)])) _
  refine st4 _ ?_
  show Steps p.tables e below (T4.setTop (mkF m 151 #[.val (.ref a1), .val (.int p2), .val (.double (FP.i2d x3)), .second, .unset, .unset] [(.ref c_distances)])) _
  refine XS.iconst X4.here hx rfl (hb hby d7_151) ?_
  show Steps p.tables e below (T4.setTop (mkF m 152 #[.val (.ref a1), .val (.int p2), .val (.double (FP.i2d x3)), .second, .unset, .unset] [(.int (0 : Int32)), (.ref c_distances)])) _
  refine own_xald X4 hx hZ e4 V_c_distances hj152 (g := (mkF m 152 #[.val (.ref a1), .val (.int p2), .val (.double (FP.i2d x3)), .second, .unset, .unset] [(.int (0 : Int32)), (.ref c_distances)])) rfl rfl (hb hby d7_152) _ ?_
  show Steps p.tables e below (T4.setTop (mkF m 153 #[.val (.ref a1), .val (.int p2), .val (.double (FP.i2d x3)), .second, .unset, .unset] [(.double (FP.i2d (XL.getD ((0 : Int32)).toNatClampNeg 0)))])) _
  refine XS.aloadN X4.here hx rfl (hb hby d7_153) rfl rfl ?_
  show Steps p.tables e below (T4.setTop (mkF m 154 #[.val (.ref a1), .val (.int p2), .val (.double (FP.i2d x3)), .second, .unset, .unset] [(.ref a1), (.double (FP.i2d (XL.getD ((0 : Int32)).toNatClampNeg 0)))])) _
  refine st5 _ ?_
  show Steps p.tables e below (T5.setTop (mkF m 157 #[.val (.ref a1), .val (.int p2), .val (.double (FP.i2d x3)), .second, .unset, .unset] [(.ref c_indexes), (.double (FP.i2d (XL.getD ((0 : Int32)).toNatClampNeg 0)))])) _
  refine XS.iconst X5.here hx rfl (hb hby d7_157) ?_
  show Steps p.tables e below (T5.setTop (mkF m 158 #[.val (.ref a1), .val (.int p2), .val (.double (FP.i2d x3)), .second, .unset, .unset] [(.int (0 : Int32)), (.ref c_indexes), (.double (FP.i2d (XL.getD ((0 : Int32)).toNatClampNeg 0)))])) _
  refine own_iald X5 hx hZ e5 V_c_indexes hj158 (g := (mkF m 158 #[.val (.ref a1), .val (.int p2), .val (.double (FP.i2d x3)), .second, .unset, .unset] [(.int (0 : Int32)), (.ref c_indexes), (.double (FP.i2d (XL.getD ((0 : Int32)).toNatClampNeg 0)))])) rfl rfl (hb hby d7_158) _ ?_
  show Steps p.tables e below (T5.setTop (mkF m 159 #[.val (.ref a1), .val (.int p2), .val (.double (FP.i2d x3)), .second, .unset, .unset] [(.int (IL.getD ((0 : Int32)).toNatClampNeg 0)), (.double (FP.i2d (XL.getD ((0 : Int32)).toNatClampNeg 0)))])) _
  refine XS.dloadN X5.here hx rfl (hb hby d7_159) rfl ?_
  show Steps p.tables e below (T5.setTop (mkF m 160 #[.val (.ref a1), .val (.int p2), .val (.double (FP.i2d x3)), .second, .unset, .unset] [(.double (FP.i2d x3)), (.int (IL.getD ((0 : Int32)).toNatClampNeg 0)), (.double (FP.i2d (XL.getD ((0 : Int32)).toNatClampNeg 0)))])) _
  refine XS.iloadN X5.here hx rfl (hb hby d7_160) rfl ?_
  show Steps p.tables e below (T5.setTop (mkF m 161 #[.val (.ref a1), .val (.int p2), .val (.double (FP.i2d x3)), .second, .unset, .unset] [(.int p2), (.double (FP.i2d x3)), (.int (IL.getD ((0 : Int32)).toNatClampNeg 0)), (.double (FP.i2d (XL.getD ((0 : Int32)).toNatClampNeg 0)))])) _
  refine st6 _ ?_
  show Steps p.tables e below (T6.setTop (mkF m 164 #[.val (.ref a1), .val (.int p2), .val (.double (FP.i2d x3)), .second, .unset, .unset] [(.int (own_worse (XL.getD ((0 : Int32)).toNatClampNeg 0) (IL.getD ((0 : Int32)).toNatClampNeg 0) x3 p2))])) _
  refine XS.ifYes X6.here hx rfl (pc0 := 164) (pc' := 291) rfl (hb hby d7_164) rfl ((if0 _ _).trans (teq hc164).1) (by decide) (by decide) ?_
  exact kt
theorem d7_167 : decode prog_24_method_2_code 167 = .ok (.iconst 0, 1) := by decide +kernel
theorem d7_168 : decode prog_24_method_2_code 168 = .ok (.istore 4, 2) := by decide +kernel
theorem d7_170 : decode prog_24_method_2_code 170 = .ok (.iconst 1, 1) := by decide +kernel
theorem d7_171 : decode prog_24_method_2_code 171 = .ok (.istore 5, 2) := by decide +kernel
set_option maxRecDepth 65536 in
set_option maxHeartbeats 40000000 in
theorem own_oRf {p : Program} {l : Launch} {e : Env} {s : State} {m : MethodId} {args : Array Value} {below : List Frame} {meth : Method} {c : Code} {T0 : State} {locs : List Loc} {Z : State} {a0 : Array Value} {h0 : Heap} {n0 : Nat} (a1 : Addr) (p2 : Int32) (x3 : Int32) (zl : Int32) (XL : List Int32) (IL : List Int32) (c_k : Int32) (c_size : Int32) (c_distances : Addr) (c_indexes : Addr)
    (X0 : Stand p l e ({ frames := 5, cells := 2, slots := 12, locals := 160 } : Room) s m args below meth c T0 locs 2 12) (hx : p.tables.exec = Jvm.exec) (hZ : Z.Warmed39 s.vm) (hw : ∀ d ∈ tables_1, d.before a0 Z = true) (hby : c.code = prog_24_method_2_code) (hml : c.maxLocals = 6) (hown : s.vm.findClass "com/example/triangulum/triangulum/search/Shortlist" = some m.cls) (e0 : T0.heap = h0) (N0 : Fr n0 locs) (Z0 : n0 ≤ h0.size) (S0 : own_S Z n0 h0 a1 c_distances c_indexes c_k c_size zl XL IL) (hj152 : ¬ (0 : Int32) < 0 ∧ (0 : Int32) < zl) (hj158 : ¬ (0 : Int32) < 0 ∧ (0 : Int32) < zl) (hc164 : ¬ ((own_worse (XL.getD ((0 : Int32)).toNatClampNeg 0) (IL.getD ((0 : Int32)).toNatClampNeg 0) x3 p2) = (0 : Int32))) :
    ∃ (T' : State) (h' : Heap) (locs' : List Loc), Stand p l e ({ frames := 5, cells := 2, slots := 12, locals := 160 } : Room) s m args below meth c T' locs' 2 12 ∧ T'.heap = h' ∧ Fr n0 locs' ∧ h0.size ≤ h'.size ∧ own_S Z n0 h' a1 c_distances c_indexes c_k c_size zl XL IL ∧
      ∀ target, Steps p.tables e below (T'.setTop (mkF m 173 #[.val (.ref a1), .val (.int p2), .val (.double (FP.i2d x3)), .second, .val (.int (0 : Int32)), .val (.int (1 : Int32))] [])) target → Steps p.tables e below (T0.setTop (mkF m 147 #[.val (.ref a1), .val (.int p2), .val (.double (FP.i2d x3)), .second, .unset, .unset] [])) target := by
  obtain ⟨E_a1, F_k_a1, F_size_a1, F_distances_a1, F_indexes_a1, V_c_distances, V_c_indexes, g_a1, g_c_distances, g_c_indexes, had, hai, hdi⟩ := S0
  obtain ⟨T4, X4, e4, st4⟩ := getF X0 hx hZ hown (host := "") (Or.inl (hw _ (List.mem_of_getElem? (i := 16) rfl))) Via.refl e0 F_distances_a1 (g := (mkF m 148 #[.val (.ref a1), .val (.int p2), .val (.double (FP.i2d x3)), .second, .unset, .unset] [(.ref a1)])) rfl rfl (hb hby d7_148)
  obtain ⟨T5, X5, e5, st5⟩ := getF X4 hx hZ hown (host := "") (Or.inl (hw _ (List.mem_of_getElem? (i := 19) rfl))) Via.refl e4 F_indexes_a1 (g := (mkF m 154 #[.val (.ref a1), .val (.int p2), .val (.double (FP.i2d x3)), .second, .unset, .unset] [(.ref a1), (.double (FP.i2d (XL.getD ((0 : Int32)).toNatClampNeg 0)))])) rfl rfl (hb hby d7_154)
  -- pc 161: com/example/triangulum/triangulum/search/Shortlist.worse
  obtain ⟨T6, X6, e6, st6⟩ := own_call_w4 X5 hx hZ hw hown (hw _ (List.mem_of_getElem? (i := 50) rfl)) (XL.getD ((0 : Int32)).toNatClampNeg 0) (IL.getD ((0 : Int32)).toNatClampNeg 0) x3 p2 (W := 0) (g := (mkF m 161 #[.val (.ref a1), .val (.int p2), .val (.double (FP.i2d x3)), .second, .unset, .unset] [(.int p2), (.double (FP.i2d x3)), (.int (IL.getD ((0 : Int32)).toNatClampNeg 0)), (.double (FP.i2d (XL.getD ((0 : Int32)).toNatClampNeg 0)))])) rfl (by rw [hml]; rfl) (rest := []) rfl (by show 2 * 0 + _ ≤ _; exact Nat.le_of_eq rfl) (hb hby d7_161) (by decide) (by decide) e5
  refine ⟨T6, _, _, X6, e6, N0, (Nat.le_refl _), ⟨E_a1, F_k_a1, F_size_a1, F_distances_a1, F_indexes_a1, V_c_distances, V_c_indexes, g_a1, g_c_distances, g_c_indexes, had, hai, hdi⟩, fun target kt => ?_⟩
  -- 4. STEPS
  show Steps p.tables e below (T0.setTop (mkF m 147 #[.val (.ref a1), .val (.int p2), .val (.double (FP.i2d x3)), .second, .unset, .unset] [])) _
  refine XS.aloadN X0.here hx rfl (hb hby d7_147) rfl rfl ?_
  show Steps p.tables e below (T0.setTop (mkF m 148 #[.val (.ref a1), .val (.int p2), .val (.double (FP.i2d x3)), .second, .unset, .unset] [(.ref a1)])) _
  refine st4 _ ?_
  show Steps p.tables e below (T4.setTop (mkF m 151 #[.val (.ref a1), .val (.int p2), .val (.double (FP.i2d x3)), .second, .unset, .unset] [(.ref c_distances)])) _
  refine XS.iconst X4.here hx rfl (hb hby d7_151) ?_
  show Steps p.tables e below (T4.setTop (mkF m 152 #[.val (.ref a1), .val (.int p2), .val (.double (FP.i2d x3)), .second, .unset, .unset] [(.int (0 : Int32)), (.ref c_distances)])) _
  refine own_xald X4 hx hZ e4 V_c_distances hj152 (g := (mkF m 152 #[.val (.ref a1), .val (.int p2), .val (.double (FP.i2d x3)), .second, .unset, .unset] [(.int (0 : Int32)), (.ref c_distances)])) rfl rfl (hb hby d7_152) _ ?_
  show Steps p.tables e below (T4.setTop (mkF m 153 #[.val (.ref a1), .val (.int p2), .val (.double (FP.i2d x3)), .second, .unset, .unset] [(.double (FP.i2d (XL.getD ((0 : Int32)).toNatClampNeg 0)))])) _
  refine XS.aloadN X4.here hx rfl (hb hby d7_153) rfl rfl ?_
  show Steps p.tables e below (T4.setTop (mkF m 154 #[.val (.ref a1), .val (.int p2), .val (.double (FP.i2d x3)), .second, .unset, .unset] [(.ref a1), (.double (FP.i2d (XL.getD ((0 : Int32)).toNatClampNeg 0)))])) _
  refine st5 _ ?_
  show Steps p.tables e below (T5.setTop (mkF m 157 #[.val (.ref a1), .val (.int p2), .val (.double (FP.i2d x3)), .second, .unset, .unset] [(.ref c_indexes), (.double (FP.i2d (XL.getD ((0 : Int32)).toNatClampNeg 0)))])) _
  refine XS.iconst X5.here hx rfl (hb hby d7_157) ?_
  show Steps p.tables e below (T5.setTop (mkF m 158 #[.val (.ref a1), .val (.int p2), .val (.double (FP.i2d x3)), .second, .unset, .unset] [(.int (0 : Int32)), (.ref c_indexes), (.double (FP.i2d (XL.getD ((0 : Int32)).toNatClampNeg 0)))])) _
  refine own_iald X5 hx hZ e5 V_c_indexes hj158 (g := (mkF m 158 #[.val (.ref a1), .val (.int p2), .val (.double (FP.i2d x3)), .second, .unset, .unset] [(.int (0 : Int32)), (.ref c_indexes), (.double (FP.i2d (XL.getD ((0 : Int32)).toNatClampNeg 0)))])) rfl rfl (hb hby d7_158) _ ?_
  show Steps p.tables e below (T5.setTop (mkF m 159 #[.val (.ref a1), .val (.int p2), .val (.double (FP.i2d x3)), .second, .unset, .unset] [(.int (IL.getD ((0 : Int32)).toNatClampNeg 0)), (.double (FP.i2d (XL.getD ((0 : Int32)).toNatClampNeg 0)))])) _
  refine XS.dloadN X5.here hx rfl (hb hby d7_159) rfl ?_
  show Steps p.tables e below (T5.setTop (mkF m 160 #[.val (.ref a1), .val (.int p2), .val (.double (FP.i2d x3)), .second, .unset, .unset] [(.double (FP.i2d x3)), (.int (IL.getD ((0 : Int32)).toNatClampNeg 0)), (.double (FP.i2d (XL.getD ((0 : Int32)).toNatClampNeg 0)))])) _
  refine XS.iloadN X5.here hx rfl (hb hby d7_160) rfl ?_
  show Steps p.tables e below (T5.setTop (mkF m 161 #[.val (.ref a1), .val (.int p2), .val (.double (FP.i2d x3)), .second, .unset, .unset] [(.int p2), (.double (FP.i2d x3)), (.int (IL.getD ((0 : Int32)).toNatClampNeg 0)), (.double (FP.i2d (XL.getD ((0 : Int32)).toNatClampNeg 0)))])) _
  refine st6 _ ?_
  show Steps p.tables e below (T6.setTop (mkF m 164 #[.val (.ref a1), .val (.int p2), .val (.double (FP.i2d x3)), .second, .unset, .unset] [(.int (own_worse (XL.getD ((0 : Int32)).toNatClampNeg 0) (IL.getD ((0 : Int32)).toNatClampNeg 0) x3 p2))])) _
  refine XS.ifNo X6.here hx rfl (hb hby d7_164) rfl ((if0 _ _).trans (feq hc164).1) ?_
  show Steps p.tables e below (T6.setTop (mkF m 167 #[.val (.ref a1), .val (.int p2), .val (.double (FP.i2d x3)), .second, .unset, .unset] [])) _
  refine XS.iconst X6.here hx rfl (hb hby d7_167) ?_
  show Steps p.tables e below (T6.setTop (mkF m 168 #[.val (.ref a1), .val (.int p2), .val (.double (FP.i2d x3)), .second, .unset, .unset] [(.int (0 : Int32))])) _
  refine XS.istore X6.here hx rfl (hb hby d7_168) rfl (l' := #[.val (.ref a1), .val (.int p2), .val (.double (FP.i2d x3)), .second, .val (.int (0 : Int32)), .unset]) rfl ?_
  show Steps p.tables e below (T6.setTop (mkF m 170 #[.val (.ref a1), .val (.int p2), .val (.double (FP.i2d x3)), .second, .val (.int (0 : Int32)), .unset] [])) _
  refine XS.iconst X6.here hx rfl (hb hby d7_170) ?_
  show Steps p.tables e below (T6.setTop (mkF m 171 #[.val (.ref a1), .val (.int p2), .val (.double (FP.i2d x3)), .second, .val (.int (0 : Int32)), .unset] [(.int (1 : Int32))])) _
  refine XS.istore X6.here hx rfl (hb hby d7_171) rfl (l' := #[.val (.ref a1), .val (.int p2), .val (.double (FP.i2d x3)), .second, .val (.int (0 : Int32)), .val (.int (1 : Int32))]) rfl ?_
  exact kt
theorem d7_173 : decode prog_24_method_2_code 173 = .ok (.iload 5, 2) := by decide +kernel
theorem d7_175 : decode prog_24_method_2_code 175 = .ok (.aload_n 0, 1) := by decide +kernel
theorem d7_176 : decode prog_24_method_2_code 176 = .ok (.getfield 36, 3) := by decide +kernel
theorem d7_179 : decode prog_24_method_2_code 179 = .ok (.if_icmp .ge 104, 3) := by decide +kernel
set_option maxRecDepth 65536 in
set_option maxHeartbeats 40000000 in
theorem own_oD1 {p : Program} {l : Launch} {e : Env} {s : State} {m : MethodId} {args : Array Value} {below : List Frame} {meth : Method} {c : Code} {T0 : State} {locs : List Loc} {Z : State} {a0 : Array Value} {h0 : Heap} {n0 : Nat} (a1 : Addr) (p2 : Int32) (x3 : Int32) (sl : Int32) (ch : Int32) (zl : Int32) (XL : List Int32) (IL : List Int32) (c_k : Int32) (c_size : Int32) (c_distances : Addr) (c_indexes : Addr)
    (X0 : Stand p l e ({ frames := 5, cells := 2, slots := 12, locals := 160 } : Room) s m args below meth c T0 locs 2 12) (hx : p.tables.exec = Jvm.exec) (hZ : Z.Warmed39 s.vm) (hw : ∀ d ∈ tables_1, d.before a0 Z = true) (hby : c.code = prog_24_method_2_code) (hml : c.maxLocals = 6) (hown : s.vm.findClass "com/example/triangulum/triangulum/search/Shortlist" = some m.cls) (e0 : T0.heap = h0) (N0 : Fr n0 locs) (Z0 : n0 ≤ h0.size) (S0 : own_S Z n0 h0 a1 c_distances c_indexes c_k c_size zl XL IL) (hc179 : ¬ (ch < c_size)) :
    ∃ (T' : State) (h' : Heap) (locs' : List Loc), Stand p l e ({ frames := 5, cells := 2, slots := 12, locals := 160 } : Room) s m args below meth c T' locs' 2 12 ∧ T'.heap = h' ∧ Fr n0 locs' ∧ h0.size ≤ h'.size ∧ own_S Z n0 h' a1 c_distances c_indexes c_k c_size zl XL IL ∧
      ∀ target, Steps p.tables e below (T'.setTop (mkF m 283 #[.val (.ref a1), .val (.int p2), .val (.double (FP.i2d x3)), .second, .val (.int sl), .val (.int ch)] [])) target → Steps p.tables e below (T0.setTop (mkF m 173 #[.val (.ref a1), .val (.int p2), .val (.double (FP.i2d x3)), .second, .val (.int sl), .val (.int ch)] [])) target := by
  obtain ⟨E_a1, F_k_a1, F_size_a1, F_distances_a1, F_indexes_a1, V_c_distances, V_c_indexes, g_a1, g_c_distances, g_c_indexes, had, hai, hdi⟩ := S0
  obtain ⟨T4, X4, e4, st4⟩ := getF X0 hx hZ hown (host := "") (Or.inl (hw _ (List.mem_of_getElem? (i := 26) rfl))) Via.refl e0 F_size_a1 (g := (mkF m 176 #[.val (.ref a1), .val (.int p2), .val (.double (FP.i2d x3)), .second, .val (.int sl), .val (.int ch)] [(.ref a1), (.int ch)])) rfl rfl (hb hby d7_176)
  refine ⟨T4, _, _, X4, e4, N0, (Nat.le_refl _), ⟨E_a1, F_k_a1, F_size_a1, F_distances_a1, F_indexes_a1, V_c_distances, V_c_indexes, g_a1, g_c_distances, g_c_indexes, had, hai, hdi⟩, fun target kt => ?_⟩
  -- 4. STEPS
  show Steps p.tables e below (T0.setTop (mkF m 173 #[.val (.ref a1), .val (.int p2), .val (.double (FP.i2d x3)), .second, .val (.int sl), .val (.int ch)] [])) _
  refine XS.iload X0.here hx rfl (hb hby d7_173) rfl ?_
  show Steps p.tables e below (T0.setTop (mkF m 175 #[.val (.ref a1), .val (.int p2), .val (.double (FP.i2d x3)), .second, .val (.int sl), .val (.int ch)] [(.int ch)])) _
  refine XS.aloadN X0.here hx rfl (hb hby d7_175) rfl rfl ?_
  show Steps p.tables e below (T0.setTop (mkF m 176 #[.val (.ref a1), .val (.int p2), .val (.double (FP.i2d x3)), .second, .val (.int sl), .val (.int ch)] [(.ref a1), (.int ch)])) _
  refine st4 _ ?_
  show Steps p.tables e below (T4.setTop (mkF m 179 #[.val (.ref a1), .val (.int p2), .val (.double (FP.i2d x3)), .second, .val (.int sl), .val (.int ch)] [(.int c_size), (.int ch)])) _
  refine XS.icmpYes X4.here hx rfl (pc0 := 179) (pc' := 283) rfl (hb hby d7_179) rfl (flt hc179).2.1 (by decide) (by decide) ?_
  exact kt
theorem d7_182 : decode prog_24_method_2_code 182 = .ok (.iload 5, 2) := by decide +kernel
theorem d7_184 : decode prog_24_method_2_code 184 = .ok (.iconst 1, 1) := by decide +kernel
theorem d7_185 : decode prog_24_method_2_code 185 = .ok (.iadd, 1) := by decide +kernel
theorem d7_186 : decode prog_24_method_2_code 186 = .ok (.aload_n 0, 1) := by decide +kernel
theorem d7_187 : decode prog_24_method_2_code 187 = .ok (.getfield 36, 3) := by decide +kernel
theorem d7_190 : decode prog_24_method_2_code 190 = .ok (.if_icmp .ge 33, 3) := by decide +kernel
set_option maxRecDepth 65536 in
set_option maxHeartbeats 40000000 in
theorem own_oD2a {p : Program} {l : Launch} {e : Env} {s : State} {m : MethodId} {args : Array Value} {below : List Frame} {meth : Method} {c : Code} {T0 : State} {locs : List Loc} {Z : State} {a0 : Array Value} {h0 : Heap} {n0 : Nat} (a1 : Addr) (p2 : Int32) (x3 : Int32) (sl : Int32) (ch : Int32) (zl : Int32) (XL : List Int32) (IL : List Int32) (c_k : Int32) (c_size : Int32) (c_distances : Addr) (c_indexes : Addr)
    (X0 : Stand p l e ({ frames := 5, cells := 2, slots := 12, locals := 160 } : Room) s m args below meth c T0 locs 2 12) (hx : p.tables.exec = Jvm.exec) (hZ : Z.Warmed39 s.vm) (hw : ∀ d ∈ tables_1, d.before a0 Z = true) (hby : c.code = prog_24_method_2_code) (hml : c.maxLocals = 6) (hown : s.vm.findClass "com/example/triangulum/triangulum/search/Shortlist" = some m.cls) (e0 : T0.heap = h0) (N0 : Fr n0 locs) (Z0 : n0 ≤ h0.size) (S0 : own_S Z n0 h0 a1 c_distances c_indexes c_k c_size zl XL IL) (hc179 : ch < c_size) (hc190 : ¬ ((ch + (1 : Int32)) < c_size)) :
    ∃ (T' : State) (h' : Heap) (locs' : List Loc), Stand p l e ({ frames := 5, cells := 2, slots := 12, locals := 160 } : Room) s m args below meth c T' locs' 2 12 ∧ T'.heap = h' ∧ Fr n0 locs' ∧ h0.size ≤ h'.size ∧ own_S Z n0 h' a1 c_distances c_indexes c_k c_size zl XL IL ∧
      ∀ target, Steps p.tables e below (T'.setTop (mkF m 223 #[.val (.ref a1), .val (.int p2), .val (.double (FP.i2d x3)), .second, .val (.int sl), .val (.int ch)] [])) target → Steps p.tables e below (T0.setTop (mkF m 173 #[.val (.ref a1), .val (.int p2), .val (.double (FP.i2d x3)), .second, .val (.int sl), .val (.int ch)] [])) target := by
  obtain ⟨E_a1, F_k_a1, F_size_a1, F_distances_a1, F_indexes_a1, V_c_distances, V_c_indexes, g_a1, g_c_distances, g_c_indexes, had, hai, hdi⟩ := S0
  obtain ⟨T4, X4, e4, st4⟩ := getF X0 hx hZ hown (host := "") (Or.inl (hw _ (List.mem_of_getElem? (i := 26) rfl))) Via.refl e0 F_size_a1 (g := (mkF m 176 #[.val (.ref a1), .val (.int p2), .val (.double (FP.i2d x3)), .second, .val (.int sl), .val (.int ch)] [(.ref a1), (.int ch)])) rfl rfl (hb hby d7_176)
  obtain ⟨T5, X5, e5, st5⟩ := getF X4 hx hZ hown (host := "") (Or.inl (hw _ (List.mem_of_getElem? (i := 26) rfl))) Via.refl e4 F_size_a1 (g := (mkF m 187 #[.val (.ref a1), .val (.int p2), .val (.double (FP.i2d x3)), .second, .val (.int sl), .val (.int ch)] [(.ref a1), (.int (ch + (1 : Int32)))])) rfl rfl (hb hby d7_187)
  refine ⟨T5, _, _, X5, e5, N0, (Nat.le_refl _), ⟨E_a1, F_k_a1, F_size_a1, F_distances_a1, F_indexes_a1, V_c_distances, V_c_indexes, g_a1, g_c_distances, g_c_indexes, had, hai, hdi⟩, fun target kt => ?_⟩
  -- 4. STEPS
  show Steps p.tables e below (T0.setTop (mkF m 173 #[.val (.ref a1), .val (.int p2), .val (.double (FP.i2d x3)), .second, .val (.int sl), .val (.int ch)] [])) _
  refine XS.iload X0.here hx rfl (hb hby d7_173) rfl ?_
  show Steps p.tables e below (T0.setTop (mkF m 175 #[.val (.ref a1), .val (.int p2), .val (.double (FP.i2d x3)), .second, .val (.int sl), .val (.int ch)] [(.int ch)])) _
  refine XS.aloadN X0.here hx rfl (hb hby d7_175) rfl rfl ?_
  show Steps p.tables e below (T0.setTop (mkF m 176 #[.val (.ref a1), .val (.int p2), .val (.double (FP.i2d x3)), .second, .val (.int sl), .val (.int ch)] [(.ref a1), (.int ch)])) _
  refine st4 _ ?_
  show Steps p.tables e below (T4.setTop (mkF m 179 #[.val (.ref a1), .val (.int p2), .val (.double (FP.i2d x3)), .second, .val (.int sl), .val (.int ch)] [(.int c_size), (.int ch)])) _
  refine XS.icmpNo X4.here hx rfl (hb hby d7_179) rfl (tlt hc179).2.1 ?_
  show Steps p.tables e below (T4.setTop (mkF m 182 #[.val (.ref a1), .val (.int p2), .val (.double (FP.i2d x3)), .second, .val (.int sl), .val (.int ch)] [])) _
  refine XS.iload X4.here hx rfl (hb hby d7_182) rfl ?_
  show Steps p.tables e below (T4.setTop (mkF m 184 #[.val (.ref a1), .val (.int p2), .val (.double (FP.i2d x3)), .second, .val (.int sl), .val (.int ch)] [(.int ch)])) _
  refine XS.iconst X4.here hx rfl (hb hby d7_184) ?_
  show Steps p.tables e below (T4.setTop (mkF m 185 #[.val (.ref a1), .val (.int p2), .val (.double (FP.i2d x3)), .second, .val (.int sl), .val (.int ch)] [(.int (1 : Int32)), (.int ch)])) _
  refine XS.iadd X4.here hx rfl (hb hby d7_185) rfl ?_
  show Steps p.tables e below (T4.setTop (mkF m 186 #[.val (.ref a1), .val (.int p2), .val (.double (FP.i2d x3)), .second, .val (.int sl), .val (.int ch)] [(.int (ch + (1 : Int32)))])) _
  refine XS.aloadN X4.here hx rfl (hb hby d7_186) rfl rfl ?_
  show Steps p.tables e below (T4.setTop (mkF m 187 #[.val (.ref a1), .val (.int p2), .val (.double (FP.i2d x3)), .second, .val (.int sl), .val (.int ch)] [(.ref a1), (.int (ch + (1 : Int32)))])) _
  refine st5 _ ?_
  show Steps p.tables e below (T5.setTop (mkF m 190 #[.val (.ref a1), .val (.int p2), .val (.double (FP.i2d x3)), .second, .val (.int sl), .val (.int ch)] [(.int c_size), (.int (ch + (1 : Int32)))])) _
  refine XS.icmpYes X5.here hx rfl (pc0 := 190) (pc' := 223) rfl (hb hby d7_190) rfl (flt hc190).2.1 (by decide) (by decide) ?_
  exact kt
theorem d7_193 : decode prog_24_method_2_code 193 = .ok (.aload_n 0, 1) := by decide +kernel
theorem d7_194 : decode prog_24_method_2_code 194 = .ok (.aload_n 0, 1) := by decide +kernel
theorem d7_195 : decode prog_24_method_2_code 195 = .ok (.getfield 28, 3) := by decide +kernel
theorem d7_198 : decode prog_24_method_2_code 198 = .ok (.iload 5, 2) := by decide +kernel
theorem d7_200 : decode prog_24_method_2_code 200 = .ok (.iconst 1, 1) := by decide +kernel
theorem d7_201 : decode prog_24_method_2_code 201 = .ok (.iadd, 1) := by decide +kernel
theorem d7_202 : decode prog_24_method_2_code 202 = .ok (.daload, 1) := by decide +kernel
theorem d7_203 : decode prog_24_method_2_code 203 = .ok (.aload_n 0, 1) := by decide +kernel
theorem d7_204 : decode prog_24_method_2_code 204 = .ok (.getfield 32, 3) := by decide +kernel
theorem d7_207 : decode prog_24_method_2_code 207 = .ok (.iload 5, 2) := by decide +kernel
theorem d7_209 : decode prog_24_method_2_code 209 = .ok (.iconst 1, 1) := by decide +kernel
theorem d7_210 : decode prog_24_method_2_code 210 = .ok (.iadd, 1) := by decide +kernel
theorem d7_211 : decode prog_24_method_2_code 211 = .ok (.iaload, 1) := by decide +kernel
theorem d7_212 : decode prog_24_method_2_code 212 = .ok (.iload 5, 2) := by decide +kernel
theorem d7_214 : decode prog_24_method_2_code 214 = .ok (.invokevirtual 51, 3) := by decide +kernel
theorem d7_217 : decode prog_24_method_2_code 217 = .ok (.ifCond .eq 6, 3) := by decide +kernel
set_option maxRecDepth 65536 in
set_option maxHeartbeats 40000000 in
theorem own_oD2b {p : Program} {l : Launch} {e : Env} {s : State} {m : MethodId} {args : Array Value} {below : List Frame} {meth : Method} {c : Code} {T0 : State} {locs : List Loc} {Z : State} {a0 : Array Value} {h0 : Heap} {n0 : Nat} (a1 : Addr) (p2 : Int32) (x3 : Int32) (sl : Int32) (ch : Int32) (zl : Int32) (XL : List Int32) (IL : List Int32) (c_k : Int32) (c_size : Int32) (c_distances : Addr) (c_indexes : Addr)
    (X0 : Stand p l e ({ frames := 5, cells := 2, slots := 12, locals := 160 } : Room) s m args below meth c T0 locs 2 12) (hx : p.tables.exec = Jvm.exec) (hZ : Z.Warmed39 s.vm) (hw : ∀ d ∈ tables_1, d.before a0 Z = true) (hby : c.code = prog_24_method_2_code) (hml : c.maxLocals = 6) (hown : s.vm.findClass "com/example/triangulum/triangulum/search/Shortlist" = some m.cls) (e0 : T0.heap = h0) (N0 : Fr n0 locs) (Z0 : n0 ≤ h0.size) (S0 : own_S Z n0 h0 a1 c_distances c_indexes c_k c_size zl XL IL) (hc179 : ch < c_size) (hc190 : (ch + (1 : Int32)) < c_size) (hj202 : ¬ (ch + (1 : Int32)) < 0 ∧ (ch + (1 : Int32)) < zl) (hj211 : ¬ (ch + (1 : Int32)) < 0 ∧ (ch + (1 : Int32)) < zl) (hj214 : ¬ ch < 0 ∧ ch < zl) (hc217 : (own_worse (XL.getD ((ch + (1 : Int32))).toNatClampNeg 0) (IL.getD ((ch + (1 : Int32))).toNatClampNeg 0) (XL.getD (ch).toNatClampNeg 0) (IL.getD (ch).toNatClampNeg 0)) = (0 : Int32)) :
    ∃ (T' : State) (h' : Heap) (locs' : List Loc), Stand p l e ({ frames := 5, cells := 2, slots := 12, locals := 160 } : Room) s m args below meth c T' locs' 2 12 ∧ T'.heap = h' ∧ Fr n0 locs' ∧ h0.size ≤ h'.size ∧ own_S Z n0 h' a1 c_distances c_indexes c_k c_size zl XL IL ∧
      ∀ target, Steps p.tables e below (T'.setTop (mkF m 223 #[.val (.ref a1), .val (.int p2), .val (.double (FP.i2d x3)), .second, .val (.int sl), .val (.int ch)] [])) target → Steps p.tables e below (T0.setTop (mkF m 173 #[.val (.ref a1), .val (.int p2), .val (.double (FP.i2d x3)), .second, .val (.int sl), .val (.int ch)] [])) target := by
  obtain ⟨E_a1, F_k_a1, F_size_a1, F_distances_a1, F_indexes_a1, V_c_distances, V_c_indexes, g_a1, g_c_distances, g_c_indexes, had, hai, hdi⟩ := S0
  obtain ⟨T4, X4, e4, st4⟩ := getF X0 hx hZ hown (host := "") (Or.inl (hw _ (List.mem_of_getElem? (i := 26) rfl))) Via.refl e0 F_size_a1 (g := (mkF m 176 #[.val (.ref a1), .val (.int p2), .val (.double (FP.i2d x3)), .second, .val (.int sl), .val (.int ch)] [(.ref a1), (.int ch)])) rfl rfl (hb hby d7_176)
  obtain ⟨T5, X5, e5, st5⟩ := getF X4 hx hZ hown (host := "") (Or.inl (hw _ (List.mem_of_getElem? (i := 26) rfl))) Via.refl e4 F_size_a1 (g := (mkF m 187 #[.val (.ref a1), .val (.int p2), .val (.double (FP.i2d x3)), .second, .val (.int sl), .val (.int ch)] [(.ref a1), (.int (ch + (1 : Int32)))])) rfl rfl (hb hby d7_187)
  obtain ⟨T6, X6, e6, st6⟩ := getF X5 hx hZ hown (host := "") (Or.inl (hw _ (List.mem_of_getElem? (i := 16) rfl))) Via.refl e5 F_distances_a1 (g := (mkF m 195 #[.val (.ref a1), .val (.int p2), .val (.double (FP.i2d x3)), .second, .val (.int sl), .val (.int ch)] [(.ref a1), (.ref a1)])) rfl rfl (hb hby d7_195)
  obtain ⟨T7, X7, e7, st7⟩ := getF X6 hx hZ hown (host := "") (Or.inl (hw _ (List.mem_of_getElem? (i := 19) rfl))) Via.refl e6 F_indexes_a1 (g := (mkF m 204 #[.val (.ref a1), .val (.int p2), .val (.double (FP.i2d x3)), .second, .val (.int sl), .val (.int ch)] [(.ref a1), (.double (FP.i2d (XL.getD ((ch + (1 : Int32))).toNatClampNeg 0))), (.ref a1)])) rfl rfl (hb hby d7_204)
  -- pc 214: com/example/triangulum/triangulum/search/Shortlist.worse
  obtain ⟨T8, X8, e8, st8⟩ := own_w3 X7 hx hZ hw hown (hw _ (List.mem_of_getElem? (i := 57) rfl)) (x := (XL.getD ((ch + (1 : Int32))).toNatClampNeg 0)) (i := (IL.getD ((ch + (1 : Int32))).toNatClampNeg 0)) E_a1 F_distances_a1 F_indexes_a1 V_c_distances V_c_indexes hj214 (W := 0) (g := (mkF m 214 #[.val (.ref a1), .val (.int p2), .val (.double (FP.i2d x3)), .second, .val (.int sl), .val (.int ch)] [(.int ch), (.int (IL.getD ((ch + (1 : Int32))).toNatClampNeg 0)), (.double (FP.i2d (XL.getD ((ch + (1 : Int32))).toNatClampNeg 0))), (.ref a1)])) rfl (by rw [hml]; rfl) (rest := []) rfl (by show 2 * 0 + _ ≤ _; exact Nat.le_of_eq rfl) (hb hby d7_214) (by decide) (by decide) e7
  refine ⟨T8, _, _, X8, e8, N0, (Nat.le_refl _), ⟨E_a1, F_k_a1, F_size_a1, F_distances_a1, F_indexes_a1, V_c_distances, V_c_indexes, g_a1, g_c_distances, g_c_indexes, had, hai, hdi⟩, fun target kt => ?_⟩
  -- 4. STEPS
  show Steps p.tables e below (T0.setTop (mkF m 173 #[.val (.ref a1), .val (.int p2), .val (.double (FP.i2d x3)), .second, .val (.int sl), .val (.int ch)] [])) _
  refine XS.iload X0.here hx rfl (hb hby d7_173) rfl ?_
  show Steps p.tables e below (T0.setTop (mkF m 175 #[.val (.ref a1), .val (.int p2), .val (.double (FP.i2d x3)), .second, .val (.int sl), .val (.int ch)] [(.int ch)])) _
  refine XS.aloadN X0.here hx rfl (hb hby d7_175) rfl rfl ?_
  show Steps p.tables e below (T0.setTop (mkF m 176 #[.val (.ref a1), .val (.int p2), .val (.double (FP.i2d x3)), .second, .val (.int sl), .val (.int ch)] [(.ref a1), (.int ch)])) _
  refine st4 _ ?_
  show Steps p.tables e below (T4.setTop (mkF m 179 #[.val (.ref a1), .val (.int p2), .val (.double (FP.i2d x3)), .second, .val (.int sl), .val (.int ch)] [(.int c_size), (.int ch)])) _
  refine XS.icmpNo X4.here hx rfl (hb hby d7_179) rfl (tlt hc179).2.1 ?_
  show Steps p.tables e below (T4.setTop (mkF m 182 #[.val (.ref a1), .val (.int p2), .val (.double (FP.i2d x3)), .second, .val (.int sl), .val (.int ch)] [])) _
  refine XS.iload X4.here hx rfl (hb hby d7_182) rfl ?_
  show Steps p.tables e below (T4.setTop (mkF m 184 #[.val (.ref a1), .val (.int p2), .val (.double (FP.i2d x3)), .second, .val (.int sl), .val (.int ch)] [(.int ch)])) _
  refine XS.iconst X4.here hx rfl (hb hby d7_184) ?_
  show Steps p.tables e below (T4.setTop (mkF m 185 #[.val (.ref a1), .val (.int p2), .val (.double (FP.i2d x3)), .second, .val (.int sl), .val (.int ch)] [(.int (1 : Int32)), (.int ch)])) _
  refine XS.iadd X4.here hx rfl (hb hby d7_185) rfl ?_
  show Steps p.tables e below (T4.setTop (mkF m 186 #[.val (.ref a1), .val (.int p2), .val (.double (FP.i2d x3)), .second, .val (.int sl), .val (.int ch)] [(.int (ch + (1 : Int32)))])) _
  refine XS.aloadN X4.here hx rfl (hb hby d7_186) rfl rfl ?_
  show Steps p.tables e below (T4.setTop (mkF m 187 #[.val (.ref a1), .val (.int p2), .val (.double (FP.i2d x3)), .second, .val (.int sl), .val (.int ch)] [(.ref a1), (.int (ch + (1 : Int32)))])) _
  refine st5 _ ?_
  show Steps p.tables e below (T5.setTop (mkF m 190 #[.val (.ref a1), .val (.int p2), .val (.double (FP.i2d x3)), .second, .val (.int sl), .val (.int ch)] [(.int c_size), (.int (ch + (1 : Int32)))])) _
  refine XS.icmpNo X5.here hx rfl (hb hby d7_190) rfl (tlt hc190).2.1 ?_
  show Steps p.tables e below (T5.setTop (mkF m 193 #[.val (.ref a1), .val (.int p2), .val (.double (FP.i2d x3)), .second, .val (.int sl), .val (.int ch)] [])) _
  refine XS.aloadN X5.here hx rfl (hb hby d7_193) rfl rfl ?_
  show Steps p.tables e below (T5.setTop (mkF m 194 #[.val (.ref a1), .val (.int p2), .val (.double (FP.i2d x3)), .second, .val (.int sl), .val (.int ch)] [(.ref a1)])) _
  refine XS.aloadN X5.here hx rfl (hb hby d7_194) rfl rfl ?_
  show Steps p.tables e below (T5.setTop (mkF m 195 #[.val (.ref a1), .val (.int p2), .val (.double (FP.i2d x3)), .second, .val (.int sl), .val (.int ch)] [(.ref a1), (.ref a1)])) _
  refine st6 _ ?_
  show Steps p.tables e below (T6.setTop (mkF m 198 #[.val (.ref a1), .val (.int p2), .val (.double (FP.i2d x3)), .second, .val (.int sl), .val (.int ch)] [(.ref c_distances), (.ref a1)])) _
  refine XS.iload X6.here hx rfl (hb hby d7_198) rfl ?_
  show Steps p.tables e below (T6.setTop (mkF m 200 #[.val (.ref a1), .val (.int p2), .val (.double (FP.i2d x3)), .second, .val (.int sl), .val (.int ch)] [(.int ch), (.ref c_distances), (.ref a1)])) _
  refine XS.iconst X6.here hx rfl (hb hby d7_200) ?_
  show Steps p.tables e below (T6.setTop (mkF m 201 #[.val (.ref a1), .val (.int p2), .val (.double (FP.i2d x3)), .second, .val (.int sl), .val (.int ch)] [(.int (1 : Int32)), (.int ch), (.ref c_distances), (.ref a1)])) _
  refine XS.iadd X6.here hx rfl (hb hby d7_201) rfl ?_
  show Steps p.tables e below (T6.setTop (mkF m 202 #[.val (.ref a1), .val (.int p2), .val (.double (FP.i2d x3)), .second, .val (.int sl), .val (.int ch)] [(.int (ch + (1 : Int32))), (.ref c_distances), (.ref a1)])) _
  refine own_xald X6 hx hZ e6 V_c_distances hj202 (g := (mkF m 202 #[.val (.ref a1), .val (.int p2), .val (.double (FP.i2d x3)), .second, .val (.int sl), .val (.int ch)] [(.int (ch + (1 : Int32))), (.ref c_distances), (.ref a1)])) rfl rfl (hb hby d7_202) _ ?_
  show Steps p.tables e below (T6.setTop (mkF m 203 #[.val (.ref a1), .val (.int p2), .val (.double (FP.i2d x3)), .second, .val (.int sl), .val (.int ch)] [(.double (FP.i2d (XL.getD ((ch + (1 : Int32))).toNatClampNeg 0))), (.ref a1)])) _
  refine XS.aloadN X6.here hx rfl (hb hby d7_203) rfl rfl ?_
  show Steps p.tables e below (T6.setTop (mkF m 204 #[.val (.ref a1), .val (.int p2), .val (.double (FP.i2d x3)), .second, .val (.int sl), .val (.int ch)] [(.ref a1), (.double (FP.i2d (XL.getD ((ch + (1 : Int32))).toNatClampNeg 0))), (.ref a1)])) _
  refine st7 _ ?_
  show Steps p.tables e below (T7.setTop (mkF m 207 #[.val (.ref a1), .val (.int p2), .val (.double (FP.i2d x3)), .second, .val (.int sl), .val (.int ch)] [(.ref c_indexes), (.double (FP.i2d (XL.getD ((ch + (1 : Int32))).toNatClampNeg 0))), (.ref a1)])) _
  refine XS.iload X7.here hx rfl (hb hby d7_207) rfl ?_
  show Steps p.tables e below (T7.setTop (mkF m 209 #[.val (.ref a1), .val (.int p2), .val (.double (FP.i2d x3)), .second, .val (.int sl), .val (.int ch)] [(.int ch), (.ref c_indexes), (.double (FP.i2d (XL.getD ((ch + (1 : Int32))).toNatClampNeg 0))), (.ref a1)])) _
  refine XS.iconst X7.here hx rfl (hb hby d7_209) ?_
  show Steps p.tables e below (T7.setTop (mkF m 210 #[.val (.ref a1), .val (.int p2), .val (.double (FP.i2d x3)), .second, .val (.int sl), .val (.int ch)] [(.int (1 : Int32)), (.int ch), (.ref c_indexes), (.double (FP.i2d (XL.getD ((ch + (1 : Int32))).toNatClampNeg 0))), (.ref a1)])) _
  refine XS.iadd X7.here hx rfl (hb hby d7_210) rfl ?_
  show Steps p.tables e below (T7.setTop (mkF m 211 #[.val (.ref a1), .val (.int p2), .val (.double (FP.i2d x3)), .second, .val (.int sl), .val (.int ch)] [(.int (ch + (1 : Int32))), (.ref c_indexes), (.double (FP.i2d (XL.getD ((ch + (1 : Int32))).toNatClampNeg 0))), (.ref a1)])) _
  refine own_iald X7 hx hZ e7 V_c_indexes hj211 (g := (mkF m 211 #[.val (.ref a1), .val (.int p2), .val (.double (FP.i2d x3)), .second, .val (.int sl), .val (.int ch)] [(.int (ch + (1 : Int32))), (.ref c_indexes), (.double (FP.i2d (XL.getD ((ch + (1 : Int32))).toNatClampNeg 0))), (.ref a1)])) rfl rfl (hb hby d7_211) _ ?_
  show Steps p.tables e below (T7.setTop (mkF m 212 #[.val (.ref a1), .val (.int p2), .val (.double (FP.i2d x3)), .second, .val (.int sl), .val (.int ch)] [(.int (IL.getD ((ch + (1 : Int32))).toNatClampNeg 0)), (.double (FP.i2d (XL.getD ((ch + (1 : Int32))).toNatClampNeg 0))), (.ref a1)])) _
  refine XS.iload X7.here hx rfl (hb hby d7_212) rfl ?_
  show Steps p.tables e below (T7.setTop (mkF m 214 #[.val (.ref a1), .val (.int p2), .val (.double (FP.i2d x3)), .second, .val (.int sl), .val (.int ch)] [(.int ch), (.int (IL.getD ((ch + (1 : Int32))).toNatClampNeg 0)), (.double (FP.i2d (XL.getD ((ch + (1 : Int32))).toNatClampNeg 0))), (.ref a1)])) _
  refine st8 _ ?_
  show Steps p.tables e below (T8.setTop (mkF m 217 #[.val (.ref a1), .val (.int p2), .val (.double (FP.i2d x3)), .second, .val (.int sl), .val (.int ch)] [(.int (own_worse (XL.getD ((ch + (1 : Int32))).toNatClampNeg 0) (IL.getD ((ch + (1 : Int32))).toNatClampNeg 0) (XL.getD (ch).toNatClampNeg 0) (IL.getD (ch).toNatClampNeg 0)))])) _
  refine XS.ifYes X8.here hx rfl (pc0 := 217) (pc' := 223) rfl (hb hby d7_217) rfl ((if0 _ _).trans (teq hc217).1) (by decide) (by decide) ?_
  exact kt
theorem d7_220 : decode prog_24_method_2_code 220 = .ok (.iinc 5 1, 3) := by decide +kernel
set_option maxRecDepth 65536 in
set_option maxHeartbeats 40000000 in
theorem own_oD2c {p : Program} {l : Launch} {e : Env} {s : State} {m : MethodId} {args : Array Value} {below : List Frame} {meth : Method} {c : Code} {T0 : State} {locs : List Loc} {Z : State} {a0 : Array Value} {h0 : Heap} {n0 : Nat} (a1 : Addr) (p2 : Int32) (x3 : Int32) (sl : Int32) (ch : Int32) (zl : Int32) (XL : List Int32) (IL : List Int32) (c_k : Int32) (c_size : Int32) (c_distances : Addr) (c_indexes : Addr)
    (X0 : Stand p l e ({ frames := 5, cells := 2, slots := 12, locals := 160 } : Room) s m args below meth c T0 locs 2 12) (hx : p.tables.exec = Jvm.exec) (hZ : Z.Warmed39 s.vm) (hw : ∀ d ∈ tables_1, d.before a0 Z = true) (hby : c.code = prog_24_method_2_code) (hml : c.maxLocals = 6) (hown : s.vm.findClass "com/example/triangulum/triangulum/search/Shortlist" = some m.cls) (e0 : T0.heap = h0) (N0 : Fr n0 locs) (Z0 : n0 ≤ h0.size) (S0 : own_S Z n0 h0 a1 c_distances c_indexes c_k c_size zl XL IL) (hc179 : ch < c_size) (hc190 : (ch + (1 : Int32)) < c_size) (hj202 : ¬ (ch + (1 : Int32)) < 0 ∧ (ch + (1 : Int32)) < zl) (hj211 : ¬ (ch + (1 : Int32)) < 0 ∧ (ch + (1 : Int32)) < zl) (hj214 : ¬ ch < 0 ∧ ch < zl) (hc217 : ¬ ((own_worse (XL.getD ((ch + (1 : Int32))).toNatClampNeg 0) (IL.getD ((ch + (1 : Int32))).toNatClampNeg 0) (XL.getD (ch).toNatClampNeg 0) (IL.getD (ch).toNatClampNeg 0)) = (0 : Int32))) :
    ∃ (T' : State) (h' : Heap) (locs' : List Loc), Stand p l e ({ frames := 5, cells := 2, slots := 12, locals := 160 } : Room) s m args below meth c T' locs' 2 12 ∧ T'.heap = h' ∧ Fr n0 locs' ∧ h0.size ≤ h'.size ∧ own_S Z n0 h' a1 c_distances c_indexes c_k c_size zl XL IL ∧
      ∀ target, Steps p.tables e below (T'.setTop (mkF m 223 #[.val (.ref a1), .val (.int p2), .val (.double (FP.i2d x3)), .second, .val (.int sl), .val (.int (ch + (1 : Int32)))] [])) target → Steps p.tables e below (T0.setTop (mkF m 173 #[.val (.ref a1), .val (.int p2), .val (.double (FP.i2d x3)), .second, .val (.int sl), .val (.int ch)] [])) target := by
  obtain ⟨E_a1, F_k_a1, F_size_a1, F_distances_a1, F_indexes_a1, V_c_distances, V_c_indexes, g_a1, g_c_distances, g_c_indexes, had, hai, hdi⟩ := S0
  obtain ⟨T4, X4, e4, st4⟩ := getF X0 hx hZ hown (host := "") (Or.inl (hw _ (List.mem_of_getElem? (i := 26) rfl))) Via.refl e0 F_size_a1 (g := (mkF m 176 #[.val (.ref a1), .val (.int p2), .val (.double (FP.i2d x3)), .second, .val (.int sl), .val (.int ch)] [(.ref a1), (.int ch)])) rfl rfl (hb hby d7_176)
  obtain ⟨T5, X5, e5, st5⟩ := getF X4 hx hZ hown (host := "") (Or.inl (hw _ (List.mem_of_getElem? (i := 26) rfl))) Via.refl e4 F_size_a1 (g := (mkF m 187 #[.val (.ref a1), .val (.int p2), .val (.double (FP.i2d x3)), .second, .val (.int sl), .val (.int ch)] [(.ref a1), (.int (ch + (1 : Int32)))])) rfl rfl (hb hby d7_187)
  obtain ⟨T6, X6, e6, st6⟩ := getF X5 hx hZ hown (host := "") (Or.inl (hw _ (List.mem_of_getElem? (i := 16) rfl))) Via.refl e5 F_distances_a1 (g := (mkF m 195 #[.val (.ref a1), .val (.int p2), .val (.double (FP.i2d x3)), .second, .val (.int sl), .val (.int ch)] [(.ref a1), (.ref a1)])) rfl rfl (hb hby d7_195)
  obtain ⟨T7, X7, e7, st7⟩ := getF X6 hx hZ hown (host := "") (Or.inl (hw _ (List.mem_of_getElem? (i := 19) rfl))) Via.refl e6 F_indexes_a1 (g := (mkF m 204 #[.val (.ref a1), .val (.int p2), .val (.double (FP.i2d x3)), .second, .val (.int sl), .val (.int ch)] [(.ref a1), (.double (FP.i2d (XL.getD ((ch + (1 : Int32))).toNatClampNeg 0))), (.ref a1)])) rfl rfl (hb hby d7_204)
  -- pc 214: com/example/triangulum/triangulum/search/Shortlist.worse
  obtain ⟨T8, X8, e8, st8⟩ := own_w3 X7 hx hZ hw hown (hw _ (List.mem_of_getElem? (i := 57) rfl)) (x := (XL.getD ((ch + (1 : Int32))).toNatClampNeg 0)) (i := (IL.getD ((ch + (1 : Int32))).toNatClampNeg 0)) E_a1 F_distances_a1 F_indexes_a1 V_c_distances V_c_indexes hj214 (W := 0) (g := (mkF m 214 #[.val (.ref a1), .val (.int p2), .val (.double (FP.i2d x3)), .second, .val (.int sl), .val (.int ch)] [(.int ch), (.int (IL.getD ((ch + (1 : Int32))).toNatClampNeg 0)), (.double (FP.i2d (XL.getD ((ch + (1 : Int32))).toNatClampNeg 0))), (.ref a1)])) rfl (by rw [hml]; rfl) (rest := []) rfl (by show 2 * 0 + _ ≤ _; exact Nat.le_of_eq rfl) (hb hby d7_214) (by decide) (by decide) e7
  refine ⟨T8, _, _, X8, e8, N0, (Nat.le_refl _), ⟨E_a1, F_k_a1, F_size_a1, F_distances_a1, F_indexes_a1, V_c_distances, V_c_indexes, g_a1, g_c_distances, g_c_indexes, had, hai, hdi⟩, fun target kt => ?_⟩
  -- 4. STEPS
  show Steps p.tables e below (T0.setTop (mkF m 173 #[.val (.ref a1), .val (.int p2), .val (.double (FP.i2d x3)), .second, .val (.int sl), .val (.int ch)] [])) _
  refine XS.iload X0.here hx rfl (hb hby d7_173) rfl ?_
  show Steps p.tables e below (T0.setTop (mkF m 175 #[.val (.ref a1), .val (.int p2), .val (.double (FP.i2d x3)), .second, .val (.int sl), .val (.int ch)] [(.int ch)])) _
  refine XS.aloadN X0.here hx rfl (hb hby d7_175) rfl rfl ?_
  show Steps p.tables e below (T0.setTop (mkF m 176 #[.val (.ref a1), .val (.int p2), .val (.double (FP.i2d x3)), .second, .val (.int sl), .val (.int ch)] [(.ref a1), (.int ch)])) _
  refine st4 _ ?_
  show Steps p.tables e below (T4.setTop (mkF m 179 #[.val (.ref a1), .val (.int p2), .val (.double (FP.i2d x3)), .second, .val (.int sl), .val (.int ch)] [(.int c_size), (.int ch)])) _
  refine XS.icmpNo X4.here hx rfl (hb hby d7_179) rfl (tlt hc179).2.1 ?_
  show Steps p.tables e below (T4.setTop (mkF m 182 #[.val (.ref a1), .val (.int p2), .val (.double (FP.i2d x3)), .second, .val (.int sl), .val (.int ch)] [])) _
  refine XS.iload X4.here hx rfl (hb hby d7_182) rfl ?_
  show Steps p.tables e below (T4.setTop (mkF m 184 #[.val (.ref a1), .val (.int p2), .val (.double (FP.i2d x3)), .second, .val (.int sl), .val (.int ch)] [(.int ch)])) _
  refine XS.iconst X4.here hx rfl (hb hby d7_184) ?_
  show Steps p.tables e below (T4.setTop (mkF m 185 #[.val (.ref a1), .val (.int p2), .val (.double (FP.i2d x3)), .second, .val (.int sl), .val (.int ch)] [(.int (1 : Int32)), (.int ch)])) _
  refine XS.iadd X4.here hx rfl (hb hby d7_185) rfl ?_
  show Steps p.tables e below (T4.setTop (mkF m 186 #[.val (.ref a1), .val (.int p2), .val (.double (FP.i2d x3)), .second, .val (.int sl), .val (.int ch)] [(.int (ch + (1 : Int32)))])) _
  refine XS.aloadN X4.here hx rfl (hb hby d7_186) rfl rfl ?_
  show Steps p.tables e below (T4.setTop (mkF m 187 #[.val (.ref a1), .val (.int p2), .val (.double (FP.i2d x3)), .second, .val (.int sl), .val (.int ch)] [(.ref a1), (.int (ch + (1 : Int32)))])) _
  refine st5 _ ?_
  show Steps p.tables e below (T5.setTop (mkF m 190 #[.val (.ref a1), .val (.int p2), .val (.double (FP.i2d x3)), .second, .val (.int sl), .val (.int ch)] [(.int c_size), (.int (ch + (1 : Int32)))])) _
  refine XS.icmpNo X5.here hx rfl (hb hby d7_190) rfl (tlt hc190).2.1 ?_
  show Steps p.tables e below (T5.setTop (mkF m 193 #[.val (.ref a1), .val (.int p2), .val (.double (FP.i2d x3)), .second, .val (.int sl), .val (.int ch)] [])) _
  refine XS.aloadN X5.here hx rfl (hb hby d7_193) rfl rfl ?_
  show Steps p.tables e below (T5.setTop (mkF m 194 #[.val (.ref a1), .val (.int p2), .val (.double (FP.i2d x3)), .second, .val (.int sl), .val (.int ch)] [(.ref a1)])) _
  refine XS.aloadN X5.here hx rfl (hb hby d7_194) rfl rfl ?_
  show Steps p.tables e below (T5.setTop (mkF m 195 #[.val (.ref a1), .val (.int p2), .val (.double (FP.i2d x3)), .second, .val (.int sl), .val (.int ch)] [(.ref a1), (.ref a1)])) _
  refine st6 _ ?_
  show Steps p.tables e below (T6.setTop (mkF m 198 #[.val (.ref a1), .val (.int p2), .val (.double (FP.i2d x3)), .second, .val (.int sl), .val (.int ch)] [(.ref c_distances), (.ref a1)])) _
  refine XS.iload X6.here hx rfl (hb hby d7_198) rfl ?_
  show Steps p.tables e below (T6.setTop (mkF m 200 #[.val (.ref a1), .val (.int p2), .val (.double (FP.i2d x3)), .second, .val (.int sl), .val (.int ch)] [(.int ch), (.ref c_distances), (.ref a1)])) _
  refine XS.iconst X6.here hx rfl (hb hby d7_200) ?_
  show Steps p.tables e below (T6.setTop (mkF m 201 #[.val (.ref a1), .val (.int p2), .val (.double (FP.i2d x3)), .second, .val (.int sl), .val (.int ch)] [(.int (1 : Int32)), (.int ch), (.ref c_distances), (.ref a1)])) _
  refine XS.iadd X6.here hx rfl (hb hby d7_201) rfl ?_
  show Steps p.tables e below (T6.setTop (mkF m 202 #[.val (.ref a1), .val (.int p2), .val (.double (FP.i2d x3)), .second, .val (.int sl), .val (.int ch)] [(.int (ch + (1 : Int32))), (.ref c_distances), (.ref a1)])) _
  refine own_xald X6 hx hZ e6 V_c_distances hj202 (g := (mkF m 202 #[.val (.ref a1), .val (.int p2), .val (.double (FP.i2d x3)), .second, .val (.int sl), .val (.int ch)] [(.int (ch + (1 : Int32))), (.ref c_distances), (.ref a1)])) rfl rfl (hb hby d7_202) _ ?_
  show Steps p.tables e below (T6.setTop (mkF m 203 #[.val (.ref a1), .val (.int p2), .val (.double (FP.i2d x3)), .second, .val (.int sl), .val (.int ch)] [(.double (FP.i2d (XL.getD ((ch + (1 : Int32))).toNatClampNeg 0))), (.ref a1)])) _
  refine XS.aloadN X6.here hx rfl (hb hby d7_203) rfl rfl ?_
  show Steps p.tables e below (T6.setTop (mkF m 204 #[.val (.ref a1), .val (.int p2), .val (.double (FP.i2d x3)), .second, .val (.int sl), .val (.int ch)] [(.ref a1), (.double (FP.i2d (XL.getD ((ch + (1 : Int32))).toNatClampNeg 0))), (.ref a1)])) _
  refine st7 _ ?_
  show Steps p.tables e below (T7.setTop (mkF m 207 #[.val (.ref a1), .val (.int p2), .val (.double (FP.i2d x3)), .second, .val (.int sl), .val (.int ch)] [(.ref c_indexes), (.double (FP.i2d (XL.getD ((ch + (1 : Int32))).toNatClampNeg 0))), (.ref a1)])) _
  refine XS.iload X7.here hx rfl (hb hby d7_207) rfl ?_
  show Steps p.tables e below (T7.setTop (mkF m 209 #[.val (.ref a1), .val (.int p2), .val (.double (FP.i2d x3)), .second, .val (.int sl), .val (.int ch)] [(.int ch), (.ref c_indexes), (.double (FP.i2d (XL.getD ((ch + (1 : Int32))).toNatClampNeg 0))), (.ref a1)])) _
  refine XS.iconst X7.here hx rfl (hb hby d7_209) ?_
  show Steps p.tables e below (T7.setTop (mkF m 210 #[.val (.ref a1), .val (.int p2), .val (.double (FP.i2d x3)), .second, .val (.int sl), .val (.int ch)] [(.int (1 : Int32)), (.int ch), (.ref c_indexes), (.double (FP.i2d (XL.getD ((ch + (1 : Int32))).toNatClampNeg 0))), (.ref a1)])) _
  refine XS.iadd X7.here hx rfl (hb hby d7_210) rfl ?_
  show Steps p.tables e below (T7.setTop (mkF m 211 #[.val (.ref a1), .val (.int p2), .val (.double (FP.i2d x3)), .second, .val (.int sl), .val (.int ch)] [(.int (ch + (1 : Int32))), (.ref c_indexes), (.double (FP.i2d (XL.getD ((ch + (1 : Int32))).toNatClampNeg 0))), (.ref a1)])) _
  refine own_iald X7 hx hZ e7 V_c_indexes hj211 (g := (mkF m 211 #[.val (.ref a1), .val (.int p2), .val (.double (FP.i2d x3)), .second, .val (.int sl), .val (.int ch)] [(.int (ch + (1 : Int32))), (.ref c_indexes), (.double (FP.i2d (XL.getD ((ch + (1 : Int32))).toNatClampNeg 0))), (.ref a1)])) rfl rfl (hb hby d7_211) _ ?_
  show Steps p.tables e below (T7.setTop (mkF m 212 #[.val (.ref a1), .val (.int p2), .val (.double (FP.i2d x3)), .second, .val (.int sl), .val (.int ch)] [(.int (IL.getD ((ch + (1 : Int32))).toNatClampNeg 0)), (.double (FP.i2d (XL.getD ((ch + (1 : Int32))).toNatClampNeg 0))), (.ref a1)])) _
  refine XS.iload X7.here hx rfl (hb hby d7_212) rfl ?_
  show Steps p.tables e below (T7.setTop (mkF m 214 #[.val (.ref a1), .val (.int p2), .val (.double (FP.i2d x3)), .second, .val (.int sl), .val (.int ch)] [(.int ch), (.int (IL.getD ((ch + (1 : Int32))).toNatClampNeg 0)), (.double (FP.i2d (XL.getD ((ch + (1 : Int32))).toNatClampNeg 0))), (.ref a1)])) _
  refine st8 _ ?_
  show Steps p.tables e below (T8.setTop (mkF m 217 #[.val (.ref a1), .val (.int p2), .val (.double (FP.i2d x3)), .second, .val (.int sl), .val (.int ch)] [(.int (own_worse (XL.getD ((ch + (1 : Int32))).toNatClampNeg 0) (IL.getD ((ch + (1 : Int32))).toNatClampNeg 0) (XL.getD (ch).toNatClampNeg 0) (IL.getD (ch).toNatClampNeg 0)))])) _
  refine XS.ifNo X8.here hx rfl (hb hby d7_217) rfl ((if0 _ _).trans (feq hc217).1) ?_
  show Steps p.tables e below (T8.setTop (mkF m 220 #[.val (.ref a1), .val (.int p2), .val (.double (FP.i2d x3)), .second, .val (.int sl), .val (.int ch)] [])) _
  refine XS.iinc X8.here hx rfl (hb hby d7_220) rfl (l' := #[.val (.ref a1), .val (.int p2), .val (.double (FP.i2d x3)), .second, .val (.int sl), .val (.int (ch + (1 : Int32)))]) rfl ?_
  exact kt
theorem d7_223 : decode prog_24_method_2_code 223 = .ok (.aload_n 0, 1) := by decide +kernel
theorem d7_224 : decode prog_24_method_2_code 224 = .ok (.getfield 28, 3) := by decide +kernel
theorem d7_227 : decode prog_24_method_2_code 227 = .ok (.iload 5, 2) := by decide +kernel
theorem d7_229 : decode prog_24_method_2_code 229 = .ok (.daload, 1) := by decide +kernel
theorem d7_230 : decode prog_24_method_2_code 230 = .ok (.aload_n 0, 1) := by decide +kernel
theorem d7_231 : decode prog_24_method_2_code 231 = .ok (.getfield 32, 3) := by decide +kernel
theorem d7_234 : decode prog_24_method_2_code 234 = .ok (.iload 5, 2) := by decide +kernel
theorem d7_236 : decode prog_24_method_2_code 236 = .ok (.iaload, 1) := by decide +kernel
theorem d7_237 : decode prog_24_method_2_code 237 = .ok (.dload_n 2, 1) := by decide +kernel
theorem d7_238 : decode prog_24_method_2_code 238 = .ok (.iload_n 1, 1) := by decide +kernel
theorem d7_239 : decode prog_24_method_2_code 239 = .ok (.invokestatic 59, 3) := by decide +kernel
theorem d7_242 : decode prog_24_method_2_code 242 = .ok (.ifCond .ne 6, 3) := by decide +kernel
theorem d7_245 : decode prog_24_method_2_code 245 = .ok (.goto 38, 3) := by decide +kernel
set_option maxRecDepth 65536 in
set_option maxHeartbeats 40000000 in
theorem own_oD3f {p : Program} {l : Launch} {e : Env} {s : State} {m : MethodId} {args : Array Value} {below : List Frame} {meth : Method} {c : Code} {T0 : State} {locs : List Loc} {Z : State} {a0 : Array Value} {h0 : Heap} {n0 : Nat} (a1 : Addr) (p2 : Int32) (x3 : Int32) (sl : Int32) (ch : Int32) (zl : Int32) (XL : List Int32) (IL : List Int32) (c_k : Int32) (c_size : Int32) (c_distances : Addr) (c_indexes : Addr)
    (X0 : Stand p l e ({ frames := 5, cells := 2, slots := 12, locals := 160 } : Room) s m args below meth c T0 locs 2 12) (hx : p.tables.exec = Jvm.exec) (hZ : Z.Warmed39 s.vm) (hw : ∀ d ∈ tables_1, d.before a0 Z = true) (hby : c.code = prog_24_method_2_code) (hml : c.maxLocals = 6) (hown : s.vm.findClass "com/example/triangulum/triangulum/search/Shortlist" = some m.cls) (e0 : T0.heap = h0) (N0 : Fr n0 locs) (Z0 : n0 ≤ h0.size) (S0 : own_S Z n0 h0 a1 c_distances c_indexes c_k c_size zl XL IL) (hj229 : ¬ ch < 0 ∧ ch < zl) (hj236 : ¬ ch < 0 ∧ ch < zl) (hc242 : (own_worse (XL.getD (ch).toNatClampNeg 0) (IL.getD (ch).toNatClampNeg 0) x3 p2) = (0 : Int32)) :
    ∃ (T' : State) (h' : Heap) (locs' : List Loc), Stand p l e ({ frames := 5, cells := 2, slots := 12, locals := 160 } : Room) s m args below meth c T' locs' 2 12 ∧ T'.heap = h' ∧ Fr n0 locs' ∧ h0.size ≤ h'.size ∧ own_S Z n0 h' a1 c_distances c_indexes c_k c_size zl XL IL ∧
      ∀ target, Steps p.tables e below (T'.setTop (mkF m 283 #[.val (.ref a1), .val (.int p2), .val (.double (FP.i2d x3)), .second, .val (.int sl), .val (.int ch)] [])) target → Steps p.tables e below (T0.setTop (mkF m 223 #[.val (.ref a1), .val (.int p2), .val (.double (FP.i2d x3)), .second, .val (.int sl), .val (.int ch)] [])) target := by
  obtain ⟨E_a1, F_k_a1, F_size_a1, F_distances_a1, F_indexes_a1, V_c_distances, V_c_indexes, g_a1, g_c_distances, g_c_indexes, had, hai, hdi⟩ := S0
  obtain ⟨T4, X4, e4, st4⟩ := getF X0 hx hZ hown (host := "") (Or.inl (hw _ (List.mem_of_getElem? (i := 16) rfl))) Via.refl e0 F_distances_a1 (g := (mkF m 224 #[.val (.ref a1), .val (.int p2), .val (.double (FP.i2d x3)), .second, .val (.int sl), .val (.int ch)] [(.ref a1)])) rfl rfl (hb hby d7_224)
  obtain ⟨T5, X5, e5, st5⟩ := getF X4 hx hZ hown (host := "") (Or.inl (hw _ (List.mem_of_getElem? (i := 19) rfl))) Via.refl e4 F_indexes_a1 (g := (mkF m 231 #[.val (.ref a1), .val (.int p2), .val (.double (FP.i2d x3)), .second, .val (.int sl), .val (.int ch)] [(.ref a1), (.double (FP.i2d (XL.getD (ch).toNatClampNeg 0)))])) rfl rfl (hb hby d7_231)
  -- pc 239: com/example/triangulum/triangulum/search/Shortlist.worse
  obtain ⟨T6, X6, e6, st6⟩ := own_call_w4 X5 hx hZ hw hown (hw _ (List.mem_of_getElem? (i := 50) rfl)) (XL.getD (ch).toNatClampNeg 0) (IL.getD (ch).toNatClampNeg 0) x3 p2 (W := 0) (g := (mkF m 239 #[.val (.ref a1), .val (.int p2), .val (.double (FP.i2d x3)), .second, .val (.int sl), .val (.int ch)] [(.int p2), (.double (FP.i2d x3)), (.int (IL.getD (ch).toNatClampNeg 0)), (.double (FP.i2d (XL.getD (ch).toNatClampNeg 0)))])) rfl (by rw [hml]; rfl) (rest := []) rfl (by show 2 * 0 + _ ≤ _; exact Nat.le_of_eq rfl) (hb hby d7_239) (by decide) (by decide) e5
  refine ⟨T6, _, _, X6, e6, N0, (Nat.le_refl _), ⟨E_a1, F_k_a1, F_size_a1, F_distances_a1, F_indexes_a1, V_c_distances, V_c_indexes, g_a1, g_c_distances, g_c_indexes, had, hai, hdi⟩, fun target kt => ?_⟩
  -- 4. STEPS
  show Steps p.tables e below (T0.setTop (mkF m 223 #[.val (.ref a1), .val (.int p2), .val (.double (FP.i2d x3)), .second, .val (.int sl), .val (.int ch)] [])) _
  refine XS.aloadN X0.here hx rfl (hb hby d7_223) rfl rfl ?_
  show Steps p.tables e below (T0.setTop (mkF m 224 #[.val (.ref a1), .val (.int p2), .val (.double (FP.i2d x3)), .second, .val (.int sl), .val (.int ch)] [(.ref a1)])) _
  refine st4 _ ?_
  show Steps p.tables e below (T4.setTop (mkF m 227 #[.val (.ref a1), .val (.int p2), .val (.double (FP.i2d x3)), .second, .val (.int sl), .val (.int ch)] [(.ref c_distances)])) _
  refine XS.iload X4.here hx rfl (hb hby d7_227) rfl ?_
  show Steps p.tables e below (T4.setTop (mkF m 229 #[.val (.ref a1), .val (.int p2), .val (.double (FP.i2d x3)), .second, .val (.int sl), .val (.int ch)] [(.int ch), (.ref c_distances)])) _
  refine own_xald X4 hx hZ e4 V_c_distances hj229 (g := (mkF m 229 #[.val (.ref a1), .val (.int p2), .val (.double (FP.i2d x3)), .second, .val (.int sl), .val (.int ch)] [(.int ch), (.ref c_distances)])) rfl rfl (hb hby d7_229) _ ?_
  show Steps p.tables e below (T4.setTop (mkF m 230 #[.val (.ref a1), .val (.int p2), .val (.double (FP.i2d x3)), .second, .val (.int sl), .val (.int ch)] [(.double (FP.i2d (XL.getD (ch).toNatClampNeg 0)))])) _
  refine XS.aloadN X4.here hx rfl (hb hby d7_230) rfl rfl ?_
  show Steps p.tables e below (T4.setTop (mkF m 231 #[.val (.ref a1), .val (.int p2), .val (.double (FP.i2d x3)), .second, .val (.int sl), .val (.int ch)] [(.ref a1), (.double (FP.i2d (XL.getD (ch).toNatClampNeg 0)))])) _
  refine st5 _ ?_
  show Steps p.tables e below (T5.setTop (mkF m 234 #[.val (.ref a1), .val (.int p2), .val (.double (FP.i2d x3)), .second, .val (.int sl), .val (.int ch)] [(.ref c_indexes), (.double (FP.i2d (XL.getD (ch).toNatClampNeg 0)))])) _
  refine XS.iload X5.here hx rfl (hb hby d7_234) rfl ?_
  show Steps p.tables e below (T5.setTop (mkF m 236 #[.val (.ref a1), .val (.int p2), .val (.double (FP.i2d x3)), .second, .val (.int sl), .val (.int ch)] [(.int ch), (.ref c_indexes), (.double (FP.i2d (XL.getD (ch).toNatClampNeg 0)))])) _
  refine own_iald X5 hx hZ e5 V_c_indexes hj236 (g := (mkF m 236 #[.val (.ref a1), .val (.int p2), .val (.double (FP.i2d x3)), .second, .val (.int sl), .val (.int ch)] [(.int ch), (.ref c_indexes), (.double (FP.i2d (XL.getD (ch).toNatClampNeg 0)))])) rfl rfl (hb hby d7_236) _ ?_
  show Steps p.tables e below (T5.setTop (mkF m 237 #[.val (.ref a1), .val (.int p2), .val (.double (FP.i2d x3)), .second, .val (.int sl), .val (.int ch)] [(.int (IL.getD (ch).toNatClampNeg 0)), (.double (FP.i2d (XL.getD (ch).toNatClampNeg 0)))])) _
  refine XS.dloadN X5.here hx rfl (hb hby d7_237) rfl ?_
  show Steps p.tables e below (T5.setTop (mkF m 238 #[.val (.ref a1), .val (.int p2), .val (.double (FP.i2d x3)), .second, .val (.int sl), .val (.int ch)] [(.double (FP.i2d x3)), (.int (IL.getD (ch).toNatClampNeg 0)), (.double (FP.i2d (XL.getD (ch).toNatClampNeg 0)))])) _
  refine XS.iloadN X5.here hx rfl (hb hby d7_238) rfl ?_
  show Steps p.tables e below (T5.setTop (mkF m 239 #[.val (.ref a1), .val (.int p2), .val (.double (FP.i2d x3)), .second, .val (.int sl), .val (.int ch)] [(.int p2), (.double (FP.i2d x3)), (.int (IL.getD (ch).toNatClampNeg 0)), (.double (FP.i2d (XL.getD (ch).toNatClampNeg 0)))])) _
  refine st6 _ ?_
  show Steps p.tables e below (T6.setTop (mkF m 242 #[.val (.ref a1), .val (.int p2), .val (.double (FP.i2d x3)), .second, .val (.int sl), .val (.int ch)] [(.int (own_worse (XL.getD (ch).toNatClampNeg 0) (IL.getD (ch).toNatClampNeg 0) x3 p2))])) _
  refine XS.ifNo X6.here hx rfl (hb hby d7_242) rfl ((if0 _ _).trans (teq hc242).2) ?_
  show Steps p.tables e below (T6.setTop (mkF m 245 #[.val (.ref a1), .val (.int p2), .val (.double (FP.i2d x3)), .second, .val (.int sl), .val (.int ch)] [])) _
  refine XS.goto X6.here hx rfl (pc0 := 245) (pc' := 283) rfl (hb hby d7_245) (by decide) (by decide) ?_
  exact kt
theorem d7_248 : decode prog_24_method_2_code 248 = .ok (.aload_n 0, 1) := by decide +kernel
theorem d7_249 : decode prog_24_method_2_code 249 = .ok (.iload 4, 2) := by decide +kernel
theorem d7_251 : decode prog_24_method_2_code 251 = .ok (.aload_n 0, 1) := by decide +kernel
theorem d7_252 : decode prog_24_method_2_code 252 = .ok (.getfield 28, 3) := by decide +kernel
theorem d7_255 : decode prog_24_method_2_code 255 = .ok (.iload 5, 2) := by decide +kernel
theorem d7_257 : decode prog_24_method_2_code 257 = .ok (.daload, 1) := by decide +kernel
theorem d7_258 : decode prog_24_method_2_code 258 = .ok (.aload_n 0, 1) := by decide +kernel
theorem d7_259 : decode prog_24_method_2_code 259 = .ok (.getfield 32, 3) := by decide +kernel
theorem d7_262 : decode prog_24_method_2_code 262 = .ok (.iload 5, 2) := by decide +kernel
theorem d7_264 : decode prog_24_method_2_code 264 = .ok (.iaload, 1) := by decide +kernel
theorem d7_265 : decode prog_24_method_2_code 265 = .ok (.invokevirtual 55, 3) := by decide +kernel
theorem d7_268 : decode prog_24_method_2_code 268 = .ok (.iload 5, 2) := by decide +kernel
theorem d7_270 : decode prog_24_method_2_code 270 = .ok (.istore 4, 2) := by decide +kernel
theorem d7_272 : decode prog_24_method_2_code 272 = .ok (.iconst 2, 1) := by decide +kernel
theorem d7_273 : decode prog_24_method_2_code 273 = .ok (.iload 4, 2) := by decide +kernel
theorem d7_275 : decode prog_24_method_2_code 275 = .ok (.imul, 1) := by decide +kernel
theorem d7_276 : decode prog_24_method_2_code 276 = .ok (.iconst 1, 1) := by decide +kernel
theorem d7_277 : decode prog_24_method_2_code 277 = .ok (.iadd, 1) := by decide +kernel
theorem d7_278 : decode prog_24_method_2_code 278 = .ok (.istore 5, 2) := by decide +kernel
theorem d7_280 : decode prog_24_method_2_code 280 = .ok (.goto (-107), 3) := by decide +kernel
set_option maxRecDepth 65536 in
set_option maxHeartbeats 40000000 in
theorem own_oD3t {p : Program} {l : Launch} {e : Env} {s : State} {m : MethodId} {args : Array Value} {below : List Frame} {meth : Method} {c : Code} {T0 : State} {locs : List Loc} {Z : State} {a0 : Array Value} {h0 : Heap} {n0 : Nat} (a1 : Addr) (p2 : Int32) (x3 : Int32) (sl : Int32) (ch : Int32) (zl : Int32) (XL : List Int32) (IL : List Int32) (c_k : Int32) (c_size : Int32) (c_distances : Addr) (c_indexes : Addr)
    (X0 : Stand p l e ({ frames := 5, cells := 2, slots := 12, locals := 160 } : Room) s m args below meth c T0 locs 2 12) (hx : p.tables.exec = Jvm.exec) (hZ : Z.Warmed39 s.vm) (hw : ∀ d ∈ tables_1, d.before a0 Z = true) (hby : c.code = prog_24_method_2_code) (hml : c.maxLocals = 6) (hown : s.vm.findClass "com/example/triangulum/triangulum/search/Shortlist" = some m.cls) (e0 : T0.heap = h0) (N0 : Fr n0 locs) (Z0 : n0 ≤ h0.size) (S0 : own_S Z n0 h0 a1 c_distances c_indexes c_k c_size zl XL IL) (hj229 : ¬ ch < 0 ∧ ch < zl) (hj236 : ¬ ch < 0 ∧ ch < zl) (hc242 : ¬ ((own_worse (XL.getD (ch).toNatClampNeg 0) (IL.getD (ch).toNatClampNeg 0) x3 p2) = (0 : Int32))) (hj257 : ¬ ch < 0 ∧ ch < zl) (hj264 : ¬ ch < 0 ∧ ch < zl) (hj265 : ¬ sl < 0 ∧ sl < zl) (hlx265 : (sl).toNatClampNeg < XL.length) (hli265 : (sl).toNatClampNeg < IL.length) :
    ∃ (T' : State) (h' : Heap) (locs' : List Loc), Stand p l e ({ frames := 5, cells := 2, slots := 12, locals := 160 } : Room) s m args below meth c T' locs' 2 12 ∧ T'.heap = h' ∧ Fr n0 locs' ∧ h0.size ≤ h'.size ∧ own_S Z n0 h' a1 c_distances c_indexes c_k c_size zl (XL.set (sl).toNatClampNeg (XL.getD (ch).toNatClampNeg 0)) (IL.set (sl).toNatClampNeg (IL.getD (ch).toNatClampNeg 0)) ∧
      ∀ target, Steps p.tables e below (T'.setTop (mkF m 173 #[.val (.ref a1), .val (.int p2), .val (.double (FP.i2d x3)), .second, .val (.int ch), .val (.int (((2 : Int32) * ch) + (1 : Int32)))] [])) target → Steps p.tables e below (T0.setTop (mkF m 223 #[.val (.ref a1), .val (.int p2), .val (.double (FP.i2d x3)), .second, .val (.int sl), .val (.int ch)] [])) target := by
  obtain ⟨E_a1, F_k_a1, F_size_a1, F_distances_a1, F_indexes_a1, V_c_distances, V_c_indexes, g_a1, g_c_distances, g_c_indexes, had, hai, hdi⟩ := S0
  obtain ⟨T4, X4, e4, st4⟩ := getF X0 hx hZ hown (host := "") (Or.inl (hw _ (List.mem_of_getElem? (i := 16) rfl))) Via.refl e0 F_distances_a1 (g := (mkF m 224 #[.val (.ref a1), .val (.int p2), .val (.double (FP.i2d x3)), .second, .val (.int sl), .val (.int ch)] [(.ref a1)])) rfl rfl (hb hby d7_224)
  obtain ⟨T5, X5, e5, st5⟩ := getF X4 hx hZ hown (host := "") (Or.inl (hw _ (List.mem_of_getElem? (i := 19) rfl))) Via.refl e4 F_indexes_a1 (g := (mkF m 231 #[.val (.ref a1), .val (.int p2), .val (.double (FP.i2d x3)), .second, .val (.int sl), .val (.int ch)] [(.ref a1), (.double (FP.i2d (XL.getD (ch).toNatClampNeg 0)))])) rfl rfl (hb hby d7_231)
  -- pc 239: com/example/triangulum/triangulum/search/Shortlist.worse
  obtain ⟨T6, X6, e6, st6⟩ := own_call_w4 X5 hx hZ hw hown (hw _ (List.mem_of_getElem? (i := 50) rfl)) (XL.getD (ch).toNatClampNeg 0) (IL.getD (ch).toNatClampNeg 0) x3 p2 (W := 0) (g := (mkF m 239 #[.val (.ref a1), .val (.int p2), .val (.double (FP.i2d x3)), .second, .val (.int sl), .val (.int ch)] [(.int p2), (.double (FP.i2d x3)), (.int (IL.getD (ch).toNatClampNeg 0)), (.double (FP.i2d (XL.getD (ch).toNatClampNeg 0)))])) rfl (by rw [hml]; rfl) (rest := []) rfl (by show 2 * 0 + _ ≤ _; exact Nat.le_of_eq rfl) (hb hby d7_239) (by decide) (by decide) e5
  obtain ⟨T7, X7, e7, st7⟩ := getF X6 hx hZ hown (host := "") (Or.inl (hw _ (List.mem_of_getElem? (i := 16) rfl))) Via.refl e6 F_distances_a1 (g := (mkF m 252 #[.val (.ref a1), .val (.int p2), .val (.double (FP.i2d x3)), .second, .val (.int sl), .val (.int ch)] [(.ref a1), (.int sl), (.ref a1)])) rfl rfl (hb hby d7_252)
  obtain ⟨T8, X8, e8, st8⟩ := getF X7 hx hZ hown (host := "") (Or.inl (hw _ (List.mem_of_getElem? (i := 19) rfl))) Via.refl e7 F_indexes_a1 (g := (mkF m 259 #[.val (.ref a1), .val (.int p2), .val (.double (FP.i2d x3)), .second, .val (.int sl), .val (.int ch)] [(.ref a1), (.double (FP.i2d (XL.getD (ch).toNatClampNeg 0))), (.int sl), (.ref a1)])) rfl rfl (hb hby d7_259)
  -- pc 265: com/example/triangulum/triangulum/search/Shortlist.put
  obtain ⟨T9, h9, L9, X9, e9, N9, ⟨Kc9, Vx9, Vi9⟩, st9⟩ := own_put X8 hx hZ hw hown (hw _ (List.mem_of_getElem? (i := 42) rfl)) E_a1 F_distances_a1 F_indexes_a1 V_c_distances V_c_indexes hdi had hai g_c_distances g_c_indexes N0 hj265 hlx265 hli265 (W := 0) (g := (mkF m 265 #[.val (.ref a1), .val (.int p2), .val (.double (FP.i2d x3)), .second, .val (.int sl), .val (.int ch)] [(.int (IL.getD (ch).toNatClampNeg 0)), (.double (FP.i2d (XL.getD (ch).toNatClampNeg 0))), (.int sl), (.ref a1)])) rfl (by rw [hml]; rfl) (rest := []) rfl (by show 2 * 0 + _ ≤ _; exact Nat.le_of_eq rfl) (hb hby d7_265) (by decide) (by decide) e8
  refine ⟨T9, _, _, X9, e9, N9, (Nat.le_trans (Nat.le_refl _) Kc9.1), ⟨(E_a1.keep Kc9), (F_k_a1.keep Kc9 (ninS had (ninS hai nin0))), (F_size_a1.keep Kc9 (ninS had (ninS hai nin0))), (F_distances_a1.keep Kc9 (ninS had (ninS hai nin0))), (F_indexes_a1.keep Kc9 (ninS had (ninS hai nin0))), Vx9, Vi9, g_a1, g_c_distances, g_c_indexes, had, hai, hdi⟩, fun target kt => ?_⟩
  -- 4. STEPS
  show Steps p.tables e below (T0.setTop (mkF m 223 #[.val (.ref a1), .val (.int p2), .val (.double (FP.i2d x3)), .second, .val (.int sl), .val (.int ch)] [])) _
  refine XS.aloadN X0.here hx rfl (hb hby d7_223) rfl rfl ?_
  show Steps p.tables e below (T0.setTop (mkF m 224 #[.val (.ref a1), .val (.int p2), .val (.double (FP.i2d x3)), .second, .val (.int sl), .val (.int ch)] [(.ref a1)])) _
  refine st4 _ ?_
  show Steps p.tables e below (T4.setTop (mkF m 227 #[.val (.ref a1), .val (.int p2), .val (.double (FP.i2d x3)), .second, .val (.int sl), .val (.int ch)] [(.ref c_distances)])) _
  refine XS.iload X4.here hx rfl (hb hby d7_227) rfl ?_
  show Steps p.tables e below (T4.setTop (mkF m 229 #[.val (.ref a1), .val (.int p2), .val (.double (FP.i2d x3)), .second, .val (.int sl), .val (.int ch)] [(.int ch), (.ref c_distances)])) _
  refine own_xald X4 hx hZ e4 V_c_distances hj229 (g := (mkF m 229 #[.val (.ref a1), .val (.int p2), .val (.double (FP.i2d x3)), .second, .val (.int sl), .val (.int ch)] [(.int ch), (.ref c_distances)])) rfl rfl (hb hby d7_229) _ ?_
  show Steps p.tables e below (T4.setTop (mkF m 230 #[.val (.ref a1), .val (.int p2), .val (.double (FP.i2d x3)), .second, .val (.int sl), .val (.int ch)] [(.double (FP.i2d (XL.getD (ch).toNatClampNeg 0)))])) _
  refine XS.aloadN X4.here hx rfl (hb hby d7_230) rfl rfl ?_
  show Steps p.tables e below (T4.setTop (mkF m 231 #[.val (.ref a1), .val (.int p2), .val (.double (FP.i2d x3)), .second, .val (.int sl), .val (.int ch)] [(.ref a1), (.double (FP.i2d (XL.getD (ch).toNatClampNeg 0)))])) _
  refine st5 _ ?_
  show Steps p.tables e below (T5.setTop (mkF m 234 #[.val (.ref a1), .val (.int p2), .val (.double (FP.i2d x3)), .second, .val (.int sl), .val (.int ch)] [(.ref c_indexes), (.double (FP.i2d (XL.getD (ch).toNatClampNeg 0)))])) _
  refine XS.iload X5.here hx rfl (hb hby d7_234) rfl ?_
  show Steps p.tables e below (T5.setTop (mkF m 236 #[.val (.ref a1), .val (.int p2), .val (.double (FP.i2d x3)), .second, .val (.int sl), .val (.int ch)] [(.int ch), (.ref c_indexes), (.double (FP.i2d (XL.getD (ch).toNatClampNeg 0)))])) _
  refine own_iald X5 hx hZ e5 V_c_indexes hj236 (g := (mkF m 236 #[.val (.ref a1), .val (.int p2), .val (.double (FP.i2d x3)), .second, .val (.int sl), .val (.int ch)] [(.int ch), (.ref c_indexes), (.double (FP.i2d (XL.getD (ch).toNatClampNeg 0)))])) rfl rfl (hb hby d7_236) _ ?_
  show Steps p.tables e below (T5.setTop (mkF m 237 #[.val (.ref a1), .val (.int p2), .val (.double (FP.i2d x3)), .second, .val (.int sl), .val (.int ch)] [(.int (IL.getD (ch).toNatClampNeg 0)), (.double (FP.i2d (XL.getD (ch).toNatClampNeg 0)))])) _
  refine XS.dloadN X5.here hx rfl (hb hby d7_237) rfl ?_
  show Steps p.tables e below (T5.setTop (mkF m 238 #[.val (.ref a1), .val (.int p2), .val (.double (FP.i2d x3)), .second, .val (.int sl), .val (.int ch)] [(.double (FP.i2d x3)), (.int (IL.getD (ch).toNatClampNeg 0)), (.double (FP.i2d (XL.getD (ch).toNatClampNeg 0)))])) _
  refine XS.iloadN X5.here hx rfl (hb hby d7_238) rfl ?_
  show Steps p.tables e below (T5.setTop (mkF m 239 #[.val (.ref a1), .val (.int p2), .val (.double (FP.i2d x3)), .second, .val (.int sl), .val (.int ch)] [(.int p2), (.double (FP.i2d x3)), (.int (IL.getD (ch).toNatClampNeg 0)), (.double (FP.i2d (XL.getD (ch).toNatClampNeg 0)))])) _
  refine st6 _ ?_
  show Steps p.tables e below (T6.setTop (mkF m 242 #[.val (.ref a1), .val (.int p2), .val (.double (FP.i2d x3)), .second, .val (.int sl), .val (.int ch)] [(.int (own_worse (XL.getD (ch).toNatClampNeg 0) (IL.getD (ch).toNatClampNeg 0) x3 p2))])) _
  refine XS.ifYes X6.here hx rfl (pc0 := 242) (pc' := 248) rfl (hb hby d7_242) rfl ((if0 _ _).trans (feq hc242).2) (by decide) (by decide) ?_
  show Steps p.tables e below (T6.setTop (mkF m 248 #[.val (.ref a1), .val (.int p2), .val (.double (FP.i2d x3)), .second, .val (.int sl), .val (.int ch)] [])) _
  refine XS.aloadN X6.here hx rfl (hb hby d7_248) rfl rfl ?_
  show Steps p.tables e below (T6.setTop (mkF m 249 #[.val (.ref a1), .val (.int p2), .val (.double (FP.i2d x3)), .second, .val (.int sl), .val (.int ch)] [(.ref a1)])) _
  refine XS.iload X6.here hx rfl (hb hby d7_249) rfl ?_
  show Steps p.tables e below (T6.setTop (mkF m 251 #[.val (.ref a1), .val (.int p2), .val (.double (FP.i2d x3)), .second, .val (.int sl), .val (.int ch)] [(.int sl), (.ref a1)])) _
  refine XS.aloadN X6.here hx rfl (hb hby d7_251) rfl rfl ?_
  show Steps p.tables e below (T6.setTop (mkF m 252 #[.val (.ref a1), .val (.int p2), .val (.double (FP.i2d x3)), .second, .val (.int sl), .val (.int ch)] [(.ref a1), (.int sl), (.ref a1)])) _
  refine st7 _ ?_
  show Steps p.tables e below (T7.setTop (mkF m 255 #[.val (.ref a1), .val (.int p2), .val (.double (FP.i2d x3)), .second, .val (.int sl), .val (.int ch)] [(.ref c_distances), (.int sl), (.ref a1)])) _
  refine XS.iload X7.here hx rfl (hb hby d7_255) rfl ?_
  show Steps p.tables e below (T7.setTop (mkF m 257 #[.val (.ref a1), .val (.int p2), .val (.double (FP.i2d x3)), .second, .val (.int sl), .val (.int ch)] [(.int ch), (.ref c_distances), (.int sl), (.ref a1)])) _
  refine own_xald X7 hx hZ e7 V_c_distances hj257 (g := (mkF m 257 #[.val (.ref a1), .val (.int p2), .val (.double (FP.i2d x3)), .second, .val (.int sl), .val (.int ch)] [(.int ch), (.ref c_distances), (.int sl), (.ref a1)])) rfl rfl (hb hby d7_257) _ ?_
  show Steps p.tables e below (T7.setTop (mkF m 258 #[.val (.ref a1), .val (.int p2), .val (.double (FP.i2d x3)), .second, .val (.int sl), .val (.int ch)] [(.double (FP.i2d (XL.getD (ch).toNatClampNeg 0))), (.int sl), (.ref a1)])) _
  refine XS.aloadN X7.here hx rfl (hb hby d7_258) rfl rfl ?_
  show Steps p.tables e below (T7.setTop (mkF m 259 #[.val (.ref a1), .val (.int p2), .val (.double (FP.i2d x3)), .second, .val (.int sl), .val (.int ch)] [(.ref a1), (.double (FP.i2d (XL.getD (ch).toNatClampNeg 0))), (.int sl), (.ref a1)])) _
  refine st8 _ ?_
  show Steps p.tables e below (T8.setTop (mkF m 262 #[.val (.ref a1), .val (.int p2), .val (.double (FP.i2d x3)), .second, .val (.int sl), .val (.int ch)] [(.ref c_indexes), (.double (FP.i2d (XL.getD (ch).toNatClampNeg 0))), (.int sl), (.ref a1)])) _
  refine XS.iload X8.here hx rfl (hb hby d7_262) rfl ?_
  show Steps p.tables e below (T8.setTop (mkF m 264 #[.val (.ref a1), .val (.int p2), .val (.double (FP.i2d x3)), .second, .val (.int sl), .val (.int ch)] [(.int ch), (.ref c_indexes), (.double (FP.i2d (XL.getD (ch).toNatClampNeg 0))), (.int sl), (.ref a1)])) _
  refine own_iald X8 hx hZ e8 V_c_indexes hj264 (g := (mkF m 264 #[.val (.ref a1), .val (.int p2), .val (.double (FP.i2d x3)), .second, .val (.int sl), .val (.int ch)] [(.int ch), (.ref c_indexes), (.double (FP.i2d (XL.getD (ch).toNatClampNeg 0))), (.int sl), (.ref a1)])) rfl rfl (hb hby d7_264) _ ?_
  show Steps p.tables e below (T8.setTop (mkF m 265 #[.val (.ref a1), .val (.int p2), .val (.double (FP.i2d x3)), .second, .val (.int sl), .val (.int ch)] [(.int (IL.getD (ch).toNatClampNeg 0)), (.double (FP.i2d (XL.getD (ch).toNatClampNeg 0))), (.int sl), (.ref a1)])) _
  refine st9 _ ?_
  show Steps p.tables e below (T9.setTop (mkF m 268 #[.val (.ref a1), .val (.int p2), .val (.double (FP.i2d x3)), .second, .val (.int sl), .val (.int ch)] [])) _
  refine XS.iload X9.here hx rfl (hb hby d7_268) rfl ?_
  show Steps p.tables e below (T9.setTop (mkF m 270 #[.val (.ref a1), .val (.int p2), .val (.double (FP.i2d x3)), .second, .val (.int sl), .val (.int ch)] [(.int ch)])) _
  refine XS.istore X9.here hx rfl (hb hby d7_270) rfl (l' := #[.val (.ref a1), .val (.int p2), .val (.double (FP.i2d x3)), .second, .val (.int ch), .val (.int ch)]) rfl ?_
  show Steps p.tables e below (T9.setTop (mkF m 272 #[.val (.ref a1), .val (.int p2), .val (.double (FP.i2d x3)), .second, .val (.int ch), .val (.int ch)] [])) _
  refine XS.iconst X9.here hx rfl (hb hby d7_272) ?_
  show Steps p.tables e below (T9.setTop (mkF m 273 #[.val (.ref a1), .val (.int p2), .val (.double (FP.i2d x3)), .second, .val (.int ch), .val (.int ch)] [(.int (2 : Int32))])) _
  refine XS.iload X9.here hx rfl (hb hby d7_273) rfl ?_
  show Steps p.tables e below (T9.setTop (mkF m 275 #[.val (.ref a1), .val (.int p2), .val (.double (FP.i2d x3)), .second, .val (.int ch), .val (.int ch)] [(.int ch), (.int (2 : Int32))])) _
  refine XS.imul X9.here hx rfl (hb hby d7_275) rfl ?_
  show Steps p.tables e below (T9.setTop (mkF m 276 #[.val (.ref a1), .val (.int p2), .val (.double (FP.i2d x3)), .second, .val (.int ch), .val (.int ch)] [(.int ((2 : Int32) * ch))])) _
  refine XS.iconst X9.here hx rfl (hb hby d7_276) ?_
  show Steps p.tables e below (T9.setTop (mkF m 277 #[.val (.ref a1), .val (.int p2), .val (.double (FP.i2d x3)), .second, .val (.int ch), .val (.int ch)] [(.int (1 : Int32)), (.int ((2 : Int32) * ch))])) _
  refine XS.iadd X9.here hx rfl (hb hby d7_277) rfl ?_
  show Steps p.tables e below (T9.setTop (mkF m 278 #[.val (.ref a1), .val (.int p2), .val (.double (FP.i2d x3)), .second, .val (.int ch), .val (.int ch)] [(.int (((2 : Int32) * ch) + (1 : Int32)))])) _
  refine XS.istore X9.here hx rfl (hb hby d7_278) rfl (l' := #[.val (.ref a1), .val (.int p2), .val (.double (FP.i2d x3)), .second, .val (.int ch), .val (.int (((2 : Int32) * ch) + (1 : Int32)))]) rfl ?_
  show Steps p.tables e below (T9.setTop (mkF m 280 #[.val (.ref a1), .val (.int p2), .val (.double (FP.i2d x3)), .second, .val (.int ch), .val (.int (((2 : Int32) * ch) + (1 : Int32)))] [])) _
  refine XS.goto X9.here hx rfl (pc0 := 280) (pc' := 173) rfl (hb hby d7_280) (by decide) (by decide) ?_
  exact kt
theorem d7_283 : decode prog_24_method_2_code 283 = .ok (.aload_n 0, 1) := by decide +kernel
theorem d7_284 : decode prog_24_method_2_code 284 = .ok (.iload 4, 2) := by decide +kernel
theorem d7_286 : decode prog_24_method_2_code 286 = .ok (.dload_n 2, 1) := by decide +kernel
theorem d7_287 : decode prog_24_method_2_code 287 = .ok (.iload_n 1, 1) := by decide +kernel
theorem d7_288 : decode prog_24_method_2_code 288 = .ok (.invokevirtual 55, 3) := by decide +kernel
set_option maxRecDepth 65536 in
set_option maxHeartbeats 40000000 in
theorem own_oQ {p : Program} {l : Launch} {e : Env} {s : State} {m : MethodId} {args : Array Value} {below : List Frame} {meth : Method} {c : Code} {T0 : State} {locs : List Loc} {Z : State} {a0 : Array Value} {h0 : Heap} {n0 : Nat} (a1 : Addr) (p2 : Int32) (x3 : Int32) (sl : Int32) (ch : Int32) (zl : Int32) (XL : List Int32) (IL : List Int32) (c_k : Int32) (c_size : Int32) (c_distances : Addr) (c_indexes : Addr)
    (X0 : Stand p l e ({ frames := 5, cells := 2, slots := 12, locals := 160 } : Room) s m args below meth c T0 locs 2 12) (hx : p.tables.exec = Jvm.exec) (hZ : Z.Warmed39 s.vm) (hw : ∀ d ∈ tables_1, d.before a0 Z = true) (hby : c.code = prog_24_method_2_code) (hml : c.maxLocals = 6) (hown : s.vm.findClass "com/example/triangulum/triangulum/search/Shortlist" = some m.cls) (e0 : T0.heap = h0) (N0 : Fr n0 locs) (Z0 : n0 ≤ h0.size) (S0 : own_S Z n0 h0 a1 c_distances c_indexes c_k c_size zl XL IL) (hj288 : ¬ sl < 0 ∧ sl < zl) (hlx288 : (sl).toNatClampNeg < XL.length) (hli288 : (sl).toNatClampNeg < IL.length) :
    ∃ (T' : State) (h' : Heap) (locs' : List Loc), Stand p l e ({ frames := 5, cells := 2, slots := 12, locals := 160 } : Room) s m args below meth c T' locs' 2 12 ∧ T'.heap = h' ∧ Fr n0 locs' ∧ h0.size ≤ h'.size ∧ own_S Z n0 h' a1 c_distances c_indexes c_k c_size zl (XL.set (sl).toNatClampNeg x3) (IL.set (sl).toNatClampNeg p2) ∧
      ∀ target, Steps p.tables e below (T'.setTop (mkF m 291 #[.val (.ref a1), .val (.int p2), .val (.double (FP.i2d x3)), .second, .val (.int sl), .val (.int ch)] [])) target → Steps p.tables e below (T0.setTop (mkF m 283 #[.val (.ref a1), .val (.int p2), .val (.double (FP.i2d x3)), .second, .val (.int sl), .val (.int ch)] [])) target := by
  obtain ⟨E_a1, F_k_a1, F_size_a1, F_distances_a1, F_indexes_a1, V_c_distances, V_c_indexes, g_a1, g_c_distances, g_c_indexes, had, hai, hdi⟩ := S0
  -- pc 288: com/example/triangulum/triangulum/search/Shortlist.put
  obtain ⟨T4, h4, L4, X4, e4, N4, ⟨Kc4, Vx4, Vi4⟩, st4⟩ := own_put X0 hx hZ hw hown (hw _ (List.mem_of_getElem? (i := 42) rfl)) E_a1 F_distances_a1 F_indexes_a1 V_c_distances V_c_indexes hdi had hai g_c_distances g_c_indexes N0 hj288 hlx288 hli288 (W := 0) (g := (mkF m 288 #[.val (.ref a1), .val (.int p2), .val (.double (FP.i2d x3)), .second, .val (.int sl), .val (.int ch)] [(.int p2), (.double (FP.i2d x3)), (.int sl), (.ref a1)])) rfl (by rw [hml]; rfl) (rest := []) rfl (by show 2 * 0 + _ ≤ _; exact Nat.le_of_eq rfl) (hb hby d7_288) (by decide) (by decide) e0
  refine ⟨T4, _, _, X4, e4, N4, (Nat.le_trans (Nat.le_refl _) Kc4.1), ⟨(E_a1.keep Kc4), (F_k_a1.keep Kc4 (ninS had (ninS hai nin0))), (F_size_a1.keep Kc4 (ninS had (ninS hai nin0))), (F_distances_a1.keep Kc4 (ninS had (ninS hai nin0))), (F_indexes_a1.keep Kc4 (ninS had (ninS hai nin0))), Vx4, Vi4, g_a1, g_c_distances, g_c_indexes, had, hai, hdi⟩, fun target kt => ?_⟩
  -- 4. STEPS
  show Steps p.tables e below (T0.setTop (mkF m 283 #[.val (.ref a1), .val (.int p2), .val (.double (FP.i2d x3)), .second, .val (.int sl), .val (.int ch)] [])) _
  refine XS.aloadN X0.here hx rfl (hb hby d7_283) rfl rfl ?_
  show Steps p.tables e below (T0.setTop (mkF m 284 #[.val (.ref a1), .val (.int p2), .val (.double (FP.i2d x3)), .second, .val (.int sl), .val (.int ch)] [(.ref a1)])) _
  refine XS.iload X0.here hx rfl (hb hby d7_284) rfl ?_
  show Steps p.tables e below (T0.setTop (mkF m 286 #[.val (.ref a1), .val (.int p2), .val (.double (FP.i2d x3)), .second, .val (.int sl), .val (.int ch)] [(.int sl), (.ref a1)])) _
  refine XS.dloadN X0.here hx rfl (hb hby d7_286) rfl ?_
  show Steps p.tables e below (T0.setTop (mkF m 287 #[.val (.ref a1), .val (.int p2), .val (.double (FP.i2d x3)), .second, .val (.int sl), .val (.int ch)] [(.double (FP.i2d x3)), (.int sl), (.ref a1)])) _
  refine XS.iloadN X0.here hx rfl (hb hby d7_287) rfl ?_
  show Steps p.tables e below (T0.setTop (mkF m 288 #[.val (.ref a1), .val (.int p2), .val (.double (FP.i2d x3)), .second, .val (.int sl), .val (.int ch)] [(.int p2), (.double (FP.i2d x3)), (.int sl), (.ref a1)])) _
  refine st4 _ ?_
  exact kt
def own_r0 (x i : Int32) (X I : List Int32) : Prop := X = own_L x 0 0 0 ∧ I = own_L i 0 0 0
def own_r1 (x i u0 v0 : Int32) (X I : List Int32) : Prop := (own_W x i u0 v0 ∧ X = own_L x u0 0 0 ∧ I = own_L i v0 0 0) ∨ (¬ own_W x i u0 v0 ∧ X = own_L u0 x 0 0 ∧ I = own_L v0 i 0 0)
def own_r2 (x i u0 v0 u1 v1 : Int32) (X I : List Int32) : Prop := (own_W x i u0 v0 ∧ X = own_L x u1 u0 0 ∧ I = own_L i v1 v0 0) ∨ (¬ own_W x i u0 v0 ∧ X = own_L u0 u1 x 0 ∧ I = own_L v0 v1 i 0)
def own_r3 (x i u0 v0 u1 v1 u2 v2 : Int32) (X I : List Int32) : Prop := (¬ own_W x i u1 v1 ∧ X = own_L u0 u1 u2 x ∧ I = own_L v0 v1 v2 i) ∨ (own_W x i u1 v1 ∧ ¬ own_W x i u0 v0 ∧ X = own_L u0 x u2 u1 ∧ I = own_L v0 i v2 v1) ∨ (own_W x i u1 v1 ∧ own_W x i u0 v0 ∧ X = own_L x u0 u2 u1 ∧ I = own_L i v0 v2 v1)
def own_s1 (x i u0 v0 : Int32) (X I : List Int32) : Prop := (¬ own_W u0 v0 x i ∧ X = own_L u0 0 0 0 ∧ I = own_L v0 0 0 0) ∨ (own_W u0 v0 x i ∧ X = own_L x 0 0 0 ∧ I = own_L i 0 0 0)
def own_s2 (x i u0 v0 u1 v1 : Int32) (X I : List Int32) : Prop := (¬ own_W u0 v0 x i ∧ X = own_L u0 u1 0 0 ∧ I = own_L v0 v1 0 0) ∨ (own_W u0 v0 x i ∧ ¬ own_W u1 v1 x i ∧ X = own_L x u1 0 0 ∧ I = own_L i v1 0 0) ∨ (own_W u0 v0 x i ∧ own_W u1 v1 x i ∧ X = own_L u1 x 0 0 ∧ I = own_L v1 i 0 0)
def own_s3 (x i u0 v0 u1 v1 u2 v2 : Int32) (X I : List Int32) : Prop := (¬ own_W u0 v0 x i ∧ X = own_L u0 u1 u2 0 ∧ I = own_L v0 v1 v2 0) ∨ (own_W u0 v0 x i ∧ own_W u2 v2 u1 v1 ∧ ¬ own_W u2 v2 x i ∧ X = own_L x u1 u2 0 ∧ I = own_L i v1 v2 0) ∨ (own_W u0 v0 x i ∧ own_W u2 v2 u1 v1 ∧ own_W u2 v2 x i ∧ X = own_L u2 u1 x 0 ∧ I = own_L v2 v1 i 0) ∨ (own_W u0 v0 x i ∧ ¬ own_W u2 v2 u1 v1 ∧ ¬ own_W u1 v1 x i ∧ X = own_L x u1 u2 0 ∧ I = own_L i v1 v2 0) ∨ (own_W u0 v0 x i ∧ ¬ own_W u2 v2 u1 v1 ∧ own_W u1 v1 x i ∧ X = own_L u1 x u2 0 ∧ I = own_L v1 i v2 0)
set_option maxRecDepth 65536 in
theorem own_up0 {p : Program} {l : Launch} {e : Env} {s : State} {m : MethodId} {args : Array Value} {below : List Frame} {meth : Method} {c : Code} {T0 : State} {locs : List Loc} {Z : State} {a0 : Array Value} {h0 : Heap} {n0 : Nat} (a1 : Addr) (p2 x3 : Int32) (ad ai : Addr) (k z : Int32) (X0 : Stand p l e ({ frames := 5, cells := 2, slots := 12, locals := 160 } : Room) s m args below meth c T0 locs 2 12) (hx : p.tables.exec = Jvm.exec) (hZ : Z.Warmed39 s.vm) (hw : ∀ d ∈ tables_1, d.before a0 Z = true) (hby : c.code = prog_24_method_2_code) (hml : c.maxLocals = 6) (hown : s.vm.findClass "com/example/triangulum/triangulum/search/Shortlist" = some m.cls) (e0 : T0.heap = h0) (N0 : Fr n0 locs) (Z0 : n0 ≤ h0.size) (S0 : own_S Z n0 h0 a1 ad ai k (1 : Int32) z (own_L 0 0 0 0) (own_L 0 0 0 0)) (hz : (0 : Int32) < z) :
    ∃ (T' : State) (h' : Heap) (locs' : List Loc) (Ls : Array Slot) (XL' IL' : List Int32), Stand p l e ({ frames := 5, cells := 2, slots := 12, locals := 160 } : Room) s m args below meth c T' locs' 2 12 ∧ T'.heap = h' ∧ Fr n0 locs' ∧ h0.size ≤ h'.size ∧ own_S Z n0 h' a1 ad ai k (1 : Int32) z XL' IL' ∧ own_r0 x3 p2 XL' IL' ∧ ∀ target, Steps p.tables e below (T'.setTop (mkF m 291 Ls [])) target → Steps p.tables e below (T0.setTop (mkF m 77 #[.val (.ref a1), .val (.int p2), .val (.double (FP.i2d x3)), .second, .val (.int (0 : Int32)), .unset] [])) target := by
  obtain ⟨T1, h1, l1, X1, e1, N1, Q1, S1, st1⟩ := own_oU1 a1 p2 x3 (0 : Int32) z _ _ k _ ad ai X0 hx hZ hw hby hml hown e0 N0 Z0 S0 (by decide)
  have A1 := Nat.le_trans Z0 Q1
  try simp only [own_set0, own_set1, own_set2, own_set3, own_get0, own_get1, own_get2, own_get3] at S1
  obtain ⟨T2, h2, l2, X2, e2, N2, Q2, S2, st2⟩ := own_oP a1 p2 x3 (0 : Int32) z _ _ k _ ad ai X1 hx hZ hw hby hml hown e1 N1 A1 S1 ⟨by decide, hz⟩ (by show _ < 6; decide) (by show _ < 6; decide)
  have A2 := Nat.le_trans A1 Q2
  try simp only [own_set0, own_set1, own_set2, own_set3, own_get0, own_get1, own_get2, own_get3] at S2
  exact ⟨T2, h2, l2, _, _, _, X2, e2, N2, (Nat.le_trans Q1 Q2), S2, ⟨rfl, rfl⟩, fun t k => (st1 t (st2 t k))⟩
set_option maxRecDepth 65536 in
theorem own_up1 {p : Program} {l : Launch} {e : Env} {s : State} {m : MethodId} {args : Array Value} {below : List Frame} {meth : Method} {c : Code} {T0 : State} {locs : List Loc} {Z : State} {a0 : Array Value} {h0 : Heap} {n0 : Nat} (a1 : Addr) (p2 x3 : Int32) (ad ai : Addr) (k z : Int32) (u0 v0 : Int32) (X0 : Stand p l e ({ frames := 5, cells := 2, slots := 12, locals := 160 } : Room) s m args below meth c T0 locs 2 12) (hx : p.tables.exec = Jvm.exec) (hZ : Z.Warmed39 s.vm) (hw : ∀ d ∈ tables_1, d.before a0 Z = true) (hby : c.code = prog_24_method_2_code) (hml : c.maxLocals = 6) (hown : s.vm.findClass "com/example/triangulum/triangulum/search/Shortlist" = some m.cls) (e0 : T0.heap = h0) (N0 : Fr n0 locs) (Z0 : n0 ≤ h0.size) (S0 : own_S Z n0 h0 a1 ad ai k (2 : Int32) z (own_L u0 0 0 0) (own_L v0 0 0 0)) (hz : (1 : Int32) < z) :
    ∃ (T' : State) (h' : Heap) (locs' : List Loc) (Ls : Array Slot) (XL' IL' : List Int32), Stand p l e ({ frames := 5, cells := 2, slots := 12, locals := 160 } : Room) s m args below meth c T' locs' 2 12 ∧ T'.heap = h' ∧ Fr n0 locs' ∧ h0.size ≤ h'.size ∧ own_S Z n0 h' a1 ad ai k (2 : Int32) z XL' IL' ∧ own_r1 x3 p2 u0 v0 XL' IL' ∧ ∀ target, Steps p.tables e below (T'.setTop (mkF m 291 Ls [])) target → Steps p.tables e below (T0.setTop (mkF m 77 #[.val (.ref a1), .val (.int p2), .val (.double (FP.i2d x3)), .second, .val (.int (1 : Int32)), .unset] [])) target := by
  by_cases w : own_W x3 p2 u0 v0
  · obtain ⟨T1, h1, l1, X1, e1, N1, Q1, S1, st1⟩ := own_oU3 a1 p2 x3 (1 : Int32) z _ _ k _ ad ai X0 hx hZ hw hby hml hown e0 N0 Z0 S0 (by decide) ⟨by decide, own_lt (by decide) hz⟩ (own_w1 w) ⟨by decide, own_lt (by decide) hz⟩ ⟨by decide, own_lt (by decide) hz⟩ ⟨by decide, hz⟩ (by show _ < 6; decide) (by show _ < 6; decide)
    have A1 := Nat.le_trans Z0 Q1
    try rw [(by decide : (((1 : Int32) - (1 : Int32)) / (2 : Int32)) = (0 : Int32))] at S1
    rw [(by decide : (((1 : Int32) - (1 : Int32)) / (2 : Int32)) = (0 : Int32))] at st1
    try simp only [own_set0, own_set1, own_set2, own_set3, own_get0, own_get1, own_get2, own_get3] at S1
    obtain ⟨T2, h2, l2, X2, e2, N2, Q2, S2, st2⟩ := own_oU1 a1 p2 x3 (0 : Int32) z _ _ k _ ad ai X1 hx hZ hw hby hml hown e1 N1 A1 S1 (by decide)
    have A2 := Nat.le_trans A1 Q2
    try simp only [own_set0, own_set1, own_set2, own_set3, own_get0, own_get1, own_get2, own_get3] at S2
    obtain ⟨T3, h3, l3, X3, e3, N3, Q3, S3, st3⟩ := own_oP a1 p2 x3 (0 : Int32) z _ _ k _ ad ai X2 hx hZ hw hby hml hown e2 N2 A2 S2 ⟨by decide, own_lt (by decide) hz⟩ (by show _ < 6; decide) (by show _ < 6; decide)
    have A3 := Nat.le_trans A2 Q3
    try simp only [own_set0, own_set1, own_set2, own_set3, own_get0, own_get1, own_get2, own_get3] at S3
    exact ⟨T3, h3, l3, _, _, _, X3, e3, N3, (Nat.le_trans (Nat.le_trans Q1 Q2) Q3), S3, Or.inl ⟨w, rfl, rfl⟩, fun t k => (st1 t (st2 t (st3 t k)))⟩
  · obtain ⟨T1, h1, l1, X1, e1, N1, Q1, S1, st1⟩ := own_oU2 a1 p2 x3 (1 : Int32) z _ _ k _ ad ai X0 hx hZ hw hby hml hown e0 N0 Z0 S0 (by decide) ⟨by decide, own_lt (by decide) hz⟩ (own_worse_f w)
    have A1 := Nat.le_trans Z0 Q1
    try simp only [own_set0, own_set1, own_set2, own_set3, own_get0, own_get1, own_get2, own_get3] at S1
    obtain ⟨T2, h2, l2, X2, e2, N2, Q2, S2, st2⟩ := own_oP a1 p2 x3 (1 : Int32) z _ _ k _ ad ai X1 hx hZ hw hby hml hown e1 N1 A1 S1 ⟨by decide, hz⟩ (by show _ < 6; decide) (by show _ < 6; decide)
    have A2 := Nat.le_trans A1 Q2
    try simp only [own_set0, own_set1, own_set2, own_set3, own_get0, own_get1, own_get2, own_get3] at S2
    exact ⟨T2, h2, l2, _, _, _, X2, e2, N2, (Nat.le_trans Q1 Q2), S2, Or.inr ⟨w, rfl, rfl⟩, fun t k => (st1 t (st2 t k))⟩
set_option maxRecDepth 65536 in
theorem own_up2 {p : Program} {l : Launch} {e : Env} {s : State} {m : MethodId} {args : Array Value} {below : List Frame} {meth : Method} {c : Code} {T0 : State} {locs : List Loc} {Z : State} {a0 : Array Value} {h0 : Heap} {n0 : Nat} (a1 : Addr) (p2 x3 : Int32) (ad ai : Addr) (k z : Int32) (u0 v0 u1 v1 : Int32) (X0 : Stand p l e ({ frames := 5, cells := 2, slots := 12, locals := 160 } : Room) s m args below meth c T0 locs 2 12) (hx : p.tables.exec = Jvm.exec) (hZ : Z.Warmed39 s.vm) (hw : ∀ d ∈ tables_1, d.before a0 Z = true) (hby : c.code = prog_24_method_2_code) (hml : c.maxLocals = 6) (hown : s.vm.findClass "com/example/triangulum/triangulum/search/Shortlist" = some m.cls) (e0 : T0.heap = h0) (N0 : Fr n0 locs) (Z0 : n0 ≤ h0.size) (S0 : own_S Z n0 h0 a1 ad ai k (3 : Int32) z (own_L u0 u1 0 0) (own_L v0 v1 0 0)) (hz : (2 : Int32) < z) :
    ∃ (T' : State) (h' : Heap) (locs' : List Loc) (Ls : Array Slot) (XL' IL' : List Int32), Stand p l e ({ frames := 5, cells := 2, slots := 12, locals := 160 } : Room) s m args below meth c T' locs' 2 12 ∧ T'.heap = h' ∧ Fr n0 locs' ∧ h0.size ≤ h'.size ∧ own_S Z n0 h' a1 ad ai k (3 : Int32) z XL' IL' ∧ own_r2 x3 p2 u0 v0 u1 v1 XL' IL' ∧ ∀ target, Steps p.tables e below (T'.setTop (mkF m 291 Ls [])) target → Steps p.tables e below (T0.setTop (mkF m 77 #[.val (.ref a1), .val (.int p2), .val (.double (FP.i2d x3)), .second, .val (.int (2 : Int32)), .unset] [])) target := by
  by_cases w : own_W x3 p2 u0 v0
  · obtain ⟨T1, h1, l1, X1, e1, N1, Q1, S1, st1⟩ := own_oU3 a1 p2 x3 (2 : Int32) z _ _ k _ ad ai X0 hx hZ hw hby hml hown e0 N0 Z0 S0 (by decide) ⟨by decide, own_lt (by decide) hz⟩ (own_w1 w) ⟨by decide, own_lt (by decide) hz⟩ ⟨by decide, own_lt (by decide) hz⟩ ⟨by decide, hz⟩ (by show _ < 6; decide) (by show _ < 6; decide)
    have A1 := Nat.le_trans Z0 Q1
    try rw [(by decide : (((2 : Int32) - (1 : Int32)) / (2 : Int32)) = (0 : Int32))] at S1
    rw [(by decide : (((2 : Int32) - (1 : Int32)) / (2 : Int32)) = (0 : Int32))] at st1
    try simp only [own_set0, own_set1, own_set2, own_set3, own_get0, own_get1, own_get2, own_get3] at S1
    obtain ⟨T2, h2, l2, X2, e2, N2, Q2, S2, st2⟩ := own_oU1 a1 p2 x3 (0 : Int32) z _ _ k _ ad ai X1 hx hZ hw hby hml hown e1 N1 A1 S1 (by decide)
    have A2 := Nat.le_trans A1 Q2
    try simp only [own_set0, own_set1, own_set2, own_set3, own_get0, own_get1, own_get2, own_get3] at S2
    obtain ⟨T3, h3, l3, X3, e3, N3, Q3, S3, st3⟩ := own_oP a1 p2 x3 (0 : Int32) z _ _ k _ ad ai X2 hx hZ hw hby hml hown e2 N2 A2 S2 ⟨by decide, own_lt (by decide) hz⟩ (by show _ < 6; decide) (by show _ < 6; decide)
    have A3 := Nat.le_trans A2 Q3
    try simp only [own_set0, own_set1, own_set2, own_set3, own_get0, own_get1, own_get2, own_get3] at S3
    exact ⟨T3, h3, l3, _, _, _, X3, e3, N3, (Nat.le_trans (Nat.le_trans Q1 Q2) Q3), S3, Or.inl ⟨w, rfl, rfl⟩, fun t k => (st1 t (st2 t (st3 t k)))⟩
  · obtain ⟨T1, h1, l1, X1, e1, N1, Q1, S1, st1⟩ := own_oU2 a1 p2 x3 (2 : Int32) z _ _ k _ ad ai X0 hx hZ hw hby hml hown e0 N0 Z0 S0 (by decide) ⟨by decide, own_lt (by decide) hz⟩ (own_worse_f w)
    have A1 := Nat.le_trans Z0 Q1
    try simp only [own_set0, own_set1, own_set2, own_set3, own_get0, own_get1, own_get2, own_get3] at S1
    obtain ⟨T2, h2, l2, X2, e2, N2, Q2, S2, st2⟩ := own_oP a1 p2 x3 (2 : Int32) z _ _ k _ ad ai X1 hx hZ hw hby hml hown e1 N1 A1 S1 ⟨by decide, hz⟩ (by show _ < 6; decide) (by show _ < 6; decide)
    have A2 := Nat.le_trans A1 Q2
    try simp only [own_set0, own_set1, own_set2, own_set3, own_get0, own_get1, own_get2, own_get3] at S2
    exact ⟨T2, h2, l2, _, _, _, X2, e2, N2, (Nat.le_trans Q1 Q2), S2, Or.inr ⟨w, rfl, rfl⟩, fun t k => (st1 t (st2 t k))⟩
set_option maxRecDepth 65536 in
theorem own_up3 {p : Program} {l : Launch} {e : Env} {s : State} {m : MethodId} {args : Array Value} {below : List Frame} {meth : Method} {c : Code} {T0 : State} {locs : List Loc} {Z : State} {a0 : Array Value} {h0 : Heap} {n0 : Nat} (a1 : Addr) (p2 x3 : Int32) (ad ai : Addr) (k z : Int32) (u0 v0 u1 v1 u2 v2 : Int32) (X0 : Stand p l e ({ frames := 5, cells := 2, slots := 12, locals := 160 } : Room) s m args below meth c T0 locs 2 12) (hx : p.tables.exec = Jvm.exec) (hZ : Z.Warmed39 s.vm) (hw : ∀ d ∈ tables_1, d.before a0 Z = true) (hby : c.code = prog_24_method_2_code) (hml : c.maxLocals = 6) (hown : s.vm.findClass "com/example/triangulum/triangulum/search/Shortlist" = some m.cls) (e0 : T0.heap = h0) (N0 : Fr n0 locs) (Z0 : n0 ≤ h0.size) (S0 : own_S Z n0 h0 a1 ad ai k (4 : Int32) z (own_L u0 u1 u2 0) (own_L v0 v1 v2 0)) (hz : (3 : Int32) < z) :
    ∃ (T' : State) (h' : Heap) (locs' : List Loc) (Ls : Array Slot) (XL' IL' : List Int32), Stand p l e ({ frames := 5, cells := 2, slots := 12, locals := 160 } : Room) s m args below meth c T' locs' 2 12 ∧ T'.heap = h' ∧ Fr n0 locs' ∧ h0.size ≤ h'.size ∧ own_S Z n0 h' a1 ad ai k (4 : Int32) z XL' IL' ∧ own_r3 x3 p2 u0 v0 u1 v1 u2 v2 XL' IL' ∧ ∀ target, Steps p.tables e below (T'.setTop (mkF m 291 Ls [])) target → Steps p.tables e below (T0.setTop (mkF m 77 #[.val (.ref a1), .val (.int p2), .val (.double (FP.i2d x3)), .second, .val (.int (3 : Int32)), .unset] [])) target := by
  by_cases w : own_W x3 p2 u1 v1
  · obtain ⟨T1, h1, l1, X1, e1, N1, Q1, S1, st1⟩ := own_oU3 a1 p2 x3 (3 : Int32) z _ _ k _ ad ai X0 hx hZ hw hby hml hown e0 N0 Z0 S0 (by decide) ⟨by decide, own_lt (by decide) hz⟩ (own_w1 w) ⟨by decide, own_lt (by decide) hz⟩ ⟨by decide, own_lt (by decide) hz⟩ ⟨by decide, hz⟩ (by show _ < 6; decide) (by show _ < 6; decide)
    have A1 := Nat.le_trans Z0 Q1
    try rw [(by decide : (((3 : Int32) - (1 : Int32)) / (2 : Int32)) = (1 : Int32))] at S1
    rw [(by decide : (((3 : Int32) - (1 : Int32)) / (2 : Int32)) = (1 : Int32))] at st1
    try simp only [own_set0, own_set1, own_set2, own_set3, own_get0, own_get1, own_get2, own_get3] at S1
    by_cases w' : own_W x3 p2 u0 v0
    · obtain ⟨T2, h2, l2, X2, e2, N2, Q2, S2, st2⟩ := own_oU3 a1 p2 x3 (1 : Int32) z _ _ k _ ad ai X1 hx hZ hw hby hml hown e1 N1 A1 S1 (by decide) ⟨by decide, own_lt (by decide) hz⟩ (own_w1 w') ⟨by decide, own_lt (by decide) hz⟩ ⟨by decide, own_lt (by decide) hz⟩ ⟨by decide, own_lt (by decide) hz⟩ (by show _ < 6; decide) (by show _ < 6; decide)
      have A2 := Nat.le_trans A1 Q2
      try rw [(by decide : (((1 : Int32) - (1 : Int32)) / (2 : Int32)) = (0 : Int32))] at S2
      rw [(by decide : (((1 : Int32) - (1 : Int32)) / (2 : Int32)) = (0 : Int32))] at st2
      try simp only [own_set0, own_set1, own_set2, own_set3, own_get0, own_get1, own_get2, own_get3] at S2
      obtain ⟨T3, h3, l3, X3, e3, N3, Q3, S3, st3⟩ := own_oU1 a1 p2 x3 (0 : Int32) z _ _ k _ ad ai X2 hx hZ hw hby hml hown e2 N2 A2 S2 (by decide)
      have A3 := Nat.le_trans A2 Q3
      try simp only [own_set0, own_set1, own_set2, own_set3, own_get0, own_get1, own_get2, own_get3] at S3
      obtain ⟨T4, h4, l4, X4, e4, N4, Q4, S4, st4⟩ := own_oP a1 p2 x3 (0 : Int32) z _ _ k _ ad ai X3 hx hZ hw hby hml hown e3 N3 A3 S3 ⟨by decide, own_lt (by decide) hz⟩ (by show _ < 6; decide) (by show _ < 6; decide)
      have A4 := Nat.le_trans A3 Q4
      try simp only [own_set0, own_set1, own_set2, own_set3, own_get0, own_get1, own_get2, own_get3] at S4
      exact ⟨T4, h4, l4, _, _, _, X4, e4, N4, (Nat.le_trans (Nat.le_trans (Nat.le_trans Q1 Q2) Q3) Q4), S4, Or.inr (Or.inr ⟨w, w', rfl, rfl⟩), fun t k => (st1 t (st2 t (st3 t (st4 t k))))⟩
    · obtain ⟨T2, h2, l2, X2, e2, N2, Q2, S2, st2⟩ := own_oU2 a1 p2 x3 (1 : Int32) z _ _ k _ ad ai X1 hx hZ hw hby hml hown e1 N1 A1 S1 (by decide) ⟨by decide, own_lt (by decide) hz⟩ (own_worse_f w')
      have A2 := Nat.le_trans A1 Q2
      try simp only [own_set0, own_set1, own_set2, own_set3, own_get0, own_get1, own_get2, own_get3] at S2
      obtain ⟨T3, h3, l3, X3, e3, N3, Q3, S3, st3⟩ := own_oP a1 p2 x3 (1 : Int32) z _ _ k _ ad ai X2 hx hZ hw hby hml hown e2 N2 A2 S2 ⟨by decide, own_lt (by decide) hz⟩ (by show _ < 6; decide) (by show _ < 6; decide)
      have A3 := Nat.le_trans A2 Q3
      try simp only [own_set0, own_set1, own_set2, own_set3, own_get0, own_get1, own_get2, own_get3] at S3
      exact ⟨T3, h3, l3, _, _, _, X3, e3, N3, (Nat.le_trans (Nat.le_trans Q1 Q2) Q3), S3, Or.inr (Or.inl ⟨w, w', rfl, rfl⟩), fun t k => (st1 t (st2 t (st3 t k)))⟩
  · obtain ⟨T1, h1, l1, X1, e1, N1, Q1, S1, st1⟩ := own_oU2 a1 p2 x3 (3 : Int32) z _ _ k _ ad ai X0 hx hZ hw hby hml hown e0 N0 Z0 S0 (by decide) ⟨by decide, own_lt (by decide) hz⟩ (own_worse_f w)
    have A1 := Nat.le_trans Z0 Q1
    try simp only [own_set0, own_set1, own_set2, own_set3, own_get0, own_get1, own_get2, own_get3] at S1
    obtain ⟨T2, h2, l2, X2, e2, N2, Q2, S2, st2⟩ := own_oP a1 p2 x3 (3 : Int32) z _ _ k _ ad ai X1 hx hZ hw hby hml hown e1 N1 A1 S1 ⟨by decide, hz⟩ (by show _ < 6; decide) (by show _ < 6; decide)
    have A2 := Nat.le_trans A1 Q2
    try simp only [own_set0, own_set1, own_set2, own_set3, own_get0, own_get1, own_get2, own_get3] at S2
    exact ⟨T2, h2, l2, _, _, _, X2, e2, N2, (Nat.le_trans Q1 Q2), S2, Or.inl ⟨w, rfl, rfl⟩, fun t k => (st1 t (st2 t k))⟩
set_option maxRecDepth 65536 in
theorem own_dn1 {p : Program} {l : Launch} {e : Env} {s : State} {m : MethodId} {args : Array Value} {below : List Frame} {meth : Method} {c : Code} {T0 : State} {locs : List Loc} {Z : State} {a0 : Array Value} {h0 : Heap} {n0 : Nat} (a1 : Addr) (p2 x3 : Int32) (ad ai : Addr) (k z : Int32) (u0 v0 : Int32) (X0 : Stand p l e ({ frames := 5, cells := 2, slots := 12, locals := 160 } : Room) s m args below meth c T0 locs 2 12) (hx : p.tables.exec = Jvm.exec) (hZ : Z.Warmed39 s.vm) (hw : ∀ d ∈ tables_1, d.before a0 Z = true) (hby : c.code = prog_24_method_2_code) (hml : c.maxLocals = 6) (hown : s.vm.findClass "com/example/triangulum/triangulum/search/Shortlist" = some m.cls) (e0 : T0.heap = h0) (N0 : Fr n0 locs) (Z0 : n0 ≤ h0.size) (S0 : own_S Z n0 h0 a1 ad ai k (1 : Int32) z (own_L u0 0 0 0) (own_L v0 0 0 0)) (hz : (0 : Int32) < z) :
    ∃ (T' : State) (h' : Heap) (locs' : List Loc) (Ls : Array Slot) (XL' IL' : List Int32), Stand p l e ({ frames := 5, cells := 2, slots := 12, locals := 160 } : Room) s m args below meth c T' locs' 2 12 ∧ T'.heap = h' ∧ Fr n0 locs' ∧ h0.size ≤ h'.size ∧ own_S Z n0 h' a1 ad ai k (1 : Int32) z XL' IL' ∧ own_s1 x3 p2 u0 v0 XL' IL' ∧ ∀ target, Steps p.tables e below (T'.setTop (mkF m 291 Ls [])) target → Steps p.tables e below (T0.setTop (mkF m 147 #[.val (.ref a1), .val (.int p2), .val (.double (FP.i2d x3)), .second, .unset, .unset] [])) target := by
  by_cases w : own_W u0 v0 x3 p2
  · obtain ⟨T1, h1, l1, X1, e1, N1, Q1, S1, st1⟩ := own_oRf a1 p2 x3  z _ _ k _ ad ai X0 hx hZ hw hby hml hown e0 N0 Z0 S0 ⟨by decide, hz⟩ ⟨by decide, hz⟩ (own_w1 w)
    have A1 := Nat.le_trans Z0 Q1
    try simp only [own_set0, own_set1, own_set2, own_set3, own_get0, own_get1, own_get2, own_get3] at S1
    obtain ⟨T2, h2, l2, X2, e2, N2, Q2, S2, st2⟩ := own_oD1 a1 p2 x3 (0 : Int32) (1 : Int32) z _ _ k _ ad ai X1 hx hZ hw hby hml hown e1 N1 A1 S1 (by decide)
    have A2 := Nat.le_trans A1 Q2
    try simp only [own_set0, own_set1, own_set2, own_set3, own_get0, own_get1, own_get2, own_get3] at S2
    obtain ⟨T3, h3, l3, X3, e3, N3, Q3, S3, st3⟩ := own_oQ a1 p2 x3 (0 : Int32) _ z _ _ k _ ad ai X2 hx hZ hw hby hml hown e2 N2 A2 S2 ⟨by decide, hz⟩ (by show _ < 6; decide) (by show _ < 6; decide)
    have A3 := Nat.le_trans A2 Q3
    try simp only [own_set0, own_set1, own_set2, own_set3, own_get0, own_get1, own_get2, own_get3] at S3
    exact ⟨T3, h3, l3, _, _, _, X3, e3, N3, (Nat.le_trans (Nat.le_trans Q1 Q2) Q3), S3, Or.inr ⟨w, rfl, rfl⟩, fun t k => (st1 t (st2 t (st3 t k)))⟩
  · obtain ⟨T1, h1, l1, X1, e1, N1, Q1, S1, st1⟩ := own_oRt a1 p2 x3  z _ _ k _ ad ai X0 hx hZ hw hby hml hown e0 N0 Z0 S0 ⟨by decide, hz⟩ ⟨by decide, hz⟩ (own_worse_f w)
    have A1 := Nat.le_trans Z0 Q1
    try simp only [own_set0, own_set1, own_set2, own_set3, own_get0, own_get1, own_get2, own_get3] at S1
    exact ⟨T1, h1, l1, _, _, _, X1, e1, N1, Q1, S1, Or.inl ⟨w, rfl, rfl⟩, fun t k => (st1 t k)⟩
set_option maxRecDepth 65536 in
theorem own_dn2 {p : Program} {l : Launch} {e : Env} {s : State} {m : MethodId} {args : Array Value} {below : List Frame} {meth : Method} {c : Code} {T0 : State} {locs : List Loc} {Z : State} {a0 : Array Value} {h0 : Heap} {n0 : Nat} (a1 : Addr) (p2 x3 : Int32) (ad ai : Addr) (k z : Int32) (u0 v0 u1 v1 : Int32) (X0 : Stand p l e ({ frames := 5, cells := 2, slots := 12, locals := 160 } : Room) s m args below meth c T0 locs 2 12) (hx : p.tables.exec = Jvm.exec) (hZ : Z.Warmed39 s.vm) (hw : ∀ d ∈ tables_1, d.before a0 Z = true) (hby : c.code = prog_24_method_2_code) (hml : c.maxLocals = 6) (hown : s.vm.findClass "com/example/triangulum/triangulum/search/Shortlist" = some m.cls) (e0 : T0.heap = h0) (N0 : Fr n0 locs) (Z0 : n0 ≤ h0.size) (S0 : own_S Z n0 h0 a1 ad ai k (2 : Int32) z (own_L u0 u1 0 0) (own_L v0 v1 0 0)) (hz : (1 : Int32) < z) :
    ∃ (T' : State) (h' : Heap) (locs' : List Loc) (Ls : Array Slot) (XL' IL' : List Int32), Stand p l e ({ frames := 5, cells := 2, slots := 12, locals := 160 } : Room) s m args below meth c T' locs' 2 12 ∧ T'.heap = h' ∧ Fr n0 locs' ∧ h0.size ≤ h'.size ∧ own_S Z n0 h' a1 ad ai k (2 : Int32) z XL' IL' ∧ own_s2 x3 p2 u0 v0 u1 v1 XL' IL' ∧ ∀ target, Steps p.tables e below (T'.setTop (mkF m 291 Ls [])) target → Steps p.tables e below (T0.setTop (mkF m 147 #[.val (.ref a1), .val (.int p2), .val (.double (FP.i2d x3)), .second, .unset, .unset] [])) target := by
  by_cases w : own_W u0 v0 x3 p2
  · obtain ⟨T1, h1, l1, X1, e1, N1, Q1, S1, st1⟩ := own_oRf a1 p2 x3  z _ _ k _ ad ai X0 hx hZ hw hby hml hown e0 N0 Z0 S0 ⟨by decide, own_lt (by decide) hz⟩ ⟨by decide, own_lt (by decide) hz⟩ (own_w1 w)
    have A1 := Nat.le_trans Z0 Q1
    try simp only [own_set0, own_set1, own_set2, own_set3, own_get0, own_get1, own_get2, own_get3] at S1
    obtain ⟨T2, h2, l2, X2, e2, N2, Q2, S2, st2⟩ := own_oD2a a1 p2 x3 (0 : Int32) (1 : Int32) z _ _ k _ ad ai X1 hx hZ hw hby hml hown e1 N1 A1 S1 (by decide) (by decide)
    have A2 := Nat.le_trans A1 Q2
    try simp only [own_set0, own_set1, own_set2, own_set3, own_get0, own_get1, own_get2, own_get3] at S2
    by_cases wc : own_W u1 v1 x3 p2
    · obtain ⟨T3, h3, l3, X3, e3, N3, Q3, S3, st3⟩ := own_oD3t a1 p2 x3 (0 : Int32) (1 : Int32) z _ _ k _ ad ai X2 hx hZ hw hby hml hown e2 N2 A2 S2 ⟨by decide, hz⟩ ⟨by decide, hz⟩ (own_w1 wc) ⟨by decide, hz⟩ ⟨by decide, hz⟩ ⟨by decide, own_lt (by decide) hz⟩ (by show _ < 6; decide) (by show _ < 6; decide)
      have A3 := Nat.le_trans A2 Q3
      try simp only [own_set0, own_set1, own_set2, own_set3, own_get0, own_get1, own_get2, own_get3] at S3
      obtain ⟨T4, h4, l4, X4, e4, N4, Q4, S4, st4⟩ := own_oD1 a1 p2 x3 (1 : Int32) (((2 : Int32) * (1 : Int32)) + (1 : Int32)) z _ _ k _ ad ai X3 hx hZ hw hby hml hown e3 N3 A3 S3 (by decide)
      have A4 := Nat.le_trans A3 Q4
      try simp only [own_set0, own_set1, own_set2, own_set3, own_get0, own_get1, own_get2, own_get3] at S4
      obtain ⟨T5, h5, l5, X5, e5, N5, Q5, S5, st5⟩ := own_oQ a1 p2 x3 (1 : Int32) _ z _ _ k _ ad ai X4 hx hZ hw hby hml hown e4 N4 A4 S4 ⟨by decide, hz⟩ (by show _ < 6; decide) (by show _ < 6; decide)
      have A5 := Nat.le_trans A4 Q5
      try simp only [own_set0, own_set1, own_set2, own_set3, own_get0, own_get1, own_get2, own_get3] at S5
      exact ⟨T5, h5, l5, _, _, _, X5, e5, N5, (Nat.le_trans (Nat.le_trans (Nat.le_trans (Nat.le_trans Q1 Q2) Q3) Q4) Q5), S5, Or.inr (Or.inr ⟨w, wc, rfl, rfl⟩), fun t k => (st1 t (st2 t (st3 t (st4 t (st5 t k)))))⟩
    · obtain ⟨T3, h3, l3, X3, e3, N3, Q3, S3, st3⟩ := own_oD3f a1 p2 x3 (0 : Int32) (1 : Int32) z _ _ k _ ad ai X2 hx hZ hw hby hml hown e2 N2 A2 S2 ⟨by decide, hz⟩ ⟨by decide, hz⟩ (own_worse_f wc)
      have A3 := Nat.le_trans A2 Q3
      try simp only [own_set0, own_set1, own_set2, own_set3, own_get0, own_get1, own_get2, own_get3] at S3
      obtain ⟨T4, h4, l4, X4, e4, N4, Q4, S4, st4⟩ := own_oQ a1 p2 x3 (0 : Int32) _ z _ _ k _ ad ai X3 hx hZ hw hby hml hown e3 N3 A3 S3 ⟨by decide, own_lt (by decide) hz⟩ (by show _ < 6; decide) (by show _ < 6; decide)
      have A4 := Nat.le_trans A3 Q4
      try simp only [own_set0, own_set1, own_set2, own_set3, own_get0, own_get1, own_get2, own_get3] at S4
      exact ⟨T4, h4, l4, _, _, _, X4, e4, N4, (Nat.le_trans (Nat.le_trans (Nat.le_trans Q1 Q2) Q3) Q4), S4, Or.inr (Or.inl ⟨w, wc, rfl, rfl⟩), fun t k => (st1 t (st2 t (st3 t (st4 t k))))⟩
  · obtain ⟨T1, h1, l1, X1, e1, N1, Q1, S1, st1⟩ := own_oRt a1 p2 x3  z _ _ k _ ad ai X0 hx hZ hw hby hml hown e0 N0 Z0 S0 ⟨by decide, own_lt (by decide) hz⟩ ⟨by decide, own_lt (by decide) hz⟩ (own_worse_f w)
    have A1 := Nat.le_trans Z0 Q1
    try simp only [own_set0, own_set1, own_set2, own_set3, own_get0, own_get1, own_get2, own_get3] at S1
    exact ⟨T1, h1, l1, _, _, _, X1, e1, N1, Q1, S1, Or.inl ⟨w, rfl, rfl⟩, fun t k => (st1 t k)⟩
set_option maxRecDepth 65536 in
theorem own_dn3 {p : Program} {l : Launch} {e : Env} {s : State} {m : MethodId} {args : Array Value} {below : List Frame} {meth : Method} {c : Code} {T0 : State} {locs : List Loc} {Z : State} {a0 : Array Value} {h0 : Heap} {n0 : Nat} (a1 : Addr) (p2 x3 : Int32) (ad ai : Addr) (k z : Int32) (u0 v0 u1 v1 u2 v2 : Int32) (X0 : Stand p l e ({ frames := 5, cells := 2, slots := 12, locals := 160 } : Room) s m args below meth c T0 locs 2 12) (hx : p.tables.exec = Jvm.exec) (hZ : Z.Warmed39 s.vm) (hw : ∀ d ∈ tables_1, d.before a0 Z = true) (hby : c.code = prog_24_method_2_code) (hml : c.maxLocals = 6) (hown : s.vm.findClass "com/example/triangulum/triangulum/search/Shortlist" = some m.cls) (e0 : T0.heap = h0) (N0 : Fr n0 locs) (Z0 : n0 ≤ h0.size) (S0 : own_S Z n0 h0 a1 ad ai k (3 : Int32) z (own_L u0 u1 u2 0) (own_L v0 v1 v2 0)) (hz : (2 : Int32) < z) :
    ∃ (T' : State) (h' : Heap) (locs' : List Loc) (Ls : Array Slot) (XL' IL' : List Int32), Stand p l e ({ frames := 5, cells := 2, slots := 12, locals := 160 } : Room) s m args below meth c T' locs' 2 12 ∧ T'.heap = h' ∧ Fr n0 locs' ∧ h0.size ≤ h'.size ∧ own_S Z n0 h' a1 ad ai k (3 : Int32) z XL' IL' ∧ own_s3 x3 p2 u0 v0 u1 v1 u2 v2 XL' IL' ∧ ∀ target, Steps p.tables e below (T'.setTop (mkF m 291 Ls [])) target → Steps p.tables e below (T0.setTop (mkF m 147 #[.val (.ref a1), .val (.int p2), .val (.double (FP.i2d x3)), .second, .unset, .unset] [])) target := by
  by_cases w : own_W u0 v0 x3 p2
  · obtain ⟨T1, h1, l1, X1, e1, N1, Q1, S1, st1⟩ := own_oRf a1 p2 x3  z _ _ k _ ad ai X0 hx hZ hw hby hml hown e0 N0 Z0 S0 ⟨by decide, own_lt (by decide) hz⟩ ⟨by decide, own_lt (by decide) hz⟩ (own_w1 w)
    have A1 := Nat.le_trans Z0 Q1
    try simp only [own_set0, own_set1, own_set2, own_set3, own_get0, own_get1, own_get2, own_get3] at S1
    by_cases wk : own_W u2 v2 u1 v1
    · obtain ⟨T2, h2, l2, X2, e2, N2, Q2, S2, st2⟩ := own_oD2c a1 p2 x3 (0 : Int32) (1 : Int32) z _ _ k _ ad ai X1 hx hZ hw hby hml hown e1 N1 A1 S1 (by decide) (by decide) ⟨by decide, hz⟩ ⟨by decide, hz⟩ ⟨by decide, own_lt (by decide) hz⟩ (own_w1 wk)
      have A2 := Nat.le_trans A1 Q2
      try rw [(by decide : ((1 : Int32) + (1 : Int32)) = (2 : Int32))] at S2
      rw [(by decide : ((1 : Int32) + (1 : Int32)) = (2 : Int32))] at st2
      try simp only [own_set0, own_set1, own_set2, own_set3, own_get0, own_get1, own_get2, own_get3] at S2
      by_cases wc : own_W u2 v2 x3 p2
      · obtain ⟨T3, h3, l3, X3, e3, N3, Q3, S3, st3⟩ := own_oD3t a1 p2 x3 (0 : Int32) (2 : Int32) z _ _ k _ ad ai X2 hx hZ hw hby hml hown e2 N2 A2 S2 ⟨by decide, hz⟩ ⟨by decide, hz⟩ (own_w1 wc) ⟨by decide, hz⟩ ⟨by decide, hz⟩ ⟨by decide, own_lt (by decide) hz⟩ (by show _ < 6; decide) (by show _ < 6; decide)
        have A3 := Nat.le_trans A2 Q3
        try simp only [own_set0, own_set1, own_set2, own_set3, own_get0, own_get1, own_get2, own_get3] at S3
        obtain ⟨T4, h4, l4, X4, e4, N4, Q4, S4, st4⟩ := own_oD1 a1 p2 x3 (2 : Int32) (((2 : Int32) * (2 : Int32)) + (1 : Int32)) z _ _ k _ ad ai X3 hx hZ hw hby hml hown e3 N3 A3 S3 (by decide)
        have A4 := Nat.le_trans A3 Q4
        try simp only [own_set0, own_set1, own_set2, own_set3, own_get0, own_get1, own_get2, own_get3] at S4
        obtain ⟨T5, h5, l5, X5, e5, N5, Q5, S5, st5⟩ := own_oQ a1 p2 x3 (2 : Int32) _ z _ _ k _ ad ai X4 hx hZ hw hby hml hown e4 N4 A4 S4 ⟨by decide, hz⟩ (by show _ < 6; decide) (by show _ < 6; decide)
        have A5 := Nat.le_trans A4 Q5
        try simp only [own_set0, own_set1, own_set2, own_set3, own_get0, own_get1, own_get2, own_get3] at S5
        exact ⟨T5, h5, l5, _, _, _, X5, e5, N5, (Nat.le_trans (Nat.le_trans (Nat.le_trans (Nat.le_trans Q1 Q2) Q3) Q4) Q5), S5, Or.inr (Or.inr (Or.inl ⟨w, wk, wc, rfl, rfl⟩)), fun t k => (st1 t (st2 t (st3 t (st4 t (st5 t k)))))⟩
      · obtain ⟨T3, h3, l3, X3, e3, N3, Q3, S3, st3⟩ := own_oD3f a1 p2 x3 (0 : Int32) (2 : Int32) z _ _ k _ ad ai X2 hx hZ hw hby hml hown e2 N2 A2 S2 ⟨by decide, hz⟩ ⟨by decide, hz⟩ (own_worse_f wc)
        have A3 := Nat.le_trans A2 Q3
        try simp only [own_set0, own_set1, own_set2, own_set3, own_get0, own_get1, own_get2, own_get3] at S3
        obtain ⟨T4, h4, l4, X4, e4, N4, Q4, S4, st4⟩ := own_oQ a1 p2 x3 (0 : Int32) _ z _ _ k _ ad ai X3 hx hZ hw hby hml hown e3 N3 A3 S3 ⟨by decide, own_lt (by decide) hz⟩ (by show _ < 6; decide) (by show _ < 6; decide)
        have A4 := Nat.le_trans A3 Q4
        try simp only [own_set0, own_set1, own_set2, own_set3, own_get0, own_get1, own_get2, own_get3] at S4
        exact ⟨T4, h4, l4, _, _, _, X4, e4, N4, (Nat.le_trans (Nat.le_trans (Nat.le_trans Q1 Q2) Q3) Q4), S4, Or.inr (Or.inl ⟨w, wk, wc, rfl, rfl⟩), fun t k => (st1 t (st2 t (st3 t (st4 t k))))⟩
    · obtain ⟨T2, h2, l2, X2, e2, N2, Q2, S2, st2⟩ := own_oD2b a1 p2 x3 (0 : Int32) (1 : Int32) z _ _ k _ ad ai X1 hx hZ hw hby hml hown e1 N1 A1 S1 (by decide) (by decide) ⟨by decide, hz⟩ ⟨by decide, hz⟩ ⟨by decide, own_lt (by decide) hz⟩ (own_worse_f wk)
      have A2 := Nat.le_trans A1 Q2
      try simp only [own_set0, own_set1, own_set2, own_set3, own_get0, own_get1, own_get2, own_get3] at S2
      by_cases wc : own_W u1 v1 x3 p2
      · obtain ⟨T3, h3, l3, X3, e3, N3, Q3, S3, st3⟩ := own_oD3t a1 p2 x3 (0 : Int32) (1 : Int32) z _ _ k _ ad ai X2 hx hZ hw hby hml hown e2 N2 A2 S2 ⟨by decide, own_lt (by decide) hz⟩ ⟨by decide, own_lt (by decide) hz⟩ (own_w1 wc) ⟨by decide, own_lt (by decide) hz⟩ ⟨by decide, own_lt (by decide) hz⟩ ⟨by decide, own_lt (by decide) hz⟩ (by show _ < 6; decide) (by show _ < 6; decide)
        have A3 := Nat.le_trans A2 Q3
        try simp only [own_set0, own_set1, own_set2, own_set3, own_get0, own_get1, own_get2, own_get3] at S3
        obtain ⟨T4, h4, l4, X4, e4, N4, Q4, S4, st4⟩ := own_oD1 a1 p2 x3 (1 : Int32) (((2 : Int32) * (1 : Int32)) + (1 : Int32)) z _ _ k _ ad ai X3 hx hZ hw hby hml hown e3 N3 A3 S3 (by decide)
        have A4 := Nat.le_trans A3 Q4
        try simp only [own_set0, own_set1, own_set2, own_set3, own_get0, own_get1, own_get2, own_get3] at S4
        obtain ⟨T5, h5, l5, X5, e5, N5, Q5, S5, st5⟩ := own_oQ a1 p2 x3 (1 : Int32) _ z _ _ k _ ad ai X4 hx hZ hw hby hml hown e4 N4 A4 S4 ⟨by decide, own_lt (by decide) hz⟩ (by show _ < 6; decide) (by show _ < 6; decide)
        have A5 := Nat.le_trans A4 Q5
        try simp only [own_set0, own_set1, own_set2, own_set3, own_get0, own_get1, own_get2, own_get3] at S5
        exact ⟨T5, h5, l5, _, _, _, X5, e5, N5, (Nat.le_trans (Nat.le_trans (Nat.le_trans (Nat.le_trans Q1 Q2) Q3) Q4) Q5), S5, Or.inr (Or.inr (Or.inr (Or.inr ⟨w, wk, wc, rfl, rfl⟩))), fun t k => (st1 t (st2 t (st3 t (st4 t (st5 t k)))))⟩
      · obtain ⟨T3, h3, l3, X3, e3, N3, Q3, S3, st3⟩ := own_oD3f a1 p2 x3 (0 : Int32) (1 : Int32) z _ _ k _ ad ai X2 hx hZ hw hby hml hown e2 N2 A2 S2 ⟨by decide, own_lt (by decide) hz⟩ ⟨by decide, own_lt (by decide) hz⟩ (own_worse_f wc)
        have A3 := Nat.le_trans A2 Q3
        try simp only [own_set0, own_set1, own_set2, own_set3, own_get0, own_get1, own_get2, own_get3] at S3
        obtain ⟨T4, h4, l4, X4, e4, N4, Q4, S4, st4⟩ := own_oQ a1 p2 x3 (0 : Int32) _ z _ _ k _ ad ai X3 hx hZ hw hby hml hown e3 N3 A3 S3 ⟨by decide, own_lt (by decide) hz⟩ (by show _ < 6; decide) (by show _ < 6; decide)
        have A4 := Nat.le_trans A3 Q4
        try simp only [own_set0, own_set1, own_set2, own_set3, own_get0, own_get1, own_get2, own_get3] at S4
        exact ⟨T4, h4, l4, _, _, _, X4, e4, N4, (Nat.le_trans (Nat.le_trans (Nat.le_trans Q1 Q2) Q3) Q4), S4, Or.inr (Or.inr (Or.inr (Or.inl ⟨w, wk, wc, rfl, rfl⟩))), fun t k => (st1 t (st2 t (st3 t (st4 t k))))⟩
  · obtain ⟨T1, h1, l1, X1, e1, N1, Q1, S1, st1⟩ := own_oRt a1 p2 x3  z _ _ k _ ad ai X0 hx hZ hw hby hml hown e0 N0 Z0 S0 ⟨by decide, own_lt (by decide) hz⟩ ⟨by decide, own_lt (by decide) hz⟩ (own_worse_f w)
    have A1 := Nat.le_trans Z0 Q1
    try simp only [own_set0, own_set1, own_set2, own_set3, own_get0, own_get1, own_get2, own_get3] at S1
    exact ⟨T1, h1, l1, _, _, _, X1, e1, N1, Q1, S1, Or.inl ⟨w, rfl, rfl⟩, fun t k => (st1 t k)⟩
theorem own_gr0 {p : Program} {l : Launch} {e : Env} {s : State} {m : MethodId} {args : Array Value} {below : List Frame} {meth : Method} {c : Code} {T0 : State} {locs : List Loc} {Z : State} {a0 : Array Value} {h0 : Heap} {n0 : Nat} (a1 : Addr) (p2 x3 : Int32) (ad ai : Addr) (k z : Int32) (X0 : Stand p l e ({ frames := 5, cells := 2, slots := 12, locals := 160 } : Room) s m args below meth c T0 locs 0 0) (hx : p.tables.exec = Jvm.exec) (hZ : Z.Warmed39 s.vm) (hw : ∀ d ∈ tables_1, d.before a0 Z = true) (hby : c.code = prog_24_method_2_code) (hml : c.maxLocals = 6) (hown : s.vm.findClass "com/example/triangulum/triangulum/search/Shortlist" = some m.cls) (e0 : T0.heap = h0) (N0 : Fr n0 locs) (Z0 : n0 ≤ h0.size) (S0 : own_S Z n0 h0 a1 ad ai k (0 : Int32) z (own_L 0 0 0 0) (own_L 0 0 0 0)) (hz1 : ¬ z < (0 : Int32)) (hz6 : ¬ (6 : Int32) < z) :
    ∃ (T' : State) (h' : Heap) (locs' : List Loc) (ad' ai' : Addr) (z' : Int32), Stand p l e ({ frames := 5, cells := 2, slots := 12, locals := 160 } : Room) s m args below meth c T' locs' 2 12 ∧ T'.heap = h' ∧ Fr n0 locs' ∧ h0.size ≤ h'.size ∧ own_S Z n0 h' a1 ad' ai' k (0 : Int32) z' (own_L 0 0 0 0) (own_L 0 0 0 0) ∧ (0 : Int32) < z' ∧ ¬ (6 : Int32) < z' ∧ ∀ target, Steps p.tables e below (T'.setTop (mkF m 64 #[.val (.ref a1), .val (.int p2), .val (.double (FP.i2d x3)), .second, .unset, .unset] [])) target → Steps p.tables e below (T0.setTop (mkF m 15 #[.val (.ref a1), .val (.int p2), .val (.double (FP.i2d x3)), .second, .unset, .unset] [])) target := by
  by_cases h : (0 : Int32) = z
  · subst h
    obtain ⟨T1, h1, l1, b1, b2, X1, e1, N1, Q1, S1, st1⟩ := own_oGf a1 p2 x3 (0 : Int32) _ _ k _ ad ai X0 hx hZ hw hby hml hown e0 N0 Z0 S0 rfl (by decide) (by decide) (by decide) (by decide) (by decide) (by decide)
    simp only [own_cp0] at S1
    exact ⟨T1, h1, l1, b1, b2, _, X1, e1, N1, Q1, S1, by decide, by decide, st1⟩
  · obtain ⟨T1, h1, l1, X1, e1, N1, Q1, S1, st1⟩ := own_oGt a1 p2 x3 z _ _ k _ ad ai X0 hx hZ hw hby hml hown e0 N0 Z0 S0 h
    refine ⟨T1, h1, l1, ad, ai, z, X1.more (by decide) (by decide), e1, N1, Q1, S1, ?_, hz6, st1⟩
    rw [Int32.lt_iff_toInt_lt] at *
    rw [← Int32.toInt_inj] at h
    omega
theorem own_gr1 {p : Program} {l : Launch} {e : Env} {s : State} {m : MethodId} {args : Array Value} {below : List Frame} {meth : Method} {c : Code} {T0 : State} {locs : List Loc} {Z : State} {a0 : Array Value} {h0 : Heap} {n0 : Nat} (a1 : Addr) (p2 x3 : Int32) (ad ai : Addr) (k z : Int32) (u0 v0 : Int32) (X0 : Stand p l e ({ frames := 5, cells := 2, slots := 12, locals := 160 } : Room) s m args below meth c T0 locs 0 0) (hx : p.tables.exec = Jvm.exec) (hZ : Z.Warmed39 s.vm) (hw : ∀ d ∈ tables_1, d.before a0 Z = true) (hby : c.code = prog_24_method_2_code) (hml : c.maxLocals = 6) (hown : s.vm.findClass "com/example/triangulum/triangulum/search/Shortlist" = some m.cls) (e0 : T0.heap = h0) (N0 : Fr n0 locs) (Z0 : n0 ≤ h0.size) (S0 : own_S Z n0 h0 a1 ad ai k (1 : Int32) z (own_L u0 0 0 0) (own_L v0 0 0 0)) (hz1 : ¬ z < (1 : Int32)) (hz6 : ¬ (6 : Int32) < z) :
    ∃ (T' : State) (h' : Heap) (locs' : List Loc) (ad' ai' : Addr) (z' : Int32), Stand p l e ({ frames := 5, cells := 2, slots := 12, locals := 160 } : Room) s m args below meth c T' locs' 2 12 ∧ T'.heap = h' ∧ Fr n0 locs' ∧ h0.size ≤ h'.size ∧ own_S Z n0 h' a1 ad' ai' k (1 : Int32) z' (own_L u0 0 0 0) (own_L v0 0 0 0) ∧ (1 : Int32) < z' ∧ ¬ (6 : Int32) < z' ∧ ∀ target, Steps p.tables e below (T'.setTop (mkF m 64 #[.val (.ref a1), .val (.int p2), .val (.double (FP.i2d x3)), .second, .unset, .unset] [])) target → Steps p.tables e below (T0.setTop (mkF m 15 #[.val (.ref a1), .val (.int p2), .val (.double (FP.i2d x3)), .second, .unset, .unset] [])) target := by
  by_cases h : (1 : Int32) = z
  · subst h
    obtain ⟨T1, h1, l1, b1, b2, X1, e1, N1, Q1, S1, st1⟩ := own_oGf a1 p2 x3 (1 : Int32) _ _ k _ ad ai X0 hx hZ hw hby hml hown e0 N0 Z0 S0 rfl (by decide) (by decide) (by decide) (by decide) (by decide) (by decide)
    simp only [own_cp1] at S1
    exact ⟨T1, h1, l1, b1, b2, _, X1, e1, N1, Q1, S1, by decide, by decide, st1⟩
  · obtain ⟨T1, h1, l1, X1, e1, N1, Q1, S1, st1⟩ := own_oGt a1 p2 x3 z _ _ k _ ad ai X0 hx hZ hw hby hml hown e0 N0 Z0 S0 h
    refine ⟨T1, h1, l1, ad, ai, z, X1.more (by decide) (by decide), e1, N1, Q1, S1, ?_, hz6, st1⟩
    rw [Int32.lt_iff_toInt_lt] at *
    rw [← Int32.toInt_inj] at h
    omega
theorem own_gr2 {p : Program} {l : Launch} {e : Env} {s : State} {m : MethodId} {args : Array Value} {below : List Frame} {meth : Method} {c : Code} {T0 : State} {locs : List Loc} {Z : State} {a0 : Array Value} {h0 : Heap} {n0 : Nat} (a1 : Addr) (p2 x3 : Int32) (ad ai : Addr) (k z : Int32) (u0 v0 u1 v1 : Int32) (X0 : Stand p l e ({ frames := 5, cells := 2, slots := 12, locals := 160 } : Room) s m args below meth c T0 locs 0 0) (hx : p.tables.exec = Jvm.exec) (hZ : Z.Warmed39 s.vm) (hw : ∀ d ∈ tables_1, d.before a0 Z = true) (hby : c.code = prog_24_method_2_code) (hml : c.maxLocals = 6) (hown : s.vm.findClass "com/example/triangulum/triangulum/search/Shortlist" = some m.cls) (e0 : T0.heap = h0) (N0 : Fr n0 locs) (Z0 : n0 ≤ h0.size) (S0 : own_S Z n0 h0 a1 ad ai k (2 : Int32) z (own_L u0 u1 0 0) (own_L v0 v1 0 0)) (hz1 : ¬ z < (2 : Int32)) (hz6 : ¬ (6 : Int32) < z) :
    ∃ (T' : State) (h' : Heap) (locs' : List Loc) (ad' ai' : Addr) (z' : Int32), Stand p l e ({ frames := 5, cells := 2, slots := 12, locals := 160 } : Room) s m args below meth c T' locs' 2 12 ∧ T'.heap = h' ∧ Fr n0 locs' ∧ h0.size ≤ h'.size ∧ own_S Z n0 h' a1 ad' ai' k (2 : Int32) z' (own_L u0 u1 0 0) (own_L v0 v1 0 0) ∧ (2 : Int32) < z' ∧ ¬ (6 : Int32) < z' ∧ ∀ target, Steps p.tables e below (T'.setTop (mkF m 64 #[.val (.ref a1), .val (.int p2), .val (.double (FP.i2d x3)), .second, .unset, .unset] [])) target → Steps p.tables e below (T0.setTop (mkF m 15 #[.val (.ref a1), .val (.int p2), .val (.double (FP.i2d x3)), .second, .unset, .unset] [])) target := by
  by_cases h : (2 : Int32) = z
  · subst h
    obtain ⟨T1, h1, l1, b1, b2, X1, e1, N1, Q1, S1, st1⟩ := own_oGf a1 p2 x3 (2 : Int32) _ _ k _ ad ai X0 hx hZ hw hby hml hown e0 N0 Z0 S0 rfl (by decide) (by decide) (by decide) (by decide) (by decide) (by decide)
    simp only [own_cp2] at S1
    exact ⟨T1, h1, l1, b1, b2, _, X1, e1, N1, Q1, S1, by decide, by decide, st1⟩
  · obtain ⟨T1, h1, l1, X1, e1, N1, Q1, S1, st1⟩ := own_oGt a1 p2 x3 z _ _ k _ ad ai X0 hx hZ hw hby hml hown e0 N0 Z0 S0 h
    refine ⟨T1, h1, l1, ad, ai, z, X1.more (by decide) (by decide), e1, N1, Q1, S1, ?_, hz6, st1⟩
    rw [Int32.lt_iff_toInt_lt] at *
    rw [← Int32.toInt_inj] at h
    omega
theorem own_gr3 {p : Program} {l : Launch} {e : Env} {s : State} {m : MethodId} {args : Array Value} {below : List Frame} {meth : Method} {c : Code} {T0 : State} {locs : List Loc} {Z : State} {a0 : Array Value} {h0 : Heap} {n0 : Nat} (a1 : Addr) (p2 x3 : Int32) (ad ai : Addr) (k z : Int32) (u0 v0 u1 v1 u2 v2 : Int32) (X0 : Stand p l e ({ frames := 5, cells := 2, slots := 12, locals := 160 } : Room) s m args below meth c T0 locs 0 0) (hx : p.tables.exec = Jvm.exec) (hZ : Z.Warmed39 s.vm) (hw : ∀ d ∈ tables_1, d.before a0 Z = true) (hby : c.code = prog_24_method_2_code) (hml : c.maxLocals = 6) (hown : s.vm.findClass "com/example/triangulum/triangulum/search/Shortlist" = some m.cls) (e0 : T0.heap = h0) (N0 : Fr n0 locs) (Z0 : n0 ≤ h0.size) (S0 : own_S Z n0 h0 a1 ad ai k (3 : Int32) z (own_L u0 u1 u2 0) (own_L v0 v1 v2 0)) (hz1 : ¬ z < (3 : Int32)) (hz6 : ¬ (6 : Int32) < z) :
    ∃ (T' : State) (h' : Heap) (locs' : List Loc) (ad' ai' : Addr) (z' : Int32), Stand p l e ({ frames := 5, cells := 2, slots := 12, locals := 160 } : Room) s m args below meth c T' locs' 2 12 ∧ T'.heap = h' ∧ Fr n0 locs' ∧ h0.size ≤ h'.size ∧ own_S Z n0 h' a1 ad' ai' k (3 : Int32) z' (own_L u0 u1 u2 0) (own_L v0 v1 v2 0) ∧ (3 : Int32) < z' ∧ ¬ (6 : Int32) < z' ∧ ∀ target, Steps p.tables e below (T'.setTop (mkF m 64 #[.val (.ref a1), .val (.int p2), .val (.double (FP.i2d x3)), .second, .unset, .unset] [])) target → Steps p.tables e below (T0.setTop (mkF m 15 #[.val (.ref a1), .val (.int p2), .val (.double (FP.i2d x3)), .second, .unset, .unset] [])) target := by
  by_cases h : (3 : Int32) = z
  · subst h
    obtain ⟨T1, h1, l1, b1, b2, X1, e1, N1, Q1, S1, st1⟩ := own_oGf a1 p2 x3 (3 : Int32) _ _ k _ ad ai X0 hx hZ hw hby hml hown e0 N0 Z0 S0 rfl (by decide) (by decide) (by decide) (by decide) (by decide) (by decide)
    simp only [own_cp3] at S1
    exact ⟨T1, h1, l1, b1, b2, _, X1, e1, N1, Q1, S1, by decide, by decide, st1⟩
  · obtain ⟨T1, h1, l1, X1, e1, N1, Q1, S1, st1⟩ := own_oGt a1 p2 x3 z _ _ k _ ad ai X0 hx hZ hw hby hml hown e0 N0 Z0 S0 h
    refine ⟨T1, h1, l1, ad, ai, z, X1.more (by decide) (by decide), e1, N1, Q1, S1, ?_, hz6, st1⟩
    rw [Int32.lt_iff_toInt_lt] at *
    rw [← Int32.toInt_inj] at h
    omega
theorem pd_lim : parseMethodDescriptor "()D" = some ⟨[], some .double⟩ := by decide +kernel
theorem pd_of : parseMethodDescriptor "(ID)V" = some ⟨[.int, .double], none⟩ := by decide +kernel
section OwnV
variable {p : Program} {l : Launch} {e : Env} {R : Room} {s : State} {m : MethodId} {args : Array Value} {below : List Frame} {meth : Method} {c : Code} {T : State} {locs : List Loc} {cells slots : Nat} {Z : State} {a0 : Array Value} {h : Heap}
/-- an instance method by its contract, that writes -/
theorem own_callV (X : Stand p l e R s m args below meth c T locs cells slots) (hx : p.tables.exec = Jvm.exec) (hZ : Z.Warmed39 s.vm) {own C : String} {index : Nat} {y : MethodName} {bytes : ByteArray} {maxL : Nat} {ret : Option FieldType} {rm : Room} {a : Addr} {argsL rest : List Value} {Q : Heap → Prop} {n0 W : Nat}
    (hM : MetFree l y (head1 [Cond.code y bytes maxL ret] rm) (fun a' U => a' = (.ref a :: argsL).toArray ∧ Z.Warmed39 U.vm ∧ U.heap = h) (fun _ _ _ _ _ => True) (fun _ U o U' => ∃ v L, o = .returned v ∧ (v = none ∧ Fr n0 L ∧ Q U'.heap) ∧ FrameEnd U o U' L rm.cells rm.slots))
    (hown : s.vm.findClass own = some m.cls) (w1 : (Cond.methodLink own index y).before a0 Z = true) (w2 : (Cond.declares y).before a0 Z = true) (w5 : (Cond.instanceMethod y).before a0 Z = true) (w6 : (Cond.selects C y y).before a0 Z = true) (w3 : (Cond.initialized y.cls).before a0 Z = true) (w4 : (Cond.code y bytes maxL ret).before a0 Z = true) (hy : y.cls ≠ "java/lang/invoke/MethodHandle" ∧ y.cls ≠ "java/lang/invoke/VarHandle") (E : Exa Z h a C) (N : Fr n0 locs)
    (hf : rm.frames + 1 ≤ R.frames) (hl : W + (maxL + 11) + rm.locals ≤ R.locals) (eT : T.heap = h) {g : JFrame} (hg : g.method = m) (hsize : g.locals.size = c.maxLocals) (hlen : ∀ sig, parseMethodDescriptor y.desc = some sig → argsL.length = sig.parameters.length)
    (hst : g.stack = argsL.reverse ++ .ref a :: rest) (hW : 2 * g.monitorRoom + (rest.map fun v => v.category).sum ≤ W) (hd : decode c.code g.pc = .ok (.invokevirtual index, 3)) (hc : cells + rm.cells ≤ R.cells) (hs : slots + rm.slots ≤ R.slots) :
    ∃ T' h' L', Stand p l e R s m args below meth c T' L' (cells + rm.cells) (slots + rm.slots) ∧ T'.heap = h' ∧ Fr n0 L' ∧ Q h' ∧ ∀ target, Steps p.tables e below (T'.setTop { g with pc := g.pc + 3, stack := rest }) target → Steps p.tables e below (T.setTop g) target := by
  obtain ⟨cq, kq, qa, qb, qc⟩ := isOf hZ eT E
  obtain ⟨_, _, ⟨T1, L1, k1, n1⟩, -, X1, ⟨Lc, hQ, l1, y1, z1⟩, st⟩ := X.virtualBack hx (y := y) (z := y) hown (mvT hZ w1) (mvT hZ w2) (notFace_of_selects (args := #[]) (mvT hZ w6)) (mvT hZ w6) (mvT hZ w5) hy (backOf (W := W) (Q := fun v h' L => v = none ∧ Fr n0 L ∧ Q h') hM hZ w4 w3 hf hl) qa qc hg hsize (Steps.refl _) (argsL := argsL) (rest := rest) hlen hst hW hd (fun _ _ => ⟨rfl, eT, hc, hs⟩)
  dsimp only [Pt.U, Pt.locs, Pt.cells, Pt.slots] at X1 l1 y1 z1 st hQ
  obtain ⟨rfl, hN, hh⟩ := hQ
  subst l1 y1 z1
  exact ⟨T1, T1.heap, _, X1, rfl, N.app hN, hh, fun target k => st.trans k⟩
theorem own_limit {own : String} {index : Nat} (X : Stand p l e R s m args below meth c T locs cells slots) (hx : p.tables.exec = Jvm.exec) (hZ : Z.Warmed39 s.vm) (hw : ∀ d ∈ tables_1, d.before a0 Z = true) (hown : s.vm.findClass own = some m.cls) (w1 : (Cond.methodLink own index (⟨"com/example/triangulum/triangulum/search/Shortlist", "limit", "()D"⟩ : MethodName)).before a0 Z = true)
    {n0 : Nat} {a ad ai : Addr} {k sz z : Int32} {XL IL : List Int32} (S : own_S Z n0 h a ad ai k sz z XL IL) (hz : ¬ sz < k → (0 : Int32) < z)
    {W : Nat} {g : JFrame} (hg : g.method = m) (hsize : g.locals.size = c.maxLocals) {rest : List Value} (hst : g.stack = .ref a :: rest) (hW : 2 * g.monitorRoom + (rest.map fun v => v.category).sum ≤ W) (hd : decode c.code g.pc = .ok (.invokevirtual index, 3)) (hf : 1 ≤ R.frames) (hl : W + 12 ≤ R.locals) (eT : T.heap = h) (hc : cells ≤ R.cells := by decide) (hs : slots ≤ R.slots := by decide) :
    ∃ T', Stand p l e R s m args below meth c T' locs cells slots ∧ T'.heap = h ∧ ∀ target, Steps p.tables e below (T'.setTop { g with pc := g.pc + 3, stack := .double (own_lim k sz XL) :: rest }) target → Steps p.tables e below (T.setTop g) target := by
  obtain ⟨E, Fk, Fs, Fd, Fi, Vx, Vi, ga, gd, gi, n1, n2, n3⟩ := S
  exact own_pureV X hx hZ (rm4 l Z a0 hw [] a z XL k sz ad h 0 (Nat.zero_le _) Vx Fk Fs Fd hz) hown w1 (hw _ (List.mem_of_getElem? (i := 22) rfl)) (hw _ (List.mem_of_getElem? (i := 23) rfl)) (hw _ (List.mem_of_getElem? (i := 24) rfl)) (hw _ (List.mem_of_getElem? (i := 2) rfl)) (hw _ (List.mem_of_getElem? (i := 25) rfl)) (by decide) E hf hl eT hg hsize (argsL := []) (lenOf pd_lim rfl) hst hW hd hc hs
end OwnV
def own_ok (d : UInt64) (w : Int32) : Prop := (w < (0 : Int32) ∧ d = (9218868437227405312 : UInt64)) ∨ (¬ (w < (0 : Int32)) ∧ d = FP.i2d w)
theorem own_inf_max : cmpValue (FP.dcmp (9218868437227405312 : UInt64) (9218868437227405311 : UInt64)) .l = 1 := by decide +kernel
theorem d6_0 : decode method_3_code 0 = .ok (.iload_n 2, 1) := by decide +kernel
theorem d6_1 : decode method_3_code 1 = .ok (.ifCond .ge 17, 3) := by decide +kernel
theorem d6_4 : decode method_3_code 4 = .ok (.dload_n 0, 1) := by decide +kernel
theorem d6_5 : decode method_3_code 5 = .ok (.ldc2_w 30, 3) := by decide +kernel
theorem d6_8 : decode method_3_code 8 = .ok (.dcmp .l, 1) := by decide +kernel
theorem d6_9 : decode method_3_code 9 = .ok (.ifCond .le 7, 3) := by decide +kernel
theorem d6_12 : decode method_3_code 12 = .ok (.iconst 1, 1) := by decide +kernel
theorem d6_13 : decode method_3_code 13 = .ok (.goto 4, 3) := by decide +kernel
theorem d6_17 : decode method_3_code 17 = .ok (.ireturn, 1) := by decide +kernel
theorem pn_6 : plainName "com/example/triangulum/triangulum/search/ShortlistLimitPinLaw" = true := by first | (simp [plainName, overriddenIn]; done) | decide +kernel
theorem ef_6 (m : MethodId) (x0 : UInt64) (x1 : Int32) : entryFrame m #[(.double x0), (.int x1)] 3 = mkF m 0 #[.val (.double x0), .second, .val (.int x1)] [] := by first | (simp [entryFrame, mkF, argsToLocals, Value.category]; done) | rfl
set_option maxRecDepth 65536 in
set_option maxHeartbeats 40000000 in
theorem rm6_ff (l : Launch) (Z : State) (a0 : Array Value) (hw : ∀ d ∈ tables_1, d.before a0 Z = true) (ws : List Jvm.Cond) (d1 : UInt64) (p2 : Int32) (t8 : Int32) (h0 : Heap) (n0 : Nat) (Z0 : n0 ≤ h0.size) (hc1 : p2 < (0 : Int32)) (ht8 : cmpValue (FP.dcmp d1 (9218868437227405311 : UInt64)) .l = t8) (hc9 : (0 : Int32) < t8) :
    MetFree l (⟨"com/example/triangulum/triangulum/search/ShortlistLimitPinLaw", "agrees", "(DI)Z"⟩ : MethodName) (head1 (Jvm.Cond.code (⟨"com/example/triangulum/triangulum/search/ShortlistLimitPinLaw", "agrees", "(DI)Z"⟩ : MethodName) method_3_code 3 (some .boolean) :: ws) ({ frames := 0, cells := 0, slots := 0, locals := 0 } : Room)) (fun a U => a = #[(.double d1), (.int p2)] ∧ Z.Warmed39 U.vm ∧ U.heap = h0) (fun _ _ _ _ _ => True) (fun _ U o U' => ∃ v L, o = .returned v ∧ (v = some (.int (1 : Int32)) ∧ L = [] ∧ U'.heap = h0) ∧ FrameEnd U o U' L ({ frames := 0, cells := 0, slots := 0, locals := 0 } : Room).cells ({ frames := 0, cells := 0, slots := 0, locals := 0 } : Room).slots) := by
  refine MetFree.of_bodySF (plainFor_of_name pn_6) hisR ?_
  intro p e s m args below meth c s₁ Bd hml0 hP hK
  obtain ⟨rfl, hZ, hh⟩ := hP
  have hx := Bd.exec
  have hby := Bd.bytes
  have hml : c.maxLocals = 3 := hml0
  have hown : s.vm.findClass "com/example/triangulum/triangulum/search/ShortlistLimitPinLaw" = some m.cls := findClass_of_methodNamed Bd.named
  have hnm := (name_of_methodNamed Bd.named Bd.method).1
  have X0 : Stand p l e ({ frames := 0, cells := 0, slots := 0, locals := 0 } : Room) s m #[(.double d1), (.int p2)] below meth c s₁ [] 0 0 := Stand.of_body Bd
  have e0 : s₁.heap = h0 := by rw [← hh, Bd.state]; rfl
  have N0 := Fr.nil n0
  have pre0 : ∀ t, Steps p.tables e below (s₁.setTop (mkF m 0 #[.val (.double d1), .second, .val (.int p2)] [])) t → Steps p.tables e below (s₁.setTop (entryFrame m #[(.double d1), (.int p2)] 3)) t := fun t k => castTop (ef_6 m d1 p2) k
  -- 3. LAWS

  obtain ⟨fs, hr, hrun, hended, hW, hsame⟩ := X0.leave (v := some (.int (1 : Int32))) (fun h => by rw [Bd.returns] at h; cases h)
  refine ⟨_, _, pre0 _ ?_, hrun, hended, _, _, rfl, ?_, ⟨_, rfl⟩, hW, hsame.mono (by decide) (by decide)⟩
  -- 4. STEPS
  · show Steps p.tables e below (s₁.setTop (mkF m 0 #[.val (.double d1), .second, .val (.int p2)] [])) _
    refine XS.iloadN X0.here hx rfl (hb hby d6_0) rfl ?_
    show Steps p.tables e below (s₁.setTop (mkF m 1 #[.val (.double d1), .second, .val (.int p2)] [(.int p2)])) _
    refine XS.ifNo X0.here hx rfl (hb hby d6_1) rfl ((if0 _ _).trans (tlt hc1).2.1) ?_
    show Steps p.tables e below (s₁.setTop (mkF m 4 #[.val (.double d1), .second, .val (.int p2)] [])) _
    refine XS.dloadN X0.here hx rfl (hb hby d6_4) rfl ?_
    show Steps p.tables e below (s₁.setTop (mkF m 5 #[.val (.double d1), .second, .val (.int p2)] [(.double d1)])) _
    refine X0.ldc2DoubleC hx hown (mvT hZ (hw _ (List.mem_of_getElem? (i := 36) rfl))) (g := (mkF m 5 #[.val (.double d1), .second, .val (.int p2)] [(.double d1)])) rfl (hb hby d6_5) _ ?_
    show Steps p.tables e below (s₁.setTop (mkF m 8 #[.val (.double d1), .second, .val (.int p2)] [(.double (9218868437227405311 : UInt64)), (.double d1)])) _
    refine XS.dcmpS X0.here hx rfl (hb hby d6_8) rfl ht8 ?_
    show Steps p.tables e below (s₁.setTop (mkF m 9 #[.val (.double d1), .second, .val (.int p2)] [(.int t8)])) _
    refine XS.ifNo X0.here hx rfl (hb hby d6_9) rfl ((if0 _ _).trans (tlt hc9).2.2.2) ?_
    show Steps p.tables e below (s₁.setTop (mkF m 12 #[.val (.double d1), .second, .val (.int p2)] [])) _
    refine XS.iconst X0.here hx rfl (hb hby d6_12) ?_
    show Steps p.tables e below (s₁.setTop (mkF m 13 #[.val (.double d1), .second, .val (.int p2)] [(.int (1 : Int32))])) _
    refine XS.goto X0.here hx rfl (pc0 := 13) (pc' := 17) rfl (hb hby d6_13) (by decide) (by decide) ?_
    show Steps p.tables e below (s₁.setTop (mkF m 17 #[.val (.double d1), .second, .val (.int p2)] [(.int (1 : Int32))])) _
    exact retN X0 hx (t := .boolean) Bd.returns (by simp) (hb hby d6_17) hr
  · exact ⟨rfl, rfl, e0⟩
theorem d6_18 : decode method_3_code 18 = .ok (.dload_n 0, 1) := by decide +kernel
theorem d6_19 : decode method_3_code 19 = .ok (.iload_n 2, 1) := by decide +kernel
theorem d6_20 : decode method_3_code 20 = .ok (.i2d, 1) := by decide +kernel
theorem d6_21 : decode method_3_code 21 = .ok (.dcmp .l, 1) := by decide +kernel
theorem d6_22 : decode method_3_code 22 = .ok (.ifCond .ne 7, 3) := by decide +kernel
theorem d6_25 : decode method_3_code 25 = .ok (.iconst 1, 1) := by decide +kernel
theorem d6_26 : decode method_3_code 26 = .ok (.goto 4, 3) := by decide +kernel
theorem d6_30 : decode method_3_code 30 = .ok (.ireturn, 1) := by decide +kernel
set_option maxRecDepth 65536 in
set_option maxHeartbeats 40000000 in
theorem rm6_tf (l : Launch) (Z : State) (a0 : Array Value) (hw : ∀ d ∈ tables_1, d.before a0 Z = true) (ws : List Jvm.Cond) (d1 : UInt64) (p2 : Int32) (t21 : Int32) (h0 : Heap) (n0 : Nat) (Z0 : n0 ≤ h0.size) (hc1 : ¬ (p2 < (0 : Int32))) (ht21 : cmpValue (FP.dcmp d1 (FP.i2d p2)) .l = t21) (hc22 : t21 = (0 : Int32)) :
    MetFree l (⟨"com/example/triangulum/triangulum/search/ShortlistLimitPinLaw", "agrees", "(DI)Z"⟩ : MethodName) (head1 (Jvm.Cond.code (⟨"com/example/triangulum/triangulum/search/ShortlistLimitPinLaw", "agrees", "(DI)Z"⟩ : MethodName) method_3_code 3 (some .boolean) :: ws) ({ frames := 0, cells := 0, slots := 0, locals := 0 } : Room)) (fun a U => a = #[(.double d1), (.int p2)] ∧ Z.Warmed39 U.vm ∧ U.heap = h0) (fun _ _ _ _ _ => True) (fun _ U o U' => ∃ v L, o = .returned v ∧ (v = some (.int (1 : Int32)) ∧ L = [] ∧ U'.heap = h0) ∧ FrameEnd U o U' L ({ frames := 0, cells := 0, slots := 0, locals := 0 } : Room).cells ({ frames := 0, cells := 0, slots := 0, locals := 0 } : Room).slots) := by
  refine MetFree.of_bodySF (plainFor_of_name pn_6) hisR ?_
  intro p e s m args below meth c s₁ Bd hml0 hP hK
  obtain ⟨rfl, hZ, hh⟩ := hP
  have hx := Bd.exec
  have hby := Bd.bytes
  have hml : c.maxLocals = 3 := hml0
  have hown : s.vm.findClass "com/example/triangulum/triangulum/search/ShortlistLimitPinLaw" = some m.cls := findClass_of_methodNamed Bd.named
  have hnm := (name_of_methodNamed Bd.named Bd.method).1
  have X0 : Stand p l e ({ frames := 0, cells := 0, slots := 0, locals := 0 } : Room) s m #[(.double d1), (.int p2)] below meth c s₁ [] 0 0 := Stand.of_body Bd
  have e0 : s₁.heap = h0 := by rw [← hh, Bd.state]; rfl
  have N0 := Fr.nil n0
  have pre0 : ∀ t, Steps p.tables e below (s₁.setTop (mkF m 0 #[.val (.double d1), .second, .val (.int p2)] [])) t → Steps p.tables e below (s₁.setTop (entryFrame m #[(.double d1), (.int p2)] 3)) t := fun t k => castTop (ef_6 m d1 p2) k
  -- 3. LAWS

  obtain ⟨fs, hr, hrun, hended, hW, hsame⟩ := X0.leave (v := some (.int (1 : Int32))) (fun h => by rw [Bd.returns] at h; cases h)
  refine ⟨_, _, pre0 _ ?_, hrun, hended, _, _, rfl, ?_, ⟨_, rfl⟩, hW, hsame.mono (by decide) (by decide)⟩
  -- 4. STEPS
  · show Steps p.tables e below (s₁.setTop (mkF m 0 #[.val (.double d1), .second, .val (.int p2)] [])) _
    refine XS.iloadN X0.here hx rfl (hb hby d6_0) rfl ?_
    show Steps p.tables e below (s₁.setTop (mkF m 1 #[.val (.double d1), .second, .val (.int p2)] [(.int p2)])) _
    refine XS.ifYes X0.here hx rfl (pc0 := 1) (pc' := 18) rfl (hb hby d6_1) rfl ((if0 _ _).trans (flt hc1).2.1) (by decide) (by decide) ?_
    show Steps p.tables e below (s₁.setTop (mkF m 18 #[.val (.double d1), .second, .val (.int p2)] [])) _
    refine XS.dloadN X0.here hx rfl (hb hby d6_18) rfl ?_
    show Steps p.tables e below (s₁.setTop (mkF m 19 #[.val (.double d1), .second, .val (.int p2)] [(.double d1)])) _
    refine XS.iloadN X0.here hx rfl (hb hby d6_19) rfl ?_
    show Steps p.tables e below (s₁.setTop (mkF m 20 #[.val (.double d1), .second, .val (.int p2)] [(.int p2), (.double d1)])) _
    refine XS.i2dS X0.here hx rfl (hb hby d6_20) rfl rfl ?_
    show Steps p.tables e below (s₁.setTop (mkF m 21 #[.val (.double d1), .second, .val (.int p2)] [(.double (FP.i2d p2)), (.double d1)])) _
    refine XS.dcmpS X0.here hx rfl (hb hby d6_21) rfl ht21 ?_
    show Steps p.tables e below (s₁.setTop (mkF m 22 #[.val (.double d1), .second, .val (.int p2)] [(.int t21)])) _
    refine XS.ifNo X0.here hx rfl (hb hby d6_22) rfl ((if0 _ _).trans (teq hc22).2) ?_
    show Steps p.tables e below (s₁.setTop (mkF m 25 #[.val (.double d1), .second, .val (.int p2)] [])) _
    refine XS.iconst X0.here hx rfl (hb hby d6_25) ?_
    show Steps p.tables e below (s₁.setTop (mkF m 26 #[.val (.double d1), .second, .val (.int p2)] [(.int (1 : Int32))])) _
    refine XS.goto X0.here hx rfl (pc0 := 26) (pc' := 30) rfl (hb hby d6_26) (by decide) (by decide) ?_
    show Steps p.tables e below (s₁.setTop (mkF m 30 #[.val (.double d1), .second, .val (.int p2)] [(.int (1 : Int32))])) _
    exact retN X0 hx (t := .boolean) Bd.returns (by simp) (hb hby d6_30) hr
  · exact ⟨rfl, rfl, e0⟩
theorem rm6 (l : Launch) (Z : State) (a0 : Array Value) (hw : ∀ d ∈ tables_1, d.before a0 Z = true) (ws : List Jvm.Cond) (d1 : UInt64) (p2 : Int32) (h0 : Heap) (n0 : Nat) (Z0 : n0 ≤ h0.size) (hok : own_ok d1 p2) :
    MetFree l (⟨"com/example/triangulum/triangulum/search/ShortlistLimitPinLaw", "agrees", "(DI)Z"⟩ : MethodName) (head1 (Jvm.Cond.code (⟨"com/example/triangulum/triangulum/search/ShortlistLimitPinLaw", "agrees", "(DI)Z"⟩ : MethodName) method_3_code 3 (some .boolean) :: ws) ({ frames := 0, cells := 0, slots := 0, locals := 0 } : Room)) (fun a U => a = #[(.double d1), (.int p2)] ∧ Z.Warmed39 U.vm ∧ U.heap = h0) (fun _ _ _ _ _ => True) (fun _ U o U' => ∃ v L, o = .returned v ∧ (v = some (.int (1 : Int32)) ∧ L = [] ∧ U'.heap = h0) ∧ FrameEnd U o U' L ({ frames := 0, cells := 0, slots := 0, locals := 0 } : Room).cells ({ frames := 0, cells := 0, slots := 0, locals := 0 } : Room).slots) := by
  rcases hok with ⟨h, rfl⟩ | ⟨h, rfl⟩
  · exact rm6_ff l Z a0 hw ws _ p2 _ h0 n0 Z0 h own_inf_max (by decide)
  · exact rm6_tf l Z a0 hw ws _ p2 _ h0 n0 Z0 h (own_dcmp_eq _ _) rfl
theorem own_call_agr {p : Program} {l : Launch} {e : Env} {R : Room} {s : State} {m : MethodId} {args : Array Value} {below : List Frame} {meth : Method} {c : Code} {T : State} {locs : List Loc} {cells slots : Nat} {Z : State} {a0 : Array Value} {h : Heap} {own : String} {index : Nat}
    (X : Stand p l e R s m args below meth c T locs cells slots) (hx : p.tables.exec = Jvm.exec) (hZ : Z.Warmed39 s.vm) (hw : ∀ d ∈ tables_1, d.before a0 Z = true) (hown : s.vm.findClass own = some m.cls) (w1 : (Cond.methodLink own index (⟨"com/example/triangulum/triangulum/search/ShortlistLimitPinLaw", "agrees", "(DI)Z"⟩ : MethodName)).before a0 Z = true) (d : UInt64) (w : Int32) (hok : own_ok d w)
    {W : Nat} {g : JFrame} (hg : g.method = m) (hsize : g.locals.size = c.maxLocals) {rest : List Value} (hst : g.stack = .int w :: .double d :: rest) (hW : 2 * g.monitorRoom + (rest.map fun v => v.category).sum ≤ W) (hd : decode c.code g.pc = .ok (.invokestatic index, 3)) (hf : 1 ≤ R.frames) (hl : W + 14 ≤ R.locals) (eT : T.heap = h) (hc : cells ≤ R.cells := by decide) (hs : slots ≤ R.slots := by decide) :
    ∃ T', Stand p l e R s m args below meth c T' locs cells slots ∧ T'.heap = h ∧ ∀ target, Steps p.tables e below (T'.setTop { g with pc := g.pc + 3, stack := .int (1 : Int32) :: rest }) target → Steps p.tables e below (T.setTop g) target :=
  own_pureS X hx hZ (rm6 l Z a0 hw [] d w h 0 (Nat.zero_le _) hok) hown w1 (hw _ (List.mem_of_getElem? (i := 34) rfl)) (hw _ (List.mem_of_getElem? (i := 31) rfl)) (hw _ (List.mem_of_getElem? (i := 35) rfl)) (by decide) hf hl eT hg hsize (argsL := [.double d, .int w]) (lenOf pd_agr rfl) hst hW hd hc hs
theorem d5_0 : decode method_4_code 0 = .ok (.iload_n 0, 1) := by decide +kernel
theorem d5_1 : decode method_4_code 1 = .ok (.iload_n 1, 1) := by decide +kernel
theorem d5_2 : decode method_4_code 2 = .ok (.if_icmp .le 5, 3) := by decide +kernel
theorem d5_5 : decode method_4_code 5 = .ok (.iconst (-1), 1) := by decide +kernel
theorem d5_6 : decode method_4_code 6 = .ok (.ireturn, 1) := by decide +kernel
theorem pn_5 : plainName "com/example/triangulum/triangulum/search/ShortlistLimitPinLaw" = true := by first | (simp [plainName, overriddenIn]; done) | decide +kernel
theorem ef_5 (m : MethodId) (x0 : Int32) (x1 : Int32) (x2 : Int32) (x3 : Int32) (x4 : Int32) (x5 : Int32) : entryFrame m #[(.int x0), (.int x1), (.int x2), (.int x3), (.int x4), (.int x5)] 20 = mkF m 0 #[.val (.int x0), .val (.int x1), .val (.int x2), .val (.int x3), .val (.int x4), .val (.int x5), .unset, .unset, .unset, .unset, .unset, .unset, .unset, .unset, .unset, .unset, .unset, .unset, .unset, .unset] [] := by first | (simp [entryFrame, mkF, argsToLocals, Value.category]; done) | rfl
def own_e (j m d : Int32) : Int32 := if j < m then d else (1000 : Int32)
def own_sel (k e0 e1 e2 e3 : Int32) : Int32 := if k = (1 : Int32) then own_min (own_min e0 e1) (own_min e2 e3) else if k = (2 : Int32) then own_min (own_min (own_max e0 e1) (own_max e2 e3)) (own_max (own_min e0 e1) (own_min e2 e3)) else if k = (3 : Int32) then own_max (own_min (own_max e0 e1) (own_max e2 e3)) (own_max (own_min e0 e1) (own_min e2 e3)) else own_max (own_max e0 e1) (own_max e2 e3)
def own_kth (k m d0 d1 d2 d3 : Int32) : Int32 := if m < k then (-1 : Int32) else own_sel k d0 (own_e 1 m d1) (own_e 2 m d2) (own_e 3 m d3)
set_option maxRecDepth 65536 in
set_option maxHeartbeats 40000000 in
theorem rm5_f (l : Launch) (Z : State) (a0 : Array Value) (hw : ∀ d ∈ tables_1, d.before a0 Z = true) (ws : List Jvm.Cond) (p1 : Int32) (p2 : Int32) (p3 : Int32) (p4 : Int32) (p5 : Int32) (p6 : Int32) (h0 : Heap) (n0 : Nat) (Z0 : n0 ≤ h0.size) (hc2 : p2 < p1) :
    MetFree l (⟨"com/example/triangulum/triangulum/search/ShortlistLimitPinLaw", "kth", "(IIIIII)I"⟩ : MethodName) (head1 (Jvm.Cond.code (⟨"com/example/triangulum/triangulum/search/ShortlistLimitPinLaw", "kth", "(IIIIII)I"⟩ : MethodName) method_4_code 20 (some .int) :: ws) ({ frames := 1, cells := 0, slots := 0, locals := 40 } : Room)) (fun a U => a = #[(.int p1), (.int p2), (.int p3), (.int p4), (.int p5), (.int p6)] ∧ Z.Warmed39 U.vm ∧ U.heap = h0) (fun _ _ _ _ _ => True) (fun _ U o U' => ∃ v L, o = .returned v ∧ (v = some (.int (own_kth p1 p2 p3 p4 p5 p6)) ∧ L = [] ∧ U'.heap = h0) ∧ FrameEnd U o U' L ({ frames := 1, cells := 0, slots := 0, locals := 40 } : Room).cells ({ frames := 1, cells := 0, slots := 0, locals := 40 } : Room).slots) := by
  refine MetFree.of_bodySF (plainFor_of_name pn_5) hisR ?_
  intro p e s m args below meth c s₁ Bd hml0 hP hK
  obtain ⟨rfl, hZ, hh⟩ := hP
  have hx := Bd.exec
  have hby := Bd.bytes
  have hml : c.maxLocals = 20 := hml0
  have hown : s.vm.findClass "com/example/triangulum/triangulum/search/ShortlistLimitPinLaw" = some m.cls := findClass_of_methodNamed Bd.named
  have hnm := (name_of_methodNamed Bd.named Bd.method).1
  have X0 : Stand p l e ({ frames := 1, cells := 0, slots := 0, locals := 40 } : Room) s m #[(.int p1), (.int p2), (.int p3), (.int p4), (.int p5), (.int p6)] below meth c s₁ [] 0 0 := Stand.of_body Bd
  have e0 : s₁.heap = h0 := by rw [← hh, Bd.state]; rfl
  have N0 := Fr.nil n0
  have pre0 : ∀ t, Steps p.tables e below (s₁.setTop (mkF m 0 #[.val (.int p1), .val (.int p2), .val (.int p3), .val (.int p4), .val (.int p5), .val (.int p6), .unset, .unset, .unset, .unset, .unset, .unset, .unset, .unset, .unset, .unset, .unset, .unset, .unset, .unset] [])) t → Steps p.tables e below (s₁.setTop (entryFrame m #[(.int p1), (.int p2), (.int p3), (.int p4), (.int p5), (.int p6)] 20)) t := fun t k => castTop (ef_5 m p1 p2 p3 p4 p5 p6) k
  -- 3. LAWS

  obtain ⟨fs, hr, hrun, hended, hW, hsame⟩ := X0.leave (v := some (.int (-1 : Int32))) (fun h => by rw [Bd.returns] at h; cases h)
  refine ⟨_, _, pre0 _ ?_, hrun, hended, _, _, rfl, ?_, ⟨_, rfl⟩, hW, hsame.mono (by decide) (by decide)⟩
  -- 4. STEPS
  · show Steps p.tables e below (s₁.setTop (mkF m 0 #[.val (.int p1), .val (.int p2), .val (.int p3), .val (.int p4), .val (.int p5), .val (.int p6), .unset, .unset, .unset, .unset, .unset, .unset, .unset, .unset, .unset, .unset, .unset, .unset, .unset, .unset] [])) _
    refine XS.iloadN X0.here hx rfl (hb hby d5_0) rfl ?_
    show Steps p.tables e below (s₁.setTop (mkF m 1 #[.val (.int p1), .val (.int p2), .val (.int p3), .val (.int p4), .val (.int p5), .val (.int p6), .unset, .unset, .unset, .unset, .unset, .unset, .unset, .unset, .unset, .unset, .unset, .unset, .unset, .unset] [(.int p1)])) _
    refine XS.iloadN X0.here hx rfl (hb hby d5_1) rfl ?_
    show Steps p.tables e below (s₁.setTop (mkF m 2 #[.val (.int p1), .val (.int p2), .val (.int p3), .val (.int p4), .val (.int p5), .val (.int p6), .unset, .unset, .unset, .unset, .unset, .unset, .unset, .unset, .unset, .unset, .unset, .unset, .unset, .unset] [(.int p2), (.int p1)])) _
    refine XS.icmpNo X0.here hx rfl (hb hby d5_2) rfl (tlt hc2).2.2.2 ?_
    show Steps p.tables e below (s₁.setTop (mkF m 5 #[.val (.int p1), .val (.int p2), .val (.int p3), .val (.int p4), .val (.int p5), .val (.int p6), .unset, .unset, .unset, .unset, .unset, .unset, .unset, .unset, .unset, .unset, .unset, .unset, .unset, .unset] [])) _
    refine XS.iconst X0.here hx rfl (hb hby d5_5) ?_
    show Steps p.tables e below (s₁.setTop (mkF m 6 #[.val (.int p1), .val (.int p2), .val (.int p3), .val (.int p4), .val (.int p5), .val (.int p6), .unset, .unset, .unset, .unset, .unset, .unset, .unset, .unset, .unset, .unset, .unset, .unset, .unset, .unset] [(.int (-1 : Int32))])) _
    exact retI X0 hx Bd.returns (hb hby d5_6) hr      -- retI stands in the head ('lawwalk <made dir>' prints it)
  · exact ⟨by rw [own_kth, if_pos hc2], rfl, e0⟩
set_option maxRecDepth 65536 in
set_option maxHeartbeats 40000000 in
theorem own_k0 {p : Program} {l : Launch} {e : Env} {s : State} {m : MethodId} {args : Array Value} {below : List Frame} {meth : Method} {c : Code} {T0 : State} {locs : List Loc} {Z : State} {a0 : Array Value} {h0 : Heap} (kv : Int32) (mv : Int32) (d0v : Int32) (d1v : Int32) (d2v : Int32) (d3v : Int32)
    (X0 : Stand p l e ({ frames := 1, cells := 0, slots := 0, locals := 40 } : Room) s m args below meth c T0 locs 0 0) (hx : p.tables.exec = Jvm.exec) (hZ : Z.Warmed39 s.vm) (hw : ∀ d ∈ tables_1, d.before a0 Z = true) (hby : c.code = method_4_code) (hml : c.maxLocals = 20) (hown : s.vm.findClass "com/example/triangulum/triangulum/search/ShortlistLimitPinLaw" = some m.cls) (e0 : T0.heap = h0) (hc2 : ¬ (mv < kv)) :
    ∃ (T' : State), Stand p l e ({ frames := 1, cells := 0, slots := 0, locals := 40 } : Room) s m args below meth c T' locs 0 0 ∧ T'.heap = h0 ∧
      ∀ target, Steps p.tables e below (T'.setTop (mkF m 7 #[.val (.int kv), .val (.int mv), .val (.int d0v), .val (.int d1v), .val (.int d2v), .val (.int d3v), .unset, .unset, .unset, .unset, .unset, .unset, .unset, .unset, .unset, .unset, .unset, .unset, .unset, .unset] [])) target → Steps p.tables e below (T0.setTop (mkF m 0 #[.val (.int kv), .val (.int mv), .val (.int d0v), .val (.int d1v), .val (.int d2v), .val (.int d3v), .unset, .unset, .unset, .unset, .unset, .unset, .unset, .unset, .unset, .unset, .unset, .unset, .unset, .unset] [])) target := by
  -- 3. LAWS

  refine ⟨T0, X0, e0, fun target kt => ?_⟩
  -- 4. STEPS
  show Steps p.tables e below (T0.setTop (mkF m 0 #[.val (.int kv), .val (.int mv), .val (.int d0v), .val (.int d1v), .val (.int d2v), .val (.int d3v), .unset, .unset, .unset, .unset, .unset, .unset, .unset, .unset, .unset, .unset, .unset, .unset, .unset, .unset] [])) _
  refine XS.iloadN X0.here hx rfl (hb hby d5_0) rfl ?_
  show Steps p.tables e below (T0.setTop (mkF m 1 #[.val (.int kv), .val (.int mv), .val (.int d0v), .val (.int d1v), .val (.int d2v), .val (.int d3v), .unset, .unset, .unset, .unset, .unset, .unset, .unset, .unset, .unset, .unset, .unset, .unset, .unset, .unset] [(.int kv)])) _
  refine XS.iloadN X0.here hx rfl (hb hby d5_1) rfl ?_
  show Steps p.tables e below (T0.setTop (mkF m 2 #[.val (.int kv), .val (.int mv), .val (.int d0v), .val (.int d1v), .val (.int d2v), .val (.int d3v), .unset, .unset, .unset, .unset, .unset, .unset, .unset, .unset, .unset, .unset, .unset, .unset, .unset, .unset] [(.int mv), (.int kv)])) _
  refine XS.icmpYes X0.here hx rfl (pc0 := 2) (pc' := 7) rfl (hb hby d5_2) rfl (flt hc2).2.2.2 (by decide) (by decide) ?_
  exact kt
theorem d5_7 : decode method_4_code 7 = .ok (.iload_n 2, 1) := by decide +kernel
theorem d5_8 : decode method_4_code 8 = .ok (.istore 6, 2) := by decide +kernel
theorem d5_10 : decode method_4_code 10 = .ok (.iload_n 1, 1) := by decide +kernel
theorem d5_11 : decode method_4_code 11 = .ok (.iconst 1, 1) := by decide +kernel
theorem d5_12 : decode method_4_code 12 = .ok (.if_icmp .le 7, 3) := by decide +kernel
theorem d5_19 : decode method_4_code 19 = .ok (.sipush 1000, 3) := by decide +kernel
theorem d5_22 : decode method_4_code 22 = .ok (.istore 7, 2) := by decide +kernel
set_option maxRecDepth 65536 in
set_option maxHeartbeats 40000000 in
theorem own_k1t {p : Program} {l : Launch} {e : Env} {s : State} {m : MethodId} {args : Array Value} {below : List Frame} {meth : Method} {c : Code} {T0 : State} {locs : List Loc} {Z : State} {a0 : Array Value} {h0 : Heap} (kv : Int32) (mv : Int32) (d0v : Int32) (d1v : Int32) (d2v : Int32) (d3v : Int32)
    (X0 : Stand p l e ({ frames := 1, cells := 0, slots := 0, locals := 40 } : Room) s m args below meth c T0 locs 0 0) (hx : p.tables.exec = Jvm.exec) (hZ : Z.Warmed39 s.vm) (hw : ∀ d ∈ tables_1, d.before a0 Z = true) (hby : c.code = method_4_code) (hml : c.maxLocals = 20) (hown : s.vm.findClass "com/example/triangulum/triangulum/search/ShortlistLimitPinLaw" = some m.cls) (e0 : T0.heap = h0) (hc12 : ¬ ((1 : Int32) < mv)) :
    ∃ (T' : State), Stand p l e ({ frames := 1, cells := 0, slots := 0, locals := 40 } : Room) s m args below meth c T' locs 0 0 ∧ T'.heap = h0 ∧
      ∀ target, Steps p.tables e below (T'.setTop (mkF m 24 #[.val (.int kv), .val (.int mv), .val (.int d0v), .val (.int d1v), .val (.int d2v), .val (.int d3v), .val (.int d0v), .val (.int (1000 : Int32)), .unset, .unset, .unset, .unset, .unset, .unset, .unset, .unset, .unset, .unset, .unset, .unset] [])) target → Steps p.tables e below (T0.setTop (mkF m 7 #[.val (.int kv), .val (.int mv), .val (.int d0v), .val (.int d1v), .val (.int d2v), .val (.int d3v), .unset, .unset, .unset, .unset, .unset, .unset, .unset, .unset, .unset, .unset, .unset, .unset, .unset, .unset] [])) target := by
  -- 3. LAWS

  refine ⟨T0, X0, e0, fun target kt => ?_⟩
  -- 4. STEPS
  show Steps p.tables e below (T0.setTop (mkF m 7 #[.val (.int kv), .val (.int mv), .val (.int d0v), .val (.int d1v), .val (.int d2v), .val (.int d3v), .unset, .unset, .unset, .unset, .unset, .unset, .unset, .unset, .unset, .unset, .unset, .unset, .unset, .unset] [])) _
  refine XS.iloadN X0.here hx rfl (hb hby d5_7) rfl ?_
  show Steps p.tables e below (T0.setTop (mkF m 8 #[.val (.int kv), .val (.int mv), .val (.int d0v), .val (.int d1v), .val (.int d2v), .val (.int d3v), .unset, .unset, .unset, .unset, .unset, .unset, .unset, .unset, .unset, .unset, .unset, .unset, .unset, .unset] [(.int d0v)])) _
  refine XS.istore X0.here hx rfl (hb hby d5_8) rfl (l' := #[.val (.int kv), .val (.int mv), .val (.int d0v), .val (.int d1v), .val (.int d2v), .val (.int d3v), .val (.int d0v), .unset, .unset, .unset, .unset, .unset, .unset, .unset, .unset, .unset, .unset, .unset, .unset, .unset]) rfl ?_
  show Steps p.tables e below (T0.setTop (mkF m 10 #[.val (.int kv), .val (.int mv), .val (.int d0v), .val (.int d1v), .val (.int d2v), .val (.int d3v), .val (.int d0v), .unset, .unset, .unset, .unset, .unset, .unset, .unset, .unset, .unset, .unset, .unset, .unset, .unset] [])) _
  refine XS.iloadN X0.here hx rfl (hb hby d5_10) rfl ?_
  show Steps p.tables e below (T0.setTop (mkF m 11 #[.val (.int kv), .val (.int mv), .val (.int d0v), .val (.int d1v), .val (.int d2v), .val (.int d3v), .val (.int d0v), .unset, .unset, .unset, .unset, .unset, .unset, .unset, .unset, .unset, .unset, .unset, .unset, .unset] [(.int mv)])) _
  refine XS.iconst X0.here hx rfl (hb hby d5_11) ?_
  show Steps p.tables e below (T0.setTop (mkF m 12 #[.val (.int kv), .val (.int mv), .val (.int d0v), .val (.int d1v), .val (.int d2v), .val (.int d3v), .val (.int d0v), .unset, .unset, .unset, .unset, .unset, .unset, .unset, .unset, .unset, .unset, .unset, .unset, .unset] [(.int (1 : Int32)), (.int mv)])) _
  refine XS.icmpYes X0.here hx rfl (pc0 := 12) (pc' := 19) rfl (hb hby d5_12) rfl (flt hc12).2.2.2 (by decide) (by decide) ?_
  show Steps p.tables e below (T0.setTop (mkF m 19 #[.val (.int kv), .val (.int mv), .val (.int d0v), .val (.int d1v), .val (.int d2v), .val (.int d3v), .val (.int d0v), .unset, .unset, .unset, .unset, .unset, .unset, .unset, .unset, .unset, .unset, .unset, .unset, .unset] [])) _
  refine XS.sipush X0.here hx rfl (hb hby d5_19) ?_
  show Steps p.tables e below (T0.setTop (mkF m 22 #[.val (.int kv), .val (.int mv), .val (.int d0v), .val (.int d1v), .val (.int d2v), .val (.int d3v), .val (.int d0v), .unset, .unset, .unset, .unset, .unset, .unset, .unset, .unset, .unset, .unset, .unset, .unset, .unset] [(.int (1000 : Int32))])) _
  refine XS.istore X0.here hx rfl (hb hby d5_22) rfl (l' := #[.val (.int kv), .val (.int mv), .val (.int d0v), .val (.int d1v), .val (.int d2v), .val (.int d3v), .val (.int d0v), .val (.int (1000 : Int32)), .unset, .unset, .unset, .unset, .unset, .unset, .unset, .unset, .unset, .unset, .unset, .unset]) rfl ?_
  exact kt
theorem d5_15 : decode method_4_code 15 = .ok (.iload_n 3, 1) := by decide +kernel
theorem d5_16 : decode method_4_code 16 = .ok (.goto 6, 3) := by decide +kernel
set_option maxRecDepth 65536 in
set_option maxHeartbeats 40000000 in
theorem own_k1f {p : Program} {l : Launch} {e : Env} {s : State} {m : MethodId} {args : Array Value} {below : List Frame} {meth : Method} {c : Code} {T0 : State} {locs : List Loc} {Z : State} {a0 : Array Value} {h0 : Heap} (kv : Int32) (mv : Int32) (d0v : Int32) (d1v : Int32) (d2v : Int32) (d3v : Int32)
    (X0 : Stand p l e ({ frames := 1, cells := 0, slots := 0, locals := 40 } : Room) s m args below meth c T0 locs 0 0) (hx : p.tables.exec = Jvm.exec) (hZ : Z.Warmed39 s.vm) (hw : ∀ d ∈ tables_1, d.before a0 Z = true) (hby : c.code = method_4_code) (hml : c.maxLocals = 20) (hown : s.vm.findClass "com/example/triangulum/triangulum/search/ShortlistLimitPinLaw" = some m.cls) (e0 : T0.heap = h0) (hc12 : (1 : Int32) < mv) :
    ∃ (T' : State), Stand p l e ({ frames := 1, cells := 0, slots := 0, locals := 40 } : Room) s m args below meth c T' locs 0 0 ∧ T'.heap = h0 ∧
      ∀ target, Steps p.tables e below (T'.setTop (mkF m 24 #[.val (.int kv), .val (.int mv), .val (.int d0v), .val (.int d1v), .val (.int d2v), .val (.int d3v), .val (.int d0v), .val (.int d1v), .unset, .unset, .unset, .unset, .unset, .unset, .unset, .unset, .unset, .unset, .unset, .unset] [])) target → Steps p.tables e below (T0.setTop (mkF m 7 #[.val (.int kv), .val (.int mv), .val (.int d0v), .val (.int d1v), .val (.int d2v), .val (.int d3v), .unset, .unset, .unset, .unset, .unset, .unset, .unset, .unset, .unset, .unset, .unset, .unset, .unset, .unset] [])) target := by
  -- 3. LAWS

  refine ⟨T0, X0, e0, fun target kt => ?_⟩
  -- 4. STEPS
  show Steps p.tables e below (T0.setTop (mkF m 7 #[.val (.int kv), .val (.int mv), .val (.int d0v), .val (.int d1v), .val (.int d2v), .val (.int d3v), .unset, .unset, .unset, .unset, .unset, .unset, .unset, .unset, .unset, .unset, .unset, .unset, .unset, .unset] [])) _
  refine XS.iloadN X0.here hx rfl (hb hby d5_7) rfl ?_
  show Steps p.tables e below (T0.setTop (mkF m 8 #[.val (.int kv), .val (.int mv), .val (.int d0v), .val (.int d1v), .val (.int d2v), .val (.int d3v), .unset, .unset, .unset, .unset, .unset, .unset, .unset, .unset, .unset, .unset, .unset, .unset, .unset, .unset] [(.int d0v)])) _
  refine XS.istore X0.here hx rfl (hb hby d5_8) rfl (l' := #[.val (.int kv), .val (.int mv), .val (.int d0v), .val (.int d1v), .val (.int d2v), .val (.int d3v), .val (.int d0v), .unset, .unset, .unset, .unset, .unset, .unset, .unset, .unset, .unset, .unset, .unset, .unset, .unset]) rfl ?_
  show Steps p.tables e below (T0.setTop (mkF m 10 #[.val (.int kv), .val (.int mv), .val (.int d0v), .val (.int d1v), .val (.int d2v), .val (.int d3v), .val (.int d0v), .unset, .unset, .unset, .unset, .unset, .unset, .unset, .unset, .unset, .unset, .unset, .unset, .unset] [])) _
  refine XS.iloadN X0.here hx rfl (hb hby d5_10) rfl ?_
  show Steps p.tables e below (T0.setTop (mkF m 11 #[.val (.int kv), .val (.int mv), .val (.int d0v), .val (.int d1v), .val (.int d2v), .val (.int d3v), .val (.int d0v), .unset, .unset, .unset, .unset, .unset, .unset, .unset, .unset, .unset, .unset, .unset, .unset, .unset] [(.int mv)])) _
  refine XS.iconst X0.here hx rfl (hb hby d5_11) ?_
  show Steps p.tables e below (T0.setTop (mkF m 12 #[.val (.int kv), .val (.int mv), .val (.int d0v), .val (.int d1v), .val (.int d2v), .val (.int d3v), .val (.int d0v), .unset, .unset, .unset, .unset, .unset, .unset, .unset, .unset, .unset, .unset, .unset, .unset, .unset] [(.int (1 : Int32)), (.int mv)])) _
  refine XS.icmpNo X0.here hx rfl (hb hby d5_12) rfl (tlt hc12).2.2.2 ?_
  show Steps p.tables e below (T0.setTop (mkF m 15 #[.val (.int kv), .val (.int mv), .val (.int d0v), .val (.int d1v), .val (.int d2v), .val (.int d3v), .val (.int d0v), .unset, .unset, .unset, .unset, .unset, .unset, .unset, .unset, .unset, .unset, .unset, .unset, .unset] [])) _
  refine XS.iloadN X0.here hx rfl (hb hby d5_15) rfl ?_
  show Steps p.tables e below (T0.setTop (mkF m 16 #[.val (.int kv), .val (.int mv), .val (.int d0v), .val (.int d1v), .val (.int d2v), .val (.int d3v), .val (.int d0v), .unset, .unset, .unset, .unset, .unset, .unset, .unset, .unset, .unset, .unset, .unset, .unset, .unset] [(.int d1v)])) _
  refine XS.goto X0.here hx rfl (pc0 := 16) (pc' := 22) rfl (hb hby d5_16) (by decide) (by decide) ?_
  show Steps p.tables e below (T0.setTop (mkF m 22 #[.val (.int kv), .val (.int mv), .val (.int d0v), .val (.int d1v), .val (.int d2v), .val (.int d3v), .val (.int d0v), .unset, .unset, .unset, .unset, .unset, .unset, .unset, .unset, .unset, .unset, .unset, .unset, .unset] [(.int d1v)])) _
  refine XS.istore X0.here hx rfl (hb hby d5_22) rfl (l' := #[.val (.int kv), .val (.int mv), .val (.int d0v), .val (.int d1v), .val (.int d2v), .val (.int d3v), .val (.int d0v), .val (.int d1v), .unset, .unset, .unset, .unset, .unset, .unset, .unset, .unset, .unset, .unset, .unset, .unset]) rfl ?_
  exact kt
theorem d5_24 : decode method_4_code 24 = .ok (.iload_n 1, 1) := by decide +kernel
theorem d5_25 : decode method_4_code 25 = .ok (.iconst 2, 1) := by decide +kernel
theorem d5_26 : decode method_4_code 26 = .ok (.if_icmp .le 8, 3) := by decide +kernel
theorem d5_34 : decode method_4_code 34 = .ok (.sipush 1000, 3) := by decide +kernel
theorem d5_37 : decode method_4_code 37 = .ok (.istore 8, 2) := by decide +kernel
set_option maxRecDepth 65536 in
set_option maxHeartbeats 40000000 in
theorem own_k2t {p : Program} {l : Launch} {e : Env} {s : State} {m : MethodId} {args : Array Value} {below : List Frame} {meth : Method} {c : Code} {T0 : State} {locs : List Loc} {Z : State} {a0 : Array Value} {h0 : Heap} (kv : Int32) (mv : Int32) (d0v : Int32) (d1v : Int32) (d2v : Int32) (d3v : Int32) (e0v : Int32) (e1v : Int32)
    (X0 : Stand p l e ({ frames := 1, cells := 0, slots := 0, locals := 40 } : Room) s m args below meth c T0 locs 0 0) (hx : p.tables.exec = Jvm.exec) (hZ : Z.Warmed39 s.vm) (hw : ∀ d ∈ tables_1, d.before a0 Z = true) (hby : c.code = method_4_code) (hml : c.maxLocals = 20) (hown : s.vm.findClass "com/example/triangulum/triangulum/search/ShortlistLimitPinLaw" = some m.cls) (e0 : T0.heap = h0) (hc26 : ¬ ((2 : Int32) < mv)) :
    ∃ (T' : State), Stand p l e ({ frames := 1, cells := 0, slots := 0, locals := 40 } : Room) s m args below meth c T' locs 0 0 ∧ T'.heap = h0 ∧
      ∀ target, Steps p.tables e below (T'.setTop (mkF m 39 #[.val (.int kv), .val (.int mv), .val (.int d0v), .val (.int d1v), .val (.int d2v), .val (.int d3v), .val (.int e0v), .val (.int e1v), .val (.int (1000 : Int32)), .unset, .unset, .unset, .unset, .unset, .unset, .unset, .unset, .unset, .unset, .unset] [])) target → Steps p.tables e below (T0.setTop (mkF m 24 #[.val (.int kv), .val (.int mv), .val (.int d0v), .val (.int d1v), .val (.int d2v), .val (.int d3v), .val (.int e0v), .val (.int e1v), .unset, .unset, .unset, .unset, .unset, .unset, .unset, .unset, .unset, .unset, .unset, .unset] [])) target := by
  -- 3. LAWS

  refine ⟨T0, X0, e0, fun target kt => ?_⟩
  -- 4. STEPS
  show Steps p.tables e below (T0.setTop (mkF m 24 #[.val (.int kv), .val (.int mv), .val (.int d0v), .val (.int d1v), .val (.int d2v), .val (.int d3v), .val (.int e0v), .val (.int e1v), .unset, .unset, .unset, .unset, .unset, .unset, .unset, .unset, .unset, .unset, .unset, .unset] [])) _
  refine XS.iloadN X0.here hx rfl (hb hby d5_24) rfl ?_
  show Steps p.tables e below (T0.setTop (mkF m 25 #[.val (.int kv), .val (.int mv), .val (.int d0v), .val (.int d1v), .val (.int d2v), .val (.int d3v), .val (.int e0v), .val (.int e1v), .unset, .unset, .unset, .unset, .unset, .unset, .unset, .unset, .unset, .unset, .unset, .unset] [(.int mv)])) _
  refine XS.iconst X0.here hx rfl (hb hby d5_25) ?_
  show Steps p.tables e below (T0.setTop (mkF m 26 #[.val (.int kv), .val (.int mv), .val (.int d0v), .val (.int d1v), .val (.int d2v), .val (.int d3v), .val (.int e0v), .val (.int e1v), .unset, .unset, .unset, .unset, .unset, .unset, .unset, .unset, .unset, .unset, .unset, .unset] [(.int (2 : Int32)), (.int mv)])) _
  refine XS.icmpYes X0.here hx rfl (pc0 := 26) (pc' := 34) rfl (hb hby d5_26) rfl (flt hc26).2.2.2 (by decide) (by decide) ?_
  show Steps p.tables e below (T0.setTop (mkF m 34 #[.val (.int kv), .val (.int mv), .val (.int d0v), .val (.int d1v), .val (.int d2v), .val (.int d3v), .val (.int e0v), .val (.int e1v), .unset, .unset, .unset, .unset, .unset, .unset, .unset, .unset, .unset, .unset, .unset, .unset] [])) _
  refine XS.sipush X0.here hx rfl (hb hby d5_34) ?_
  show Steps p.tables e below (T0.setTop (mkF m 37 #[.val (.int kv), .val (.int mv), .val (.int d0v), .val (.int d1v), .val (.int d2v), .val (.int d3v), .val (.int e0v), .val (.int e1v), .unset, .unset, .unset, .unset, .unset, .unset, .unset, .unset, .unset, .unset, .unset, .unset] [(.int (1000 : Int32))])) _
  refine XS.istore X0.here hx rfl (hb hby d5_37) rfl (l' := #[.val (.int kv), .val (.int mv), .val (.int d0v), .val (.int d1v), .val (.int d2v), .val (.int d3v), .val (.int e0v), .val (.int e1v), .val (.int (1000 : Int32)), .unset, .unset, .unset, .unset, .unset, .unset, .unset, .unset, .unset, .unset, .unset]) rfl ?_
  exact kt
theorem d5_29 : decode method_4_code 29 = .ok (.iload 4, 2) := by decide +kernel
theorem d5_31 : decode method_4_code 31 = .ok (.goto 6, 3) := by decide +kernel
set_option maxRecDepth 65536 in
set_option maxHeartbeats 40000000 in
theorem own_k2f {p : Program} {l : Launch} {e : Env} {s : State} {m : MethodId} {args : Array Value} {below : List Frame} {meth : Method} {c : Code} {T0 : State} {locs : List Loc} {Z : State} {a0 : Array Value} {h0 : Heap} (kv : Int32) (mv : Int32) (d0v : Int32) (d1v : Int32) (d2v : Int32) (d3v : Int32) (e0v : Int32) (e1v : Int32)
    (X0 : Stand p l e ({ frames := 1, cells := 0, slots := 0, locals := 40 } : Room) s m args below meth c T0 locs 0 0) (hx : p.tables.exec = Jvm.exec) (hZ : Z.Warmed39 s.vm) (hw : ∀ d ∈ tables_1, d.before a0 Z = true) (hby : c.code = method_4_code) (hml : c.maxLocals = 20) (hown : s.vm.findClass "com/example/triangulum/triangulum/search/ShortlistLimitPinLaw" = some m.cls) (e0 : T0.heap = h0) (hc26 : (2 : Int32) < mv) :
    ∃ (T' : State), Stand p l e ({ frames := 1, cells := 0, slots := 0, locals := 40 } : Room) s m args below meth c T' locs 0 0 ∧ T'.heap = h0 ∧
      ∀ target, Steps p.tables e below (T'.setTop (mkF m 39 #[.val (.int kv), .val (.int mv), .val (.int d0v), .val (.int d1v), .val (.int d2v), .val (.int d3v), .val (.int e0v), .val (.int e1v), .val (.int d2v), .unset, .unset, .unset, .unset, .unset, .unset, .unset, .unset, .unset, .unset, .unset] [])) target → Steps p.tables e below (T0.setTop (mkF m 24 #[.val (.int kv), .val (.int mv), .val (.int d0v), .val (.int d1v), .val (.int d2v), .val (.int d3v), .val (.int e0v), .val (.int e1v), .unset, .unset, .unset, .unset, .unset, .unset, .unset, .unset, .unset, .unset, .unset, .unset] [])) target := by
  -- 3. LAWS

  refine ⟨T0, X0, e0, fun target kt => ?_⟩
  -- 4. STEPS
  show Steps p.tables e below (T0.setTop (mkF m 24 #[.val (.int kv), .val (.int mv), .val (.int d0v), .val (.int d1v), .val (.int d2v), .val (.int d3v), .val (.int e0v), .val (.int e1v), .unset, .unset, .unset, .unset, .unset, .unset, .unset, .unset, .unset, .unset, .unset, .unset] [])) _
  refine XS.iloadN X0.here hx rfl (hb hby d5_24) rfl ?_
  show Steps p.tables e below (T0.setTop (mkF m 25 #[.val (.int kv), .val (.int mv), .val (.int d0v), .val (.int d1v), .val (.int d2v), .val (.int d3v), .val (.int e0v), .val (.int e1v), .unset, .unset, .unset, .unset, .unset, .unset, .unset, .unset, .unset, .unset, .unset, .unset] [(.int mv)])) _
  refine XS.iconst X0.here hx rfl (hb hby d5_25) ?_
  show Steps p.tables e below (T0.setTop (mkF m 26 #[.val (.int kv), .val (.int mv), .val (.int d0v), .val (.int d1v), .val (.int d2v), .val (.int d3v), .val (.int e0v), .val (.int e1v), .unset, .unset, .unset, .unset, .unset, .unset, .unset, .unset, .unset, .unset, .unset, .unset] [(.int (2 : Int32)), (.int mv)])) _
  refine XS.icmpNo X0.here hx rfl (hb hby d5_26) rfl (tlt hc26).2.2.2 ?_
  show Steps p.tables e below (T0.setTop (mkF m 29 #[.val (.int kv), .val (.int mv), .val (.int d0v), .val (.int d1v), .val (.int d2v), .val (.int d3v), .val (.int e0v), .val (.int e1v), .unset, .unset, .unset, .unset, .unset, .unset, .unset, .unset, .unset, .unset, .unset, .unset] [])) _
  refine XS.iload X0.here hx rfl (hb hby d5_29) rfl ?_
  show Steps p.tables e below (T0.setTop (mkF m 31 #[.val (.int kv), .val (.int mv), .val (.int d0v), .val (.int d1v), .val (.int d2v), .val (.int d3v), .val (.int e0v), .val (.int e1v), .unset, .unset, .unset, .unset, .unset, .unset, .unset, .unset, .unset, .unset, .unset, .unset] [(.int d2v)])) _
  refine XS.goto X0.here hx rfl (pc0 := 31) (pc' := 37) rfl (hb hby d5_31) (by decide) (by decide) ?_
  show Steps p.tables e below (T0.setTop (mkF m 37 #[.val (.int kv), .val (.int mv), .val (.int d0v), .val (.int d1v), .val (.int d2v), .val (.int d3v), .val (.int e0v), .val (.int e1v), .unset, .unset, .unset, .unset, .unset, .unset, .unset, .unset, .unset, .unset, .unset, .unset] [(.int d2v)])) _
  refine XS.istore X0.here hx rfl (hb hby d5_37) rfl (l' := #[.val (.int kv), .val (.int mv), .val (.int d0v), .val (.int d1v), .val (.int d2v), .val (.int d3v), .val (.int e0v), .val (.int e1v), .val (.int d2v), .unset, .unset, .unset, .unset, .unset, .unset, .unset, .unset, .unset, .unset, .unset]) rfl ?_
  exact kt
theorem d5_39 : decode method_4_code 39 = .ok (.iload_n 1, 1) := by decide +kernel
theorem d5_40 : decode method_4_code 40 = .ok (.iconst 3, 1) := by decide +kernel
theorem d5_41 : decode method_4_code 41 = .ok (.if_icmp .le 8, 3) := by decide +kernel
theorem d5_49 : decode method_4_code 49 = .ok (.sipush 1000, 3) := by decide +kernel
theorem d5_52 : decode method_4_code 52 = .ok (.istore 9, 2) := by decide +kernel
set_option maxRecDepth 65536 in
set_option maxHeartbeats 40000000 in
theorem own_k3t {p : Program} {l : Launch} {e : Env} {s : State} {m : MethodId} {args : Array Value} {below : List Frame} {meth : Method} {c : Code} {T0 : State} {locs : List Loc} {Z : State} {a0 : Array Value} {h0 : Heap} (kv : Int32) (mv : Int32) (d0v : Int32) (d1v : Int32) (d2v : Int32) (d3v : Int32) (e0v : Int32) (e1v : Int32) (e2v : Int32)
    (X0 : Stand p l e ({ frames := 1, cells := 0, slots := 0, locals := 40 } : Room) s m args below meth c T0 locs 0 0) (hx : p.tables.exec = Jvm.exec) (hZ : Z.Warmed39 s.vm) (hw : ∀ d ∈ tables_1, d.before a0 Z = true) (hby : c.code = method_4_code) (hml : c.maxLocals = 20) (hown : s.vm.findClass "com/example/triangulum/triangulum/search/ShortlistLimitPinLaw" = some m.cls) (e0 : T0.heap = h0) (hc41 : ¬ ((3 : Int32) < mv)) :
    ∃ (T' : State), Stand p l e ({ frames := 1, cells := 0, slots := 0, locals := 40 } : Room) s m args below meth c T' locs 0 0 ∧ T'.heap = h0 ∧
      ∀ target, Steps p.tables e below (T'.setTop (mkF m 54 #[.val (.int kv), .val (.int mv), .val (.int d0v), .val (.int d1v), .val (.int d2v), .val (.int d3v), .val (.int e0v), .val (.int e1v), .val (.int e2v), .val (.int (1000 : Int32)), .unset, .unset, .unset, .unset, .unset, .unset, .unset, .unset, .unset, .unset] [])) target → Steps p.tables e below (T0.setTop (mkF m 39 #[.val (.int kv), .val (.int mv), .val (.int d0v), .val (.int d1v), .val (.int d2v), .val (.int d3v), .val (.int e0v), .val (.int e1v), .val (.int e2v), .unset, .unset, .unset, .unset, .unset, .unset, .unset, .unset, .unset, .unset, .unset] [])) target := by
  -- 3. LAWS

  refine ⟨T0, X0, e0, fun target kt => ?_⟩
  -- 4. STEPS
  show Steps p.tables e below (T0.setTop (mkF m 39 #[.val (.int kv), .val (.int mv), .val (.int d0v), .val (.int d1v), .val (.int d2v), .val (.int d3v), .val (.int e0v), .val (.int e1v), .val (.int e2v), .unset, .unset, .unset, .unset, .unset, .unset, .unset, .unset, .unset, .unset, .unset] [])) _
  refine XS.iloadN X0.here hx rfl (hb hby d5_39) rfl ?_
  show Steps p.tables e below (T0.setTop (mkF m 40 #[.val (.int kv), .val (.int mv), .val (.int d0v), .val (.int d1v), .val (.int d2v), .val (.int d3v), .val (.int e0v), .val (.int e1v), .val (.int e2v), .unset, .unset, .unset, .unset, .unset, .unset, .unset, .unset, .unset, .unset, .unset] [(.int mv)])) _
  refine XS.iconst X0.here hx rfl (hb hby d5_40) ?_
  show Steps p.tables e below (T0.setTop (mkF m 41 #[.val (.int kv), .val (.int mv), .val (.int d0v), .val (.int d1v), .val (.int d2v), .val (.int d3v), .val (.int e0v), .val (.int e1v), .val (.int e2v), .unset, .unset, .unset, .unset, .unset, .unset, .unset, .unset, .unset, .unset, .unset] [(.int (3 : Int32)), (.int mv)])) _
  refine XS.icmpYes X0.here hx rfl (pc0 := 41) (pc' := 49) rfl (hb hby d5_41) rfl (flt hc41).2.2.2 (by decide) (by decide) ?_
  show Steps p.tables e below (T0.setTop (mkF m 49 #[.val (.int kv), .val (.int mv), .val (.int d0v), .val (.int d1v), .val (.int d2v), .val (.int d3v), .val (.int e0v), .val (.int e1v), .val (.int e2v), .unset, .unset, .unset, .unset, .unset, .unset, .unset, .unset, .unset, .unset, .unset] [])) _
  refine XS.sipush X0.here hx rfl (hb hby d5_49) ?_
  show Steps p.tables e below (T0.setTop (mkF m 52 #[.val (.int kv), .val (.int mv), .val (.int d0v), .val (.int d1v), .val (.int d2v), .val (.int d3v), .val (.int e0v), .val (.int e1v), .val (.int e2v), .unset, .unset, .unset, .unset, .unset, .unset, .unset, .unset, .unset, .unset, .unset] [(.int (1000 : Int32))])) _
  refine XS.istore X0.here hx rfl (hb hby d5_52) rfl (l' := #[.val (.int kv), .val (.int mv), .val (.int d0v), .val (.int d1v), .val (.int d2v), .val (.int d3v), .val (.int e0v), .val (.int e1v), .val (.int e2v), .val (.int (1000 : Int32)), .unset, .unset, .unset, .unset, .unset, .unset, .unset, .unset, .unset, .unset]) rfl ?_
  exact kt
theorem d5_44 : decode method_4_code 44 = .ok (.iload 5, 2) := by decide +kernel
theorem d5_46 : decode method_4_code 46 = .ok (.goto 6, 3) := by decide +kernel
set_option maxRecDepth 65536 in
set_option maxHeartbeats 40000000 in
theorem own_k3f {p : Program} {l : Launch} {e : Env} {s : State} {m : MethodId} {args : Array Value} {below : List Frame} {meth : Method} {c : Code} {T0 : State} {locs : List Loc} {Z : State} {a0 : Array Value} {h0 : Heap} (kv : Int32) (mv : Int32) (d0v : Int32) (d1v : Int32) (d2v : Int32) (d3v : Int32) (e0v : Int32) (e1v : Int32) (e2v : Int32)
    (X0 : Stand p l e ({ frames := 1, cells := 0, slots := 0, locals := 40 } : Room) s m args below meth c T0 locs 0 0) (hx : p.tables.exec = Jvm.exec) (hZ : Z.Warmed39 s.vm) (hw : ∀ d ∈ tables_1, d.before a0 Z = true) (hby : c.code = method_4_code) (hml : c.maxLocals = 20) (hown : s.vm.findClass "com/example/triangulum/triangulum/search/ShortlistLimitPinLaw" = some m.cls) (e0 : T0.heap = h0) (hc41 : (3 : Int32) < mv) :
    ∃ (T' : State), Stand p l e ({ frames := 1, cells := 0, slots := 0, locals := 40 } : Room) s m args below meth c T' locs 0 0 ∧ T'.heap = h0 ∧
      ∀ target, Steps p.tables e below (T'.setTop (mkF m 54 #[.val (.int kv), .val (.int mv), .val (.int d0v), .val (.int d1v), .val (.int d2v), .val (.int d3v), .val (.int e0v), .val (.int e1v), .val (.int e2v), .val (.int d3v), .unset, .unset, .unset, .unset, .unset, .unset, .unset, .unset, .unset, .unset] [])) target → Steps p.tables e below (T0.setTop (mkF m 39 #[.val (.int kv), .val (.int mv), .val (.int d0v), .val (.int d1v), .val (.int d2v), .val (.int d3v), .val (.int e0v), .val (.int e1v), .val (.int e2v), .unset, .unset, .unset, .unset, .unset, .unset, .unset, .unset, .unset, .unset, .unset] [])) target := by
  -- 3. LAWS

  refine ⟨T0, X0, e0, fun target kt => ?_⟩
  -- 4. STEPS
  show Steps p.tables e below (T0.setTop (mkF m 39 #[.val (.int kv), .val (.int mv), .val (.int d0v), .val (.int d1v), .val (.int d2v), .val (.int d3v), .val (.int e0v), .val (.int e1v), .val (.int e2v), .unset, .unset, .unset, .unset, .unset, .unset, .unset, .unset, .unset, .unset, .unset] [])) _
  refine XS.iloadN X0.here hx rfl (hb hby d5_39) rfl ?_
  show Steps p.tables e below (T0.setTop (mkF m 40 #[.val (.int kv), .val (.int mv), .val (.int d0v), .val (.int d1v), .val (.int d2v), .val (.int d3v), .val (.int e0v), .val (.int e1v), .val (.int e2v), .unset, .unset, .unset, .unset, .unset, .unset, .unset, .unset, .unset, .unset, .unset] [(.int mv)])) _
  refine XS.iconst X0.here hx rfl (hb hby d5_40) ?_
  show Steps p.tables e below (T0.setTop (mkF m 41 #[.val (.int kv), .val (.int mv), .val (.int d0v), .val (.int d1v), .val (.int d2v), .val (.int d3v), .val (.int e0v), .val (.int e1v), .val (.int e2v), .unset, .unset, .unset, .unset, .unset, .unset, .unset, .unset, .unset, .unset, .unset] [(.int (3 : Int32)), (.int mv)])) _
  refine XS.icmpNo X0.here hx rfl (hb hby d5_41) rfl (tlt hc41).2.2.2 ?_
  show Steps p.tables e below (T0.setTop (mkF m 44 #[.val (.int kv), .val (.int mv), .val (.int d0v), .val (.int d1v), .val (.int d2v), .val (.int d3v), .val (.int e0v), .val (.int e1v), .val (.int e2v), .unset, .unset, .unset, .unset, .unset, .unset, .unset, .unset, .unset, .unset, .unset] [])) _
  refine XS.iload X0.here hx rfl (hb hby d5_44) rfl ?_
  show Steps p.tables e below (T0.setTop (mkF m 46 #[.val (.int kv), .val (.int mv), .val (.int d0v), .val (.int d1v), .val (.int d2v), .val (.int d3v), .val (.int e0v), .val (.int e1v), .val (.int e2v), .unset, .unset, .unset, .unset, .unset, .unset, .unset, .unset, .unset, .unset, .unset] [(.int d3v)])) _
  refine XS.goto X0.here hx rfl (pc0 := 46) (pc' := 52) rfl (hb hby d5_46) (by decide) (by decide) ?_
  show Steps p.tables e below (T0.setTop (mkF m 52 #[.val (.int kv), .val (.int mv), .val (.int d0v), .val (.int d1v), .val (.int d2v), .val (.int d3v), .val (.int e0v), .val (.int e1v), .val (.int e2v), .unset, .unset, .unset, .unset, .unset, .unset, .unset, .unset, .unset, .unset, .unset] [(.int d3v)])) _
  refine XS.istore X0.here hx rfl (hb hby d5_52) rfl (l' := #[.val (.int kv), .val (.int mv), .val (.int d0v), .val (.int d1v), .val (.int d2v), .val (.int d3v), .val (.int e0v), .val (.int e1v), .val (.int e2v), .val (.int d3v), .unset, .unset, .unset, .unset, .unset, .unset, .unset, .unset, .unset, .unset]) rfl ?_
  exact kt
theorem d5_54 : decode method_4_code 54 = .ok (.iload 6, 2) := by decide +kernel
theorem d5_56 : decode method_4_code 56 = .ok (.iload 7, 2) := by decide +kernel
theorem d5_58 : decode method_4_code 58 = .ok (.invokestatic 32, 3) := by decide +kernel
theorem d5_61 : decode method_4_code 61 = .ok (.istore 10, 2) := by decide +kernel
theorem d5_63 : decode method_4_code 63 = .ok (.iload 6, 2) := by decide +kernel
theorem d5_65 : decode method_4_code 65 = .ok (.iload 7, 2) := by decide +kernel
theorem d5_67 : decode method_4_code 67 = .ok (.invokestatic 38, 3) := by decide +kernel
theorem d5_70 : decode method_4_code 70 = .ok (.istore 11, 2) := by decide +kernel
theorem d5_72 : decode method_4_code 72 = .ok (.iload 8, 2) := by decide +kernel
theorem d5_74 : decode method_4_code 74 = .ok (.iload 9, 2) := by decide +kernel
theorem d5_76 : decode method_4_code 76 = .ok (.invokestatic 32, 3) := by decide +kernel
theorem d5_79 : decode method_4_code 79 = .ok (.istore 12, 2) := by decide +kernel
theorem d5_81 : decode method_4_code 81 = .ok (.iload 8, 2) := by decide +kernel
theorem d5_83 : decode method_4_code 83 = .ok (.iload 9, 2) := by decide +kernel
theorem d5_85 : decode method_4_code 85 = .ok (.invokestatic 38, 3) := by decide +kernel
theorem d5_88 : decode method_4_code 88 = .ok (.istore 13, 2) := by decide +kernel
theorem d5_90 : decode method_4_code 90 = .ok (.iload 10, 2) := by decide +kernel
theorem d5_92 : decode method_4_code 92 = .ok (.iload 12, 2) := by decide +kernel
theorem d5_94 : decode method_4_code 94 = .ok (.invokestatic 32, 3) := by decide +kernel
theorem d5_97 : decode method_4_code 97 = .ok (.istore 14, 2) := by decide +kernel
theorem d5_99 : decode method_4_code 99 = .ok (.iload 10, 2) := by decide +kernel
theorem d5_101 : decode method_4_code 101 = .ok (.iload 12, 2) := by decide +kernel
theorem d5_103 : decode method_4_code 103 = .ok (.invokestatic 38, 3) := by decide +kernel
theorem d5_106 : decode method_4_code 106 = .ok (.istore 15, 2) := by decide +kernel
theorem d5_108 : decode method_4_code 108 = .ok (.iload 11, 2) := by decide +kernel
theorem d5_110 : decode method_4_code 110 = .ok (.iload 13, 2) := by decide +kernel
theorem d5_112 : decode method_4_code 112 = .ok (.invokestatic 32, 3) := by decide +kernel
theorem d5_115 : decode method_4_code 115 = .ok (.istore 16, 2) := by decide +kernel
theorem d5_117 : decode method_4_code 117 = .ok (.iload 11, 2) := by decide +kernel
theorem d5_119 : decode method_4_code 119 = .ok (.iload 13, 2) := by decide +kernel
theorem d5_121 : decode method_4_code 121 = .ok (.invokestatic 38, 3) := by decide +kernel
theorem d5_124 : decode method_4_code 124 = .ok (.istore 17, 2) := by decide +kernel
theorem d5_126 : decode method_4_code 126 = .ok (.iload 16, 2) := by decide +kernel
theorem d5_128 : decode method_4_code 128 = .ok (.iload 15, 2) := by decide +kernel
theorem d5_130 : decode method_4_code 130 = .ok (.invokestatic 32, 3) := by decide +kernel
theorem d5_133 : decode method_4_code 133 = .ok (.istore 18, 2) := by decide +kernel
theorem d5_135 : decode method_4_code 135 = .ok (.iload 16, 2) := by decide +kernel
theorem d5_137 : decode method_4_code 137 = .ok (.iload 15, 2) := by decide +kernel
theorem d5_139 : decode method_4_code 139 = .ok (.invokestatic 38, 3) := by decide +kernel
theorem d5_142 : decode method_4_code 142 = .ok (.istore 19, 2) := by decide +kernel
set_option maxRecDepth 65536 in
set_option maxHeartbeats 40000000 in
theorem own_k4 {p : Program} {l : Launch} {e : Env} {s : State} {m : MethodId} {args : Array Value} {below : List Frame} {meth : Method} {c : Code} {T0 : State} {locs : List Loc} {Z : State} {a0 : Array Value} {h0 : Heap} (kv : Int32) (mv : Int32) (d0v : Int32) (d1v : Int32) (d2v : Int32) (d3v : Int32) (e0v : Int32) (e1v : Int32) (e2v : Int32) (e3v : Int32)
    (X0 : Stand p l e ({ frames := 1, cells := 0, slots := 0, locals := 40 } : Room) s m args below meth c T0 locs 0 0) (hx : p.tables.exec = Jvm.exec) (hZ : Z.Warmed39 s.vm) (hw : ∀ d ∈ tables_1, d.before a0 Z = true) (hby : c.code = method_4_code) (hml : c.maxLocals = 20) (hown : s.vm.findClass "com/example/triangulum/triangulum/search/ShortlistLimitPinLaw" = some m.cls) (e0 : T0.heap = h0) :
    ∃ (T' : State), Stand p l e ({ frames := 1, cells := 0, slots := 0, locals := 40 } : Room) s m args below meth c T' locs 0 0 ∧ T'.heap = h0 ∧
      ∀ target, Steps p.tables e below (T'.setTop (mkF m 144 #[.val (.int kv), .val (.int mv), .val (.int d0v), .val (.int d1v), .val (.int d2v), .val (.int d3v), .val (.int e0v), .val (.int e1v), .val (.int e2v), .val (.int e3v), .val (.int (own_min e0v e1v)), .val (.int (own_max e0v e1v)), .val (.int (own_min e2v e3v)), .val (.int (own_max e2v e3v)), .val (.int (own_min (own_min e0v e1v) (own_min e2v e3v))), .val (.int (own_max (own_min e0v e1v) (own_min e2v e3v))), .val (.int (own_min (own_max e0v e1v) (own_max e2v e3v))), .val (.int (own_max (own_max e0v e1v) (own_max e2v e3v))), .val (.int (own_min (own_min (own_max e0v e1v) (own_max e2v e3v)) (own_max (own_min e0v e1v) (own_min e2v e3v)))), .val (.int (own_max (own_min (own_max e0v e1v) (own_max e2v e3v)) (own_max (own_min e0v e1v) (own_min e2v e3v))))] [])) target → Steps p.tables e below (T0.setTop (mkF m 54 #[.val (.int kv), .val (.int mv), .val (.int d0v), .val (.int d1v), .val (.int d2v), .val (.int d3v), .val (.int e0v), .val (.int e1v), .val (.int e2v), .val (.int e3v), .unset, .unset, .unset, .unset, .unset, .unset, .unset, .unset, .unset, .unset] [])) target := by
  -- 3. LAWS
  -- pc 58: java/lang/Math.min
  obtain ⟨T7, X7, e7, st7⟩ := own_call_min X0 hx hZ hw hown (hw _ (List.mem_of_getElem? (i := 46) rfl)) e0v e1v (W := 0) (g := (mkF m 58 #[.val (.int kv), .val (.int mv), .val (.int d0v), .val (.int d1v), .val (.int d2v), .val (.int d3v), .val (.int e0v), .val (.int e1v), .val (.int e2v), .val (.int e3v), .unset, .unset, .unset, .unset, .unset, .unset, .unset, .unset, .unset, .unset] [(.int e1v), (.int e0v)])) rfl (by rw [hml]; rfl) (rest := []) rfl (by show 2 * 0 + _ ≤ _; exact Nat.le_of_eq rfl) (hb hby d5_58) (by decide) (by decide) e0
  -- pc 67: java/lang/Math.max
  obtain ⟨T8, X8, e8, st8⟩ := own_call_max X7 hx hZ hw hown (hw _ (List.mem_of_getElem? (i := 47) rfl)) e0v e1v (W := 0) (g := (mkF m 67 #[.val (.int kv), .val (.int mv), .val (.int d0v), .val (.int d1v), .val (.int d2v), .val (.int d3v), .val (.int e0v), .val (.int e1v), .val (.int e2v), .val (.int e3v), .val (.int (own_min e0v e1v)), .unset, .unset, .unset, .unset, .unset, .unset, .unset, .unset, .unset] [(.int e1v), (.int e0v)])) rfl (by rw [hml]; rfl) (rest := []) rfl (by show 2 * 0 + _ ≤ _; exact Nat.le_of_eq rfl) (hb hby d5_67) (by decide) (by decide) e7
  -- pc 76: java/lang/Math.min
  obtain ⟨T9, X9, e9, st9⟩ := own_call_min X8 hx hZ hw hown (hw _ (List.mem_of_getElem? (i := 46) rfl)) e2v e3v (W := 0) (g := (mkF m 76 #[.val (.int kv), .val (.int mv), .val (.int d0v), .val (.int d1v), .val (.int d2v), .val (.int d3v), .val (.int e0v), .val (.int e1v), .val (.int e2v), .val (.int e3v), .val (.int (own_min e0v e1v)), .val (.int (own_max e0v e1v)), .unset, .unset, .unset, .unset, .unset, .unset, .unset, .unset] [(.int e3v), (.int e2v)])) rfl (by rw [hml]; rfl) (rest := []) rfl (by show 2 * 0 + _ ≤ _; exact Nat.le_of_eq rfl) (hb hby d5_76) (by decide) (by decide) e8
  -- pc 85: java/lang/Math.max
  obtain ⟨T10, X10, e10, st10⟩ := own_call_max X9 hx hZ hw hown (hw _ (List.mem_of_getElem? (i := 47) rfl)) e2v e3v (W := 0) (g := (mkF m 85 #[.val (.int kv), .val (.int mv), .val (.int d0v), .val (.int d1v), .val (.int d2v), .val (.int d3v), .val (.int e0v), .val (.int e1v), .val (.int e2v), .val (.int e3v), .val (.int (own_min e0v e1v)), .val (.int (own_max e0v e1v)), .val (.int (own_min e2v e3v)), .unset, .unset, .unset, .unset, .unset, .unset, .unset] [(.int e3v), (.int e2v)])) rfl (by rw [hml]; rfl) (rest := []) rfl (by show 2 * 0 + _ ≤ _; exact Nat.le_of_eq rfl) (hb hby d5_85) (by decide) (by decide) e9
  -- pc 94: java/lang/Math.min
  obtain ⟨T11, X11, e11, st11⟩ := own_call_min X10 hx hZ hw hown (hw _ (List.mem_of_getElem? (i := 46) rfl)) (own_min e0v e1v) (own_min e2v e3v) (W := 0) (g := (mkF m 94 #[.val (.int kv), .val (.int mv), .val (.int d0v), .val (.int d1v), .val (.int d2v), .val (.int d3v), .val (.int e0v), .val (.int e1v), .val (.int e2v), .val (.int e3v), .val (.int (own_min e0v e1v)), .val (.int (own_max e0v e1v)), .val (.int (own_min e2v e3v)), .val (.int (own_max e2v e3v)), .unset, .unset, .unset, .unset, .unset, .unset] [(.int (own_min e2v e3v)), (.int (own_min e0v e1v))])) rfl (by rw [hml]; rfl) (rest := []) rfl (by show 2 * 0 + _ ≤ _; exact Nat.le_of_eq rfl) (hb hby d5_94) (by decide) (by decide) e10
  -- pc 103: java/lang/Math.max
  obtain ⟨T12, X12, e12, st12⟩ := own_call_max X11 hx hZ hw hown (hw _ (List.mem_of_getElem? (i := 47) rfl)) (own_min e0v e1v) (own_min e2v e3v) (W := 0) (g := (mkF m 103 #[.val (.int kv), .val (.int mv), .val (.int d0v), .val (.int d1v), .val (.int d2v), .val (.int d3v), .val (.int e0v), .val (.int e1v), .val (.int e2v), .val (.int e3v), .val (.int (own_min e0v e1v)), .val (.int (own_max e0v e1v)), .val (.int (own_min e2v e3v)), .val (.int (own_max e2v e3v)), .val (.int (own_min (own_min e0v e1v) (own_min e2v e3v))), .unset, .unset, .unset, .unset, .unset] [(.int (own_min e2v e3v)), (.int (own_min e0v e1v))])) rfl (by rw [hml]; rfl) (rest := []) rfl (by show 2 * 0 + _ ≤ _; exact Nat.le_of_eq rfl) (hb hby d5_103) (by decide) (by decide) e11
  -- pc 112: java/lang/Math.min
  obtain ⟨T13, X13, e13, st13⟩ := own_call_min X12 hx hZ hw hown (hw _ (List.mem_of_getElem? (i := 46) rfl)) (own_max e0v e1v) (own_max e2v e3v) (W := 0) (g := (mkF m 112 #[.val (.int kv), .val (.int mv), .val (.int d0v), .val (.int d1v), .val (.int d2v), .val (.int d3v), .val (.int e0v), .val (.int e1v), .val (.int e2v), .val (.int e3v), .val (.int (own_min e0v e1v)), .val (.int (own_max e0v e1v)), .val (.int (own_min e2v e3v)), .val (.int (own_max e2v e3v)), .val (.int (own_min (own_min e0v e1v) (own_min e2v e3v))), .val (.int (own_max (own_min e0v e1v) (own_min e2v e3v))), .unset, .unset, .unset, .unset] [(.int (own_max e2v e3v)), (.int (own_max e0v e1v))])) rfl (by rw [hml]; rfl) (rest := []) rfl (by show 2 * 0 + _ ≤ _; exact Nat.le_of_eq rfl) (hb hby d5_112) (by decide) (by decide) e12
  -- pc 121: java/lang/Math.max
  obtain ⟨T14, X14, e14, st14⟩ := own_call_max X13 hx hZ hw hown (hw _ (List.mem_of_getElem? (i := 47) rfl)) (own_max e0v e1v) (own_max e2v e3v) (W := 0) (g := (mkF m 121 #[.val (.int kv), .val (.int mv), .val (.int d0v), .val (.int d1v), .val (.int d2v), .val (.int d3v), .val (.int e0v), .val (.int e1v), .val (.int e2v), .val (.int e3v), .val (.int (own_min e0v e1v)), .val (.int (own_max e0v e1v)), .val (.int (own_min e2v e3v)), .val (.int (own_max e2v e3v)), .val (.int (own_min (own_min e0v e1v) (own_min e2v e3v))), .val (.int (own_max (own_min e0v e1v) (own_min e2v e3v))), .val (.int (own_min (own_max e0v e1v) (own_max e2v e3v))), .unset, .unset, .unset] [(.int (own_max e2v e3v)), (.int (own_max e0v e1v))])) rfl (by rw [hml]; rfl) (rest := []) rfl (by show 2 * 0 + _ ≤ _; exact Nat.le_of_eq rfl) (hb hby d5_121) (by decide) (by decide) e13
  -- pc 130: java/lang/Math.min
  obtain ⟨T15, X15, e15, st15⟩ := own_call_min X14 hx hZ hw hown (hw _ (List.mem_of_getElem? (i := 46) rfl)) (own_min (own_max e0v e1v) (own_max e2v e3v)) (own_max (own_min e0v e1v) (own_min e2v e3v)) (W := 0) (g := (mkF m 130 #[.val (.int kv), .val (.int mv), .val (.int d0v), .val (.int d1v), .val (.int d2v), .val (.int d3v), .val (.int e0v), .val (.int e1v), .val (.int e2v), .val (.int e3v), .val (.int (own_min e0v e1v)), .val (.int (own_max e0v e1v)), .val (.int (own_min e2v e3v)), .val (.int (own_max e2v e3v)), .val (.int (own_min (own_min e0v e1v) (own_min e2v e3v))), .val (.int (own_max (own_min e0v e1v) (own_min e2v e3v))), .val (.int (own_min (own_max e0v e1v) (own_max e2v e3v))), .val (.int (own_max (own_max e0v e1v) (own_max e2v e3v))), .unset, .unset] [(.int (own_max (own_min e0v e1v) (own_min e2v e3v))), (.int (own_min (own_max e0v e1v) (own_max e2v e3v)))])) rfl (by rw [hml]; rfl) (rest := []) rfl (by show 2 * 0 + _ ≤ _; exact Nat.le_of_eq rfl) (hb hby d5_130) (by decide) (by decide) e14
  -- pc 139: java/lang/Math.max
  obtain ⟨T16, X16, e16, st16⟩ := own_call_max X15 hx hZ hw hown (hw _ (List.mem_of_getElem? (i := 47) rfl)) (own_min (own_max e0v e1v) (own_max e2v e3v)) (own_max (own_min e0v e1v) (own_min e2v e3v)) (W := 0) (g := (mkF m 139 #[.val (.int kv), .val (.int mv), .val (.int d0v), .val (.int d1v), .val (.int d2v), .val (.int d3v), .val (.int e0v), .val (.int e1v), .val (.int e2v), .val (.int e3v), .val (.int (own_min e0v e1v)), .val (.int (own_max e0v e1v)), .val (.int (own_min e2v e3v)), .val (.int (own_max e2v e3v)), .val (.int (own_min (own_min e0v e1v) (own_min e2v e3v))), .val (.int (own_max (own_min e0v e1v) (own_min e2v e3v))), .val (.int (own_min (own_max e0v e1v) (own_max e2v e3v))), .val (.int (own_max (own_max e0v e1v) (own_max e2v e3v))), .val (.int (own_min (own_min (own_max e0v e1v) (own_max e2v e3v)) (own_max (own_min e0v e1v) (own_min e2v e3v)))), .unset] [(.int (own_max (own_min e0v e1v) (own_min e2v e3v))), (.int (own_min (own_max e0v e1v) (own_max e2v e3v)))])) rfl (by rw [hml]; rfl) (rest := []) rfl (by show 2 * 0 + _ ≤ _; exact Nat.le_of_eq rfl) (hb hby d5_139) (by decide) (by decide) e15
  refine ⟨T16, X16, e16, fun target kt => ?_⟩
  -- 4. STEPS
  show Steps p.tables e below (T0.setTop (mkF m 54 #[.val (.int kv), .val (.int mv), .val (.int d0v), .val (.int d1v), .val (.int d2v), .val (.int d3v), .val (.int e0v), .val (.int e1v), .val (.int e2v), .val (.int e3v), .unset, .unset, .unset, .unset, .unset, .unset, .unset, .unset, .unset, .unset] [])) _
  refine XS.iload X0.here hx rfl (hb hby d5_54) rfl ?_
  show Steps p.tables e below (T0.setTop (mkF m 56 #[.val (.int kv), .val (.int mv), .val (.int d0v), .val (.int d1v), .val (.int d2v), .val (.int d3v), .val (.int e0v), .val (.int e1v), .val (.int e2v), .val (.int e3v), .unset, .unset, .unset, .unset, .unset, .unset, .unset, .unset, .unset, .unset] [(.int e0v)])) _
  refine XS.iload X0.here hx rfl (hb hby d5_56) rfl ?_
  show Steps p.tables e below (T0.setTop (mkF m 58 #[.val (.int kv), .val (.int mv), .val (.int d0v), .val (.int d1v), .val (.int d2v), .val (.int d3v), .val (.int e0v), .val (.int e1v), .val (.int e2v), .val (.int e3v), .unset, .unset, .unset, .unset, .unset, .unset, .unset, .unset, .unset, .unset] [(.int e1v), (.int e0v)])) _
  refine st7 _ ?_
  show Steps p.tables e below (T7.setTop (mkF m 61 #[.val (.int kv), .val (.int mv), .val (.int d0v), .val (.int d1v), .val (.int d2v), .val (.int d3v), .val (.int e0v), .val (.int e1v), .val (.int e2v), .val (.int e3v), .unset, .unset, .unset, .unset, .unset, .unset, .unset, .unset, .unset, .unset] [(.int (own_min e0v e1v))])) _
  refine XS.istore X7.here hx rfl (hb hby d5_61) rfl (l' := #[.val (.int kv), .val (.int mv), .val (.int d0v), .val (.int d1v), .val (.int d2v), .val (.int d3v), .val (.int e0v), .val (.int e1v), .val (.int e2v), .val (.int e3v), .val (.int (own_min e0v e1v)), .unset, .unset, .unset, .unset, .unset, .unset, .unset, .unset, .unset]) rfl ?_
  show Steps p.tables e below (T7.setTop (mkF m 63 #[.val (.int kv), .val (.int mv), .val (.int d0v), .val (.int d1v), .val (.int d2v), .val (.int d3v), .val (.int e0v), .val (.int e1v), .val (.int e2v), .val (.int e3v), .val (.int (own_min e0v e1v)), .unset, .unset, .unset, .unset, .unset, .unset, .unset, .unset, .unset] [])) _
  refine XS.iload X7.here hx rfl (hb hby d5_63) rfl ?_
  show Steps p.tables e below (T7.setTop (mkF m 65 #[.val (.int kv), .val (.int mv), .val (.int d0v), .val (.int d1v), .val (.int d2v), .val (.int d3v), .val (.int e0v), .val (.int e1v), .val (.int e2v), .val (.int e3v), .val (.int (own_min e0v e1v)), .unset, .unset, .unset, .unset, .unset, .unset, .unset, .unset, .unset] [(.int e0v)])) _
  refine XS.iload X7.here hx rfl (hb hby d5_65) rfl ?_
  show Steps p.tables e below (T7.setTop (mkF m 67 #[.val (.int kv), .val (.int mv), .val (.int d0v), .val (.int d1v), .val (.int d2v), .val (.int d3v), .val (.int e0v), .val (.int e1v), .val (.int e2v), .val (.int e3v), .val (.int (own_min e0v e1v)), .unset, .unset, .unset, .unset, .unset, .unset, .unset, .unset, .unset] [(.int e1v), (.int e0v)])) _
  refine st8 _ ?_
  show Steps p.tables e below (T8.setTop (mkF m 70 #[.val (.int kv), .val (.int mv), .val (.int d0v), .val (.int d1v), .val (.int d2v), .val (.int d3v), .val (.int e0v), .val (.int e1v), .val (.int e2v), .val (.int e3v), .val (.int (own_min e0v e1v)), .unset, .unset, .unset, .unset, .unset, .unset, .unset, .unset, .unset] [(.int (own_max e0v e1v))])) _
  refine XS.istore X8.here hx rfl (hb hby d5_70) rfl (l' := #[.val (.int kv), .val (.int mv), .val (.int d0v), .val (.int d1v), .val (.int d2v), .val (.int d3v), .val (.int e0v), .val (.int e1v), .val (.int e2v), .val (.int e3v), .val (.int (own_min e0v e1v)), .val (.int (own_max e0v e1v)), .unset, .unset, .unset, .unset, .unset, .unset, .unset, .unset]) rfl ?_
  show Steps p.tables e below (T8.setTop (mkF m 72 #[.val (.int kv), .val (.int mv), .val (.int d0v), .val (.int d1v), .val (.int d2v), .val (.int d3v), .val (.int e0v), .val (.int e1v), .val (.int e2v), .val (.int e3v), .val (.int (own_min e0v e1v)), .val (.int (own_max e0v e1v)), .unset, .unset, .unset, .unset, .unset, .unset, .unset, .unset] [])) _
  refine XS.iload X8.here hx rfl (hb hby d5_72) rfl ?_
  show Steps p.tables e below (T8.setTop (mkF m 74 #[.val (.int kv), .val (.int mv), .val (.int d0v), .val (.int d1v), .val (.int d2v), .val (.int d3v), .val (.int e0v), .val (.int e1v), .val (.int e2v), .val (.int e3v), .val (.int (own_min e0v e1v)), .val (.int (own_max e0v e1v)), .unset, .unset, .unset, .unset, .unset, .unset, .unset, .unset] [(.int e2v)])) _
  refine XS.iload X8.here hx rfl (hb hby d5_74) rfl ?_
  show Steps p.tables e below (T8.setTop (mkF m 76 #[.val (.int kv), .val (.int mv), .val (.int d0v), .val (.int d1v), .val (.int d2v), .val (.int d3v), .val (.int e0v), .val (.int e1v), .val (.int e2v), .val (.int e3v), .val (.int (own_min e0v e1v)), .val (.int (own_max e0v e1v)), .unset, .unset, .unset, .unset, .unset, .unset, .unset, .unset] [(.int e3v), (.int e2v)])) _
  refine st9 _ ?_
  show Steps p.tables e below (T9.setTop (mkF m 79 #[.val (.int kv), .val (.int mv), .val (.int d0v), .val (.int d1v), .val (.int d2v), .val (.int d3v), .val (.int e0v), .val (.int e1v), .val (.int e2v), .val (.int e3v), .val (.int (own_min e0v e1v)), .val (.int (own_max e0v e1v)), .unset, .unset, .unset, .unset, .unset, .unset, .unset, .unset] [(.int (own_min e2v e3v))])) _
  refine XS.istore X9.here hx rfl (hb hby d5_79) rfl (l' := #[.val (.int kv), .val (.int mv), .val (.int d0v), .val (.int d1v), .val (.int d2v), .val (.int d3v), .val (.int e0v), .val (.int e1v), .val (.int e2v), .val (.int e3v), .val (.int (own_min e0v e1v)), .val (.int (own_max e0v e1v)), .val (.int (own_min e2v e3v)), .unset, .unset, .unset, .unset, .unset, .unset, .unset]) rfl ?_
  show Steps p.tables e below (T9.setTop (mkF m 81 #[.val (.int kv), .val (.int mv), .val (.int d0v), .val (.int d1v), .val (.int d2v), .val (.int d3v), .val (.int e0v), .val (.int e1v), .val (.int e2v), .val (.int e3v), .val (.int (own_min e0v e1v)), .val (.int (own_max e0v e1v)), .val (.int (own_min e2v e3v)), .unset, .unset, .unset, .unset, .unset, .unset, .unset] [])) _
  refine XS.iload X9.here hx rfl (hb hby d5_81) rfl ?_
  show Steps p.tables e below (T9.setTop (mkF m 83 #[.val (.int kv), .val (.int mv), .val (.int d0v), .val (.int d1v), .val (.int d2v), .val (.int d3v), .val (.int e0v), .val (.int e1v), .val (.int e2v), .val (.int e3v), .val (.int (own_min e0v e1v)), .val (.int (own_max e0v e1v)), .val (.int (own_min e2v e3v)), .unset, .unset, .unset, .unset, .unset, .unset, .unset] [(.int e2v)])) _
  refine XS.iload X9.here hx rfl (hb hby d5_83) rfl ?_
  show Steps p.tables e below (T9.setTop (mkF m 85 #[.val (.int kv), .val (.int mv), .val (.int d0v), .val (.int d1v), .val (.int d2v), .val (.int d3v), .val (.int e0v), .val (.int e1v), .val (.int e2v), .val (.int e3v), .val (.int (own_min e0v e1v)), .val (.int (own_max e0v e1v)), .val (.int (own_min e2v e3v)), .unset, .unset, .unset, .unset, .unset, .unset, .unset] [(.int e3v), (.int e2v)])) _
  refine st10 _ ?_
  show Steps p.tables e below (T10.setTop (mkF m 88 #[.val (.int kv), .val (.int mv), .val (.int d0v), .val (.int d1v), .val (.int d2v), .val (.int d3v), .val (.int e0v), .val (.int e1v), .val (.int e2v), .val (.int e3v), .val (.int (own_min e0v e1v)), .val (.int (own_max e0v e1v)), .val (.int (own_min e2v e3v)), .unset, .unset, .unset, .unset, .unset, .unset, .unset] [(.int (own_max e2v e3v))])) _
  refine XS.istore X10.here hx rfl (hb hby d5_88) rfl (l' := #[.val (.int kv), .val (.int mv), .val (.int d0v), .val (.int d1v), .val (.int d2v), .val (.int d3v), .val (.int e0v), .val (.int e1v), .val (.int e2v), .val (.int e3v), .val (.int (own_min e0v e1v)), .val (.int (own_max e0v e1v)), .val (.int (own_min e2v e3v)), .val (.int (own_max e2v e3v)), .unset, .unset, .unset, .unset, .unset, .unset]) rfl ?_
  show Steps p.tables e below (T10.setTop (mkF m 90 #[.val (.int kv), .val (.int mv), .val (.int d0v), .val (.int d1v), .val (.int d2v), .val (.int d3v), .val (.int e0v), .val (.int e1v), .val (.int e2v), .val (.int e3v), .val (.int (own_min e0v e1v)), .val (.int (own_max e0v e1v)), .val (.int (own_min e2v e3v)), .val (.int (own_max e2v e3v)), .unset, .unset, .unset, .unset, .unset, .unset] [])) _
  refine XS.iload X10.here hx rfl (hb hby d5_90) rfl ?_
  show Steps p.tables e below (T10.setTop (mkF m 92 #[.val (.int kv), .val (.int mv), .val (.int d0v), .val (.int d1v), .val (.int d2v), .val (.int d3v), .val (.int e0v), .val (.int e1v), .val (.int e2v), .val (.int e3v), .val (.int (own_min e0v e1v)), .val (.int (own_max e0v e1v)), .val (.int (own_min e2v e3v)), .val (.int (own_max e2v e3v)), .unset, .unset, .unset, .unset, .unset, .unset] [(.int (own_min e0v e1v))])) _
  refine XS.iload X10.here hx rfl (hb hby d5_92) rfl ?_
  show Steps p.tables e below (T10.setTop (mkF m 94 #[.val (.int kv), .val (.int mv), .val (.int d0v), .val (.int d1v), .val (.int d2v), .val (.int d3v), .val (.int e0v), .val (.int e1v), .val (.int e2v), .val (.int e3v), .val (.int (own_min e0v e1v)), .val (.int (own_max e0v e1v)), .val (.int (own_min e2v e3v)), .val (.int (own_max e2v e3v)), .unset, .unset, .unset, .unset, .unset, .unset] [(.int (own_min e2v e3v)), (.int (own_min e0v e1v))])) _
  refine st11 _ ?_
  show Steps p.tables e below (T11.setTop (mkF m 97 #[.val (.int kv), .val (.int mv), .val (.int d0v), .val (.int d1v), .val (.int d2v), .val (.int d3v), .val (.int e0v), .val (.int e1v), .val (.int e2v), .val (.int e3v), .val (.int (own_min e0v e1v)), .val (.int (own_max e0v e1v)), .val (.int (own_min e2v e3v)), .val (.int (own_max e2v e3v)), .unset, .unset, .unset, .unset, .unset, .unset] [(.int (own_min (own_min e0v e1v) (own_min e2v e3v)))])) _
  refine XS.istore X11.here hx rfl (hb hby d5_97) rfl (l' := #[.val (.int kv), .val (.int mv), .val (.int d0v), .val (.int d1v), .val (.int d2v), .val (.int d3v), .val (.int e0v), .val (.int e1v), .val (.int e2v), .val (.int e3v), .val (.int (own_min e0v e1v)), .val (.int (own_max e0v e1v)), .val (.int (own_min e2v e3v)), .val (.int (own_max e2v e3v)), .val (.int (own_min (own_min e0v e1v) (own_min e2v e3v))), .unset, .unset, .unset, .unset, .unset]) rfl ?_
  show Steps p.tables e below (T11.setTop (mkF m 99 #[.val (.int kv), .val (.int mv), .val (.int d0v), .val (.int d1v), .val (.int d2v), .val (.int d3v), .val (.int e0v), .val (.int e1v), .val (.int e2v), .val (.int e3v), .val (.int (own_min e0v e1v)), .val (.int (own_max e0v e1v)), .val (.int (own_min e2v e3v)), .val (.int (own_max e2v e3v)), .val (.int (own_min (own_min e0v e1v) (own_min e2v e3v))), .unset, .unset, .unset, .unset, .unset] [])) _
  refine XS.iload X11.here hx rfl (hb hby d5_99) rfl ?_
  show Steps p.tables e below (T11.setTop (mkF m 101 #[.val (.int kv), .val (.int mv), .val (.int d0v), .val (.int d1v), .val (.int d2v), .val (.int d3v), .val (.int e0v), .val (.int e1v), .val (.int e2v), .val (.int e3v), .val (.int (own_min e0v e1v)), .val (.int (own_max e0v e1v)), .val (.int (own_min e2v e3v)), .val (.int (own_max e2v e3v)), .val (.int (own_min (own_min e0v e1v) (own_min e2v e3v))), .unset, .unset, .unset, .unset, .unset] [(.int (own_min e0v e1v))])) _
  refine XS.iload X11.here hx rfl (hb hby d5_101) rfl ?_
  show Steps p.tables e below (T11.setTop (mkF m 103 #[.val (.int kv), .val (.int mv), .val (.int d0v), .val (.int d1v), .val (.int d2v), .val (.int d3v), .val (.int e0v), .val (.int e1v), .val (.int e2v), .val (.int e3v), .val (.int (own_min e0v e1v)), .val (.int (own_max e0v e1v)), .val (.int (own_min e2v e3v)), .val (.int (own_max e2v e3v)), .val (.int (own_min (own_min e0v e1v) (own_min e2v e3v))), .unset, .unset, .unset, .unset, .unset] [(.int (own_min e2v e3v)), (.int (own_min e0v e1v))])) _
  refine st12 _ ?_
  show Steps p.tables e below (T12.setTop (mkF m 106 #[.val (.int kv), .val (.int mv), .val (.int d0v), .val (.int d1v), .val (.int d2v), .val (.int d3v), .val (.int e0v), .val (.int e1v), .val (.int e2v), .val (.int e3v), .val (.int (own_min e0v e1v)), .val (.int (own_max e0v e1v)), .val (.int (own_min e2v e3v)), .val (.int (own_max e2v e3v)), .val (.int (own_min (own_min e0v e1v) (own_min e2v e3v))), .unset, .unset, .unset, .unset, .unset] [(.int (own_max (own_min e0v e1v) (own_min e2v e3v)))])) _
  refine XS.istore X12.here hx rfl (hb hby d5_106) rfl (l' := #[.val (.int kv), .val (.int mv), .val (.int d0v), .val (.int d1v), .val (.int d2v), .val (.int d3v), .val (.int e0v), .val (.int e1v), .val (.int e2v), .val (.int e3v), .val (.int (own_min e0v e1v)), .val (.int (own_max e0v e1v)), .val (.int (own_min e2v e3v)), .val (.int (own_max e2v e3v)), .val (.int (own_min (own_min e0v e1v) (own_min e2v e3v))), .val (.int (own_max (own_min e0v e1v) (own_min e2v e3v))), .unset, .unset, .unset, .unset]) rfl ?_
  show Steps p.tables e below (T12.setTop (mkF m 108 #[.val (.int kv), .val (.int mv), .val (.int d0v), .val (.int d1v), .val (.int d2v), .val (.int d3v), .val (.int e0v), .val (.int e1v), .val (.int e2v), .val (.int e3v), .val (.int (own_min e0v e1v)), .val (.int (own_max e0v e1v)), .val (.int (own_min e2v e3v)), .val (.int (own_max e2v e3v)), .val (.int (own_min (own_min e0v e1v) (own_min e2v e3v))), .val (.int (own_max (own_min e0v e1v) (own_min e2v e3v))), .unset, .unset, .unset, .unset] [])) _
  refine XS.iload X12.here hx rfl (hb hby d5_108) rfl ?_
  show Steps p.tables e below (T12.setTop (mkF m 110 #[.val (.int kv), .val (.int mv), .val (.int d0v), .val (.int d1v), .val (.int d2v), .val (.int d3v), .val (.int e0v), .val (.int e1v), .val (.int e2v), .val (.int e3v), .val (.int (own_min e0v e1v)), .val (.int (own_max e0v e1v)), .val (.int (own_min e2v e3v)), .val (.int (own_max e2v e3v)), .val (.int (own_min (own_min e0v e1v) (own_min e2v e3v))), .val (.int (own_max (own_min e0v e1v) (own_min e2v e3v))), .unset, .unset, .unset, .unset] [(.int (own_max e0v e1v))])) _
  refine XS.iload X12.here hx rfl (hb hby d5_110) rfl ?_
  show Steps p.tables e below (T12.setTop (mkF m 112 #[.val (.int kv), .val (.int mv), .val (.int d0v), .val (.int d1v), .val (.int d2v), .val (.int d3v), .val (.int e0v), .val (.int e1v), .val (.int e2v), .val (.int e3v), .val (.int (own_min e0v e1v)), .val (.int (own_max e0v e1v)), .val (.int (own_min e2v e3v)), .val (.int (own_max e2v e3v)), .val (.int (own_min (own_min e0v e1v) (own_min e2v e3v))), .val (.int (own_max (own_min e0v e1v) (own_min e2v e3v))), .unset, .unset, .unset, .unset] [(.int (own_max e2v e3v)), (.int (own_max e0v e1v))])) _
  refine st13 _ ?_
  show Steps p.tables e below (T13.setTop (mkF m 115 #[.val (.int kv), .val (.int mv), .val (.int d0v), .val (.int d1v), .val (.int d2v), .val (.int d3v), .val (.int e0v), .val (.int e1v), .val (.int e2v), .val (.int e3v), .val (.int (own_min e0v e1v)), .val (.int (own_max e0v e1v)), .val (.int (own_min e2v e3v)), .val (.int (own_max e2v e3v)), .val (.int (own_min (own_min e0v e1v) (own_min e2v e3v))), .val (.int (own_max (own_min e0v e1v) (own_min e2v e3v))), .unset, .unset, .unset, .unset] [(.int (own_min (own_max e0v e1v) (own_max e2v e3v)))])) _
  refine XS.istore X13.here hx rfl (hb hby d5_115) rfl (l' := #[.val (.int kv), .val (.int mv), .val (.int d0v), .val (.int d1v), .val (.int d2v), .val (.int d3v), .val (.int e0v), .val (.int e1v), .val (.int e2v), .val (.int e3v), .val (.int (own_min e0v e1v)), .val (.int (own_max e0v e1v)), .val (.int (own_min e2v e3v)), .val (.int (own_max e2v e3v)), .val (.int (own_min (own_min e0v e1v) (own_min e2v e3v))), .val (.int (own_max (own_min e0v e1v) (own_min e2v e3v))), .val (.int (own_min (own_max e0v e1v) (own_max e2v e3v))), .unset, .unset, .unset]) rfl ?_
  show Steps p.tables e below (T13.setTop (mkF m 117 #[.val (.int kv), .val (.int mv), .val (.int d0v), .val (.int d1v), .val (.int d2v), .val (.int d3v), .val (.int e0v), .val (.int e1v), .val (.int e2v), .val (.int e3v), .val (.int (own_min e0v e1v)), .val (.int (own_max e0v e1v)), .val (.int (own_min e2v e3v)), .val (.int (own_max e2v e3v)), .val (.int (own_min (own_min e0v e1v) (own_min e2v e3v))), .val (.int (own_max (own_min e0v e1v) (own_min e2v e3v))), .val (.int (own_min (own_max e0v e1v) (own_max e2v e3v))), .unset, .unset, .unset] [])) _
  refine XS.iload X13.here hx rfl (hb hby d5_117) rfl ?_
  show Steps p.tables e below (T13.setTop (mkF m 119 #[.val (.int kv), .val (.int mv), .val (.int d0v), .val (.int d1v), .val (.int d2v), .val (.int d3v), .val (.int e0v), .val (.int e1v), .val (.int e2v), .val (.int e3v), .val (.int (own_min e0v e1v)), .val (.int (own_max e0v e1v)), .val (.int (own_min e2v e3v)), .val (.int (own_max e2v e3v)), .val (.int (own_min (own_min e0v e1v) (own_min e2v e3v))), .val (.int (own_max (own_min e0v e1v) (own_min e2v e3v))), .val (.int (own_min (own_max e0v e1v) (own_max e2v e3v))), .unset, .unset, .unset] [(.int (own_max e0v e1v))])) _
  refine XS.iload X13.here hx rfl (hb hby d5_119) rfl ?_
  show Steps p.tables e below (T13.setTop (mkF m 121 #[.val (.int kv), .val (.int mv), .val (.int d0v), .val (.int d1v), .val (.int d2v), .val (.int d3v), .val (.int e0v), .val (.int e1v), .val (.int e2v), .val (.int e3v), .val (.int (own_min e0v e1v)), .val (.int (own_max e0v e1v)), .val (.int (own_min e2v e3v)), .val (.int (own_max e2v e3v)), .val (.int (own_min (own_min e0v e1v) (own_min e2v e3v))), .val (.int (own_max (own_min e0v e1v) (own_min e2v e3v))), .val (.int (own_min (own_max e0v e1v) (own_max e2v e3v))), .unset, .unset, .unset] [(.int (own_max e2v e3v)), (.int (own_max e0v e1v))])) _
  refine st14 _ ?_
  show Steps p.tables e below (T14.setTop (mkF m 124 #[.val (.int kv), .val (.int mv), .val (.int d0v), .val (.int d1v), .val (.int d2v), .val (.int d3v), .val (.int e0v), .val (.int e1v), .val (.int e2v), .val (.int e3v), .val (.int (own_min e0v e1v)), .val (.int (own_max e0v e1v)), .val (.int (own_min e2v e3v)), .val (.int (own_max e2v e3v)), .val (.int (own_min (own_min e0v e1v) (own_min e2v e3v))), .val (.int (own_max (own_min e0v e1v) (own_min e2v e3v))), .val (.int (own_min (own_max e0v e1v) (own_max e2v e3v))), .unset, .unset, .unset] [(.int (own_max (own_max e0v e1v) (own_max e2v e3v)))])) _
  refine XS.istore X14.here hx rfl (hb hby d5_124) rfl (l' := #[.val (.int kv), .val (.int mv), .val (.int d0v), .val (.int d1v), .val (.int d2v), .val (.int d3v), .val (.int e0v), .val (.int e1v), .val (.int e2v), .val (.int e3v), .val (.int (own_min e0v e1v)), .val (.int (own_max e0v e1v)), .val (.int (own_min e2v e3v)), .val (.int (own_max e2v e3v)), .val (.int (own_min (own_min e0v e1v) (own_min e2v e3v))), .val (.int (own_max (own_min e0v e1v) (own_min e2v e3v))), .val (.int (own_min (own_max e0v e1v) (own_max e2v e3v))), .val (.int (own_max (own_max e0v e1v) (own_max e2v e3v))), .unset, .unset]) rfl ?_
  show Steps p.tables e below (T14.setTop (mkF m 126 #[.val (.int kv), .val (.int mv), .val (.int d0v), .val (.int d1v), .val (.int d2v), .val (.int d3v), .val (.int e0v), .val (.int e1v), .val (.int e2v), .val (.int e3v), .val (.int (own_min e0v e1v)), .val (.int (own_max e0v e1v)), .val (.int (own_min e2v e3v)), .val (.int (own_max e2v e3v)), .val (.int (own_min (own_min e0v e1v) (own_min e2v e3v))), .val (.int (own_max (own_min e0v e1v) (own_min e2v e3v))), .val (.int (own_min (own_max e0v e1v) (own_max e2v e3v))), .val (.int (own_max (own_max e0v e1v) (own_max e2v e3v))), .unset, .unset] [])) _
  refine XS.iload X14.here hx rfl (hb hby d5_126) rfl ?_
  show Steps p.tables e below (T14.setTop (mkF m 128 #[.val (.int kv), .val (.int mv), .val (.int d0v), .val (.int d1v), .val (.int d2v), .val (.int d3v), .val (.int e0v), .val (.int e1v), .val (.int e2v), .val (.int e3v), .val (.int (own_min e0v e1v)), .val (.int (own_max e0v e1v)), .val (.int (own_min e2v e3v)), .val (.int (own_max e2v e3v)), .val (.int (own_min (own_min e0v e1v) (own_min e2v e3v))), .val (.int (own_max (own_min e0v e1v) (own_min e2v e3v))), .val (.int (own_min (own_max e0v e1v) (own_max e2v e3v))), .val (.int (own_max (own_max e0v e1v) (own_max e2v e3v))), .unset, .unset] [(.int (own_min (own_max e0v e1v) (own_max e2v e3v)))])) _
  refine XS.iload X14.here hx rfl (hb hby d5_128) rfl ?_
  show Steps p.tables e below (T14.setTop (mkF m 130 #[.val (.int kv), .val (.int mv), .val (.int d0v), .val (.int d1v), .val (.int d2v), .val (.int d3v), .val (.int e0v), .val (.int e1v), .val (.int e2v), .val (.int e3v), .val (.int (own_min e0v e1v)), .val (.int (own_max e0v e1v)), .val (.int (own_min e2v e3v)), .val (.int (own_max e2v e3v)), .val (.int (own_min (own_min e0v e1v) (own_min e2v e3v))), .val (.int (own_max (own_min e0v e1v) (own_min e2v e3v))), .val (.int (own_min (own_max e0v e1v) (own_max e2v e3v))), .val (.int (own_max (own_max e0v e1v) (own_max e2v e3v))), .unset, .unset] [(.int (own_max (own_min e0v e1v) (own_min e2v e3v))), (.int (own_min (own_max e0v e1v) (own_max e2v e3v)))])) _
  refine st15 _ ?_
  show Steps p.tables e below (T15.setTop (mkF m 133 #[.val (.int kv), .val (.int mv), .val (.int d0v), .val (.int d1v), .val (.int d2v), .val (.int d3v), .val (.int e0v), .val (.int e1v), .val (.int e2v), .val (.int e3v), .val (.int (own_min e0v e1v)), .val (.int (own_max e0v e1v)), .val (.int (own_min e2v e3v)), .val (.int (own_max e2v e3v)), .val (.int (own_min (own_min e0v e1v) (own_min e2v e3v))), .val (.int (own_max (own_min e0v e1v) (own_min e2v e3v))), .val (.int (own_min (own_max e0v e1v) (own_max e2v e3v))), .val (.int (own_max (own_max e0v e1v) (own_max e2v e3v))), .unset, .unset] [(.int (own_min (own_min (own_max e0v e1v) (own_max e2v e3v)) (own_max (own_min e0v e1v) (own_min e2v e3v))))])) _
  refine XS.istore X15.here hx rfl (hb hby d5_133) rfl (l' := #[.val (.int kv), .val (.int mv), .val (.int d0v), .val (.int d1v), .val (.int d2v), .val (.int d3v), .val (.int e0v), .val (.int e1v), .val (.int e2v), .val (.int e3v), .val (.int (own_min e0v e1v)), .val (.int (own_max e0v e1v)), .val (.int (own_min e2v e3v)), .val (.int (own_max e2v e3v)), .val (.int (own_min (own_min e0v e1v) (own_min e2v e3v))), .val (.int (own_max (own_min e0v e1v) (own_min e2v e3v))), .val (.int (own_min (own_max e0v e1v) (own_max e2v e3v))), .val (.int (own_max (own_max e0v e1v) (own_max e2v e3v))), .val (.int (own_min (own_min (own_max e0v e1v) (own_max e2v e3v)) (own_max (own_min e0v e1v) (own_min e2v e3v)))), .unset]) rfl ?_
  show Steps p.tables e below (T15.setTop (mkF m 135 #[.val (.int kv), .val (.int mv), .val (.int d0v), .val (.int d1v), .val (.int d2v), .val (.int d3v), .val (.int e0v), .val (.int e1v), .val (.int e2v), .val (.int e3v), .val (.int (own_min e0v e1v)), .val (.int (own_max e0v e1v)), .val (.int (own_min e2v e3v)), .val (.int (own_max e2v e3v)), .val (.int (own_min (own_min e0v e1v) (own_min e2v e3v))), .val (.int (own_max (own_min e0v e1v) (own_min e2v e3v))), .val (.int (own_min (own_max e0v e1v) (own_max e2v e3v))), .val (.int (own_max (own_max e0v e1v) (own_max e2v e3v))), .val (.int (own_min (own_min (own_max e0v e1v) (own_max e2v e3v)) (own_max (own_min e0v e1v) (own_min e2v e3v)))), .unset] [])) _
  refine XS.iload X15.here hx rfl (hb hby d5_135) rfl ?_
  show Steps p.tables e below (T15.setTop (mkF m 137 #[.val (.int kv), .val (.int mv), .val (.int d0v), .val (.int d1v), .val (.int d2v), .val (.int d3v), .val (.int e0v), .val (.int e1v), .val (.int e2v), .val (.int e3v), .val (.int (own_min e0v e1v)), .val (.int (own_max e0v e1v)), .val (.int (own_min e2v e3v)), .val (.int (own_max e2v e3v)), .val (.int (own_min (own_min e0v e1v) (own_min e2v e3v))), .val (.int (own_max (own_min e0v e1v) (own_min e2v e3v))), .val (.int (own_min (own_max e0v e1v) (own_max e2v e3v))), .val (.int (own_max (own_max e0v e1v) (own_max e2v e3v))), .val (.int (own_min (own_min (own_max e0v e1v) (own_max e2v e3v)) (own_max (own_min e0v e1v) (own_min e2v e3v)))), .unset] [(.int (own_min (own_max e0v e1v) (own_max e2v e3v)))])) _
  refine XS.iload X15.here hx rfl (hb hby d5_137) rfl ?_
  show Steps p.tables e below (T15.setTop (mkF m 139 #[.val (.int kv), .val (.int mv), .val (.int d0v), .val (.int d1v), .val (.int d2v), .val (.int d3v), .val (.int e0v), .val (.int e1v), .val (.int e2v), .val (.int e3v), .val (.int (own_min e0v e1v)), .val (.int (own_max e0v e1v)), .val (.int (own_min e2v e3v)), .val (.int (own_max e2v e3v)), .val (.int (own_min (own_min e0v e1v) (own_min e2v e3v))), .val (.int (own_max (own_min e0v e1v) (own_min e2v e3v))), .val (.int (own_min (own_max e0v e1v) (own_max e2v e3v))), .val (.int (own_max (own_max e0v e1v) (own_max e2v e3v))), .val (.int (own_min (own_min (own_max e0v e1v) (own_max e2v e3v)) (own_max (own_min e0v e1v) (own_min e2v e3v)))), .unset] [(.int (own_max (own_min e0v e1v) (own_min e2v e3v))), (.int (own_min (own_max e0v e1v) (own_max e2v e3v)))])) _
  refine st16 _ ?_
  show Steps p.tables e below (T16.setTop (mkF m 142 #[.val (.int kv), .val (.int mv), .val (.int d0v), .val (.int d1v), .val (.int d2v), .val (.int d3v), .val (.int e0v), .val (.int e1v), .val (.int e2v), .val (.int e3v), .val (.int (own_min e0v e1v)), .val (.int (own_max e0v e1v)), .val (.int (own_min e2v e3v)), .val (.int (own_max e2v e3v)), .val (.int (own_min (own_min e0v e1v) (own_min e2v e3v))), .val (.int (own_max (own_min e0v e1v) (own_min e2v e3v))), .val (.int (own_min (own_max e0v e1v) (own_max e2v e3v))), .val (.int (own_max (own_max e0v e1v) (own_max e2v e3v))), .val (.int (own_min (own_min (own_max e0v e1v) (own_max e2v e3v)) (own_max (own_min e0v e1v) (own_min e2v e3v)))), .unset] [(.int (own_max (own_min (own_max e0v e1v) (own_max e2v e3v)) (own_max (own_min e0v e1v) (own_min e2v e3v))))])) _
  refine XS.istore X16.here hx rfl (hb hby d5_142) rfl (l' := #[.val (.int kv), .val (.int mv), .val (.int d0v), .val (.int d1v), .val (.int d2v), .val (.int d3v), .val (.int e0v), .val (.int e1v), .val (.int e2v), .val (.int e3v), .val (.int (own_min e0v e1v)), .val (.int (own_max e0v e1v)), .val (.int (own_min e2v e3v)), .val (.int (own_max e2v e3v)), .val (.int (own_min (own_min e0v e1v) (own_min e2v e3v))), .val (.int (own_max (own_min e0v e1v) (own_min e2v e3v))), .val (.int (own_min (own_max e0v e1v) (own_max e2v e3v))), .val (.int (own_max (own_max e0v e1v) (own_max e2v e3v))), .val (.int (own_min (own_min (own_max e0v e1v) (own_max e2v e3v)) (own_max (own_min e0v e1v) (own_min e2v e3v)))), .val (.int (own_max (own_min (own_max e0v e1v) (own_max e2v e3v)) (own_max (own_min e0v e1v) (own_min e2v e3v))))]) rfl ?_
  exact kt
theorem d5_144 : decode method_4_code 144 = .ok (.iload_n 0, 1) := by decide +kernel
theorem d5_145 : decode method_4_code 145 = .ok (.iconst 1, 1) := by decide +kernel
theorem d5_146 : decode method_4_code 146 = .ok (.if_icmp .ne 6, 3) := by decide +kernel
theorem d5_149 : decode method_4_code 149 = .ok (.iload 14, 2) := by decide +kernel
set_option maxRecDepth 65536 in
set_option maxHeartbeats 40000000 in
theorem own_k5a {p : Program} {l : Launch} {e : Env} {s : State} {m : MethodId} {args : Array Value} {below : List Frame} {meth : Method} {c : Code} {T0 : State} {locs : List Loc} {Z : State} {a0 : Array Value} {h0 : Heap} (kv : Int32) (mv : Int32) (d0v : Int32) (d1v : Int32) (d2v : Int32) (d3v : Int32) (e0v : Int32) (e1v : Int32) (e2v : Int32) (e3v : Int32) (a0_v : Int32) (a1_v : Int32) (a2_v : Int32) (a3_v : Int32) (b0_v : Int32) (b2_v : Int32) (b1_v : Int32) (b3_v : Int32) (c1_v : Int32) (c2_v : Int32)
    (X0 : Stand p l e ({ frames := 1, cells := 0, slots := 0, locals := 40 } : Room) s m args below meth c T0 locs 0 0) (hx : p.tables.exec = Jvm.exec) (hZ : Z.Warmed39 s.vm) (hw : ∀ d ∈ tables_1, d.before a0 Z = true) (hby : c.code = method_4_code) (hml : c.maxLocals = 20) (hown : s.vm.findClass "com/example/triangulum/triangulum/search/ShortlistLimitPinLaw" = some m.cls) (e0 : T0.heap = h0) (hc146 : kv = (1 : Int32)) :
    ∃ (T' : State), Stand p l e ({ frames := 1, cells := 0, slots := 0, locals := 40 } : Room) s m args below meth c T' locs 0 0 ∧ T'.heap = h0 ∧
      ∀ target, Steps p.tables e below (T'.setTop (mkF m 151 #[.val (.int kv), .val (.int mv), .val (.int d0v), .val (.int d1v), .val (.int d2v), .val (.int d3v), .val (.int e0v), .val (.int e1v), .val (.int e2v), .val (.int e3v), .val (.int a0_v), .val (.int a1_v), .val (.int a2_v), .val (.int a3_v), .val (.int b0_v), .val (.int b2_v), .val (.int b1_v), .val (.int b3_v), .val (.int c1_v), .val (.int c2_v)] [(.int b0_v)])) target → Steps p.tables e below (T0.setTop (mkF m 144 #[.val (.int kv), .val (.int mv), .val (.int d0v), .val (.int d1v), .val (.int d2v), .val (.int d3v), .val (.int e0v), .val (.int e1v), .val (.int e2v), .val (.int e3v), .val (.int a0_v), .val (.int a1_v), .val (.int a2_v), .val (.int a3_v), .val (.int b0_v), .val (.int b2_v), .val (.int b1_v), .val (.int b3_v), .val (.int c1_v), .val (.int c2_v)] [])) target := by
  -- 3. LAWS

  refine ⟨T0, X0, e0, fun target kt => ?_⟩
  -- 4. STEPS
  show Steps p.tables e below (T0.setTop (mkF m 144 #[.val (.int kv), .val (.int mv), .val (.int d0v), .val (.int d1v), .val (.int d2v), .val (.int d3v), .val (.int e0v), .val (.int e1v), .val (.int e2v), .val (.int e3v), .val (.int a0_v), .val (.int a1_v), .val (.int a2_v), .val (.int a3_v), .val (.int b0_v), .val (.int b2_v), .val (.int b1_v), .val (.int b3_v), .val (.int c1_v), .val (.int c2_v)] [])) _
  refine XS.iloadN X0.here hx rfl (hb hby d5_144) rfl ?_
  show Steps p.tables e below (T0.setTop (mkF m 145 #[.val (.int kv), .val (.int mv), .val (.int d0v), .val (.int d1v), .val (.int d2v), .val (.int d3v), .val (.int e0v), .val (.int e1v), .val (.int e2v), .val (.int e3v), .val (.int a0_v), .val (.int a1_v), .val (.int a2_v), .val (.int a3_v), .val (.int b0_v), .val (.int b2_v), .val (.int b1_v), .val (.int b3_v), .val (.int c1_v), .val (.int c2_v)] [(.int kv)])) _
  refine XS.iconst X0.here hx rfl (hb hby d5_145) ?_
  show Steps p.tables e below (T0.setTop (mkF m 146 #[.val (.int kv), .val (.int mv), .val (.int d0v), .val (.int d1v), .val (.int d2v), .val (.int d3v), .val (.int e0v), .val (.int e1v), .val (.int e2v), .val (.int e3v), .val (.int a0_v), .val (.int a1_v), .val (.int a2_v), .val (.int a3_v), .val (.int b0_v), .val (.int b2_v), .val (.int b1_v), .val (.int b3_v), .val (.int c1_v), .val (.int c2_v)] [(.int (1 : Int32)), (.int kv)])) _
  refine XS.icmpNo X0.here hx rfl (hb hby d5_146) rfl (teq hc146).2 ?_
  show Steps p.tables e below (T0.setTop (mkF m 149 #[.val (.int kv), .val (.int mv), .val (.int d0v), .val (.int d1v), .val (.int d2v), .val (.int d3v), .val (.int e0v), .val (.int e1v), .val (.int e2v), .val (.int e3v), .val (.int a0_v), .val (.int a1_v), .val (.int a2_v), .val (.int a3_v), .val (.int b0_v), .val (.int b2_v), .val (.int b1_v), .val (.int b3_v), .val (.int c1_v), .val (.int c2_v)] [])) _
  refine XS.iload X0.here hx rfl (hb hby d5_149) rfl ?_
  exact kt
set_option maxRecDepth 65536 in
set_option maxHeartbeats 40000000 in
theorem own_k5b {p : Program} {l : Launch} {e : Env} {s : State} {m : MethodId} {args : Array Value} {below : List Frame} {meth : Method} {c : Code} {T0 : State} {locs : List Loc} {Z : State} {a0 : Array Value} {h0 : Heap} (kv : Int32) (mv : Int32) (d0v : Int32) (d1v : Int32) (d2v : Int32) (d3v : Int32) (e0v : Int32) (e1v : Int32) (e2v : Int32) (e3v : Int32) (a0_v : Int32) (a1_v : Int32) (a2_v : Int32) (a3_v : Int32) (b0_v : Int32) (b2_v : Int32) (b1_v : Int32) (b3_v : Int32) (c1_v : Int32) (c2_v : Int32)
    (X0 : Stand p l e ({ frames := 1, cells := 0, slots := 0, locals := 40 } : Room) s m args below meth c T0 locs 0 0) (hx : p.tables.exec = Jvm.exec) (hZ : Z.Warmed39 s.vm) (hw : ∀ d ∈ tables_1, d.before a0 Z = true) (hby : c.code = method_4_code) (hml : c.maxLocals = 20) (hown : s.vm.findClass "com/example/triangulum/triangulum/search/ShortlistLimitPinLaw" = some m.cls) (e0 : T0.heap = h0) (hc146 : ¬ (kv = (1 : Int32))) :
    ∃ (T' : State), Stand p l e ({ frames := 1, cells := 0, slots := 0, locals := 40 } : Room) s m args below meth c T' locs 0 0 ∧ T'.heap = h0 ∧
      ∀ target, Steps p.tables e below (T'.setTop (mkF m 152 #[.val (.int kv), .val (.int mv), .val (.int d0v), .val (.int d1v), .val (.int d2v), .val (.int d3v), .val (.int e0v), .val (.int e1v), .val (.int e2v), .val (.int e3v), .val (.int a0_v), .val (.int a1_v), .val (.int a2_v), .val (.int a3_v), .val (.int b0_v), .val (.int b2_v), .val (.int b1_v), .val (.int b3_v), .val (.int c1_v), .val (.int c2_v)] [])) target → Steps p.tables e below (T0.setTop (mkF m 144 #[.val (.int kv), .val (.int mv), .val (.int d0v), .val (.int d1v), .val (.int d2v), .val (.int d3v), .val (.int e0v), .val (.int e1v), .val (.int e2v), .val (.int e3v), .val (.int a0_v), .val (.int a1_v), .val (.int a2_v), .val (.int a3_v), .val (.int b0_v), .val (.int b2_v), .val (.int b1_v), .val (.int b3_v), .val (.int c1_v), .val (.int c2_v)] [])) target := by
  -- 3. LAWS

  refine ⟨T0, X0, e0, fun target kt => ?_⟩
  -- 4. STEPS
  show Steps p.tables e below (T0.setTop (mkF m 144 #[.val (.int kv), .val (.int mv), .val (.int d0v), .val (.int d1v), .val (.int d2v), .val (.int d3v), .val (.int e0v), .val (.int e1v), .val (.int e2v), .val (.int e3v), .val (.int a0_v), .val (.int a1_v), .val (.int a2_v), .val (.int a3_v), .val (.int b0_v), .val (.int b2_v), .val (.int b1_v), .val (.int b3_v), .val (.int c1_v), .val (.int c2_v)] [])) _
  refine XS.iloadN X0.here hx rfl (hb hby d5_144) rfl ?_
  show Steps p.tables e below (T0.setTop (mkF m 145 #[.val (.int kv), .val (.int mv), .val (.int d0v), .val (.int d1v), .val (.int d2v), .val (.int d3v), .val (.int e0v), .val (.int e1v), .val (.int e2v), .val (.int e3v), .val (.int a0_v), .val (.int a1_v), .val (.int a2_v), .val (.int a3_v), .val (.int b0_v), .val (.int b2_v), .val (.int b1_v), .val (.int b3_v), .val (.int c1_v), .val (.int c2_v)] [(.int kv)])) _
  refine XS.iconst X0.here hx rfl (hb hby d5_145) ?_
  show Steps p.tables e below (T0.setTop (mkF m 146 #[.val (.int kv), .val (.int mv), .val (.int d0v), .val (.int d1v), .val (.int d2v), .val (.int d3v), .val (.int e0v), .val (.int e1v), .val (.int e2v), .val (.int e3v), .val (.int a0_v), .val (.int a1_v), .val (.int a2_v), .val (.int a3_v), .val (.int b0_v), .val (.int b2_v), .val (.int b1_v), .val (.int b3_v), .val (.int c1_v), .val (.int c2_v)] [(.int (1 : Int32)), (.int kv)])) _
  refine XS.icmpYes X0.here hx rfl (pc0 := 146) (pc' := 152) rfl (hb hby d5_146) rfl (feq hc146).2 (by decide) (by decide) ?_
  exact kt
theorem d5_152 : decode method_4_code 152 = .ok (.iload_n 0, 1) := by decide +kernel
theorem d5_153 : decode method_4_code 153 = .ok (.iconst 2, 1) := by decide +kernel
theorem d5_154 : decode method_4_code 154 = .ok (.if_icmp .ne 6, 3) := by decide +kernel
theorem d5_157 : decode method_4_code 157 = .ok (.iload 18, 2) := by decide +kernel
set_option maxRecDepth 65536 in
set_option maxHeartbeats 40000000 in
theorem own_k6a {p : Program} {l : Launch} {e : Env} {s : State} {m : MethodId} {args : Array Value} {below : List Frame} {meth : Method} {c : Code} {T0 : State} {locs : List Loc} {Z : State} {a0 : Array Value} {h0 : Heap} (kv : Int32) (mv : Int32) (d0v : Int32) (d1v : Int32) (d2v : Int32) (d3v : Int32) (e0v : Int32) (e1v : Int32) (e2v : Int32) (e3v : Int32) (a0_v : Int32) (a1_v : Int32) (a2_v : Int32) (a3_v : Int32) (b0_v : Int32) (b2_v : Int32) (b1_v : Int32) (b3_v : Int32) (c1_v : Int32) (c2_v : Int32)
    (X0 : Stand p l e ({ frames := 1, cells := 0, slots := 0, locals := 40 } : Room) s m args below meth c T0 locs 0 0) (hx : p.tables.exec = Jvm.exec) (hZ : Z.Warmed39 s.vm) (hw : ∀ d ∈ tables_1, d.before a0 Z = true) (hby : c.code = method_4_code) (hml : c.maxLocals = 20) (hown : s.vm.findClass "com/example/triangulum/triangulum/search/ShortlistLimitPinLaw" = some m.cls) (e0 : T0.heap = h0) (hc154 : kv = (2 : Int32)) :
    ∃ (T' : State), Stand p l e ({ frames := 1, cells := 0, slots := 0, locals := 40 } : Room) s m args below meth c T' locs 0 0 ∧ T'.heap = h0 ∧
      ∀ target, Steps p.tables e below (T'.setTop (mkF m 159 #[.val (.int kv), .val (.int mv), .val (.int d0v), .val (.int d1v), .val (.int d2v), .val (.int d3v), .val (.int e0v), .val (.int e1v), .val (.int e2v), .val (.int e3v), .val (.int a0_v), .val (.int a1_v), .val (.int a2_v), .val (.int a3_v), .val (.int b0_v), .val (.int b2_v), .val (.int b1_v), .val (.int b3_v), .val (.int c1_v), .val (.int c2_v)] [(.int c1_v)])) target → Steps p.tables e below (T0.setTop (mkF m 152 #[.val (.int kv), .val (.int mv), .val (.int d0v), .val (.int d1v), .val (.int d2v), .val (.int d3v), .val (.int e0v), .val (.int e1v), .val (.int e2v), .val (.int e3v), .val (.int a0_v), .val (.int a1_v), .val (.int a2_v), .val (.int a3_v), .val (.int b0_v), .val (.int b2_v), .val (.int b1_v), .val (.int b3_v), .val (.int c1_v), .val (.int c2_v)] [])) target := by
  -- 3. LAWS

  refine ⟨T0, X0, e0, fun target kt => ?_⟩
  -- 4. STEPS
  show Steps p.tables e below (T0.setTop (mkF m 152 #[.val (.int kv), .val (.int mv), .val (.int d0v), .val (.int d1v), .val (.int d2v), .val (.int d3v), .val (.int e0v), .val (.int e1v), .val (.int e2v), .val (.int e3v), .val (.int a0_v), .val (.int a1_v), .val (.int a2_v), .val (.int a3_v), .val (.int b0_v), .val (.int b2_v), .val (.int b1_v), .val (.int b3_v), .val (.int c1_v), .val (.int c2_v)] [])) _
  refine XS.iloadN X0.here hx rfl (hb hby d5_152) rfl ?_
  show Steps p.tables e below (T0.setTop (mkF m 153 #[.val (.int kv), .val (.int mv), .val (.int d0v), .val (.int d1v), .val (.int d2v), .val (.int d3v), .val (.int e0v), .val (.int e1v), .val (.int e2v), .val (.int e3v), .val (.int a0_v), .val (.int a1_v), .val (.int a2_v), .val (.int a3_v), .val (.int b0_v), .val (.int b2_v), .val (.int b1_v), .val (.int b3_v), .val (.int c1_v), .val (.int c2_v)] [(.int kv)])) _
  refine XS.iconst X0.here hx rfl (hb hby d5_153) ?_
  show Steps p.tables e below (T0.setTop (mkF m 154 #[.val (.int kv), .val (.int mv), .val (.int d0v), .val (.int d1v), .val (.int d2v), .val (.int d3v), .val (.int e0v), .val (.int e1v), .val (.int e2v), .val (.int e3v), .val (.int a0_v), .val (.int a1_v), .val (.int a2_v), .val (.int a3_v), .val (.int b0_v), .val (.int b2_v), .val (.int b1_v), .val (.int b3_v), .val (.int c1_v), .val (.int c2_v)] [(.int (2 : Int32)), (.int kv)])) _
  refine XS.icmpNo X0.here hx rfl (hb hby d5_154) rfl (teq hc154).2 ?_
  show Steps p.tables e below (T0.setTop (mkF m 157 #[.val (.int kv), .val (.int mv), .val (.int d0v), .val (.int d1v), .val (.int d2v), .val (.int d3v), .val (.int e0v), .val (.int e1v), .val (.int e2v), .val (.int e3v), .val (.int a0_v), .val (.int a1_v), .val (.int a2_v), .val (.int a3_v), .val (.int b0_v), .val (.int b2_v), .val (.int b1_v), .val (.int b3_v), .val (.int c1_v), .val (.int c2_v)] [])) _
  refine XS.iload X0.here hx rfl (hb hby d5_157) rfl ?_
  exact kt
set_option maxRecDepth 65536 in
set_option maxHeartbeats 40000000 in
theorem own_k6b {p : Program} {l : Launch} {e : Env} {s : State} {m : MethodId} {args : Array Value} {below : List Frame} {meth : Method} {c : Code} {T0 : State} {locs : List Loc} {Z : State} {a0 : Array Value} {h0 : Heap} (kv : Int32) (mv : Int32) (d0v : Int32) (d1v : Int32) (d2v : Int32) (d3v : Int32) (e0v : Int32) (e1v : Int32) (e2v : Int32) (e3v : Int32) (a0_v : Int32) (a1_v : Int32) (a2_v : Int32) (a3_v : Int32) (b0_v : Int32) (b2_v : Int32) (b1_v : Int32) (b3_v : Int32) (c1_v : Int32) (c2_v : Int32)
    (X0 : Stand p l e ({ frames := 1, cells := 0, slots := 0, locals := 40 } : Room) s m args below meth c T0 locs 0 0) (hx : p.tables.exec = Jvm.exec) (hZ : Z.Warmed39 s.vm) (hw : ∀ d ∈ tables_1, d.before a0 Z = true) (hby : c.code = method_4_code) (hml : c.maxLocals = 20) (hown : s.vm.findClass "com/example/triangulum/triangulum/search/ShortlistLimitPinLaw" = some m.cls) (e0 : T0.heap = h0) (hc154 : ¬ (kv = (2 : Int32))) :
    ∃ (T' : State), Stand p l e ({ frames := 1, cells := 0, slots := 0, locals := 40 } : Room) s m args below meth c T' locs 0 0 ∧ T'.heap = h0 ∧
      ∀ target, Steps p.tables e below (T'.setTop (mkF m 160 #[.val (.int kv), .val (.int mv), .val (.int d0v), .val (.int d1v), .val (.int d2v), .val (.int d3v), .val (.int e0v), .val (.int e1v), .val (.int e2v), .val (.int e3v), .val (.int a0_v), .val (.int a1_v), .val (.int a2_v), .val (.int a3_v), .val (.int b0_v), .val (.int b2_v), .val (.int b1_v), .val (.int b3_v), .val (.int c1_v), .val (.int c2_v)] [])) target → Steps p.tables e below (T0.setTop (mkF m 152 #[.val (.int kv), .val (.int mv), .val (.int d0v), .val (.int d1v), .val (.int d2v), .val (.int d3v), .val (.int e0v), .val (.int e1v), .val (.int e2v), .val (.int e3v), .val (.int a0_v), .val (.int a1_v), .val (.int a2_v), .val (.int a3_v), .val (.int b0_v), .val (.int b2_v), .val (.int b1_v), .val (.int b3_v), .val (.int c1_v), .val (.int c2_v)] [])) target := by
  -- 3. LAWS

  refine ⟨T0, X0, e0, fun target kt => ?_⟩
  -- 4. STEPS
  show Steps p.tables e below (T0.setTop (mkF m 152 #[.val (.int kv), .val (.int mv), .val (.int d0v), .val (.int d1v), .val (.int d2v), .val (.int d3v), .val (.int e0v), .val (.int e1v), .val (.int e2v), .val (.int e3v), .val (.int a0_v), .val (.int a1_v), .val (.int a2_v), .val (.int a3_v), .val (.int b0_v), .val (.int b2_v), .val (.int b1_v), .val (.int b3_v), .val (.int c1_v), .val (.int c2_v)] [])) _
  refine XS.iloadN X0.here hx rfl (hb hby d5_152) rfl ?_
  show Steps p.tables e below (T0.setTop (mkF m 153 #[.val (.int kv), .val (.int mv), .val (.int d0v), .val (.int d1v), .val (.int d2v), .val (.int d3v), .val (.int e0v), .val (.int e1v), .val (.int e2v), .val (.int e3v), .val (.int a0_v), .val (.int a1_v), .val (.int a2_v), .val (.int a3_v), .val (.int b0_v), .val (.int b2_v), .val (.int b1_v), .val (.int b3_v), .val (.int c1_v), .val (.int c2_v)] [(.int kv)])) _
  refine XS.iconst X0.here hx rfl (hb hby d5_153) ?_
  show Steps p.tables e below (T0.setTop (mkF m 154 #[.val (.int kv), .val (.int mv), .val (.int d0v), .val (.int d1v), .val (.int d2v), .val (.int d3v), .val (.int e0v), .val (.int e1v), .val (.int e2v), .val (.int e3v), .val (.int a0_v), .val (.int a1_v), .val (.int a2_v), .val (.int a3_v), .val (.int b0_v), .val (.int b2_v), .val (.int b1_v), .val (.int b3_v), .val (.int c1_v), .val (.int c2_v)] [(.int (2 : Int32)), (.int kv)])) _
  refine XS.icmpYes X0.here hx rfl (pc0 := 154) (pc' := 160) rfl (hb hby d5_154) rfl (feq hc154).2 (by decide) (by decide) ?_
  exact kt
theorem d5_160 : decode method_4_code 160 = .ok (.iload_n 0, 1) := by decide +kernel
theorem d5_161 : decode method_4_code 161 = .ok (.iconst 3, 1) := by decide +kernel
theorem d5_162 : decode method_4_code 162 = .ok (.if_icmp .ne 6, 3) := by decide +kernel
theorem d5_165 : decode method_4_code 165 = .ok (.iload 19, 2) := by decide +kernel
set_option maxRecDepth 65536 in
set_option maxHeartbeats 40000000 in
theorem own_k7a {p : Program} {l : Launch} {e : Env} {s : State} {m : MethodId} {args : Array Value} {below : List Frame} {meth : Method} {c : Code} {T0 : State} {locs : List Loc} {Z : State} {a0 : Array Value} {h0 : Heap} (kv : Int32) (mv : Int32) (d0v : Int32) (d1v : Int32) (d2v : Int32) (d3v : Int32) (e0v : Int32) (e1v : Int32) (e2v : Int32) (e3v : Int32) (a0_v : Int32) (a1_v : Int32) (a2_v : Int32) (a3_v : Int32) (b0_v : Int32) (b2_v : Int32) (b1_v : Int32) (b3_v : Int32) (c1_v : Int32) (c2_v : Int32)
    (X0 : Stand p l e ({ frames := 1, cells := 0, slots := 0, locals := 40 } : Room) s m args below meth c T0 locs 0 0) (hx : p.tables.exec = Jvm.exec) (hZ : Z.Warmed39 s.vm) (hw : ∀ d ∈ tables_1, d.before a0 Z = true) (hby : c.code = method_4_code) (hml : c.maxLocals = 20) (hown : s.vm.findClass "com/example/triangulum/triangulum/search/ShortlistLimitPinLaw" = some m.cls) (e0 : T0.heap = h0) (hc162 : kv = (3 : Int32)) :
    ∃ (T' : State), Stand p l e ({ frames := 1, cells := 0, slots := 0, locals := 40 } : Room) s m args below meth c T' locs 0 0 ∧ T'.heap = h0 ∧
      ∀ target, Steps p.tables e below (T'.setTop (mkF m 167 #[.val (.int kv), .val (.int mv), .val (.int d0v), .val (.int d1v), .val (.int d2v), .val (.int d3v), .val (.int e0v), .val (.int e1v), .val (.int e2v), .val (.int e3v), .val (.int a0_v), .val (.int a1_v), .val (.int a2_v), .val (.int a3_v), .val (.int b0_v), .val (.int b2_v), .val (.int b1_v), .val (.int b3_v), .val (.int c1_v), .val (.int c2_v)] [(.int c2_v)])) target → Steps p.tables e below (T0.setTop (mkF m 160 #[.val (.int kv), .val (.int mv), .val (.int d0v), .val (.int d1v), .val (.int d2v), .val (.int d3v), .val (.int e0v), .val (.int e1v), .val (.int e2v), .val (.int e3v), .val (.int a0_v), .val (.int a1_v), .val (.int a2_v), .val (.int a3_v), .val (.int b0_v), .val (.int b2_v), .val (.int b1_v), .val (.int b3_v), .val (.int c1_v), .val (.int c2_v)] [])) target := by
  -- 3. LAWS

  refine ⟨T0, X0, e0, fun target kt => ?_⟩
  -- 4. STEPS
  show Steps p.tables e below (T0.setTop (mkF m 160 #[.val (.int kv), .val (.int mv), .val (.int d0v), .val (.int d1v), .val (.int d2v), .val (.int d3v), .val (.int e0v), .val (.int e1v), .val (.int e2v), .val (.int e3v), .val (.int a0_v), .val (.int a1_v), .val (.int a2_v), .val (.int a3_v), .val (.int b0_v), .val (.int b2_v), .val (.int b1_v), .val (.int b3_v), .val (.int c1_v), .val (.int c2_v)] [])) _
  refine XS.iloadN X0.here hx rfl (hb hby d5_160) rfl ?_
  show Steps p.tables e below (T0.setTop (mkF m 161 #[.val (.int kv), .val (.int mv), .val (.int d0v), .val (.int d1v), .val (.int d2v), .val (.int d3v), .val (.int e0v), .val (.int e1v), .val (.int e2v), .val (.int e3v), .val (.int a0_v), .val (.int a1_v), .val (.int a2_v), .val (.int a3_v), .val (.int b0_v), .val (.int b2_v), .val (.int b1_v), .val (.int b3_v), .val (.int c1_v), .val (.int c2_v)] [(.int kv)])) _
  refine XS.iconst X0.here hx rfl (hb hby d5_161) ?_
  show Steps p.tables e below (T0.setTop (mkF m 162 #[.val (.int kv), .val (.int mv), .val (.int d0v), .val (.int d1v), .val (.int d2v), .val (.int d3v), .val (.int e0v), .val (.int e1v), .val (.int e2v), .val (.int e3v), .val (.int a0_v), .val (.int a1_v), .val (.int a2_v), .val (.int a3_v), .val (.int b0_v), .val (.int b2_v), .val (.int b1_v), .val (.int b3_v), .val (.int c1_v), .val (.int c2_v)] [(.int (3 : Int32)), (.int kv)])) _
  refine XS.icmpNo X0.here hx rfl (hb hby d5_162) rfl (teq hc162).2 ?_
  show Steps p.tables e below (T0.setTop (mkF m 165 #[.val (.int kv), .val (.int mv), .val (.int d0v), .val (.int d1v), .val (.int d2v), .val (.int d3v), .val (.int e0v), .val (.int e1v), .val (.int e2v), .val (.int e3v), .val (.int a0_v), .val (.int a1_v), .val (.int a2_v), .val (.int a3_v), .val (.int b0_v), .val (.int b2_v), .val (.int b1_v), .val (.int b3_v), .val (.int c1_v), .val (.int c2_v)] [])) _
  refine XS.iload X0.here hx rfl (hb hby d5_165) rfl ?_
  exact kt
set_option maxRecDepth 65536 in
set_option maxHeartbeats 40000000 in
theorem own_k7b {p : Program} {l : Launch} {e : Env} {s : State} {m : MethodId} {args : Array Value} {below : List Frame} {meth : Method} {c : Code} {T0 : State} {locs : List Loc} {Z : State} {a0 : Array Value} {h0 : Heap} (kv : Int32) (mv : Int32) (d0v : Int32) (d1v : Int32) (d2v : Int32) (d3v : Int32) (e0v : Int32) (e1v : Int32) (e2v : Int32) (e3v : Int32) (a0_v : Int32) (a1_v : Int32) (a2_v : Int32) (a3_v : Int32) (b0_v : Int32) (b2_v : Int32) (b1_v : Int32) (b3_v : Int32) (c1_v : Int32) (c2_v : Int32)
    (X0 : Stand p l e ({ frames := 1, cells := 0, slots := 0, locals := 40 } : Room) s m args below meth c T0 locs 0 0) (hx : p.tables.exec = Jvm.exec) (hZ : Z.Warmed39 s.vm) (hw : ∀ d ∈ tables_1, d.before a0 Z = true) (hby : c.code = method_4_code) (hml : c.maxLocals = 20) (hown : s.vm.findClass "com/example/triangulum/triangulum/search/ShortlistLimitPinLaw" = some m.cls) (e0 : T0.heap = h0) (hc162 : ¬ (kv = (3 : Int32))) :
    ∃ (T' : State), Stand p l e ({ frames := 1, cells := 0, slots := 0, locals := 40 } : Room) s m args below meth c T' locs 0 0 ∧ T'.heap = h0 ∧
      ∀ target, Steps p.tables e below (T'.setTop (mkF m 168 #[.val (.int kv), .val (.int mv), .val (.int d0v), .val (.int d1v), .val (.int d2v), .val (.int d3v), .val (.int e0v), .val (.int e1v), .val (.int e2v), .val (.int e3v), .val (.int a0_v), .val (.int a1_v), .val (.int a2_v), .val (.int a3_v), .val (.int b0_v), .val (.int b2_v), .val (.int b1_v), .val (.int b3_v), .val (.int c1_v), .val (.int c2_v)] [])) target → Steps p.tables e below (T0.setTop (mkF m 160 #[.val (.int kv), .val (.int mv), .val (.int d0v), .val (.int d1v), .val (.int d2v), .val (.int d3v), .val (.int e0v), .val (.int e1v), .val (.int e2v), .val (.int e3v), .val (.int a0_v), .val (.int a1_v), .val (.int a2_v), .val (.int a3_v), .val (.int b0_v), .val (.int b2_v), .val (.int b1_v), .val (.int b3_v), .val (.int c1_v), .val (.int c2_v)] [])) target := by
  -- 3. LAWS

  refine ⟨T0, X0, e0, fun target kt => ?_⟩
  -- 4. STEPS
  show Steps p.tables e below (T0.setTop (mkF m 160 #[.val (.int kv), .val (.int mv), .val (.int d0v), .val (.int d1v), .val (.int d2v), .val (.int d3v), .val (.int e0v), .val (.int e1v), .val (.int e2v), .val (.int e3v), .val (.int a0_v), .val (.int a1_v), .val (.int a2_v), .val (.int a3_v), .val (.int b0_v), .val (.int b2_v), .val (.int b1_v), .val (.int b3_v), .val (.int c1_v), .val (.int c2_v)] [])) _
  refine XS.iloadN X0.here hx rfl (hb hby d5_160) rfl ?_
  show Steps p.tables e below (T0.setTop (mkF m 161 #[.val (.int kv), .val (.int mv), .val (.int d0v), .val (.int d1v), .val (.int d2v), .val (.int d3v), .val (.int e0v), .val (.int e1v), .val (.int e2v), .val (.int e3v), .val (.int a0_v), .val (.int a1_v), .val (.int a2_v), .val (.int a3_v), .val (.int b0_v), .val (.int b2_v), .val (.int b1_v), .val (.int b3_v), .val (.int c1_v), .val (.int c2_v)] [(.int kv)])) _
  refine XS.iconst X0.here hx rfl (hb hby d5_161) ?_
  show Steps p.tables e below (T0.setTop (mkF m 162 #[.val (.int kv), .val (.int mv), .val (.int d0v), .val (.int d1v), .val (.int d2v), .val (.int d3v), .val (.int e0v), .val (.int e1v), .val (.int e2v), .val (.int e3v), .val (.int a0_v), .val (.int a1_v), .val (.int a2_v), .val (.int a3_v), .val (.int b0_v), .val (.int b2_v), .val (.int b1_v), .val (.int b3_v), .val (.int c1_v), .val (.int c2_v)] [(.int (3 : Int32)), (.int kv)])) _
  refine XS.icmpYes X0.here hx rfl (pc0 := 162) (pc' := 168) rfl (hb hby d5_162) rfl (feq hc162).2 (by decide) (by decide) ?_
  exact kt
theorem d5_168 : decode method_4_code 168 = .ok (.iload 17, 2) := by decide +kernel
set_option maxRecDepth 65536 in
set_option maxHeartbeats 40000000 in
theorem own_k8 {p : Program} {l : Launch} {e : Env} {s : State} {m : MethodId} {args : Array Value} {below : List Frame} {meth : Method} {c : Code} {T0 : State} {locs : List Loc} {Z : State} {a0 : Array Value} {h0 : Heap} (kv : Int32) (mv : Int32) (d0v : Int32) (d1v : Int32) (d2v : Int32) (d3v : Int32) (e0v : Int32) (e1v : Int32) (e2v : Int32) (e3v : Int32) (a0_v : Int32) (a1_v : Int32) (a2_v : Int32) (a3_v : Int32) (b0_v : Int32) (b2_v : Int32) (b1_v : Int32) (b3_v : Int32) (c1_v : Int32) (c2_v : Int32)
    (X0 : Stand p l e ({ frames := 1, cells := 0, slots := 0, locals := 40 } : Room) s m args below meth c T0 locs 0 0) (hx : p.tables.exec = Jvm.exec) (hZ : Z.Warmed39 s.vm) (hw : ∀ d ∈ tables_1, d.before a0 Z = true) (hby : c.code = method_4_code) (hml : c.maxLocals = 20) (hown : s.vm.findClass "com/example/triangulum/triangulum/search/ShortlistLimitPinLaw" = some m.cls) (e0 : T0.heap = h0) :
    ∃ (T' : State), Stand p l e ({ frames := 1, cells := 0, slots := 0, locals := 40 } : Room) s m args below meth c T' locs 0 0 ∧ T'.heap = h0 ∧
      ∀ target, Steps p.tables e below (T'.setTop (mkF m 170 #[.val (.int kv), .val (.int mv), .val (.int d0v), .val (.int d1v), .val (.int d2v), .val (.int d3v), .val (.int e0v), .val (.int e1v), .val (.int e2v), .val (.int e3v), .val (.int a0_v), .val (.int a1_v), .val (.int a2_v), .val (.int a3_v), .val (.int b0_v), .val (.int b2_v), .val (.int b1_v), .val (.int b3_v), .val (.int c1_v), .val (.int c2_v)] [(.int b3_v)])) target → Steps p.tables e below (T0.setTop (mkF m 168 #[.val (.int kv), .val (.int mv), .val (.int d0v), .val (.int d1v), .val (.int d2v), .val (.int d3v), .val (.int e0v), .val (.int e1v), .val (.int e2v), .val (.int e3v), .val (.int a0_v), .val (.int a1_v), .val (.int a2_v), .val (.int a3_v), .val (.int b0_v), .val (.int b2_v), .val (.int b1_v), .val (.int b3_v), .val (.int c1_v), .val (.int c2_v)] [])) target := by
  -- 3. LAWS

  refine ⟨T0, X0, e0, fun target kt => ?_⟩
  -- 4. STEPS
  show Steps p.tables e below (T0.setTop (mkF m 168 #[.val (.int kv), .val (.int mv), .val (.int d0v), .val (.int d1v), .val (.int d2v), .val (.int d3v), .val (.int e0v), .val (.int e1v), .val (.int e2v), .val (.int e3v), .val (.int a0_v), .val (.int a1_v), .val (.int a2_v), .val (.int a3_v), .val (.int b0_v), .val (.int b2_v), .val (.int b1_v), .val (.int b3_v), .val (.int c1_v), .val (.int c2_v)] [])) _
  refine XS.iload X0.here hx rfl (hb hby d5_168) rfl ?_
  exact kt
theorem d5_151 : decode method_4_code 151 = .ok (.ireturn, 1) := by decide +kernel
theorem d5_159 : decode method_4_code 159 = .ok (.ireturn, 1) := by decide +kernel
theorem d5_167 : decode method_4_code 167 = .ok (.ireturn, 1) := by decide +kernel
theorem d5_170 : decode method_4_code 170 = .ok (.ireturn, 1) := by decide +kernel
set_option maxRecDepth 65536 in
set_option maxHeartbeats 40000000 in
theorem rm5 (l : Launch) (Z : State) (a0 : Array Value) (hw : ∀ d ∈ tables_1, d.before a0 Z = true) (ws : List Jvm.Cond) (p1 : Int32) (p2 : Int32) (p3 : Int32) (p4 : Int32) (p5 : Int32) (p6 : Int32) (h0 : Heap) (n0 : Nat) (Z0 : n0 ≤ h0.size) :
    MetFree l (⟨"com/example/triangulum/triangulum/search/ShortlistLimitPinLaw", "kth", "(IIIIII)I"⟩ : MethodName) (head1 (Jvm.Cond.code (⟨"com/example/triangulum/triangulum/search/ShortlistLimitPinLaw", "kth", "(IIIIII)I"⟩ : MethodName) method_4_code 20 (some .int) :: ws) ({ frames := 1, cells := 0, slots := 0, locals := 40 } : Room)) (fun a U => a = #[(.int p1), (.int p2), (.int p3), (.int p4), (.int p5), (.int p6)] ∧ Z.Warmed39 U.vm ∧ U.heap = h0) (fun _ _ _ _ _ => True) (fun _ U o U' => ∃ v L, o = .returned v ∧ (v = some (.int (own_kth p1 p2 p3 p4 p5 p6)) ∧ L = [] ∧ U'.heap = h0) ∧ FrameEnd U o U' L ({ frames := 1, cells := 0, slots := 0, locals := 40 } : Room).cells ({ frames := 1, cells := 0, slots := 0, locals := 40 } : Room).slots) := by
  by_cases h2 : p2 < p1
  · exact rm5_f l Z a0 hw ws p1 p2 p3 p4 p5 p6 h0 n0 Z0 h2
  refine MetFree.of_bodySF (plainFor_of_name pn_5) hisR ?_
  intro p e s m args below meth c s₁ Bd hml0 hP hK
  obtain ⟨rfl, hZ, hh⟩ := hP
  have hx := Bd.exec
  have hby := Bd.bytes
  have hml : c.maxLocals = 20 := hml0
  have hown : s.vm.findClass "com/example/triangulum/triangulum/search/ShortlistLimitPinLaw" = some m.cls := findClass_of_methodNamed Bd.named
  have X0 : Stand p l e ({ frames := 1, cells := 0, slots := 0, locals := 40 } : Room) s m #[(.int p1), (.int p2), (.int p3), (.int p4), (.int p5), (.int p6)] below meth c s₁ [] 0 0 := Stand.of_body Bd
  have e0 : s₁.heap = h0 := by rw [← hh, Bd.state]; rfl
  have pre0 : ∀ t, Steps p.tables e below (s₁.setTop (mkF m 0 #[.val (.int p1), .val (.int p2), .val (.int p3), .val (.int p4), .val (.int p5), .val (.int p6), .unset, .unset, .unset, .unset, .unset, .unset, .unset, .unset, .unset, .unset, .unset, .unset, .unset, .unset] [])) t → Steps p.tables e below (s₁.setTop (entryFrame m #[(.int p1), (.int p2), (.int p3), (.int p4), (.int p5), (.int p6)] 20)) t := fun t k => castTop (ef_5 m p1 p2 p3 p4 p5 p6) k
  obtain ⟨T1, X1, e1, st1⟩ := own_k0 p1 p2 p3 p4 p5 p6 X0 hx hZ hw hby hml hown e0 h2
  obtain ⟨T2, X2, e2, st2⟩ : ∃ T', Stand p l e ({ frames := 1, cells := 0, slots := 0, locals := 40 } : Room) s m #[(.int p1), (.int p2), (.int p3), (.int p4), (.int p5), (.int p6)] below meth c T' [] 0 0 ∧ T'.heap = h0 ∧ ∀ target, Steps p.tables e below (T'.setTop (mkF m 24 #[.val (.int p1), .val (.int p2), .val (.int p3), .val (.int p4), .val (.int p5), .val (.int p6), .val (.int p3), .val (.int (own_e 1 p2 p4)), .unset, .unset, .unset, .unset, .unset, .unset, .unset, .unset, .unset, .unset, .unset, .unset] [])) target → Steps p.tables e below (T1.setTop (mkF m 7 #[.val (.int p1), .val (.int p2), .val (.int p3), .val (.int p4), .val (.int p5), .val (.int p6), .unset, .unset, .unset, .unset, .unset, .unset, .unset, .unset, .unset, .unset, .unset, .unset, .unset, .unset] [])) target := by
    by_cases q : (1 : Int32) < p2
    · rw [show own_e 1 p2 p4 = p4 from if_pos q]
      exact own_k1f p1 p2 p3 p4 p5 p6 X1 hx hZ hw hby hml hown e1 q
    · rw [show own_e 1 p2 p4 = (1000 : Int32) from if_neg q]
      exact own_k1t p1 p2 p3 p4 p5 p6 X1 hx hZ hw hby hml hown e1 q
  obtain ⟨T3, X3, e3, st3⟩ : ∃ T', Stand p l e ({ frames := 1, cells := 0, slots := 0, locals := 40 } : Room) s m #[(.int p1), (.int p2), (.int p3), (.int p4), (.int p5), (.int p6)] below meth c T' [] 0 0 ∧ T'.heap = h0 ∧ ∀ target, Steps p.tables e below (T'.setTop (mkF m 39 #[.val (.int p1), .val (.int p2), .val (.int p3), .val (.int p4), .val (.int p5), .val (.int p6), .val (.int p3), .val (.int (own_e 1 p2 p4)), .val (.int (own_e 2 p2 p5)), .unset, .unset, .unset, .unset, .unset, .unset, .unset, .unset, .unset, .unset, .unset] [])) target → Steps p.tables e below (T2.setTop (mkF m 24 #[.val (.int p1), .val (.int p2), .val (.int p3), .val (.int p4), .val (.int p5), .val (.int p6), .val (.int p3), .val (.int (own_e 1 p2 p4)), .unset, .unset, .unset, .unset, .unset, .unset, .unset, .unset, .unset, .unset, .unset, .unset] [])) target := by
    by_cases q : (2 : Int32) < p2
    · rw [show own_e 2 p2 p5 = p5 from if_pos q]
      exact own_k2f p1 p2 p3 p4 p5 p6 p3 (own_e 1 p2 p4) X2 hx hZ hw hby hml hown e2 q
    · rw [show own_e 2 p2 p5 = (1000 : Int32) from if_neg q]
      exact own_k2t p1 p2 p3 p4 p5 p6 p3 (own_e 1 p2 p4) X2 hx hZ hw hby hml hown e2 q
  obtain ⟨T4, X4, e4, st4⟩ : ∃ T', Stand p l e ({ frames := 1, cells := 0, slots := 0, locals := 40 } : Room) s m #[(.int p1), (.int p2), (.int p3), (.int p4), (.int p5), (.int p6)] below meth c T' [] 0 0 ∧ T'.heap = h0 ∧ ∀ target, Steps p.tables e below (T'.setTop (mkF m 54 #[.val (.int p1), .val (.int p2), .val (.int p3), .val (.int p4), .val (.int p5), .val (.int p6), .val (.int p3), .val (.int (own_e 1 p2 p4)), .val (.int (own_e 2 p2 p5)), .val (.int (own_e 3 p2 p6)), .unset, .unset, .unset, .unset, .unset, .unset, .unset, .unset, .unset, .unset] [])) target → Steps p.tables e below (T3.setTop (mkF m 39 #[.val (.int p1), .val (.int p2), .val (.int p3), .val (.int p4), .val (.int p5), .val (.int p6), .val (.int p3), .val (.int (own_e 1 p2 p4)), .val (.int (own_e 2 p2 p5)), .unset, .unset, .unset, .unset, .unset, .unset, .unset, .unset, .unset, .unset, .unset] [])) target := by
    by_cases q : (3 : Int32) < p2
    · rw [show own_e 3 p2 p6 = p6 from if_pos q]
      exact own_k3f p1 p2 p3 p4 p5 p6 p3 (own_e 1 p2 p4) (own_e 2 p2 p5) X3 hx hZ hw hby hml hown e3 q
    · rw [show own_e 3 p2 p6 = (1000 : Int32) from if_neg q]
      exact own_k3t p1 p2 p3 p4 p5 p6 p3 (own_e 1 p2 p4) (own_e 2 p2 p5) X3 hx hZ hw hby hml hown e3 q
  obtain ⟨T5, X5, e5, st5⟩ := own_k4 p1 p2 p3 p4 p5 p6 p3 (own_e 1 p2 p4) (own_e 2 p2 p5) (own_e 3 p2 p6) X4 hx hZ hw hby hml hown e4
  by_cases g1 : p1 = (1 : Int32)
  · obtain ⟨T6, X6, e6, st6⟩ := own_k5a p1 p2 p3 p4 p5 p6 p3 (own_e 1 p2 p4) (own_e 2 p2 p5) (own_e 3 p2 p6) (own_min p3 (own_e 1 p2 p4)) (own_max p3 (own_e 1 p2 p4)) (own_min (own_e 2 p2 p5) (own_e 3 p2 p6)) (own_max (own_e 2 p2 p5) (own_e 3 p2 p6)) (own_min (own_min p3 (own_e 1 p2 p4)) (own_min (own_e 2 p2 p5) (own_e 3 p2 p6))) (own_max (own_min p3 (own_e 1 p2 p4)) (own_min (own_e 2 p2 p5) (own_e 3 p2 p6))) (own_min (own_max p3 (own_e 1 p2 p4)) (own_max (own_e 2 p2 p5) (own_e 3 p2 p6))) (own_max (own_max p3 (own_e 1 p2 p4)) (own_max (own_e 2 p2 p5) (own_e 3 p2 p6))) (own_min (own_min (own_max p3 (own_e 1 p2 p4)) (own_max (own_e 2 p2 p5) (own_e 3 p2 p6))) (own_max (own_min p3 (own_e 1 p2 p4)) (own_min (own_e 2 p2 p5) (own_e 3 p2 p6)))) (own_max (own_min (own_max p3 (own_e 1 p2 p4)) (own_max (own_e 2 p2 p5) (own_e 3 p2 p6))) (own_max (own_min p3 (own_e 1 p2 p4)) (own_min (own_e 2 p2 p5) (own_e 3 p2 p6)))) X5 hx hZ hw hby hml hown e5 g1
    obtain ⟨fs, hr, hrun, hended, hW, hsame⟩ := X6.leave (v := some (.int (own_min (own_min p3 (own_e 1 p2 p4)) (own_min (own_e 2 p2 p5) (own_e 3 p2 p6))))) (fun h => by rw [Bd.returns] at h; cases h)
    refine ⟨_, _, pre0 _ ?_, hrun, hended, _, _, rfl, ⟨?_, rfl, e6⟩, ⟨_, rfl⟩, hW, hsame.mono (by decide) (by decide)⟩
    · exact st1 _ (st2 _ (st3 _ (st4 _ (st5 _ (st6 _ ((retI X6 hx Bd.returns (hb hby d5_151) hr)))))))
    · rw [own_kth, if_neg h2, own_sel, if_pos g1]
  obtain ⟨T6, X6, e6, st6⟩ := own_k5b p1 p2 p3 p4 p5 p6 p3 (own_e 1 p2 p4) (own_e 2 p2 p5) (own_e 3 p2 p6) (own_min p3 (own_e 1 p2 p4)) (own_max p3 (own_e 1 p2 p4)) (own_min (own_e 2 p2 p5) (own_e 3 p2 p6)) (own_max (own_e 2 p2 p5) (own_e 3 p2 p6)) (own_min (own_min p3 (own_e 1 p2 p4)) (own_min (own_e 2 p2 p5) (own_e 3 p2 p6))) (own_max (own_min p3 (own_e 1 p2 p4)) (own_min (own_e 2 p2 p5) (own_e 3 p2 p6))) (own_min (own_max p3 (own_e 1 p2 p4)) (own_max (own_e 2 p2 p5) (own_e 3 p2 p6))) (own_max (own_max p3 (own_e 1 p2 p4)) (own_max (own_e 2 p2 p5) (own_e 3 p2 p6))) (own_min (own_min (own_max p3 (own_e 1 p2 p4)) (own_max (own_e 2 p2 p5) (own_e 3 p2 p6))) (own_max (own_min p3 (own_e 1 p2 p4)) (own_min (own_e 2 p2 p5) (own_e 3 p2 p6)))) (own_max (own_min (own_max p3 (own_e 1 p2 p4)) (own_max (own_e 2 p2 p5) (own_e 3 p2 p6))) (own_max (own_min p3 (own_e 1 p2 p4)) (own_min (own_e 2 p2 p5) (own_e 3 p2 p6)))) X5 hx hZ hw hby hml hown e5 g1
  by_cases g2 : p1 = (2 : Int32)
  · obtain ⟨T7, X7, e7, st7⟩ := own_k6a p1 p2 p3 p4 p5 p6 p3 (own_e 1 p2 p4) (own_e 2 p2 p5) (own_e 3 p2 p6) (own_min p3 (own_e 1 p2 p4)) (own_max p3 (own_e 1 p2 p4)) (own_min (own_e 2 p2 p5) (own_e 3 p2 p6)) (own_max (own_e 2 p2 p5) (own_e 3 p2 p6)) (own_min (own_min p3 (own_e 1 p2 p4)) (own_min (own_e 2 p2 p5) (own_e 3 p2 p6))) (own_max (own_min p3 (own_e 1 p2 p4)) (own_min (own_e 2 p2 p5) (own_e 3 p2 p6))) (own_min (own_max p3 (own_e 1 p2 p4)) (own_max (own_e 2 p2 p5) (own_e 3 p2 p6))) (own_max (own_max p3 (own_e 1 p2 p4)) (own_max (own_e 2 p2 p5) (own_e 3 p2 p6))) (own_min (own_min (own_max p3 (own_e 1 p2 p4)) (own_max (own_e 2 p2 p5) (own_e 3 p2 p6))) (own_max (own_min p3 (own_e 1 p2 p4)) (own_min (own_e 2 p2 p5) (own_e 3 p2 p6)))) (own_max (own_min (own_max p3 (own_e 1 p2 p4)) (own_max (own_e 2 p2 p5) (own_e 3 p2 p6))) (own_max (own_min p3 (own_e 1 p2 p4)) (own_min (own_e 2 p2 p5) (own_e 3 p2 p6)))) X6 hx hZ hw hby hml hown e6 g2
    obtain ⟨fs, hr, hrun, hended, hW, hsame⟩ := X7.leave (v := some (.int (own_min (own_min (own_max p3 (own_e 1 p2 p4)) (own_max (own_e 2 p2 p5) (own_e 3 p2 p6))) (own_max (own_min p3 (own_e 1 p2 p4)) (own_min (own_e 2 p2 p5) (own_e 3 p2 p6)))))) (fun h => by rw [Bd.returns] at h; cases h)
    refine ⟨_, _, pre0 _ ?_, hrun, hended, _, _, rfl, ⟨?_, rfl, e7⟩, ⟨_, rfl⟩, hW, hsame.mono (by decide) (by decide)⟩
    · exact st1 _ (st2 _ (st3 _ (st4 _ (st5 _ (st6 _ (st7 _ ((retI X7 hx Bd.returns (hb hby d5_159) hr))))))))
    · rw [own_kth, if_neg h2, own_sel, if_neg g1, if_pos g2]
  obtain ⟨T7, X7, e7, st7⟩ := own_k6b p1 p2 p3 p4 p5 p6 p3 (own_e 1 p2 p4) (own_e 2 p2 p5) (own_e 3 p2 p6) (own_min p3 (own_e 1 p2 p4)) (own_max p3 (own_e 1 p2 p4)) (own_min (own_e 2 p2 p5) (own_e 3 p2 p6)) (own_max (own_e 2 p2 p5) (own_e 3 p2 p6)) (own_min (own_min p3 (own_e 1 p2 p4)) (own_min (own_e 2 p2 p5) (own_e 3 p2 p6))) (own_max (own_min p3 (own_e 1 p2 p4)) (own_min (own_e 2 p2 p5) (own_e 3 p2 p6))) (own_min (own_max p3 (own_e 1 p2 p4)) (own_max (own_e 2 p2 p5) (own_e 3 p2 p6))) (own_max (own_max p3 (own_e 1 p2 p4)) (own_max (own_e 2 p2 p5) (own_e 3 p2 p6))) (own_min (own_min (own_max p3 (own_e 1 p2 p4)) (own_max (own_e 2 p2 p5) (own_e 3 p2 p6))) (own_max (own_min p3 (own_e 1 p2 p4)) (own_min (own_e 2 p2 p5) (own_e 3 p2 p6)))) (own_max (own_min (own_max p3 (own_e 1 p2 p4)) (own_max (own_e 2 p2 p5) (own_e 3 p2 p6))) (own_max (own_min p3 (own_e 1 p2 p4)) (own_min (own_e 2 p2 p5) (own_e 3 p2 p6)))) X6 hx hZ hw hby hml hown e6 g2
  by_cases g3 : p1 = (3 : Int32)
  · obtain ⟨T8, X8, e8, st8⟩ := own_k7a p1 p2 p3 p4 p5 p6 p3 (own_e 1 p2 p4) (own_e 2 p2 p5) (own_e 3 p2 p6) (own_min p3 (own_e 1 p2 p4)) (own_max p3 (own_e 1 p2 p4)) (own_min (own_e 2 p2 p5) (own_e 3 p2 p6)) (own_max (own_e 2 p2 p5) (own_e 3 p2 p6)) (own_min (own_min p3 (own_e 1 p2 p4)) (own_min (own_e 2 p2 p5) (own_e 3 p2 p6))) (own_max (own_min p3 (own_e 1 p2 p4)) (own_min (own_e 2 p2 p5) (own_e 3 p2 p6))) (own_min (own_max p3 (own_e 1 p2 p4)) (own_max (own_e 2 p2 p5) (own_e 3 p2 p6))) (own_max (own_max p3 (own_e 1 p2 p4)) (own_max (own_e 2 p2 p5) (own_e 3 p2 p6))) (own_min (own_min (own_max p3 (own_e 1 p2 p4)) (own_max (own_e 2 p2 p5) (own_e 3 p2 p6))) (own_max (own_min p3 (own_e 1 p2 p4)) (own_min (own_e 2 p2 p5) (own_e 3 p2 p6)))) (own_max (own_min (own_max p3 (own_e 1 p2 p4)) (own_max (own_e 2 p2 p5) (own_e 3 p2 p6))) (own_max (own_min p3 (own_e 1 p2 p4)) (own_min (own_e 2 p2 p5) (own_e 3 p2 p6)))) X7 hx hZ hw hby hml hown e7 g3
    obtain ⟨fs, hr, hrun, hended, hW, hsame⟩ := X8.leave (v := some (.int (own_max (own_min (own_max p3 (own_e 1 p2 p4)) (own_max (own_e 2 p2 p5) (own_e 3 p2 p6))) (own_max (own_min p3 (own_e 1 p2 p4)) (own_min (own_e 2 p2 p5) (own_e 3 p2 p6)))))) (fun h => by rw [Bd.returns] at h; cases h)
    refine ⟨_, _, pre0 _ ?_, hrun, hended, _, _, rfl, ⟨?_, rfl, e8⟩, ⟨_, rfl⟩, hW, hsame.mono (by decide) (by decide)⟩
    · exact st1 _ (st2 _ (st3 _ (st4 _ (st5 _ (st6 _ (st7 _ (st8 _ ((retI X8 hx Bd.returns (hb hby d5_167) hr)))))))))
    · rw [own_kth, if_neg h2, own_sel, if_neg g1, if_neg g2, if_pos g3]
  obtain ⟨T8, X8, e8, st8⟩ := own_k7b p1 p2 p3 p4 p5 p6 p3 (own_e 1 p2 p4) (own_e 2 p2 p5) (own_e 3 p2 p6) (own_min p3 (own_e 1 p2 p4)) (own_max p3 (own_e 1 p2 p4)) (own_min (own_e 2 p2 p5) (own_e 3 p2 p6)) (own_max (own_e 2 p2 p5) (own_e 3 p2 p6)) (own_min (own_min p3 (own_e 1 p2 p4)) (own_min (own_e 2 p2 p5) (own_e 3 p2 p6))) (own_max (own_min p3 (own_e 1 p2 p4)) (own_min (own_e 2 p2 p5) (own_e 3 p2 p6))) (own_min (own_max p3 (own_e 1 p2 p4)) (own_max (own_e 2 p2 p5) (own_e 3 p2 p6))) (own_max (own_max p3 (own_e 1 p2 p4)) (own_max (own_e 2 p2 p5) (own_e 3 p2 p6))) (own_min (own_min (own_max p3 (own_e 1 p2 p4)) (own_max (own_e 2 p2 p5) (own_e 3 p2 p6))) (own_max (own_min p3 (own_e 1 p2 p4)) (own_min (own_e 2 p2 p5) (own_e 3 p2 p6)))) (own_max (own_min (own_max p3 (own_e 1 p2 p4)) (own_max (own_e 2 p2 p5) (own_e 3 p2 p6))) (own_max (own_min p3 (own_e 1 p2 p4)) (own_min (own_e 2 p2 p5) (own_e 3 p2 p6)))) X7 hx hZ hw hby hml hown e7 g3
  obtain ⟨T9, X9, e9, st9⟩ := own_k8 p1 p2 p3 p4 p5 p6 p3 (own_e 1 p2 p4) (own_e 2 p2 p5) (own_e 3 p2 p6) (own_min p3 (own_e 1 p2 p4)) (own_max p3 (own_e 1 p2 p4)) (own_min (own_e 2 p2 p5) (own_e 3 p2 p6)) (own_max (own_e 2 p2 p5) (own_e 3 p2 p6)) (own_min (own_min p3 (own_e 1 p2 p4)) (own_min (own_e 2 p2 p5) (own_e 3 p2 p6))) (own_max (own_min p3 (own_e 1 p2 p4)) (own_min (own_e 2 p2 p5) (own_e 3 p2 p6))) (own_min (own_max p3 (own_e 1 p2 p4)) (own_max (own_e 2 p2 p5) (own_e 3 p2 p6))) (own_max (own_max p3 (own_e 1 p2 p4)) (own_max (own_e 2 p2 p5) (own_e 3 p2 p6))) (own_min (own_min (own_max p3 (own_e 1 p2 p4)) (own_max (own_e 2 p2 p5) (own_e 3 p2 p6))) (own_max (own_min p3 (own_e 1 p2 p4)) (own_min (own_e 2 p2 p5) (own_e 3 p2 p6)))) (own_max (own_min (own_max p3 (own_e 1 p2 p4)) (own_max (own_e 2 p2 p5) (own_e 3 p2 p6))) (own_max (own_min p3 (own_e 1 p2 p4)) (own_min (own_e 2 p2 p5) (own_e 3 p2 p6)))) X8 hx hZ hw hby hml hown e8
  obtain ⟨fs, hr, hrun, hended, hW, hsame⟩ := X9.leave (v := some (.int (own_max (own_max p3 (own_e 1 p2 p4)) (own_max (own_e 2 p2 p5) (own_e 3 p2 p6))))) (fun h => by rw [Bd.returns] at h; cases h)
  refine ⟨_, _, pre0 _ ?_, hrun, hended, _, _, rfl, ⟨?_, rfl, e9⟩, ⟨_, rfl⟩, hW, hsame.mono (by decide) (by decide)⟩
  · exact st1 _ (st2 _ (st3 _ (st4 _ (st5 _ (st6 _ (st7 _ (st8 _ (st9 _ ((retI X9 hx Bd.returns (hb hby d5_170) hr))))))))))
  · rw [own_kth, if_neg h2, own_sel, if_neg g1, if_neg g2, if_neg g3]
theorem pn_7 : plainName "com/example/triangulum/triangulum/search/Shortlist" = true := by first | (simp [plainName, overriddenIn]; done) | decide +kernel
theorem ef_7 (m : MethodId) (x0 : Addr) (x1 : Int32) (x2 : UInt64) : entryFrame m #[(.ref x0), (.int x1), (.double x2)] 6 = mkF m 0 #[.val (.ref x0), .val (.int x1), .val (.double x2), .second, .unset, .unset] [] := by first | (simp [entryFrame, mkF, argsToLocals, Value.category]; done) | rfl
theorem d7_291 : decode prog_24_method_2_code 291 = .ok (.return_, 1) := by decide +kernel
theorem own_le1 {n n' z : Int32} (h : n'.toInt ≤ n.toInt + 1) (hz : n < z) : ¬ z < n' := by
  rw [Int32.lt_iff_toInt_lt] at *; omega
theorem own_le2 {n n' z : Int32} (h : n'.toInt < n.toInt) (hz : ¬ z < n) : n' < z := by
  rw [Int32.lt_iff_toInt_lt] at *; omega
set_option maxRecDepth 65536 in
set_option maxHeartbeats 40000000 in
theorem rm7_r0 (l : Launch) (Z : State) (a0 : Array Value) (hw : ∀ d ∈ tables_1, d.before a0 Z = true) (ws : List Jvm.Cond) (a1 : Addr) (p2 x3 : Int32) (ad ai : Addr) (k z : Int32) (h0 : Heap) (n0 : Nat) (Z0 : n0 ≤ h0.size) (S0 : own_S Z n0 h0 a1 ad ai k (0 : Int32) z (own_L 0 0 0 0) (own_L 0 0 0 0)) (hk : (0 : Int32) < k) (hz1 : ¬ z < (0 : Int32)) (hz6 : ¬ (6 : Int32) < z) :
    MetFree l (⟨"com/example/triangulum/triangulum/search/Shortlist", "offer", "(ID)V"⟩ : MethodName) (head1 (Jvm.Cond.code (⟨"com/example/triangulum/triangulum/search/Shortlist", "offer", "(ID)V"⟩ : MethodName) prog_24_method_2_code 6 none :: ws) ({ frames := 5, cells := 2, slots := 12, locals := 160 } : Room)) (fun a U => a = #[(.ref a1), (.int p2), (.double (FP.i2d x3))] ∧ Z.Warmed39 U.vm ∧ U.heap = h0) (fun _ _ _ _ _ => True) (fun _ U o U' => ∃ v L, o = .returned v ∧ (v = none ∧ Fr n0 L ∧ ∃ ad' ai' z' XL' IL', own_S Z n0 U'.heap a1 ad' ai' k (1 : Int32) z' XL' IL' ∧ ¬ z' < (1 : Int32) ∧ ¬ (6 : Int32) < z' ∧ own_r0 x3 p2 XL' IL') ∧ FrameEnd U o U' L ({ frames := 5, cells := 2, slots := 12, locals := 160 } : Room).cells ({ frames := 5, cells := 2, slots := 12, locals := 160 } : Room).slots) := by
  refine MetFree.of_bodySF (plainFor_of_name pn_7) hisR ?_
  intro p e s m args below meth c s₁ Bd hml0 hP hK
  obtain ⟨rfl, hZ, hh⟩ := hP
  have hx := Bd.exec
  have hby := Bd.bytes
  have hml : c.maxLocals = 6 := hml0
  have hown : s.vm.findClass "com/example/triangulum/triangulum/search/Shortlist" = some m.cls := findClass_of_methodNamed Bd.named
  have X0 : Stand p l e ({ frames := 5, cells := 2, slots := 12, locals := 160 } : Room) s m #[(.ref a1), (.int p2), (.double (FP.i2d x3))] below meth c s₁ [] 0 0 := Stand.of_body Bd
  have e0 : s₁.heap = h0 := by rw [← hh, Bd.state]; rfl
  have N0 := Fr.nil n0
  have pre0 : ∀ t, Steps p.tables e below (s₁.setTop (mkF m 0 #[.val (.ref a1), .val (.int p2), .val (.double (FP.i2d x3)), .second, .unset, .unset] [])) t → Steps p.tables e below (s₁.setTop (entryFrame m #[(.ref a1), (.int p2), (.double (FP.i2d x3))] 6)) t := fun t k => castTop (ef_7 m a1 p2 (FP.i2d x3)) k
  obtain ⟨T1, h1, l1, X1, e1, N1, Q1, S1, st1⟩ := own_oA a1 p2 x3 z _ _ k _ ad ai X0 hx hZ hw hby hml hown e0 N0 Z0 S0 hk
  have A1 := Nat.le_trans Z0 Q1
  obtain ⟨T2, h2, l2, ad', ai', z', X2, e2, N2, Q2, S2, hz', hz6', st2⟩ := own_gr0 a1 p2 x3 ad ai k z X1 hx hZ hw hby hml hown e1 N1 A1 S1 hz1 hz6
  have A2 := Nat.le_trans A1 Q2
  obtain ⟨T3, h3, l3, X3, e3, N3, Q3, S3, st3⟩ := own_oS a1 p2 x3 z' _ _ k _ ad' ai' X2 hx hZ hw hby hml hown e2 N2 A2 S2
  have A3 := Nat.le_trans A2 Q3
  rw [(by decide : (0 : Int32) + (1 : Int32) = (1 : Int32))] at S3
  obtain ⟨T4, h4, l4, Ls, XL', IL', X4, e4, N4, Q4, S4, R4, st4⟩ := own_up0 a1 p2 x3 ad' ai' k z' X3 hx hZ hw hby hml hown e3 N3 A3 S3 hz'
  obtain ⟨fs, hr, hrun, hended, hW, hsame⟩ := X4.leave (v := none) (fun _ => rfl)
  refine ⟨_, _, pre0 _ ?_, hrun, hended, _, _, rfl, ⟨rfl, N4, ?_⟩, ⟨_, rfl⟩, hW, hsame.mono (by decide) (by decide)⟩
  · exact st1 _ (st2 _ (st3 _ (st4 _ (X4.returnOut hx Bd.returns (hb hby d7_291) hr))))
  · show ∃ ad' ai' z' XL' IL', own_S Z n0 T4.heap a1 ad' ai' k (1 : Int32) z' XL' IL' ∧ ¬ z' < (1 : Int32) ∧ ¬ (6 : Int32) < z' ∧ own_r0 x3 p2 XL' IL'
    rw [e4]
    exact ⟨ad', ai', z', XL', IL', S4, own_le1 (by decide) hz', hz6', R4⟩
set_option maxRecDepth 65536 in
set_option maxHeartbeats 40000000 in
theorem rm7_r1 (l : Launch) (Z : State) (a0 : Array Value) (hw : ∀ d ∈ tables_1, d.before a0 Z = true) (ws : List Jvm.Cond) (a1 : Addr) (p2 x3 : Int32) (ad ai : Addr) (k z : Int32) (u0 v0 : Int32) (h0 : Heap) (n0 : Nat) (Z0 : n0 ≤ h0.size) (S0 : own_S Z n0 h0 a1 ad ai k (1 : Int32) z (own_L u0 0 0 0) (own_L v0 0 0 0)) (hk : (1 : Int32) < k) (hz1 : ¬ z < (1 : Int32)) (hz6 : ¬ (6 : Int32) < z) :
    MetFree l (⟨"com/example/triangulum/triangulum/search/Shortlist", "offer", "(ID)V"⟩ : MethodName) (head1 (Jvm.Cond.code (⟨"com/example/triangulum/triangulum/search/Shortlist", "offer", "(ID)V"⟩ : MethodName) prog_24_method_2_code 6 none :: ws) ({ frames := 5, cells := 2, slots := 12, locals := 160 } : Room)) (fun a U => a = #[(.ref a1), (.int p2), (.double (FP.i2d x3))] ∧ Z.Warmed39 U.vm ∧ U.heap = h0) (fun _ _ _ _ _ => True) (fun _ U o U' => ∃ v L, o = .returned v ∧ (v = none ∧ Fr n0 L ∧ ∃ ad' ai' z' XL' IL', own_S Z n0 U'.heap a1 ad' ai' k (2 : Int32) z' XL' IL' ∧ ¬ z' < (2 : Int32) ∧ ¬ (6 : Int32) < z' ∧ own_r1 x3 p2 u0 v0 XL' IL') ∧ FrameEnd U o U' L ({ frames := 5, cells := 2, slots := 12, locals := 160 } : Room).cells ({ frames := 5, cells := 2, slots := 12, locals := 160 } : Room).slots) := by
  refine MetFree.of_bodySF (plainFor_of_name pn_7) hisR ?_
  intro p e s m args below meth c s₁ Bd hml0 hP hK
  obtain ⟨rfl, hZ, hh⟩ := hP
  have hx := Bd.exec
  have hby := Bd.bytes
  have hml : c.maxLocals = 6 := hml0
  have hown : s.vm.findClass "com/example/triangulum/triangulum/search/Shortlist" = some m.cls := findClass_of_methodNamed Bd.named
  have X0 : Stand p l e ({ frames := 5, cells := 2, slots := 12, locals := 160 } : Room) s m #[(.ref a1), (.int p2), (.double (FP.i2d x3))] below meth c s₁ [] 0 0 := Stand.of_body Bd
  have e0 : s₁.heap = h0 := by rw [← hh, Bd.state]; rfl
  have N0 := Fr.nil n0
  have pre0 : ∀ t, Steps p.tables e below (s₁.setTop (mkF m 0 #[.val (.ref a1), .val (.int p2), .val (.double (FP.i2d x3)), .second, .unset, .unset] [])) t → Steps p.tables e below (s₁.setTop (entryFrame m #[(.ref a1), (.int p2), (.double (FP.i2d x3))] 6)) t := fun t k => castTop (ef_7 m a1 p2 (FP.i2d x3)) k
  obtain ⟨T1, h1, l1, X1, e1, N1, Q1, S1, st1⟩ := own_oA a1 p2 x3 z _ _ k _ ad ai X0 hx hZ hw hby hml hown e0 N0 Z0 S0 hk
  have A1 := Nat.le_trans Z0 Q1
  obtain ⟨T2, h2, l2, ad', ai', z', X2, e2, N2, Q2, S2, hz', hz6', st2⟩ := own_gr1 a1 p2 x3 ad ai k z u0 v0 X1 hx hZ hw hby hml hown e1 N1 A1 S1 hz1 hz6
  have A2 := Nat.le_trans A1 Q2
  obtain ⟨T3, h3, l3, X3, e3, N3, Q3, S3, st3⟩ := own_oS a1 p2 x3 z' _ _ k _ ad' ai' X2 hx hZ hw hby hml hown e2 N2 A2 S2
  have A3 := Nat.le_trans A2 Q3
  rw [(by decide : (1 : Int32) + (1 : Int32) = (2 : Int32))] at S3
  obtain ⟨T4, h4, l4, Ls, XL', IL', X4, e4, N4, Q4, S4, R4, st4⟩ := own_up1 a1 p2 x3 ad' ai' k z' u0 v0 X3 hx hZ hw hby hml hown e3 N3 A3 S3 hz'
  obtain ⟨fs, hr, hrun, hended, hW, hsame⟩ := X4.leave (v := none) (fun _ => rfl)
  refine ⟨_, _, pre0 _ ?_, hrun, hended, _, _, rfl, ⟨rfl, N4, ?_⟩, ⟨_, rfl⟩, hW, hsame.mono (by decide) (by decide)⟩
  · exact st1 _ (st2 _ (st3 _ (st4 _ (X4.returnOut hx Bd.returns (hb hby d7_291) hr))))
  · show ∃ ad' ai' z' XL' IL', own_S Z n0 T4.heap a1 ad' ai' k (2 : Int32) z' XL' IL' ∧ ¬ z' < (2 : Int32) ∧ ¬ (6 : Int32) < z' ∧ own_r1 x3 p2 u0 v0 XL' IL'
    rw [e4]
    exact ⟨ad', ai', z', XL', IL', S4, own_le1 (by decide) hz', hz6', R4⟩
set_option maxRecDepth 65536 in
set_option maxHeartbeats 40000000 in
theorem rm7_r2 (l : Launch) (Z : State) (a0 : Array Value) (hw : ∀ d ∈ tables_1, d.before a0 Z = true) (ws : List Jvm.Cond) (a1 : Addr) (p2 x3 : Int32) (ad ai : Addr) (k z : Int32) (u0 v0 u1 v1 : Int32) (h0 : Heap) (n0 : Nat) (Z0 : n0 ≤ h0.size) (S0 : own_S Z n0 h0 a1 ad ai k (2 : Int32) z (own_L u0 u1 0 0) (own_L v0 v1 0 0)) (hk : (2 : Int32) < k) (hz1 : ¬ z < (2 : Int32)) (hz6 : ¬ (6 : Int32) < z) :
    MetFree l (⟨"com/example/triangulum/triangulum/search/Shortlist", "offer", "(ID)V"⟩ : MethodName) (head1 (Jvm.Cond.code (⟨"com/example/triangulum/triangulum/search/Shortlist", "offer", "(ID)V"⟩ : MethodName) prog_24_method_2_code 6 none :: ws) ({ frames := 5, cells := 2, slots := 12, locals := 160 } : Room)) (fun a U => a = #[(.ref a1), (.int p2), (.double (FP.i2d x3))] ∧ Z.Warmed39 U.vm ∧ U.heap = h0) (fun _ _ _ _ _ => True) (fun _ U o U' => ∃ v L, o = .returned v ∧ (v = none ∧ Fr n0 L ∧ ∃ ad' ai' z' XL' IL', own_S Z n0 U'.heap a1 ad' ai' k (3 : Int32) z' XL' IL' ∧ ¬ z' < (3 : Int32) ∧ ¬ (6 : Int32) < z' ∧ own_r2 x3 p2 u0 v0 u1 v1 XL' IL') ∧ FrameEnd U o U' L ({ frames := 5, cells := 2, slots := 12, locals := 160 } : Room).cells ({ frames := 5, cells := 2, slots := 12, locals := 160 } : Room).slots) := by
  refine MetFree.of_bodySF (plainFor_of_name pn_7) hisR ?_
  intro p e s m args below meth c s₁ Bd hml0 hP hK
  obtain ⟨rfl, hZ, hh⟩ := hP
  have hx := Bd.exec
  have hby := Bd.bytes
  have hml : c.maxLocals = 6 := hml0
  have hown : s.vm.findClass "com/example/triangulum/triangulum/search/Shortlist" = some m.cls := findClass_of_methodNamed Bd.named
  have X0 : Stand p l e ({ frames := 5, cells := 2, slots := 12, locals := 160 } : Room) s m #[(.ref a1), (.int p2), (.double (FP.i2d x3))] below meth c s₁ [] 0 0 := Stand.of_body Bd
  have e0 : s₁.heap = h0 := by rw [← hh, Bd.state]; rfl
  have N0 := Fr.nil n0
  have pre0 : ∀ t, Steps p.tables e below (s₁.setTop (mkF m 0 #[.val (.ref a1), .val (.int p2), .val (.double (FP.i2d x3)), .second, .unset, .unset] [])) t → Steps p.tables e below (s₁.setTop (entryFrame m #[(.ref a1), (.int p2), (.double (FP.i2d x3))] 6)) t := fun t k => castTop (ef_7 m a1 p2 (FP.i2d x3)) k
  obtain ⟨T1, h1, l1, X1, e1, N1, Q1, S1, st1⟩ := own_oA a1 p2 x3 z _ _ k _ ad ai X0 hx hZ hw hby hml hown e0 N0 Z0 S0 hk
  have A1 := Nat.le_trans Z0 Q1
  obtain ⟨T2, h2, l2, ad', ai', z', X2, e2, N2, Q2, S2, hz', hz6', st2⟩ := own_gr2 a1 p2 x3 ad ai k z u0 v0 u1 v1 X1 hx hZ hw hby hml hown e1 N1 A1 S1 hz1 hz6
  have A2 := Nat.le_trans A1 Q2
  obtain ⟨T3, h3, l3, X3, e3, N3, Q3, S3, st3⟩ := own_oS a1 p2 x3 z' _ _ k _ ad' ai' X2 hx hZ hw hby hml hown e2 N2 A2 S2
  have A3 := Nat.le_trans A2 Q3
  rw [(by decide : (2 : Int32) + (1 : Int32) = (3 : Int32))] at S3
  obtain ⟨T4, h4, l4, Ls, XL', IL', X4, e4, N4, Q4, S4, R4, st4⟩ := own_up2 a1 p2 x3 ad' ai' k z' u0 v0 u1 v1 X3 hx hZ hw hby hml hown e3 N3 A3 S3 hz'
  obtain ⟨fs, hr, hrun, hended, hW, hsame⟩ := X4.leave (v := none) (fun _ => rfl)
  refine ⟨_, _, pre0 _ ?_, hrun, hended, _, _, rfl, ⟨rfl, N4, ?_⟩, ⟨_, rfl⟩, hW, hsame.mono (by decide) (by decide)⟩
  · exact st1 _ (st2 _ (st3 _ (st4 _ (X4.returnOut hx Bd.returns (hb hby d7_291) hr))))
  · show ∃ ad' ai' z' XL' IL', own_S Z n0 T4.heap a1 ad' ai' k (3 : Int32) z' XL' IL' ∧ ¬ z' < (3 : Int32) ∧ ¬ (6 : Int32) < z' ∧ own_r2 x3 p2 u0 v0 u1 v1 XL' IL'
    rw [e4]
    exact ⟨ad', ai', z', XL', IL', S4, own_le1 (by decide) hz', hz6', R4⟩
set_option maxRecDepth 65536 in
set_option maxHeartbeats 40000000 in
theorem rm7_r3 (l : Launch) (Z : State) (a0 : Array Value) (hw : ∀ d ∈ tables_1, d.before a0 Z = true) (ws : List Jvm.Cond) (a1 : Addr) (p2 x3 : Int32) (ad ai : Addr) (k z : Int32) (u0 v0 u1 v1 u2 v2 : Int32) (h0 : Heap) (n0 : Nat) (Z0 : n0 ≤ h0.size) (S0 : own_S Z n0 h0 a1 ad ai k (3 : Int32) z (own_L u0 u1 u2 0) (own_L v0 v1 v2 0)) (hk : (3 : Int32) < k) (hz1 : ¬ z < (3 : Int32)) (hz6 : ¬ (6 : Int32) < z) :
    MetFree l (⟨"com/example/triangulum/triangulum/search/Shortlist", "offer", "(ID)V"⟩ : MethodName) (head1 (Jvm.Cond.code (⟨"com/example/triangulum/triangulum/search/Shortlist", "offer", "(ID)V"⟩ : MethodName) prog_24_method_2_code 6 none :: ws) ({ frames := 5, cells := 2, slots := 12, locals := 160 } : Room)) (fun a U => a = #[(.ref a1), (.int p2), (.double (FP.i2d x3))] ∧ Z.Warmed39 U.vm ∧ U.heap = h0) (fun _ _ _ _ _ => True) (fun _ U o U' => ∃ v L, o = .returned v ∧ (v = none ∧ Fr n0 L ∧ ∃ ad' ai' z' XL' IL', own_S Z n0 U'.heap a1 ad' ai' k (4 : Int32) z' XL' IL' ∧ ¬ z' < (4 : Int32) ∧ ¬ (6 : Int32) < z' ∧ own_r3 x3 p2 u0 v0 u1 v1 u2 v2 XL' IL') ∧ FrameEnd U o U' L ({ frames := 5, cells := 2, slots := 12, locals := 160 } : Room).cells ({ frames := 5, cells := 2, slots := 12, locals := 160 } : Room).slots) := by
  refine MetFree.of_bodySF (plainFor_of_name pn_7) hisR ?_
  intro p e s m args below meth c s₁ Bd hml0 hP hK
  obtain ⟨rfl, hZ, hh⟩ := hP
  have hx := Bd.exec
  have hby := Bd.bytes
  have hml : c.maxLocals = 6 := hml0
  have hown : s.vm.findClass "com/example/triangulum/triangulum/search/Shortlist" = some m.cls := findClass_of_methodNamed Bd.named
  have X0 : Stand p l e ({ frames := 5, cells := 2, slots := 12, locals := 160 } : Room) s m #[(.ref a1), (.int p2), (.double (FP.i2d x3))] below meth c s₁ [] 0 0 := Stand.of_body Bd
  have e0 : s₁.heap = h0 := by rw [← hh, Bd.state]; rfl
  have N0 := Fr.nil n0
  have pre0 : ∀ t, Steps p.tables e below (s₁.setTop (mkF m 0 #[.val (.ref a1), .val (.int p2), .val (.double (FP.i2d x3)), .second, .unset, .unset] [])) t → Steps p.tables e below (s₁.setTop (entryFrame m #[(.ref a1), (.int p2), (.double (FP.i2d x3))] 6)) t := fun t k => castTop (ef_7 m a1 p2 (FP.i2d x3)) k
  obtain ⟨T1, h1, l1, X1, e1, N1, Q1, S1, st1⟩ := own_oA a1 p2 x3 z _ _ k _ ad ai X0 hx hZ hw hby hml hown e0 N0 Z0 S0 hk
  have A1 := Nat.le_trans Z0 Q1
  obtain ⟨T2, h2, l2, ad', ai', z', X2, e2, N2, Q2, S2, hz', hz6', st2⟩ := own_gr3 a1 p2 x3 ad ai k z u0 v0 u1 v1 u2 v2 X1 hx hZ hw hby hml hown e1 N1 A1 S1 hz1 hz6
  have A2 := Nat.le_trans A1 Q2
  obtain ⟨T3, h3, l3, X3, e3, N3, Q3, S3, st3⟩ := own_oS a1 p2 x3 z' _ _ k _ ad' ai' X2 hx hZ hw hby hml hown e2 N2 A2 S2
  have A3 := Nat.le_trans A2 Q3
  rw [(by decide : (3 : Int32) + (1 : Int32) = (4 : Int32))] at S3
  obtain ⟨T4, h4, l4, Ls, XL', IL', X4, e4, N4, Q4, S4, R4, st4⟩ := own_up3 a1 p2 x3 ad' ai' k z' u0 v0 u1 v1 u2 v2 X3 hx hZ hw hby hml hown e3 N3 A3 S3 hz'
  obtain ⟨fs, hr, hrun, hended, hW, hsame⟩ := X4.leave (v := none) (fun _ => rfl)
  refine ⟨_, _, pre0 _ ?_, hrun, hended, _, _, rfl, ⟨rfl, N4, ?_⟩, ⟨_, rfl⟩, hW, hsame.mono (by decide) (by decide)⟩
  · exact st1 _ (st2 _ (st3 _ (st4 _ (X4.returnOut hx Bd.returns (hb hby d7_291) hr))))
  · show ∃ ad' ai' z' XL' IL', own_S Z n0 T4.heap a1 ad' ai' k (4 : Int32) z' XL' IL' ∧ ¬ z' < (4 : Int32) ∧ ¬ (6 : Int32) < z' ∧ own_r3 x3 p2 u0 v0 u1 v1 u2 v2 XL' IL'
    rw [e4]
    exact ⟨ad', ai', z', XL', IL', S4, own_le1 (by decide) hz', hz6', R4⟩
set_option maxRecDepth 65536 in
set_option maxHeartbeats 40000000 in
theorem rm7_s1 (l : Launch) (Z : State) (a0 : Array Value) (hw : ∀ d ∈ tables_1, d.before a0 Z = true) (ws : List Jvm.Cond) (a1 : Addr) (p2 x3 : Int32) (ad ai : Addr) (k z : Int32) (u0 v0 : Int32) (h0 : Heap) (n0 : Nat) (Z0 : n0 ≤ h0.size) (S0 : own_S Z n0 h0 a1 ad ai k (1 : Int32) z (own_L u0 0 0 0) (own_L v0 0 0 0)) (hk : ¬ (1 : Int32) < k) (hz1 : ¬ z < (1 : Int32)) (hz6 : ¬ (6 : Int32) < z) :
    MetFree l (⟨"com/example/triangulum/triangulum/search/Shortlist", "offer", "(ID)V"⟩ : MethodName) (head1 (Jvm.Cond.code (⟨"com/example/triangulum/triangulum/search/Shortlist", "offer", "(ID)V"⟩ : MethodName) prog_24_method_2_code 6 none :: ws) ({ frames := 5, cells := 2, slots := 12, locals := 160 } : Room)) (fun a U => a = #[(.ref a1), (.int p2), (.double (FP.i2d x3))] ∧ Z.Warmed39 U.vm ∧ U.heap = h0) (fun _ _ _ _ _ => True) (fun _ U o U' => ∃ v L, o = .returned v ∧ (v = none ∧ Fr n0 L ∧ ∃ ad' ai' z' XL' IL', own_S Z n0 U'.heap a1 ad' ai' k (1 : Int32) z' XL' IL' ∧ ¬ z' < (1 : Int32) ∧ ¬ (6 : Int32) < z' ∧ own_s1 x3 p2 u0 v0 XL' IL') ∧ FrameEnd U o U' L ({ frames := 5, cells := 2, slots := 12, locals := 160 } : Room).cells ({ frames := 5, cells := 2, slots := 12, locals := 160 } : Room).slots) := by
  refine MetFree.of_bodySF (plainFor_of_name pn_7) hisR ?_
  intro p e s m args below meth c s₁ Bd hml0 hP hK
  obtain ⟨rfl, hZ, hh⟩ := hP
  have hx := Bd.exec
  have hby := Bd.bytes
  have hml : c.maxLocals = 6 := hml0
  have hown : s.vm.findClass "com/example/triangulum/triangulum/search/Shortlist" = some m.cls := findClass_of_methodNamed Bd.named
  have X0 : Stand p l e ({ frames := 5, cells := 2, slots := 12, locals := 160 } : Room) s m #[(.ref a1), (.int p2), (.double (FP.i2d x3))] below meth c s₁ [] 0 0 := Stand.of_body Bd
  have e0 : s₁.heap = h0 := by rw [← hh, Bd.state]; rfl
  have N0 := Fr.nil n0
  have pre0 : ∀ t, Steps p.tables e below (s₁.setTop (mkF m 0 #[.val (.ref a1), .val (.int p2), .val (.double (FP.i2d x3)), .second, .unset, .unset] [])) t → Steps p.tables e below (s₁.setTop (entryFrame m #[(.ref a1), (.int p2), (.double (FP.i2d x3))] 6)) t := fun t k => castTop (ef_7 m a1 p2 (FP.i2d x3)) k
  obtain ⟨T1, h1, l1, X1, e1, N1, Q1, S1, st1⟩ := own_oB a1 p2 x3 z _ _ k _ ad ai X0 hx hZ hw hby hml hown e0 N0 Z0 S0 hk
  have A1 := Nat.le_trans Z0 Q1
  have X1' := X1.more (cells' := 2) (slots' := 12) (by decide) (by decide)
  obtain ⟨T4, h4, l4, Ls, XL', IL', X4, e4, N4, Q4, S4, R4, st4⟩ := own_dn1 a1 p2 x3 ad ai k z u0 v0 X1' hx hZ hw hby hml hown e1 N1 A1 S1 (own_le2 (by decide) hz1)
  obtain ⟨fs, hr, hrun, hended, hW, hsame⟩ := X4.leave (v := none) (fun _ => rfl)
  refine ⟨_, _, pre0 _ ?_, hrun, hended, _, _, rfl, ⟨rfl, N4, ?_⟩, ⟨_, rfl⟩, hW, hsame.mono (by decide) (by decide)⟩
  · exact st1 _ (st4 _ (X4.returnOut hx Bd.returns (hb hby d7_291) hr))
  · show ∃ ad' ai' z' XL' IL', own_S Z n0 T4.heap a1 ad' ai' k (1 : Int32) z' XL' IL' ∧ ¬ z' < (1 : Int32) ∧ ¬ (6 : Int32) < z' ∧ own_s1 x3 p2 u0 v0 XL' IL'
    rw [e4]
    exact ⟨ad, ai, z, XL', IL', S4, hz1, hz6, R4⟩
set_option maxRecDepth 65536 in
set_option maxHeartbeats 40000000 in
theorem rm7_s2 (l : Launch) (Z : State) (a0 : Array Value) (hw : ∀ d ∈ tables_1, d.before a0 Z = true) (ws : List Jvm.Cond) (a1 : Addr) (p2 x3 : Int32) (ad ai : Addr) (k z : Int32) (u0 v0 u1 v1 : Int32) (h0 : Heap) (n0 : Nat) (Z0 : n0 ≤ h0.size) (S0 : own_S Z n0 h0 a1 ad ai k (2 : Int32) z (own_L u0 u1 0 0) (own_L v0 v1 0 0)) (hk : ¬ (2 : Int32) < k) (hz1 : ¬ z < (2 : Int32)) (hz6 : ¬ (6 : Int32) < z) :
    MetFree l (⟨"com/example/triangulum/triangulum/search/Shortlist", "offer", "(ID)V"⟩ : MethodName) (head1 (Jvm.Cond.code (⟨"com/example/triangulum/triangulum/search/Shortlist", "offer", "(ID)V"⟩ : MethodName) prog_24_method_2_code 6 none :: ws) ({ frames := 5, cells := 2, slots := 12, locals := 160 } : Room)) (fun a U => a = #[(.ref a1), (.int p2), (.double (FP.i2d x3))] ∧ Z.Warmed39 U.vm ∧ U.heap = h0) (fun _ _ _ _ _ => True) (fun _ U o U' => ∃ v L, o = .returned v ∧ (v = none ∧ Fr n0 L ∧ ∃ ad' ai' z' XL' IL', own_S Z n0 U'.heap a1 ad' ai' k (2 : Int32) z' XL' IL' ∧ ¬ z' < (2 : Int32) ∧ ¬ (6 : Int32) < z' ∧ own_s2 x3 p2 u0 v0 u1 v1 XL' IL') ∧ FrameEnd U o U' L ({ frames := 5, cells := 2, slots := 12, locals := 160 } : Room).cells ({ frames := 5, cells := 2, slots := 12, locals := 160 } : Room).slots) := by
  refine MetFree.of_bodySF (plainFor_of_name pn_7) hisR ?_
  intro p e s m args below meth c s₁ Bd hml0 hP hK
  obtain ⟨rfl, hZ, hh⟩ := hP
  have hx := Bd.exec
  have hby := Bd.bytes
  have hml : c.maxLocals = 6 := hml0
  have hown : s.vm.findClass "com/example/triangulum/triangulum/search/Shortlist" = some m.cls := findClass_of_methodNamed Bd.named
  have X0 : Stand p l e ({ frames := 5, cells := 2, slots := 12, locals := 160 } : Room) s m #[(.ref a1), (.int p2), (.double (FP.i2d x3))] below meth c s₁ [] 0 0 := Stand.of_body Bd
  have e0 : s₁.heap = h0 := by rw [← hh, Bd.state]; rfl
  have N0 := Fr.nil n0
  have pre0 : ∀ t, Steps p.tables e below (s₁.setTop (mkF m 0 #[.val (.ref a1), .val (.int p2), .val (.double (FP.i2d x3)), .second, .unset, .unset] [])) t → Steps p.tables e below (s₁.setTop (entryFrame m #[(.ref a1), (.int p2), (.double (FP.i2d x3))] 6)) t := fun t k => castTop (ef_7 m a1 p2 (FP.i2d x3)) k
  obtain ⟨T1, h1, l1, X1, e1, N1, Q1, S1, st1⟩ := own_oB a1 p2 x3 z _ _ k _ ad ai X0 hx hZ hw hby hml hown e0 N0 Z0 S0 hk
  have A1 := Nat.le_trans Z0 Q1
  have X1' := X1.more (cells' := 2) (slots' := 12) (by decide) (by decide)
  obtain ⟨T4, h4, l4, Ls, XL', IL', X4, e4, N4, Q4, S4, R4, st4⟩ := own_dn2 a1 p2 x3 ad ai k z u0 v0 u1 v1 X1' hx hZ hw hby hml hown e1 N1 A1 S1 (own_le2 (by decide) hz1)
  obtain ⟨fs, hr, hrun, hended, hW, hsame⟩ := X4.leave (v := none) (fun _ => rfl)
  refine ⟨_, _, pre0 _ ?_, hrun, hended, _, _, rfl, ⟨rfl, N4, ?_⟩, ⟨_, rfl⟩, hW, hsame.mono (by decide) (by decide)⟩
  · exact st1 _ (st4 _ (X4.returnOut hx Bd.returns (hb hby d7_291) hr))
  · show ∃ ad' ai' z' XL' IL', own_S Z n0 T4.heap a1 ad' ai' k (2 : Int32) z' XL' IL' ∧ ¬ z' < (2 : Int32) ∧ ¬ (6 : Int32) < z' ∧ own_s2 x3 p2 u0 v0 u1 v1 XL' IL'
    rw [e4]
    exact ⟨ad, ai, z, XL', IL', S4, hz1, hz6, R4⟩
set_option maxRecDepth 65536 in
set_option maxHeartbeats 40000000 in
theorem rm7_s3 (l : Launch) (Z : State) (a0 : Array Value) (hw : ∀ d ∈ tables_1, d.before a0 Z = true) (ws : List Jvm.Cond) (a1 : Addr) (p2 x3 : Int32) (ad ai : Addr) (k z : Int32) (u0 v0 u1 v1 u2 v2 : Int32) (h0 : Heap) (n0 : Nat) (Z0 : n0 ≤ h0.size) (S0 : own_S Z n0 h0 a1 ad ai k (3 : Int32) z (own_L u0 u1 u2 0) (own_L v0 v1 v2 0)) (hk : ¬ (3 : Int32) < k) (hz1 : ¬ z < (3 : Int32)) (hz6 : ¬ (6 : Int32) < z) :
    MetFree l (⟨"com/example/triangulum/triangulum/search/Shortlist", "offer", "(ID)V"⟩ : MethodName) (head1 (Jvm.Cond.code (⟨"com/example/triangulum/triangulum/search/Shortlist", "offer", "(ID)V"⟩ : MethodName) prog_24_method_2_code 6 none :: ws) ({ frames := 5, cells := 2, slots := 12, locals := 160 } : Room)) (fun a U => a = #[(.ref a1), (.int p2), (.double (FP.i2d x3))] ∧ Z.Warmed39 U.vm ∧ U.heap = h0) (fun _ _ _ _ _ => True) (fun _ U o U' => ∃ v L, o = .returned v ∧ (v = none ∧ Fr n0 L ∧ ∃ ad' ai' z' XL' IL', own_S Z n0 U'.heap a1 ad' ai' k (3 : Int32) z' XL' IL' ∧ ¬ z' < (3 : Int32) ∧ ¬ (6 : Int32) < z' ∧ own_s3 x3 p2 u0 v0 u1 v1 u2 v2 XL' IL') ∧ FrameEnd U o U' L ({ frames := 5, cells := 2, slots := 12, locals := 160 } : Room).cells ({ frames := 5, cells := 2, slots := 12, locals := 160 } : Room).slots) := by
  refine MetFree.of_bodySF (plainFor_of_name pn_7) hisR ?_
  intro p e s m args below meth c s₁ Bd hml0 hP hK
  obtain ⟨rfl, hZ, hh⟩ := hP
  have hx := Bd.exec
  have hby := Bd.bytes
  have hml : c.maxLocals = 6 := hml0
  have hown : s.vm.findClass "com/example/triangulum/triangulum/search/Shortlist" = some m.cls := findClass_of_methodNamed Bd.named
  have X0 : Stand p l e ({ frames := 5, cells := 2, slots := 12, locals := 160 } : Room) s m #[(.ref a1), (.int p2), (.double (FP.i2d x3))] below meth c s₁ [] 0 0 := Stand.of_body Bd
  have e0 : s₁.heap = h0 := by rw [← hh, Bd.state]; rfl
  have N0 := Fr.nil n0
  have pre0 : ∀ t, Steps p.tables e below (s₁.setTop (mkF m 0 #[.val (.ref a1), .val (.int p2), .val (.double (FP.i2d x3)), .second, .unset, .unset] [])) t → Steps p.tables e below (s₁.setTop (entryFrame m #[(.ref a1), (.int p2), (.double (FP.i2d x3))] 6)) t := fun t k => castTop (ef_7 m a1 p2 (FP.i2d x3)) k
  obtain ⟨T1, h1, l1, X1, e1, N1, Q1, S1, st1⟩ := own_oB a1 p2 x3 z _ _ k _ ad ai X0 hx hZ hw hby hml hown e0 N0 Z0 S0 hk
  have A1 := Nat.le_trans Z0 Q1
  have X1' := X1.more (cells' := 2) (slots' := 12) (by decide) (by decide)
  obtain ⟨T4, h4, l4, Ls, XL', IL', X4, e4, N4, Q4, S4, R4, st4⟩ := own_dn3 a1 p2 x3 ad ai k z u0 v0 u1 v1 u2 v2 X1' hx hZ hw hby hml hown e1 N1 A1 S1 (own_le2 (by decide) hz1)
  obtain ⟨fs, hr, hrun, hended, hW, hsame⟩ := X4.leave (v := none) (fun _ => rfl)
  refine ⟨_, _, pre0 _ ?_, hrun, hended, _, _, rfl, ⟨rfl, N4, ?_⟩, ⟨_, rfl⟩, hW, hsame.mono (by decide) (by decide)⟩
  · exact st1 _ (st4 _ (X4.returnOut hx Bd.returns (hb hby d7_291) hr))
  · show ∃ ad' ai' z' XL' IL', own_S Z n0 T4.heap a1 ad' ai' k (3 : Int32) z' XL' IL' ∧ ¬ z' < (3 : Int32) ∧ ¬ (6 : Int32) < z' ∧ own_s3 x3 p2 u0 v0 u1 v1 u2 v2 XL' IL'
    rw [e4]
    exact ⟨ad, ai, z, XL', IL', S4, hz1, hz6, R4⟩
theorem own_call_kth {p : Program} {l : Launch} {e : Env} {R : Room} {s : State} {m : MethodId} {args : Array Value} {below : List Frame} {meth : Method} {c : Code} {T : State} {locs : List Loc} {cells slots : Nat} {Z : State} {a0 : Array Value} {h : Heap} {own : String} {index : Nat}
    (X : Stand p l e R s m args below meth c T locs cells slots) (hx : p.tables.exec = Jvm.exec) (hZ : Z.Warmed39 s.vm) (hw : ∀ d ∈ tables_1, d.before a0 Z = true) (hown : s.vm.findClass own = some m.cls) (w1 : (Cond.methodLink own index (⟨"com/example/triangulum/triangulum/search/ShortlistLimitPinLaw", "kth", "(IIIIII)I"⟩ : MethodName)).before a0 Z = true) (k : Int32) (mm : Int32) (d0 : Int32) (d1 : Int32) (d2 : Int32) (d3 : Int32)
    {W : Nat} {g : JFrame} (hg : g.method = m) (hsize : g.locals.size = c.maxLocals) {rest : List Value} (hst : g.stack = .int d3 :: .int d2 :: .int d1 :: .int d0 :: .int mm :: .int k :: rest) (hW : 2 * g.monitorRoom + (rest.map fun v => v.category).sum ≤ W) (hd : decode c.code g.pc = .ok (.invokestatic index, 3)) (hf : 2 ≤ R.frames) (hl : W + 71 ≤ R.locals) (eT : T.heap = h) (hc : cells ≤ R.cells := by decide) (hs : slots ≤ R.slots := by decide) :
    ∃ T', Stand p l e R s m args below meth c T' locs cells slots ∧ T'.heap = h ∧ ∀ target, Steps p.tables e below (T'.setTop { g with pc := g.pc + 3, stack := .int (own_kth k mm d0 d1 d2 d3) :: rest }) target → Steps p.tables e below (T.setTop g) target :=
  own_pureS X hx hZ (rm5 l Z a0 hw [] k mm d0 d1 d2 d3 h 0 (Nat.zero_le _)) hown w1 (hw _ (List.mem_of_getElem? (i := 30) rfl)) (hw _ (List.mem_of_getElem? (i := 31) rfl)) (hw _ (List.mem_of_getElem? (i := 32) rfl)) (by decide) hf hl eT hg hsize (argsL := [.int k, .int mm, .int d0, .int d1, .int d2, .int d3]) (lenOf pd_kth rfl) hst hW hd hc hs
theorem own_inj {a b c d a' b' c' d' : Int32} (h : own_L a b c d = own_L a' b' c' d') : a' = a ∧ b' = b ∧ c' = c ∧ d' = d := by
  have h' : [a, b, c, d, 0, 0] = [a', b', c', d', 0, 0] := h
  simp only [List.cons.injEq] at h'
  exact ⟨h'.1.symm, h'.2.1.symm, h'.2.2.1.symm, h'.2.2.2.1.symm⟩
theorem own_Wk {x i y j : Int32} (hi : 0 ≤ i.toInt ∧ i.toInt ≤ 3) (hj : 0 ≤ j.toInt ∧ j.toInt ≤ 3) : own_W x i y j ↔ 4 * y.toInt + j.toInt < 4 * x.toInt + i.toInt := by
  unfold own_W
  rw [Int32.lt_iff_toInt_lt, Int32.lt_iff_toInt_lt, ← Int32.toInt_inj]
  omega
theorem own_Wn {x i y j : Int32} (hi : 0 ≤ i.toInt ∧ i.toInt ≤ 3) (hj : 0 ≤ j.toInt ∧ j.toInt ≤ 3) (h : ¬ own_W x i y j) : 4 * x.toInt + i.toInt ≤ 4 * y.toInt + j.toInt := by
  rw [own_Wk hi hj] at h; omega
theorem own_cmpr (x y : Int32) : ((own_min x y).toInt = x.toInt ∧ (own_max x y).toInt = y.toInt ∧ x.toInt ≤ y.toInt) ∨ ((own_min x y).toInt = y.toInt ∧ (own_max x y).toInt = x.toInt ∧ y.toInt ≤ x.toInt) := by
  unfold own_min own_max
  by_cases h1 : x < y
  · have h2 : ¬ y < x := fun k => by rw [Int32.lt_iff_toInt_lt] at h1 k; omega
    rw [if_pos h1, if_neg h2]
    rw [Int32.lt_iff_toInt_lt] at h1
    exact Or.inl ⟨rfl, rfl, by omega⟩
  · rw [if_neg h1]
    rw [Int32.lt_iff_toInt_lt] at h1
    by_cases h2 : y < x
    · rw [if_pos h2]; exact Or.inr ⟨rfl, rfl, by omega⟩
    · rw [if_neg h2]
      rw [Int32.lt_iff_toInt_lt] at h2
      have : x = y := Int32.toInt_inj.mp (by omega)
      subst this
      exact Or.inl ⟨rfl, rfl, by omega⟩
theorem own_ok_of {k sz w v : Int32} {X : List Int32} (h1 : ¬ sz < k) (hX : X.getD ((0 : Int32)).toNatClampNeg 0 = v) (hv : w = v) (h0 : 0 ≤ v.toInt) : own_ok (own_lim k sz X) w := by
  subst hv
  refine Or.inr ⟨fun q => ?_, ?_⟩
  · rw [Int32.lt_iff_toInt_lt, show (0 : Int32).toInt = 0 from rfl] at q; omega
  · rw [own_lim, if_neg h1, hX]
theorem own_ok_inf {k sz m d0 d1 d2 d3 : Int32} {X : List Int32} (h1 : sz < k) (h2 : m < k) : own_ok (own_lim k sz X) (own_kth k m d0 d1 d2 d3) := by
  rw [own_lim, if_pos h1, own_kth, if_pos h2]
  exact Or.inl ⟨by decide, rfl⟩
theorem own_sel1 (e0 e1 e2 e3 : Int32) : own_sel 1 e0 e1 e2 e3 = own_min (own_min e0 e1) (own_min e2 e3) := by
  rw [own_sel, if_pos rfl]
theorem own_sel2 (e0 e1 e2 e3 : Int32) : own_sel 2 e0 e1 e2 e3 = own_min (own_min (own_max e0 e1) (own_max e2 e3)) (own_max (own_min e0 e1) (own_min e2 e3)) := by
  rw [own_sel, if_neg (by decide), if_pos rfl]
theorem own_sel3 (e0 e1 e2 e3 : Int32) : own_sel 3 e0 e1 e2 e3 = own_max (own_min (own_max e0 e1) (own_max e2 e3)) (own_max (own_min e0 e1) (own_min e2 e3)) := by
  rw [own_sel, if_neg (by decide), if_neg (by decide), if_pos rfl]
theorem own_sel4 (e0 e1 e2 e3 : Int32) : own_sel 4 e0 e1 e2 e3 = own_max (own_max e0 e1) (own_max e2 e3) := by
  rw [own_sel, if_neg (by decide), if_neg (by decide), if_neg (by decide)]
theorem own_et {j m d : Int32} (h : j < m) : own_e j m d = d := if_pos h
theorem own_ef {j m d : Int32} (h : ¬ j < m) : own_e j m d = 1000 := if_neg h
theorem own_kth_sel {k m d0 d1 d2 d3 e1 e2 e3 : Int32} (h : ¬ m < k) (h1 : own_e 1 m d1 = e1) (h2 : own_e 2 m d2 = e2) (h3 : own_e 3 m d3 = e3) : own_kth k m d0 d1 d2 d3 = own_sel k d0 e1 e2 e3 := by
  rw [own_kth, if_neg h, h1, h2, h3]
def own_b (i : Int32) : Prop := 0 ≤ i.toInt ∧ i.toInt ≤ 3
def own_c (d : Int32) : Prop := 0 ≤ d.toInt ∧ d.toInt ≤ 7
theorem own_f1 {x i u0 v0 : Int32} {X I : List Int32} (h : own_r1 x i u0 v0 X I) : ∃ c0 c1 f0 f1, X = own_L c0 c1 0 0 ∧ I = own_L f0 f1 0 0 := by
  rcases h with ⟨-, h1, h2⟩ | ⟨-, h1, h2⟩ <;> exact ⟨_, _, _, _, h1, h2⟩
theorem own_f2 {x i u0 v0 u1 v1 : Int32} {X I : List Int32} (h : own_r2 x i u0 v0 u1 v1 X I) : ∃ c0 c1 c2 f0 f1 f2, X = own_L c0 c1 c2 0 ∧ I = own_L f0 f1 f2 0 := by
  rcases h with ⟨-, h1, h2⟩ | ⟨-, h1, h2⟩ <;> exact ⟨_, _, _, _, _, _, h1, h2⟩
theorem own_g1 {x i u0 v0 : Int32} {X I : List Int32} (h : own_s1 x i u0 v0 X I) : ∃ c0 f0, X = own_L c0 0 0 0 ∧ I = own_L f0 0 0 0 := by
  rcases h with ⟨-, h1, h2⟩ | ⟨-, h1, h2⟩ <;> exact ⟨_, _, h1, h2⟩
theorem own_g2 {x i u0 v0 u1 v1 : Int32} {X I : List Int32} (h : own_s2 x i u0 v0 u1 v1 X I) : ∃ c0 c1 f0 f1, X = own_L c0 c1 0 0 ∧ I = own_L f0 f1 0 0 := by
  rcases h with ⟨-, h1, h2⟩ | ⟨-, -, h1, h2⟩ | ⟨-, -, h1, h2⟩ <;> exact ⟨_, _, _, _, h1, h2⟩
set_option maxRecDepth 65536 in
theorem own_p11 {d0 d1 d2 d3 i0 : Int32} (b0 : own_b i0) (c0 : own_c d0)  : own_ok (own_lim (1 : Int32) (1 : Int32) (own_L d0 0 0 0)) (own_kth (1 : Int32) (1 : Int32) d0 d1 d2 d3) := by
  refine own_ok_of (v := d0) (by decide) (own_get0 _ _ _ _) ?_ c0.1
  rw [own_kth_sel (k := (1 : Int32)) (m := (1 : Int32)) (by decide) (own_ef (by decide)) (own_ef (by decide)) (own_ef (by decide)), own_sel1]
  refine Int32.toInt_inj.mp ?_
  have hk : (1000 : Int32).toInt = 1000 := rfl
  obtain ⟨p0, q0⟩ := b0
  obtain ⟨p0', q0'⟩ := c0
  have n0 := own_cmpr d0 (1000 : Int32)
  have n1 := own_cmpr (1000 : Int32) (1000 : Int32)
  have n2 := own_cmpr (own_min d0 (1000 : Int32)) (own_min (1000 : Int32) (1000 : Int32))
  omega
set_option maxRecDepth 65536 in
theorem own_p12 {d0 d1 d2 d3 i0 i1 : Int32} {X I : List Int32} (b0 : own_b i0) (c0 : own_c d0) (b1 : own_b i1) (c1 : own_c d1) (R2 : own_s1 d1 i1 d0 i0 X I) : own_ok (own_lim (1 : Int32) (1 : Int32) X) (own_kth (1 : Int32) (2 : Int32) d0 d1 d2 d3) := by
  rcases R2 with ⟨w2_0, rfl, rfl⟩ | ⟨w2_0, rfl, rfl⟩
  · have w2_0 := own_Wn b0 b1 w2_0
    refine own_ok_of (v := d0) (by decide) (own_get0 _ _ _ _) ?_ c0.1
    rw [own_kth_sel (k := (1 : Int32)) (m := (2 : Int32)) (by decide) (own_et (by decide)) (own_ef (by decide)) (own_ef (by decide)), own_sel1]
    refine Int32.toInt_inj.mp ?_
    have hk : (1000 : Int32).toInt = 1000 := rfl
    obtain ⟨p0, q0⟩ := b0
    obtain ⟨p0', q0'⟩ := c0
    obtain ⟨p1, q1⟩ := b1
    obtain ⟨p1', q1'⟩ := c1
    have n0 := own_cmpr d0 d1
    have n1 := own_cmpr (1000 : Int32) (1000 : Int32)
    have n2 := own_cmpr (own_min d0 d1) (own_min (1000 : Int32) (1000 : Int32))
    omega
  · have w2_0 := (own_Wk b0 b1).mp w2_0
    refine own_ok_of (v := d1) (by decide) (own_get0 _ _ _ _) ?_ c1.1
    rw [own_kth_sel (k := (1 : Int32)) (m := (2 : Int32)) (by decide) (own_et (by decide)) (own_ef (by decide)) (own_ef (by decide)), own_sel1]
    refine Int32.toInt_inj.mp ?_
    have hk : (1000 : Int32).toInt = 1000 := rfl
    obtain ⟨p0, q0⟩ := b0
    obtain ⟨p0', q0'⟩ := c0
    obtain ⟨p1, q1⟩ := b1
    obtain ⟨p1', q1'⟩ := c1
    have n0 := own_cmpr d0 d1
    have n1 := own_cmpr (1000 : Int32) (1000 : Int32)
    have n2 := own_cmpr (own_min d0 d1) (own_min (1000 : Int32) (1000 : Int32))
    omega
set_option maxRecDepth 65536 in
theorem own_p13 {d0 d1 d2 d3 i0 i1 i2 a20 f20 : Int32} {X I : List Int32} (b0 : own_b i0) (c0 : own_c d0) (b1 : own_b i1) (c1 : own_c d1) (b2 : own_b i2) (c2 : own_c d2) (R2 : own_s1 d1 i1 d0 i0 (own_L a20 0 0 0) (own_L f20 0 0 0)) (R3 : own_s1 d2 i2 a20 f20 X I) : own_ok (own_lim (1 : Int32) (1 : Int32) X) (own_kth (1 : Int32) (3 : Int32) d0 d1 d2 d3) := by
  rcases R2 with ⟨w2_0, ex, ey⟩ | ⟨w2_0, ex, ey⟩
  · have w2_0 := own_Wn b0 b1 w2_0
    obtain ⟨g0, -, -, -⟩ := own_inj ex
    obtain ⟨h0, -, -, -⟩ := own_inj ey
    subst g0 h0
    rcases R3 with ⟨w3_0, rfl, rfl⟩ | ⟨w3_0, rfl, rfl⟩
    · have w3_0 := own_Wn b0 b2 w3_0
      refine own_ok_of (v := d0) (by decide) (own_get0 _ _ _ _) ?_ c0.1
      rw [own_kth_sel (k := (1 : Int32)) (m := (3 : Int32)) (by decide) (own_et (by decide)) (own_et (by decide)) (own_ef (by decide)), own_sel1]
      refine Int32.toInt_inj.mp ?_
      have hk : (1000 : Int32).toInt = 1000 := rfl
      obtain ⟨p0, q0⟩ := b0
      obtain ⟨p0', q0'⟩ := c0
      obtain ⟨p1, q1⟩ := b1
      obtain ⟨p1', q1'⟩ := c1
      obtain ⟨p2, q2⟩ := b2
      obtain ⟨p2', q2'⟩ := c2
      have n0 := own_cmpr d0 d1
      have n1 := own_cmpr d2 (1000 : Int32)
      have n2 := own_cmpr (own_min d0 d1) (own_min d2 (1000 : Int32))
      omega
    · have w3_0 := (own_Wk b0 b2).mp w3_0
      refine own_ok_of (v := d2) (by decide) (own_get0 _ _ _ _) ?_ c2.1
      rw [own_kth_sel (k := (1 : Int32)) (m := (3 : Int32)) (by decide) (own_et (by decide)) (own_et (by decide)) (own_ef (by decide)), own_sel1]
      refine Int32.toInt_inj.mp ?_
      have hk : (1000 : Int32).toInt = 1000 := rfl
      obtain ⟨p0, q0⟩ := b0
      obtain ⟨p0', q0'⟩ := c0
      obtain ⟨p1, q1⟩ := b1
      obtain ⟨p1', q1'⟩ := c1
      obtain ⟨p2, q2⟩ := b2
      obtain ⟨p2', q2'⟩ := c2
      have n0 := own_cmpr d0 d1
      have n1 := own_cmpr d2 (1000 : Int32)
      have n2 := own_cmpr (own_min d0 d1) (own_min d2 (1000 : Int32))
      omega
  · have w2_0 := (own_Wk b0 b1).mp w2_0
    obtain ⟨g0, -, -, -⟩ := own_inj ex
    obtain ⟨h0, -, -, -⟩ := own_inj ey
    subst g0 h0
    rcases R3 with ⟨w3_0, rfl, rfl⟩ | ⟨w3_0, rfl, rfl⟩
    · have w3_0 := own_Wn b1 b2 w3_0
      refine own_ok_of (v := d1) (by decide) (own_get0 _ _ _ _) ?_ c1.1
      rw [own_kth_sel (k := (1 : Int32)) (m := (3 : Int32)) (by decide) (own_et (by decide)) (own_et (by decide)) (own_ef (by decide)), own_sel1]
      refine Int32.toInt_inj.mp ?_
      have hk : (1000 : Int32).toInt = 1000 := rfl
      obtain ⟨p0, q0⟩ := b0
      obtain ⟨p0', q0'⟩ := c0
      obtain ⟨p1, q1⟩ := b1
      obtain ⟨p1', q1'⟩ := c1
      obtain ⟨p2, q2⟩ := b2
      obtain ⟨p2', q2'⟩ := c2
      have n0 := own_cmpr d0 d1
      have n1 := own_cmpr d2 (1000 : Int32)
      have n2 := own_cmpr (own_min d0 d1) (own_min d2 (1000 : Int32))
      omega
    · have w3_0 := (own_Wk b1 b2).mp w3_0
      refine own_ok_of (v := d2) (by decide) (own_get0 _ _ _ _) ?_ c2.1
      rw [own_kth_sel (k := (1 : Int32)) (m := (3 : Int32)) (by decide) (own_et (by decide)) (own_et (by decide)) (own_ef (by decide)), own_sel1]
      refine Int32.toInt_inj.mp ?_
      have hk : (1000 : Int32).toInt = 1000 := rfl
      obtain ⟨p0, q0⟩ := b0
      obtain ⟨p0', q0'⟩ := c0
      obtain ⟨p1, q1⟩ := b1
      obtain ⟨p1', q1'⟩ := c1
      obtain ⟨p2, q2⟩ := b2
      obtain ⟨p2', q2'⟩ := c2
      have n0 := own_cmpr d0 d1
      have n1 := own_cmpr d2 (1000 : Int32)
      have n2 := own_cmpr (own_min d0 d1) (own_min d2 (1000 : Int32))
      omega
set_option maxRecDepth 65536 in
theorem own_p14 {d0 d1 d2 d3 i0 i1 i2 i3 a20 f20 a30 f30 : Int32} {X I : List Int32} (b0 : own_b i0) (c0 : own_c d0) (b1 : own_b i1) (c1 : own_c d1) (b2 : own_b i2) (c2 : own_c d2) (b3 : own_b i3) (c3 : own_c d3) (R2 : own_s1 d1 i1 d0 i0 (own_L a20 0 0 0) (own_L f20 0 0 0)) (R3 : own_s1 d2 i2 a20 f20 (own_L a30 0 0 0) (own_L f30 0 0 0)) (R4 : own_s1 d3 i3 a30 f30 X I) : own_ok (own_lim (1 : Int32) (1 : Int32) X) (own_kth (1 : Int32) (4 : Int32) d0 d1 d2 d3) := by
  rcases R2 with ⟨w2_0, ex, ey⟩ | ⟨w2_0, ex, ey⟩
  · have w2_0 := own_Wn b0 b1 w2_0
    obtain ⟨g0, -, -, -⟩ := own_inj ex
    obtain ⟨h0, -, -, -⟩ := own_inj ey
    subst g0 h0
    rcases R3 with ⟨w3_0, ex, ey⟩ | ⟨w3_0, ex, ey⟩
    · have w3_0 := own_Wn b0 b2 w3_0
      obtain ⟨g0, -, -, -⟩ := own_inj ex
      obtain ⟨h0, -, -, -⟩ := own_inj ey
      subst g0 h0
      rcases R4 with ⟨w4_0, rfl, rfl⟩ | ⟨w4_0, rfl, rfl⟩
      · have w4_0 := own_Wn b0 b3 w4_0
        refine own_ok_of (v := d0) (by decide) (own_get0 _ _ _ _) ?_ c0.1
        rw [own_kth_sel (k := (1 : Int32)) (m := (4 : Int32)) (by decide) (own_et (by decide)) (own_et (by decide)) (own_et (by decide)), own_sel1]
        refine Int32.toInt_inj.mp ?_
        have hk : (1000 : Int32).toInt = 1000 := rfl
        obtain ⟨p0, q0⟩ := b0
        obtain ⟨p0', q0'⟩ := c0
        obtain ⟨p1, q1⟩ := b1
        obtain ⟨p1', q1'⟩ := c1
        obtain ⟨p2, q2⟩ := b2
        obtain ⟨p2', q2'⟩ := c2
        obtain ⟨p3, q3⟩ := b3
        obtain ⟨p3', q3'⟩ := c3
        have n0 := own_cmpr d0 d1
        have n1 := own_cmpr d2 d3
        have n2 := own_cmpr (own_min d0 d1) (own_min d2 d3)
        omega
      · have w4_0 := (own_Wk b0 b3).mp w4_0
        refine own_ok_of (v := d3) (by decide) (own_get0 _ _ _ _) ?_ c3.1
        rw [own_kth_sel (k := (1 : Int32)) (m := (4 : Int32)) (by decide) (own_et (by decide)) (own_et (by decide)) (own_et (by decide)), own_sel1]
        refine Int32.toInt_inj.mp ?_
        have hk : (1000 : Int32).toInt = 1000 := rfl
        obtain ⟨p0, q0⟩ := b0
        obtain ⟨p0', q0'⟩ := c0
        obtain ⟨p1, q1⟩ := b1
        obtain ⟨p1', q1'⟩ := c1
        obtain ⟨p2, q2⟩ := b2
        obtain ⟨p2', q2'⟩ := c2
        obtain ⟨p3, q3⟩ := b3
        obtain ⟨p3', q3'⟩ := c3
        have n0 := own_cmpr d0 d1
        have n1 := own_cmpr d2 d3
        have n2 := own_cmpr (own_min d0 d1) (own_min d2 d3)
        omega
    · have w3_0 := (own_Wk b0 b2).mp w3_0
      obtain ⟨g0, -, -, -⟩ := own_inj ex
      obtain ⟨h0, -, -, -⟩ := own_inj ey
      subst g0 h0
      rcases R4 with ⟨w4_0, rfl, rfl⟩ | ⟨w4_0, rfl, rfl⟩
      · have w4_0 := own_Wn b2 b3 w4_0
        refine own_ok_of (v := d2) (by decide) (own_get0 _ _ _ _) ?_ c2.1
        rw [own_kth_sel (k := (1 : Int32)) (m := (4 : Int32)) (by decide) (own_et (by decide)) (own_et (by decide)) (own_et (by decide)), own_sel1]
        refine Int32.toInt_inj.mp ?_
        have hk : (1000 : Int32).toInt = 1000 := rfl
        obtain ⟨p0, q0⟩ := b0
        obtain ⟨p0', q0'⟩ := c0
        obtain ⟨p1, q1⟩ := b1
        obtain ⟨p1', q1'⟩ := c1
        obtain ⟨p2, q2⟩ := b2
        obtain ⟨p2', q2'⟩ := c2
        obtain ⟨p3, q3⟩ := b3
        obtain ⟨p3', q3'⟩ := c3
        have n0 := own_cmpr d0 d1
        have n1 := own_cmpr d2 d3
        have n2 := own_cmpr (own_min d0 d1) (own_min d2 d3)
        omega
      · have w4_0 := (own_Wk b2 b3).mp w4_0
        refine own_ok_of (v := d3) (by decide) (own_get0 _ _ _ _) ?_ c3.1
        rw [own_kth_sel (k := (1 : Int32)) (m := (4 : Int32)) (by decide) (own_et (by decide)) (own_et (by decide)) (own_et (by decide)), own_sel1]
        refine Int32.toInt_inj.mp ?_
        have hk : (1000 : Int32).toInt = 1000 := rfl
        obtain ⟨p0, q0⟩ := b0
        obtain ⟨p0', q0'⟩ := c0
        obtain ⟨p1, q1⟩ := b1
        obtain ⟨p1', q1'⟩ := c1
        obtain ⟨p2, q2⟩ := b2
        obtain ⟨p2', q2'⟩ := c2
        obtain ⟨p3, q3⟩ := b3
        obtain ⟨p3', q3'⟩ := c3
        have n0 := own_cmpr d0 d1
        have n1 := own_cmpr d2 d3
        have n2 := own_cmpr (own_min d0 d1) (own_min d2 d3)
        omega
  · have w2_0 := (own_Wk b0 b1).mp w2_0
    obtain ⟨g0, -, -, -⟩ := own_inj ex
    obtain ⟨h0, -, -, -⟩ := own_inj ey
    subst g0 h0
    rcases R3 with ⟨w3_0, ex, ey⟩ | ⟨w3_0, ex, ey⟩
    · have w3_0 := own_Wn b1 b2 w3_0
      obtain ⟨g0, -, -, -⟩ := own_inj ex
      obtain ⟨h0, -, -, -⟩ := own_inj ey
      subst g0 h0
      rcases R4 with ⟨w4_0, rfl, rfl⟩ | ⟨w4_0, rfl, rfl⟩
      · have w4_0 := own_Wn b1 b3 w4_0
        refine own_ok_of (v := d1) (by decide) (own_get0 _ _ _ _) ?_ c1.1
        rw [own_kth_sel (k := (1 : Int32)) (m := (4 : Int32)) (by decide) (own_et (by decide)) (own_et (by decide)) (own_et (by decide)), own_sel1]
        refine Int32.toInt_inj.mp ?_
        have hk : (1000 : Int32).toInt = 1000 := rfl
        obtain ⟨p0, q0⟩ := b0
        obtain ⟨p0', q0'⟩ := c0
        obtain ⟨p1, q1⟩ := b1
        obtain ⟨p1', q1'⟩ := c1
        obtain ⟨p2, q2⟩ := b2
        obtain ⟨p2', q2'⟩ := c2
        obtain ⟨p3, q3⟩ := b3
        obtain ⟨p3', q3'⟩ := c3
        have n0 := own_cmpr d0 d1
        have n1 := own_cmpr d2 d3
        have n2 := own_cmpr (own_min d0 d1) (own_min d2 d3)
        omega
      · have w4_0 := (own_Wk b1 b3).mp w4_0
        refine own_ok_of (v := d3) (by decide) (own_get0 _ _ _ _) ?_ c3.1
        rw [own_kth_sel (k := (1 : Int32)) (m := (4 : Int32)) (by decide) (own_et (by decide)) (own_et (by decide)) (own_et (by decide)), own_sel1]
        refine Int32.toInt_inj.mp ?_
        have hk : (1000 : Int32).toInt = 1000 := rfl
        obtain ⟨p0, q0⟩ := b0
        obtain ⟨p0', q0'⟩ := c0
        obtain ⟨p1, q1⟩ := b1
        obtain ⟨p1', q1'⟩ := c1
        obtain ⟨p2, q2⟩ := b2
        obtain ⟨p2', q2'⟩ := c2
        obtain ⟨p3, q3⟩ := b3
        obtain ⟨p3', q3'⟩ := c3
        have n0 := own_cmpr d0 d1
        have n1 := own_cmpr d2 d3
        have n2 := own_cmpr (own_min d0 d1) (own_min d2 d3)
        omega
    · have w3_0 := (own_Wk b1 b2).mp w3_0
      obtain ⟨g0, -, -, -⟩ := own_inj ex
      obtain ⟨h0, -, -, -⟩ := own_inj ey
      subst g0 h0
      rcases R4 with ⟨w4_0, rfl, rfl⟩ | ⟨w4_0, rfl, rfl⟩
      · have w4_0 := own_Wn b2 b3 w4_0
        refine own_ok_of (v := d2) (by decide) (own_get0 _ _ _ _) ?_ c2.1
        rw [own_kth_sel (k := (1 : Int32)) (m := (4 : Int32)) (by decide) (own_et (by decide)) (own_et (by decide)) (own_et (by decide)), own_sel1]
        refine Int32.toInt_inj.mp ?_
        have hk : (1000 : Int32).toInt = 1000 := rfl
        obtain ⟨p0, q0⟩ := b0
        obtain ⟨p0', q0'⟩ := c0
        obtain ⟨p1, q1⟩ := b1
        obtain ⟨p1', q1'⟩ := c1
        obtain ⟨p2, q2⟩ := b2
        obtain ⟨p2', q2'⟩ := c2
        obtain ⟨p3, q3⟩ := b3
        obtain ⟨p3', q3'⟩ := c3
        have n0 := own_cmpr d0 d1
        have n1 := own_cmpr d2 d3
        have n2 := own_cmpr (own_min d0 d1) (own_min d2 d3)
        omega
      · have w4_0 := (own_Wk b2 b3).mp w4_0
        refine own_ok_of (v := d3) (by decide) (own_get0 _ _ _ _) ?_ c3.1
        rw [own_kth_sel (k := (1 : Int32)) (m := (4 : Int32)) (by decide) (own_et (by decide)) (own_et (by decide)) (own_et (by decide)), own_sel1]
        refine Int32.toInt_inj.mp ?_
        have hk : (1000 : Int32).toInt = 1000 := rfl
        obtain ⟨p0, q0⟩ := b0
        obtain ⟨p0', q0'⟩ := c0
        obtain ⟨p1, q1⟩ := b1
        obtain ⟨p1', q1'⟩ := c1
        obtain ⟨p2, q2⟩ := b2
        obtain ⟨p2', q2'⟩ := c2
        obtain ⟨p3, q3⟩ := b3
        obtain ⟨p3', q3'⟩ := c3
        have n0 := own_cmpr d0 d1
        have n1 := own_cmpr d2 d3
        have n2 := own_cmpr (own_min d0 d1) (own_min d2 d3)
        omega
set_option maxRecDepth 65536 in
theorem own_p22 {d0 d1 d2 d3 i0 i1 : Int32} {X I : List Int32} (b0 : own_b i0) (c0 : own_c d0) (b1 : own_b i1) (c1 : own_c d1) (R2 : own_r1 d1 i1 d0 i0 X I) : own_ok (own_lim (2 : Int32) (2 : Int32) X) (own_kth (2 : Int32) (2 : Int32) d0 d1 d2 d3) := by
  rcases R2 with ⟨w2_0, rfl, rfl⟩ | ⟨w2_0, rfl, rfl⟩
  · have w2_0 := (own_Wk b1 b0).mp w2_0
    refine own_ok_of (v := d1) (by decide) (own_get0 _ _ _ _) ?_ c1.1
    rw [own_kth_sel (k := (2 : Int32)) (m := (2 : Int32)) (by decide) (own_et (by decide)) (own_ef (by decide)) (own_ef (by decide)), own_sel2]
    refine Int32.toInt_inj.mp ?_
    have hk : (1000 : Int32).toInt = 1000 := rfl
    obtain ⟨p0, q0⟩ := b0
    obtain ⟨p0', q0'⟩ := c0
    obtain ⟨p1, q1⟩ := b1
    obtain ⟨p1', q1'⟩ := c1
    have n0 := own_cmpr d0 d1
    have n1 := own_cmpr (1000 : Int32) (1000 : Int32)
    have n2 := own_cmpr (own_min d0 d1) (own_min (1000 : Int32) (1000 : Int32))
    have n3 := own_cmpr (own_max d0 d1) (own_max (1000 : Int32) (1000 : Int32))
    have n4 := own_cmpr (own_min (own_max d0 d1) (own_max (1000 : Int32) (1000 : Int32))) (own_max (own_min d0 d1) (own_min (1000 : Int32) (1000 : Int32)))
    omega
  · have w2_0 := own_Wn b1 b0 w2_0
    refine own_ok_of (v := d0) (by decide) (own_get0 _ _ _ _) ?_ c0.1
    rw [own_kth_sel (k := (2 : Int32)) (m := (2 : Int32)) (by decide) (own_et (by decide)) (own_ef (by decide)) (own_ef (by decide)), own_sel2]
    refine Int32.toInt_inj.mp ?_
    have hk : (1000 : Int32).toInt = 1000 := rfl
    obtain ⟨p0, q0⟩ := b0
    obtain ⟨p0', q0'⟩ := c0
    obtain ⟨p1, q1⟩ := b1
    obtain ⟨p1', q1'⟩ := c1
    have n0 := own_cmpr d0 d1
    have n1 := own_cmpr (1000 : Int32) (1000 : Int32)
    have n2 := own_cmpr (own_min d0 d1) (own_min (1000 : Int32) (1000 : Int32))
    have n3 := own_cmpr (own_max d0 d1) (own_max (1000 : Int32) (1000 : Int32))
    have n4 := own_cmpr (own_min (own_max d0 d1) (own_max (1000 : Int32) (1000 : Int32))) (own_max (own_min d0 d1) (own_min (1000 : Int32) (1000 : Int32)))
    omega
set_option maxRecDepth 65536 in
theorem own_p23 {d0 d1 d2 d3 i0 i1 i2 a20 f20 a21 f21 : Int32} {X I : List Int32} (b0 : own_b i0) (c0 : own_c d0) (b1 : own_b i1) (c1 : own_c d1) (b2 : own_b i2) (c2 : own_c d2) (R2 : own_r1 d1 i1 d0 i0 (own_L a20 a21 0 0) (own_L f20 f21 0 0)) (R3 : own_s2 d2 i2 a20 f20 a21 f21 X I) : own_ok (own_lim (2 : Int32) (2 : Int32) X) (own_kth (2 : Int32) (3 : Int32) d0 d1 d2 d3) := by
  rcases R2 with ⟨w2_0, ex, ey⟩ | ⟨w2_0, ex, ey⟩
  · have w2_0 := (own_Wk b1 b0).mp w2_0
    obtain ⟨g0, g1, -, -⟩ := own_inj ex
    obtain ⟨h0, h1, -, -⟩ := own_inj ey
    subst g0 g1 h0 h1
    rcases R3 with ⟨w3_0, rfl, rfl⟩ | ⟨w3_0, w3_1, rfl, rfl⟩ | ⟨w3_0, w3_1, rfl, rfl⟩
    · have w3_0 := own_Wn b1 b2 w3_0
      refine own_ok_of (v := d1) (by decide) (own_get0 _ _ _ _) ?_ c1.1
      rw [own_kth_sel (k := (2 : Int32)) (m := (3 : Int32)) (by decide) (own_et (by decide)) (own_et (by decide)) (own_ef (by decide)), own_sel2]
      refine Int32.toInt_inj.mp ?_
      have hk : (1000 : Int32).toInt = 1000 := rfl
      obtain ⟨p0, q0⟩ := b0
      obtain ⟨p0', q0'⟩ := c0
      obtain ⟨p1, q1⟩ := b1
      obtain ⟨p1', q1'⟩ := c1
      obtain ⟨p2, q2⟩ := b2
      obtain ⟨p2', q2'⟩ := c2
      have n0 := own_cmpr d0 d1
      have n1 := own_cmpr d2 (1000 : Int32)
      have n2 := own_cmpr (own_min d0 d1) (own_min d2 (1000 : Int32))
      have n3 := own_cmpr (own_max d0 d1) (own_max d2 (1000 : Int32))
      have n4 := own_cmpr (own_min (own_max d0 d1) (own_max d2 (1000 : Int32))) (own_max (own_min d0 d1) (own_min d2 (1000 : Int32)))
      omega
    · have w3_0 := (own_Wk b1 b2).mp w3_0
      have w3_1 := own_Wn b0 b2 w3_1
      refine own_ok_of (v := d2) (by decide) (own_get0 _ _ _ _) ?_ c2.1
      rw [own_kth_sel (k := (2 : Int32)) (m := (3 : Int32)) (by decide) (own_et (by decide)) (own_et (by decide)) (own_ef (by decide)), own_sel2]
      refine Int32.toInt_inj.mp ?_
      have hk : (1000 : Int32).toInt = 1000 := rfl
      obtain ⟨p0, q0⟩ := b0
      obtain ⟨p0', q0'⟩ := c0
      obtain ⟨p1, q1⟩ := b1
      obtain ⟨p1', q1'⟩ := c1
      obtain ⟨p2, q2⟩ := b2
      obtain ⟨p2', q2'⟩ := c2
      have n0 := own_cmpr d0 d1
      have n1 := own_cmpr d2 (1000 : Int32)
      have n2 := own_cmpr (own_min d0 d1) (own_min d2 (1000 : Int32))
      have n3 := own_cmpr (own_max d0 d1) (own_max d2 (1000 : Int32))
      have n4 := own_cmpr (own_min (own_max d0 d1) (own_max d2 (1000 : Int32))) (own_max (own_min d0 d1) (own_min d2 (1000 : Int32)))
      omega
    · have w3_0 := (own_Wk b1 b2).mp w3_0
      have w3_1 := (own_Wk b0 b2).mp w3_1
      refine own_ok_of (v := d0) (by decide) (own_get0 _ _ _ _) ?_ c0.1
      rw [own_kth_sel (k := (2 : Int32)) (m := (3 : Int32)) (by decide) (own_et (by decide)) (own_et (by decide)) (own_ef (by decide)), own_sel2]
      refine Int32.toInt_inj.mp ?_
      have hk : (1000 : Int32).toInt = 1000 := rfl
      obtain ⟨p0, q0⟩ := b0
      obtain ⟨p0', q0'⟩ := c0
      obtain ⟨p1, q1⟩ := b1
      obtain ⟨p1', q1'⟩ := c1
      obtain ⟨p2, q2⟩ := b2
      obtain ⟨p2', q2'⟩ := c2
      have n0 := own_cmpr d0 d1
      have n1 := own_cmpr d2 (1000 : Int32)
      have n2 := own_cmpr (own_min d0 d1) (own_min d2 (1000 : Int32))
      have n3 := own_cmpr (own_max d0 d1) (own_max d2 (1000 : Int32))
      have n4 := own_cmpr (own_min (own_max d0 d1) (own_max d2 (1000 : Int32))) (own_max (own_min d0 d1) (own_min d2 (1000 : Int32)))
      omega
  · have w2_0 := own_Wn b1 b0 w2_0
    obtain ⟨g0, g1, -, -⟩ := own_inj ex
    obtain ⟨h0, h1, -, -⟩ := own_inj ey
    subst g0 g1 h0 h1
    rcases R3 with ⟨w3_0, rfl, rfl⟩ | ⟨w3_0, w3_1, rfl, rfl⟩ | ⟨w3_0, w3_1, rfl, rfl⟩
    · have w3_0 := own_Wn b0 b2 w3_0
      refine own_ok_of (v := d0) (by decide) (own_get0 _ _ _ _) ?_ c0.1
      rw [own_kth_sel (k := (2 : Int32)) (m := (3 : Int32)) (by decide) (own_et (by decide)) (own_et (by decide)) (own_ef (by decide)), own_sel2]
      refine Int32.toInt_inj.mp ?_
      have hk : (1000 : Int32).toInt = 1000 := rfl
      obtain ⟨p0, q0⟩ := b0
      obtain ⟨p0', q0'⟩ := c0
      obtain ⟨p1, q1⟩ := b1
      obtain ⟨p1', q1'⟩ := c1
      obtain ⟨p2, q2⟩ := b2
      obtain ⟨p2', q2'⟩ := c2
      have n0 := own_cmpr d0 d1
      have n1 := own_cmpr d2 (1000 : Int32)
      have n2 := own_cmpr (own_min d0 d1) (own_min d2 (1000 : Int32))
      have n3 := own_cmpr (own_max d0 d1) (own_max d2 (1000 : Int32))
      have n4 := own_cmpr (own_min (own_max d0 d1) (own_max d2 (1000 : Int32))) (own_max (own_min d0 d1) (own_min d2 (1000 : Int32)))
      omega
    · have w3_0 := (own_Wk b0 b2).mp w3_0
      have w3_1 := own_Wn b1 b2 w3_1
      refine own_ok_of (v := d2) (by decide) (own_get0 _ _ _ _) ?_ c2.1
      rw [own_kth_sel (k := (2 : Int32)) (m := (3 : Int32)) (by decide) (own_et (by decide)) (own_et (by decide)) (own_ef (by decide)), own_sel2]
      refine Int32.toInt_inj.mp ?_
      have hk : (1000 : Int32).toInt = 1000 := rfl
      obtain ⟨p0, q0⟩ := b0
      obtain ⟨p0', q0'⟩ := c0
      obtain ⟨p1, q1⟩ := b1
      obtain ⟨p1', q1'⟩ := c1
      obtain ⟨p2, q2⟩ := b2
      obtain ⟨p2', q2'⟩ := c2
      have n0 := own_cmpr d0 d1
      have n1 := own_cmpr d2 (1000 : Int32)
      have n2 := own_cmpr (own_min d0 d1) (own_min d2 (1000 : Int32))
      have n3 := own_cmpr (own_max d0 d1) (own_max d2 (1000 : Int32))
      have n4 := own_cmpr (own_min (own_max d0 d1) (own_max d2 (1000 : Int32))) (own_max (own_min d0 d1) (own_min d2 (1000 : Int32)))
      omega
    · have w3_0 := (own_Wk b0 b2).mp w3_0
      have w3_1 := (own_Wk b1 b2).mp w3_1
      refine own_ok_of (v := d1) (by decide) (own_get0 _ _ _ _) ?_ c1.1
      rw [own_kth_sel (k := (2 : Int32)) (m := (3 : Int32)) (by decide) (own_et (by decide)) (own_et (by decide)) (own_ef (by decide)), own_sel2]
      refine Int32.toInt_inj.mp ?_
      have hk : (1000 : Int32).toInt = 1000 := rfl
      obtain ⟨p0, q0⟩ := b0
      obtain ⟨p0', q0'⟩ := c0
      obtain ⟨p1, q1⟩ := b1
      obtain ⟨p1', q1'⟩ := c1
      obtain ⟨p2, q2⟩ := b2
      obtain ⟨p2', q2'⟩ := c2
      have n0 := own_cmpr d0 d1
      have n1 := own_cmpr d2 (1000 : Int32)
      have n2 := own_cmpr (own_min d0 d1) (own_min d2 (1000 : Int32))
      have n3 := own_cmpr (own_max d0 d1) (own_max d2 (1000 : Int32))
      have n4 := own_cmpr (own_min (own_max d0 d1) (own_max d2 (1000 : Int32))) (own_max (own_min d0 d1) (own_min d2 (1000 : Int32)))
      omega
set_option maxRecDepth 65536 in
theorem own_p24 {d0 d1 d2 d3 i0 i1 i2 i3 a20 f20 a21 f21 a30 f30 a31 f31 : Int32} {X I : List Int32} (b0 : own_b i0) (c0 : own_c d0) (b1 : own_b i1) (c1 : own_c d1) (b2 : own_b i2) (c2 : own_c d2) (b3 : own_b i3) (c3 : own_c d3) (R2 : own_r1 d1 i1 d0 i0 (own_L a20 a21 0 0) (own_L f20 f21 0 0)) (R3 : own_s2 d2 i2 a20 f20 a21 f21 (own_L a30 a31 0 0) (own_L f30 f31 0 0)) (R4 : own_s2 d3 i3 a30 f30 a31 f31 X I) : own_ok (own_lim (2 : Int32) (2 : Int32) X) (own_kth (2 : Int32) (4 : Int32) d0 d1 d2 d3) := by
  rcases R2 with ⟨w2_0, ex, ey⟩ | ⟨w2_0, ex, ey⟩
  · have w2_0 := (own_Wk b1 b0).mp w2_0
    obtain ⟨g0, g1, -, -⟩ := own_inj ex
    obtain ⟨h0, h1, -, -⟩ := own_inj ey
    subst g0 g1 h0 h1
    rcases R3 with ⟨w3_0, ex, ey⟩ | ⟨w3_0, w3_1, ex, ey⟩ | ⟨w3_0, w3_1, ex, ey⟩
    · have w3_0 := own_Wn b1 b2 w3_0
      obtain ⟨g0, g1, -, -⟩ := own_inj ex
      obtain ⟨h0, h1, -, -⟩ := own_inj ey
      subst g0 g1 h0 h1
      rcases R4 with ⟨w4_0, rfl, rfl⟩ | ⟨w4_0, w4_1, rfl, rfl⟩ | ⟨w4_0, w4_1, rfl, rfl⟩
      · have w4_0 := own_Wn b1 b3 w4_0
        refine own_ok_of (v := d1) (by decide) (own_get0 _ _ _ _) ?_ c1.1
        rw [own_kth_sel (k := (2 : Int32)) (m := (4 : Int32)) (by decide) (own_et (by decide)) (own_et (by decide)) (own_et (by decide)), own_sel2]
        refine Int32.toInt_inj.mp ?_
        have hk : (1000 : Int32).toInt = 1000 := rfl
        obtain ⟨p0, q0⟩ := b0
        obtain ⟨p0', q0'⟩ := c0
        obtain ⟨p1, q1⟩ := b1
        obtain ⟨p1', q1'⟩ := c1
        obtain ⟨p2, q2⟩ := b2
        obtain ⟨p2', q2'⟩ := c2
        obtain ⟨p3, q3⟩ := b3
        obtain ⟨p3', q3'⟩ := c3
        have n0 := own_cmpr d0 d1
        have n1 := own_cmpr d2 d3
        have n2 := own_cmpr (own_min d0 d1) (own_min d2 d3)
        have n3 := own_cmpr (own_max d0 d1) (own_max d2 d3)
        have n4 := own_cmpr (own_min (own_max d0 d1) (own_max d2 d3)) (own_max (own_min d0 d1) (own_min d2 d3))
        omega
      · have w4_0 := (own_Wk b1 b3).mp w4_0
        have w4_1 := own_Wn b0 b3 w4_1
        refine own_ok_of (v := d3) (by decide) (own_get0 _ _ _ _) ?_ c3.1
        rw [own_kth_sel (k := (2 : Int32)) (m := (4 : Int32)) (by decide) (own_et (by decide)) (own_et (by decide)) (own_et (by decide)), own_sel2]
        refine Int32.toInt_inj.mp ?_
        have hk : (1000 : Int32).toInt = 1000 := rfl
        obtain ⟨p0, q0⟩ := b0
        obtain ⟨p0', q0'⟩ := c0
        obtain ⟨p1, q1⟩ := b1
        obtain ⟨p1', q1'⟩ := c1
        obtain ⟨p2, q2⟩ := b2
        obtain ⟨p2', q2'⟩ := c2
        obtain ⟨p3, q3⟩ := b3
        obtain ⟨p3', q3'⟩ := c3
        have n0 := own_cmpr d0 d1
        have n1 := own_cmpr d2 d3
        have n2 := own_cmpr (own_min d0 d1) (own_min d2 d3)
        have n3 := own_cmpr (own_max d0 d1) (own_max d2 d3)
        have n4 := own_cmpr (own_min (own_max d0 d1) (own_max d2 d3)) (own_max (own_min d0 d1) (own_min d2 d3))
        omega
      · have w4_0 := (own_Wk b1 b3).mp w4_0
        have w4_1 := (own_Wk b0 b3).mp w4_1
        refine own_ok_of (v := d0) (by decide) (own_get0 _ _ _ _) ?_ c0.1
        rw [own_kth_sel (k := (2 : Int32)) (m := (4 : Int32)) (by decide) (own_et (by decide)) (own_et (by decide)) (own_et (by decide)), own_sel2]
        refine Int32.toInt_inj.mp ?_
        have hk : (1000 : Int32).toInt = 1000 := rfl
        obtain ⟨p0, q0⟩ := b0
        obtain ⟨p0', q0'⟩ := c0
        obtain ⟨p1, q1⟩ := b1
        obtain ⟨p1', q1'⟩ := c1
        obtain ⟨p2, q2⟩ := b2
        obtain ⟨p2', q2'⟩ := c2
        obtain ⟨p3, q3⟩ := b3
        obtain ⟨p3', q3'⟩ := c3
        have n0 := own_cmpr d0 d1
        have n1 := own_cmpr d2 d3
        have n2 := own_cmpr (own_min d0 d1) (own_min d2 d3)
        have n3 := own_cmpr (own_max d0 d1) (own_max d2 d3)
        have n4 := own_cmpr (own_min (own_max d0 d1) (own_max d2 d3)) (own_max (own_min d0 d1) (own_min d2 d3))
        omega
    · have w3_0 := (own_Wk b1 b2).mp w3_0
      have w3_1 := own_Wn b0 b2 w3_1
      obtain ⟨g0, g1, -, -⟩ := own_inj ex
      obtain ⟨h0, h1, -, -⟩ := own_inj ey
      subst g0 g1 h0 h1
      rcases R4 with ⟨w4_0, rfl, rfl⟩ | ⟨w4_0, w4_1, rfl, rfl⟩ | ⟨w4_0, w4_1, rfl, rfl⟩
      · have w4_0 := own_Wn b2 b3 w4_0
        refine own_ok_of (v := d2) (by decide) (own_get0 _ _ _ _) ?_ c2.1
        rw [own_kth_sel (k := (2 : Int32)) (m := (4 : Int32)) (by decide) (own_et (by decide)) (own_et (by decide)) (own_et (by decide)), own_sel2]
        refine Int32.toInt_inj.mp ?_
        have hk : (1000 : Int32).toInt = 1000 := rfl
        obtain ⟨p0, q0⟩ := b0
        obtain ⟨p0', q0'⟩ := c0
        obtain ⟨p1, q1⟩ := b1
        obtain ⟨p1', q1'⟩ := c1
        obtain ⟨p2, q2⟩ := b2
        obtain ⟨p2', q2'⟩ := c2
        obtain ⟨p3, q3⟩ := b3
        obtain ⟨p3', q3'⟩ := c3
        have n0 := own_cmpr d0 d1
        have n1 := own_cmpr d2 d3
        have n2 := own_cmpr (own_min d0 d1) (own_min d2 d3)
        have n3 := own_cmpr (own_max d0 d1) (own_max d2 d3)
        have n4 := own_cmpr (own_min (own_max d0 d1) (own_max d2 d3)) (own_max (own_min d0 d1) (own_min d2 d3))
        omega
      · have w4_0 := (own_Wk b2 b3).mp w4_0
        have w4_1 := own_Wn b0 b3 w4_1
        refine own_ok_of (v := d3) (by decide) (own_get0 _ _ _ _) ?_ c3.1
        rw [own_kth_sel (k := (2 : Int32)) (m := (4 : Int32)) (by decide) (own_et (by decide)) (own_et (by decide)) (own_et (by decide)), own_sel2]
        refine Int32.toInt_inj.mp ?_
        have hk : (1000 : Int32).toInt = 1000 := rfl
        obtain ⟨p0, q0⟩ := b0
        obtain ⟨p0', q0'⟩ := c0
        obtain ⟨p1, q1⟩ := b1
        obtain ⟨p1', q1'⟩ := c1
        obtain ⟨p2, q2⟩ := b2
        obtain ⟨p2', q2'⟩ := c2
        obtain ⟨p3, q3⟩ := b3
        obtain ⟨p3', q3'⟩ := c3
        have n0 := own_cmpr d0 d1
        have n1 := own_cmpr d2 d3
        have n2 := own_cmpr (own_min d0 d1) (own_min d2 d3)
        have n3 := own_cmpr (own_max d0 d1) (own_max d2 d3)
        have n4 := own_cmpr (own_min (own_max d0 d1) (own_max d2 d3)) (own_max (own_min d0 d1) (own_min d2 d3))
        omega
      · have w4_0 := (own_Wk b2 b3).mp w4_0
        have w4_1 := (own_Wk b0 b3).mp w4_1
        refine own_ok_of (v := d0) (by decide) (own_get0 _ _ _ _) ?_ c0.1
        rw [own_kth_sel (k := (2 : Int32)) (m := (4 : Int32)) (by decide) (own_et (by decide)) (own_et (by decide)) (own_et (by decide)), own_sel2]
        refine Int32.toInt_inj.mp ?_
        have hk : (1000 : Int32).toInt = 1000 := rfl
        obtain ⟨p0, q0⟩ := b0
        obtain ⟨p0', q0'⟩ := c0
        obtain ⟨p1, q1⟩ := b1
        obtain ⟨p1', q1'⟩ := c1
        obtain ⟨p2, q2⟩ := b2
        obtain ⟨p2', q2'⟩ := c2
        obtain ⟨p3, q3⟩ := b3
        obtain ⟨p3', q3'⟩ := c3
        have n0 := own_cmpr d0 d1
        have n1 := own_cmpr d2 d3
        have n2 := own_cmpr (own_min d0 d1) (own_min d2 d3)
        have n3 := own_cmpr (own_max d0 d1) (own_max d2 d3)
        have n4 := own_cmpr (own_min (own_max d0 d1) (own_max d2 d3)) (own_max (own_min d0 d1) (own_min d2 d3))
        omega
    · have w3_0 := (own_Wk b1 b2).mp w3_0
      have w3_1 := (own_Wk b0 b2).mp w3_1
      obtain ⟨g0, g1, -, -⟩ := own_inj ex
      obtain ⟨h0, h1, -, -⟩ := own_inj ey
      subst g0 g1 h0 h1
      rcases R4 with ⟨w4_0, rfl, rfl⟩ | ⟨w4_0, w4_1, rfl, rfl⟩ | ⟨w4_0, w4_1, rfl, rfl⟩
      · have w4_0 := own_Wn b0 b3 w4_0
        refine own_ok_of (v := d0) (by decide) (own_get0 _ _ _ _) ?_ c0.1
        rw [own_kth_sel (k := (2 : Int32)) (m := (4 : Int32)) (by decide) (own_et (by decide)) (own_et (by decide)) (own_et (by decide)), own_sel2]
        refine Int32.toInt_inj.mp ?_
        have hk : (1000 : Int32).toInt = 1000 := rfl
        obtain ⟨p0, q0⟩ := b0
        obtain ⟨p0', q0'⟩ := c0
        obtain ⟨p1, q1⟩ := b1
        obtain ⟨p1', q1'⟩ := c1
        obtain ⟨p2, q2⟩ := b2
        obtain ⟨p2', q2'⟩ := c2
        obtain ⟨p3, q3⟩ := b3
        obtain ⟨p3', q3'⟩ := c3
        have n0 := own_cmpr d0 d1
        have n1 := own_cmpr d2 d3
        have n2 := own_cmpr (own_min d0 d1) (own_min d2 d3)
        have n3 := own_cmpr (own_max d0 d1) (own_max d2 d3)
        have n4 := own_cmpr (own_min (own_max d0 d1) (own_max d2 d3)) (own_max (own_min d0 d1) (own_min d2 d3))
        omega
      · have w4_0 := (own_Wk b0 b3).mp w4_0
        have w4_1 := own_Wn b2 b3 w4_1
        refine own_ok_of (v := d3) (by decide) (own_get0 _ _ _ _) ?_ c3.1
        rw [own_kth_sel (k := (2 : Int32)) (m := (4 : Int32)) (by decide) (own_et (by decide)) (own_et (by decide)) (own_et (by decide)), own_sel2]
        refine Int32.toInt_inj.mp ?_
        have hk : (1000 : Int32).toInt = 1000 := rfl
        obtain ⟨p0, q0⟩ := b0
        obtain ⟨p0', q0'⟩ := c0
        obtain ⟨p1, q1⟩ := b1
        obtain ⟨p1', q1'⟩ := c1
        obtain ⟨p2, q2⟩ := b2
        obtain ⟨p2', q2'⟩ := c2
        obtain ⟨p3, q3⟩ := b3
        obtain ⟨p3', q3'⟩ := c3
        have n0 := own_cmpr d0 d1
        have n1 := own_cmpr d2 d3
        have n2 := own_cmpr (own_min d0 d1) (own_min d2 d3)
        have n3 := own_cmpr (own_max d0 d1) (own_max d2 d3)
        have n4 := own_cmpr (own_min (own_max d0 d1) (own_max d2 d3)) (own_max (own_min d0 d1) (own_min d2 d3))
        omega
      · have w4_0 := (own_Wk b0 b3).mp w4_0
        have w4_1 := (own_Wk b2 b3).mp w4_1
        refine own_ok_of (v := d2) (by decide) (own_get0 _ _ _ _) ?_ c2.1
        rw [own_kth_sel (k := (2 : Int32)) (m := (4 : Int32)) (by decide) (own_et (by decide)) (own_et (by decide)) (own_et (by decide)), own_sel2]
        refine Int32.toInt_inj.mp ?_
        have hk : (1000 : Int32).toInt = 1000 := rfl
        obtain ⟨p0, q0⟩ := b0
        obtain ⟨p0', q0'⟩ := c0
        obtain ⟨p1, q1⟩ := b1
        obtain ⟨p1', q1'⟩ := c1
        obtain ⟨p2, q2⟩ := b2
        obtain ⟨p2', q2'⟩ := c2
        obtain ⟨p3, q3⟩ := b3
        obtain ⟨p3', q3'⟩ := c3
        have n0 := own_cmpr d0 d1
        have n1 := own_cmpr d2 d3
        have n2 := own_cmpr (own_min d0 d1) (own_min d2 d3)
        have n3 := own_cmpr (own_max d0 d1) (own_max d2 d3)
        have n4 := own_cmpr (own_min (own_max d0 d1) (own_max d2 d3)) (own_max (own_min d0 d1) (own_min d2 d3))
        omega
  · have w2_0 := own_Wn b1 b0 w2_0
    obtain ⟨g0, g1, -, -⟩ := own_inj ex
    obtain ⟨h0, h1, -, -⟩ := own_inj ey
    subst g0 g1 h0 h1
    rcases R3 with ⟨w3_0, ex, ey⟩ | ⟨w3_0, w3_1, ex, ey⟩ | ⟨w3_0, w3_1, ex, ey⟩
    · have w3_0 := own_Wn b0 b2 w3_0
      obtain ⟨g0, g1, -, -⟩ := own_inj ex
      obtain ⟨h0, h1, -, -⟩ := own_inj ey
      subst g0 g1 h0 h1
      rcases R4 with ⟨w4_0, rfl, rfl⟩ | ⟨w4_0, w4_1, rfl, rfl⟩ | ⟨w4_0, w4_1, rfl, rfl⟩
      · have w4_0 := own_Wn b0 b3 w4_0
        refine own_ok_of (v := d0) (by decide) (own_get0 _ _ _ _) ?_ c0.1
        rw [own_kth_sel (k := (2 : Int32)) (m := (4 : Int32)) (by decide) (own_et (by decide)) (own_et (by decide)) (own_et (by decide)), own_sel2]
        refine Int32.toInt_inj.mp ?_
        have hk : (1000 : Int32).toInt = 1000 := rfl
        obtain ⟨p0, q0⟩ := b0
        obtain ⟨p0', q0'⟩ := c0
        obtain ⟨p1, q1⟩ := b1
        obtain ⟨p1', q1'⟩ := c1
        obtain ⟨p2, q2⟩ := b2
        obtain ⟨p2', q2'⟩ := c2
        obtain ⟨p3, q3⟩ := b3
        obtain ⟨p3', q3'⟩ := c3
        have n0 := own_cmpr d0 d1
        have n1 := own_cmpr d2 d3
        have n2 := own_cmpr (own_min d0 d1) (own_min d2 d3)
        have n3 := own_cmpr (own_max d0 d1) (own_max d2 d3)
        have n4 := own_cmpr (own_min (own_max d0 d1) (own_max d2 d3)) (own_max (own_min d0 d1) (own_min d2 d3))
        omega
      · have w4_0 := (own_Wk b0 b3).mp w4_0
        have w4_1 := own_Wn b1 b3 w4_1
        refine own_ok_of (v := d3) (by decide) (own_get0 _ _ _ _) ?_ c3.1
        rw [own_kth_sel (k := (2 : Int32)) (m := (4 : Int32)) (by decide) (own_et (by decide)) (own_et (by decide)) (own_et (by decide)), own_sel2]
        refine Int32.toInt_inj.mp ?_
        have hk : (1000 : Int32).toInt = 1000 := rfl
        obtain ⟨p0, q0⟩ := b0
        obtain ⟨p0', q0'⟩ := c0
        obtain ⟨p1, q1⟩ := b1
        obtain ⟨p1', q1'⟩ := c1
        obtain ⟨p2, q2⟩ := b2
        obtain ⟨p2', q2'⟩ := c2
        obtain ⟨p3, q3⟩ := b3
        obtain ⟨p3', q3'⟩ := c3
        have n0 := own_cmpr d0 d1
        have n1 := own_cmpr d2 d3
        have n2 := own_cmpr (own_min d0 d1) (own_min d2 d3)
        have n3 := own_cmpr (own_max d0 d1) (own_max d2 d3)
        have n4 := own_cmpr (own_min (own_max d0 d1) (own_max d2 d3)) (own_max (own_min d0 d1) (own_min d2 d3))
        omega
      · have w4_0 := (own_Wk b0 b3).mp w4_0
        have w4_1 := (own_Wk b1 b3).mp w4_1
        refine own_ok_of (v := d1) (by decide) (own_get0 _ _ _ _) ?_ c1.1
        rw [own_kth_sel (k := (2 : Int32)) (m := (4 : Int32)) (by decide) (own_et (by decide)) (own_et (by decide)) (own_et (by decide)), own_sel2]
        refine Int32.toInt_inj.mp ?_
        have hk : (1000 : Int32).toInt = 1000 := rfl
        obtain ⟨p0, q0⟩ := b0
        obtain ⟨p0', q0'⟩ := c0
        obtain ⟨p1, q1⟩ := b1
        obtain ⟨p1', q1'⟩ := c1
        obtain ⟨p2, q2⟩ := b2
        obtain ⟨p2', q2'⟩ := c2
        obtain ⟨p3, q3⟩ := b3
        obtain ⟨p3', q3'⟩ := c3
        have n0 := own_cmpr d0 d1
        have n1 := own_cmpr d2 d3
        have n2 := own_cmpr (own_min d0 d1) (own_min d2 d3)
        have n3 := own_cmpr (own_max d0 d1) (own_max d2 d3)
        have n4 := own_cmpr (own_min (own_max d0 d1) (own_max d2 d3)) (own_max (own_min d0 d1) (own_min d2 d3))
        omega
    · have w3_0 := (own_Wk b0 b2).mp w3_0
      have w3_1 := own_Wn b1 b2 w3_1
      obtain ⟨g0, g1, -, -⟩ := own_inj ex
      obtain ⟨h0, h1, -, -⟩ := own_inj ey
      subst g0 g1 h0 h1
      rcases R4 with ⟨w4_0, rfl, rfl⟩ | ⟨w4_0, w4_1, rfl, rfl⟩ | ⟨w4_0, w4_1, rfl, rfl⟩
      · have w4_0 := own_Wn b2 b3 w4_0
        refine own_ok_of (v := d2) (by decide) (own_get0 _ _ _ _) ?_ c2.1
        rw [own_kth_sel (k := (2 : Int32)) (m := (4 : Int32)) (by decide) (own_et (by decide)) (own_et (by decide)) (own_et (by decide)), own_sel2]
        refine Int32.toInt_inj.mp ?_
        have hk : (1000 : Int32).toInt = 1000 := rfl
        obtain ⟨p0, q0⟩ := b0
        obtain ⟨p0', q0'⟩ := c0
        obtain ⟨p1, q1⟩ := b1
        obtain ⟨p1', q1'⟩ := c1
        obtain ⟨p2, q2⟩ := b2
        obtain ⟨p2', q2'⟩ := c2
        obtain ⟨p3, q3⟩ := b3
        obtain ⟨p3', q3'⟩ := c3
        have n0 := own_cmpr d0 d1
        have n1 := own_cmpr d2 d3
        have n2 := own_cmpr (own_min d0 d1) (own_min d2 d3)
        have n3 := own_cmpr (own_max d0 d1) (own_max d2 d3)
        have n4 := own_cmpr (own_min (own_max d0 d1) (own_max d2 d3)) (own_max (own_min d0 d1) (own_min d2 d3))
        omega
      · have w4_0 := (own_Wk b2 b3).mp w4_0
        have w4_1 := own_Wn b1 b3 w4_1
        refine own_ok_of (v := d3) (by decide) (own_get0 _ _ _ _) ?_ c3.1
        rw [own_kth_sel (k := (2 : Int32)) (m := (4 : Int32)) (by decide) (own_et (by decide)) (own_et (by decide)) (own_et (by decide)), own_sel2]
        refine Int32.toInt_inj.mp ?_
        have hk : (1000 : Int32).toInt = 1000 := rfl
        obtain ⟨p0, q0⟩ := b0
        obtain ⟨p0', q0'⟩ := c0
        obtain ⟨p1, q1⟩ := b1
        obtain ⟨p1', q1'⟩ := c1
        obtain ⟨p2, q2⟩ := b2
        obtain ⟨p2', q2'⟩ := c2
        obtain ⟨p3, q3⟩ := b3
        obtain ⟨p3', q3'⟩ := c3
        have n0 := own_cmpr d0 d1
        have n1 := own_cmpr d2 d3
        have n2 := own_cmpr (own_min d0 d1) (own_min d2 d3)
        have n3 := own_cmpr (own_max d0 d1) (own_max d2 d3)
        have n4 := own_cmpr (own_min (own_max d0 d1) (own_max d2 d3)) (own_max (own_min d0 d1) (own_min d2 d3))
        omega
      · have w4_0 := (own_Wk b2 b3).mp w4_0
        have w4_1 := (own_Wk b1 b3).mp w4_1
        refine own_ok_of (v := d1) (by decide) (own_get0 _ _ _ _) ?_ c1.1
        rw [own_kth_sel (k := (2 : Int32)) (m := (4 : Int32)) (by decide) (own_et (by decide)) (own_et (by decide)) (own_et (by decide)), own_sel2]
        refine Int32.toInt_inj.mp ?_
        have hk : (1000 : Int32).toInt = 1000 := rfl
        obtain ⟨p0, q0⟩ := b0
        obtain ⟨p0', q0'⟩ := c0
        obtain ⟨p1, q1⟩ := b1
        obtain ⟨p1', q1'⟩ := c1
        obtain ⟨p2, q2⟩ := b2
        obtain ⟨p2', q2'⟩ := c2
        obtain ⟨p3, q3⟩ := b3
        obtain ⟨p3', q3'⟩ := c3
        have n0 := own_cmpr d0 d1
        have n1 := own_cmpr d2 d3
        have n2 := own_cmpr (own_min d0 d1) (own_min d2 d3)
        have n3 := own_cmpr (own_max d0 d1) (own_max d2 d3)
        have n4 := own_cmpr (own_min (own_max d0 d1) (own_max d2 d3)) (own_max (own_min d0 d1) (own_min d2 d3))
        omega
    · have w3_0 := (own_Wk b0 b2).mp w3_0
      have w3_1 := (own_Wk b1 b2).mp w3_1
      obtain ⟨g0, g1, -, -⟩ := own_inj ex
      obtain ⟨h0, h1, -, -⟩ := own_inj ey
      subst g0 g1 h0 h1
      rcases R4 with ⟨w4_0, rfl, rfl⟩ | ⟨w4_0, w4_1, rfl, rfl⟩ | ⟨w4_0, w4_1, rfl, rfl⟩
      · have w4_0 := own_Wn b1 b3 w4_0
        refine own_ok_of (v := d1) (by decide) (own_get0 _ _ _ _) ?_ c1.1
        rw [own_kth_sel (k := (2 : Int32)) (m := (4 : Int32)) (by decide) (own_et (by decide)) (own_et (by decide)) (own_et (by decide)), own_sel2]
        refine Int32.toInt_inj.mp ?_
        have hk : (1000 : Int32).toInt = 1000 := rfl
        obtain ⟨p0, q0⟩ := b0
        obtain ⟨p0', q0'⟩ := c0
        obtain ⟨p1, q1⟩ := b1
        obtain ⟨p1', q1'⟩ := c1
        obtain ⟨p2, q2⟩ := b2
        obtain ⟨p2', q2'⟩ := c2
        obtain ⟨p3, q3⟩ := b3
        obtain ⟨p3', q3'⟩ := c3
        have n0 := own_cmpr d0 d1
        have n1 := own_cmpr d2 d3
        have n2 := own_cmpr (own_min d0 d1) (own_min d2 d3)
        have n3 := own_cmpr (own_max d0 d1) (own_max d2 d3)
        have n4 := own_cmpr (own_min (own_max d0 d1) (own_max d2 d3)) (own_max (own_min d0 d1) (own_min d2 d3))
        omega
      · have w4_0 := (own_Wk b1 b3).mp w4_0
        have w4_1 := own_Wn b2 b3 w4_1
        refine own_ok_of (v := d3) (by decide) (own_get0 _ _ _ _) ?_ c3.1
        rw [own_kth_sel (k := (2 : Int32)) (m := (4 : Int32)) (by decide) (own_et (by decide)) (own_et (by decide)) (own_et (by decide)), own_sel2]
        refine Int32.toInt_inj.mp ?_
        have hk : (1000 : Int32).toInt = 1000 := rfl
        obtain ⟨p0, q0⟩ := b0
        obtain ⟨p0', q0'⟩ := c0
        obtain ⟨p1, q1⟩ := b1
        obtain ⟨p1', q1'⟩ := c1
        obtain ⟨p2, q2⟩ := b2
        obtain ⟨p2', q2'⟩ := c2
        obtain ⟨p3, q3⟩ := b3
        obtain ⟨p3', q3'⟩ := c3
        have n0 := own_cmpr d0 d1
        have n1 := own_cmpr d2 d3
        have n2 := own_cmpr (own_min d0 d1) (own_min d2 d3)
        have n3 := own_cmpr (own_max d0 d1) (own_max d2 d3)
        have n4 := own_cmpr (own_min (own_max d0 d1) (own_max d2 d3)) (own_max (own_min d0 d1) (own_min d2 d3))
        omega
      · have w4_0 := (own_Wk b1 b3).mp w4_0
        have w4_1 := (own_Wk b2 b3).mp w4_1
        refine own_ok_of (v := d2) (by decide) (own_get0 _ _ _ _) ?_ c2.1
        rw [own_kth_sel (k := (2 : Int32)) (m := (4 : Int32)) (by decide) (own_et (by decide)) (own_et (by decide)) (own_et (by decide)), own_sel2]
        refine Int32.toInt_inj.mp ?_
        have hk : (1000 : Int32).toInt = 1000 := rfl
        obtain ⟨p0, q0⟩ := b0
        obtain ⟨p0', q0'⟩ := c0
        obtain ⟨p1, q1⟩ := b1
        obtain ⟨p1', q1'⟩ := c1
        obtain ⟨p2, q2⟩ := b2
        obtain ⟨p2', q2'⟩ := c2
        obtain ⟨p3, q3⟩ := b3
        obtain ⟨p3', q3'⟩ := c3
        have n0 := own_cmpr d0 d1
        have n1 := own_cmpr d2 d3
        have n2 := own_cmpr (own_min d0 d1) (own_min d2 d3)
        have n3 := own_cmpr (own_max d0 d1) (own_max d2 d3)
        have n4 := own_cmpr (own_min (own_max d0 d1) (own_max d2 d3)) (own_max (own_min d0 d1) (own_min d2 d3))
        omega
set_option maxRecDepth 65536 in
theorem own_p33 {d0 d1 d2 d3 i0 i1 i2 a20 f20 a21 f21 : Int32} {X I : List Int32} (b0 : own_b i0) (c0 : own_c d0) (b1 : own_b i1) (c1 : own_c d1) (b2 : own_b i2) (c2 : own_c d2) (R2 : own_r1 d1 i1 d0 i0 (own_L a20 a21 0 0) (own_L f20 f21 0 0)) (R3 : own_r2 d2 i2 a20 f20 a21 f21 X I) : own_ok (own_lim (3 : Int32) (3 : Int32) X) (own_kth (3 : Int32) (3 : Int32) d0 d1 d2 d3) := by
  rcases R2 with ⟨w2_0, ex, ey⟩ | ⟨w2_0, ex, ey⟩
  · have w2_0 := (own_Wk b1 b0).mp w2_0
    obtain ⟨g0, g1, -, -⟩ := own_inj ex
    obtain ⟨h0, h1, -, -⟩ := own_inj ey
    subst g0 g1 h0 h1
    rcases R3 with ⟨w3_0, rfl, rfl⟩ | ⟨w3_0, rfl, rfl⟩
    · have w3_0 := (own_Wk b2 b1).mp w3_0
      refine own_ok_of (v := d2) (by decide) (own_get0 _ _ _ _) ?_ c2.1
      rw [own_kth_sel (k := (3 : Int32)) (m := (3 : Int32)) (by decide) (own_et (by decide)) (own_et (by decide)) (own_ef (by decide)), own_sel3]
      refine Int32.toInt_inj.mp ?_
      have hk : (1000 : Int32).toInt = 1000 := rfl
      obtain ⟨p0, q0⟩ := b0
      obtain ⟨p0', q0'⟩ := c0
      obtain ⟨p1, q1⟩ := b1
      obtain ⟨p1', q1'⟩ := c1
      obtain ⟨p2, q2⟩ := b2
      obtain ⟨p2', q2'⟩ := c2
      have n0 := own_cmpr d0 d1
      have n1 := own_cmpr d2 (1000 : Int32)
      have n2 := own_cmpr (own_min d0 d1) (own_min d2 (1000 : Int32))
      have n3 := own_cmpr (own_max d0 d1) (own_max d2 (1000 : Int32))
      have n4 := own_cmpr (own_min (own_max d0 d1) (own_max d2 (1000 : Int32))) (own_max (own_min d0 d1) (own_min d2 (1000 : Int32)))
      omega
    · have w3_0 := own_Wn b2 b1 w3_0
      refine own_ok_of (v := d1) (by decide) (own_get0 _ _ _ _) ?_ c1.1
      rw [own_kth_sel (k := (3 : Int32)) (m := (3 : Int32)) (by decide) (own_et (by decide)) (own_et (by decide)) (own_ef (by decide)), own_sel3]
      refine Int32.toInt_inj.mp ?_
      have hk : (1000 : Int32).toInt = 1000 := rfl
      obtain ⟨p0, q0⟩ := b0
      obtain ⟨p0', q0'⟩ := c0
      obtain ⟨p1, q1⟩ := b1
      obtain ⟨p1', q1'⟩ := c1
      obtain ⟨p2, q2⟩ := b2
      obtain ⟨p2', q2'⟩ := c2
      have n0 := own_cmpr d0 d1
      have n1 := own_cmpr d2 (1000 : Int32)
      have n2 := own_cmpr (own_min d0 d1) (own_min d2 (1000 : Int32))
      have n3 := own_cmpr (own_max d0 d1) (own_max d2 (1000 : Int32))
      have n4 := own_cmpr (own_min (own_max d0 d1) (own_max d2 (1000 : Int32))) (own_max (own_min d0 d1) (own_min d2 (1000 : Int32)))
      omega
  · have w2_0 := own_Wn b1 b0 w2_0
    obtain ⟨g0, g1, -, -⟩ := own_inj ex
    obtain ⟨h0, h1, -, -⟩ := own_inj ey
    subst g0 g1 h0 h1
    rcases R3 with ⟨w3_0, rfl, rfl⟩ | ⟨w3_0, rfl, rfl⟩
    · have w3_0 := (own_Wk b2 b0).mp w3_0
      refine own_ok_of (v := d2) (by decide) (own_get0 _ _ _ _) ?_ c2.1
      rw [own_kth_sel (k := (3 : Int32)) (m := (3 : Int32)) (by decide) (own_et (by decide)) (own_et (by decide)) (own_ef (by decide)), own_sel3]
      refine Int32.toInt_inj.mp ?_
      have hk : (1000 : Int32).toInt = 1000 := rfl
      obtain ⟨p0, q0⟩ := b0
      obtain ⟨p0', q0'⟩ := c0
      obtain ⟨p1, q1⟩ := b1
      obtain ⟨p1', q1'⟩ := c1
      obtain ⟨p2, q2⟩ := b2
      obtain ⟨p2', q2'⟩ := c2
      have n0 := own_cmpr d0 d1
      have n1 := own_cmpr d2 (1000 : Int32)
      have n2 := own_cmpr (own_min d0 d1) (own_min d2 (1000 : Int32))
      have n3 := own_cmpr (own_max d0 d1) (own_max d2 (1000 : Int32))
      have n4 := own_cmpr (own_min (own_max d0 d1) (own_max d2 (1000 : Int32))) (own_max (own_min d0 d1) (own_min d2 (1000 : Int32)))
      omega
    · have w3_0 := own_Wn b2 b0 w3_0
      refine own_ok_of (v := d0) (by decide) (own_get0 _ _ _ _) ?_ c0.1
      rw [own_kth_sel (k := (3 : Int32)) (m := (3 : Int32)) (by decide) (own_et (by decide)) (own_et (by decide)) (own_ef (by decide)), own_sel3]
      refine Int32.toInt_inj.mp ?_
      have hk : (1000 : Int32).toInt = 1000 := rfl
      obtain ⟨p0, q0⟩ := b0
      obtain ⟨p0', q0'⟩ := c0
      obtain ⟨p1, q1⟩ := b1
      obtain ⟨p1', q1'⟩ := c1
      obtain ⟨p2, q2⟩ := b2
      obtain ⟨p2', q2'⟩ := c2
      have n0 := own_cmpr d0 d1
      have n1 := own_cmpr d2 (1000 : Int32)
      have n2 := own_cmpr (own_min d0 d1) (own_min d2 (1000 : Int32))
      have n3 := own_cmpr (own_max d0 d1) (own_max d2 (1000 : Int32))
      have n4 := own_cmpr (own_min (own_max d0 d1) (own_max d2 (1000 : Int32))) (own_max (own_min d0 d1) (own_min d2 (1000 : Int32)))
      omega
set_option maxRecDepth 65536 in
theorem own_p34 {d0 d1 d2 d3 i0 i1 i2 i3 a20 f20 a21 f21 a30 f30 a31 f31 a32 f32 : Int32} {X I : List Int32} (b0 : own_b i0) (c0 : own_c d0) (b1 : own_b i1) (c1 : own_c d1) (b2 : own_b i2) (c2 : own_c d2) (b3 : own_b i3) (c3 : own_c d3) (R2 : own_r1 d1 i1 d0 i0 (own_L a20 a21 0 0) (own_L f20 f21 0 0)) (R3 : own_r2 d2 i2 a20 f20 a21 f21 (own_L a30 a31 a32 0) (own_L f30 f31 f32 0)) (R4 : own_s3 d3 i3 a30 f30 a31 f31 a32 f32 X I) : own_ok (own_lim (3 : Int32) (3 : Int32) X) (own_kth (3 : Int32) (4 : Int32) d0 d1 d2 d3) := by
  rcases R2 with ⟨w2_0, ex, ey⟩ | ⟨w2_0, ex, ey⟩
  · have w2_0 := (own_Wk b1 b0).mp w2_0
    obtain ⟨g0, g1, -, -⟩ := own_inj ex
    obtain ⟨h0, h1, -, -⟩ := own_inj ey
    subst g0 g1 h0 h1
    rcases R3 with ⟨w3_0, ex, ey⟩ | ⟨w3_0, ex, ey⟩
    · have w3_0 := (own_Wk b2 b1).mp w3_0
      obtain ⟨g0, g1, g2, -⟩ := own_inj ex
      obtain ⟨h0, h1, h2, -⟩ := own_inj ey
      subst g0 g1 g2 h0 h1 h2
      rcases R4 with ⟨w4_0, rfl, rfl⟩ | ⟨w4_0, w4_1, w4_2, rfl, rfl⟩ | ⟨w4_0, w4_1, w4_2, rfl, rfl⟩ | ⟨w4_0, w4_1, w4_2, rfl, rfl⟩ | ⟨w4_0, w4_1, w4_2, rfl, rfl⟩
      · have w4_0 := own_Wn b2 b3 w4_0
        refine own_ok_of (v := d2) (by decide) (own_get0 _ _ _ _) ?_ c2.1
        rw [own_kth_sel (k := (3 : Int32)) (m := (4 : Int32)) (by decide) (own_et (by decide)) (own_et (by decide)) (own_et (by decide)), own_sel3]
        refine Int32.toInt_inj.mp ?_
        have hk : (1000 : Int32).toInt = 1000 := rfl
        obtain ⟨p0, q0⟩ := b0
        obtain ⟨p0', q0'⟩ := c0
        obtain ⟨p1, q1⟩ := b1
        obtain ⟨p1', q1'⟩ := c1
        obtain ⟨p2, q2⟩ := b2
        obtain ⟨p2', q2'⟩ := c2
        obtain ⟨p3, q3⟩ := b3
        obtain ⟨p3', q3'⟩ := c3
        have n0 := own_cmpr d0 d1
        have n1 := own_cmpr d2 d3
        have n2 := own_cmpr (own_min d0 d1) (own_min d2 d3)
        have n3 := own_cmpr (own_max d0 d1) (own_max d2 d3)
        have n4 := own_cmpr (own_min (own_max d0 d1) (own_max d2 d3)) (own_max (own_min d0 d1) (own_min d2 d3))
        omega
      · have w4_0 := (own_Wk b2 b3).mp w4_0
        have w4_1 := (own_Wk b1 b0).mp w4_1
        have w4_2 := own_Wn b1 b3 w4_2
        refine own_ok_of (v := d3) (by decide) (own_get0 _ _ _ _) ?_ c3.1
        rw [own_kth_sel (k := (3 : Int32)) (m := (4 : Int32)) (by decide) (own_et (by decide)) (own_et (by decide)) (own_et (by decide)), own_sel3]
        refine Int32.toInt_inj.mp ?_
        have hk : (1000 : Int32).toInt = 1000 := rfl
        obtain ⟨p0, q0⟩ := b0
        obtain ⟨p0', q0'⟩ := c0
        obtain ⟨p1, q1⟩ := b1
        obtain ⟨p1', q1'⟩ := c1
        obtain ⟨p2, q2⟩ := b2
        obtain ⟨p2', q2'⟩ := c2
        obtain ⟨p3, q3⟩ := b3
        obtain ⟨p3', q3'⟩ := c3
        have n0 := own_cmpr d0 d1
        have n1 := own_cmpr d2 d3
        have n2 := own_cmpr (own_min d0 d1) (own_min d2 d3)
        have n3 := own_cmpr (own_max d0 d1) (own_max d2 d3)
        have n4 := own_cmpr (own_min (own_max d0 d1) (own_max d2 d3)) (own_max (own_min d0 d1) (own_min d2 d3))
        omega
      · have w4_0 := (own_Wk b2 b3).mp w4_0
        have w4_1 := (own_Wk b1 b0).mp w4_1
        have w4_2 := (own_Wk b1 b3).mp w4_2
        refine own_ok_of (v := d1) (by decide) (own_get0 _ _ _ _) ?_ c1.1
        rw [own_kth_sel (k := (3 : Int32)) (m := (4 : Int32)) (by decide) (own_et (by decide)) (own_et (by decide)) (own_et (by decide)), own_sel3]
        refine Int32.toInt_inj.mp ?_
        have hk : (1000 : Int32).toInt = 1000 := rfl
        obtain ⟨p0, q0⟩ := b0
        obtain ⟨p0', q0'⟩ := c0
        obtain ⟨p1, q1⟩ := b1
        obtain ⟨p1', q1'⟩ := c1
        obtain ⟨p2, q2⟩ := b2
        obtain ⟨p2', q2'⟩ := c2
        obtain ⟨p3, q3⟩ := b3
        obtain ⟨p3', q3'⟩ := c3
        have n0 := own_cmpr d0 d1
        have n1 := own_cmpr d2 d3
        have n2 := own_cmpr (own_min d0 d1) (own_min d2 d3)
        have n3 := own_cmpr (own_max d0 d1) (own_max d2 d3)
        have n4 := own_cmpr (own_min (own_max d0 d1) (own_max d2 d3)) (own_max (own_min d0 d1) (own_min d2 d3))
        omega
      · have w4_0 := (own_Wk b2 b3).mp w4_0
        have w4_1 := own_Wn b1 b0 w4_1
        have w4_2 := own_Wn b0 b3 w4_2
        refine own_ok_of (v := d3) (by decide) (own_get0 _ _ _ _) ?_ c3.1
        rw [own_kth_sel (k := (3 : Int32)) (m := (4 : Int32)) (by decide) (own_et (by decide)) (own_et (by decide)) (own_et (by decide)), own_sel3]
        refine Int32.toInt_inj.mp ?_
        have hk : (1000 : Int32).toInt = 1000 := rfl
        obtain ⟨p0, q0⟩ := b0
        obtain ⟨p0', q0'⟩ := c0
        obtain ⟨p1, q1⟩ := b1
        obtain ⟨p1', q1'⟩ := c1
        obtain ⟨p2, q2⟩ := b2
        obtain ⟨p2', q2'⟩ := c2
        obtain ⟨p3, q3⟩ := b3
        obtain ⟨p3', q3'⟩ := c3
        have n0 := own_cmpr d0 d1
        have n1 := own_cmpr d2 d3
        have n2 := own_cmpr (own_min d0 d1) (own_min d2 d3)
        have n3 := own_cmpr (own_max d0 d1) (own_max d2 d3)
        have n4 := own_cmpr (own_min (own_max d0 d1) (own_max d2 d3)) (own_max (own_min d0 d1) (own_min d2 d3))
        omega
      · have w4_0 := (own_Wk b2 b3).mp w4_0
        have w4_1 := own_Wn b1 b0 w4_1
        have w4_2 := (own_Wk b0 b3).mp w4_2
        refine own_ok_of (v := d0) (by decide) (own_get0 _ _ _ _) ?_ c0.1
        rw [own_kth_sel (k := (3 : Int32)) (m := (4 : Int32)) (by decide) (own_et (by decide)) (own_et (by decide)) (own_et (by decide)), own_sel3]
        refine Int32.toInt_inj.mp ?_
        have hk : (1000 : Int32).toInt = 1000 := rfl
        obtain ⟨p0, q0⟩ := b0
        obtain ⟨p0', q0'⟩ := c0
        obtain ⟨p1, q1⟩ := b1
        obtain ⟨p1', q1'⟩ := c1
        obtain ⟨p2, q2⟩ := b2
        obtain ⟨p2', q2'⟩ := c2
        obtain ⟨p3, q3⟩ := b3
        obtain ⟨p3', q3'⟩ := c3
        have n0 := own_cmpr d0 d1
        have n1 := own_cmpr d2 d3
        have n2 := own_cmpr (own_min d0 d1) (own_min d2 d3)
        have n3 := own_cmpr (own_max d0 d1) (own_max d2 d3)
        have n4 := own_cmpr (own_min (own_max d0 d1) (own_max d2 d3)) (own_max (own_min d0 d1) (own_min d2 d3))
        omega
    · have w3_0 := own_Wn b2 b1 w3_0
      obtain ⟨g0, g1, g2, -⟩ := own_inj ex
      obtain ⟨h0, h1, h2, -⟩ := own_inj ey
      subst g0 g1 g2 h0 h1 h2
      rcases R4 with ⟨w4_0, rfl, rfl⟩ | ⟨w4_0, w4_1, w4_2, rfl, rfl⟩ | ⟨w4_0, w4_1, w4_2, rfl, rfl⟩ | ⟨w4_0, w4_1, w4_2, rfl, rfl⟩ | ⟨w4_0, w4_1, w4_2, rfl, rfl⟩
      · have w4_0 := own_Wn b1 b3 w4_0
        refine own_ok_of (v := d1) (by decide) (own_get0 _ _ _ _) ?_ c1.1
        rw [own_kth_sel (k := (3 : Int32)) (m := (4 : Int32)) (by decide) (own_et (by decide)) (own_et (by decide)) (own_et (by decide)), own_sel3]
        refine Int32.toInt_inj.mp ?_
        have hk : (1000 : Int32).toInt = 1000 := rfl
        obtain ⟨p0, q0⟩ := b0
        obtain ⟨p0', q0'⟩ := c0
        obtain ⟨p1, q1⟩ := b1
        obtain ⟨p1', q1'⟩ := c1
        obtain ⟨p2, q2⟩ := b2
        obtain ⟨p2', q2'⟩ := c2
        obtain ⟨p3, q3⟩ := b3
        obtain ⟨p3', q3'⟩ := c3
        have n0 := own_cmpr d0 d1
        have n1 := own_cmpr d2 d3
        have n2 := own_cmpr (own_min d0 d1) (own_min d2 d3)
        have n3 := own_cmpr (own_max d0 d1) (own_max d2 d3)
        have n4 := own_cmpr (own_min (own_max d0 d1) (own_max d2 d3)) (own_max (own_min d0 d1) (own_min d2 d3))
        omega
      · have w4_0 := (own_Wk b1 b3).mp w4_0
        have w4_1 := (own_Wk b2 b0).mp w4_1
        have w4_2 := own_Wn b2 b3 w4_2
        refine own_ok_of (v := d3) (by decide) (own_get0 _ _ _ _) ?_ c3.1
        rw [own_kth_sel (k := (3 : Int32)) (m := (4 : Int32)) (by decide) (own_et (by decide)) (own_et (by decide)) (own_et (by decide)), own_sel3]
        refine Int32.toInt_inj.mp ?_
        have hk : (1000 : Int32).toInt = 1000 := rfl
        obtain ⟨p0, q0⟩ := b0
        obtain ⟨p0', q0'⟩ := c0
        obtain ⟨p1, q1⟩ := b1
        obtain ⟨p1', q1'⟩ := c1
        obtain ⟨p2, q2⟩ := b2
        obtain ⟨p2', q2'⟩ := c2
        obtain ⟨p3, q3⟩ := b3
        obtain ⟨p3', q3'⟩ := c3
        have n0 := own_cmpr d0 d1
        have n1 := own_cmpr d2 d3
        have n2 := own_cmpr (own_min d0 d1) (own_min d2 d3)
        have n3 := own_cmpr (own_max d0 d1) (own_max d2 d3)
        have n4 := own_cmpr (own_min (own_max d0 d1) (own_max d2 d3)) (own_max (own_min d0 d1) (own_min d2 d3))
        omega
      · have w4_0 := (own_Wk b1 b3).mp w4_0
        have w4_1 := (own_Wk b2 b0).mp w4_1
        have w4_2 := (own_Wk b2 b3).mp w4_2
        refine own_ok_of (v := d2) (by decide) (own_get0 _ _ _ _) ?_ c2.1
        rw [own_kth_sel (k := (3 : Int32)) (m := (4 : Int32)) (by decide) (own_et (by decide)) (own_et (by decide)) (own_et (by decide)), own_sel3]
        refine Int32.toInt_inj.mp ?_
        have hk : (1000 : Int32).toInt = 1000 := rfl
        obtain ⟨p0, q0⟩ := b0
        obtain ⟨p0', q0'⟩ := c0
        obtain ⟨p1, q1⟩ := b1
        obtain ⟨p1', q1'⟩ := c1
        obtain ⟨p2, q2⟩ := b2
        obtain ⟨p2', q2'⟩ := c2
        obtain ⟨p3, q3⟩ := b3
        obtain ⟨p3', q3'⟩ := c3
        have n0 := own_cmpr d0 d1
        have n1 := own_cmpr d2 d3
        have n2 := own_cmpr (own_min d0 d1) (own_min d2 d3)
        have n3 := own_cmpr (own_max d0 d1) (own_max d2 d3)
        have n4 := own_cmpr (own_min (own_max d0 d1) (own_max d2 d3)) (own_max (own_min d0 d1) (own_min d2 d3))
        omega
      · have w4_0 := (own_Wk b1 b3).mp w4_0
        have w4_1 := own_Wn b2 b0 w4_1
        have w4_2 := own_Wn b0 b3 w4_2
        refine own_ok_of (v := d3) (by decide) (own_get0 _ _ _ _) ?_ c3.1
        rw [own_kth_sel (k := (3 : Int32)) (m := (4 : Int32)) (by decide) (own_et (by decide)) (own_et (by decide)) (own_et (by decide)), own_sel3]
        refine Int32.toInt_inj.mp ?_
        have hk : (1000 : Int32).toInt = 1000 := rfl
        obtain ⟨p0, q0⟩ := b0
        obtain ⟨p0', q0'⟩ := c0
        obtain ⟨p1, q1⟩ := b1
        obtain ⟨p1', q1'⟩ := c1
        obtain ⟨p2, q2⟩ := b2
        obtain ⟨p2', q2'⟩ := c2
        obtain ⟨p3, q3⟩ := b3
        obtain ⟨p3', q3'⟩ := c3
        have n0 := own_cmpr d0 d1
        have n1 := own_cmpr d2 d3
        have n2 := own_cmpr (own_min d0 d1) (own_min d2 d3)
        have n3 := own_cmpr (own_max d0 d1) (own_max d2 d3)
        have n4 := own_cmpr (own_min (own_max d0 d1) (own_max d2 d3)) (own_max (own_min d0 d1) (own_min d2 d3))
        omega
      · have w4_0 := (own_Wk b1 b3).mp w4_0
        have w4_1 := own_Wn b2 b0 w4_1
        have w4_2 := (own_Wk b0 b3).mp w4_2
        refine own_ok_of (v := d0) (by decide) (own_get0 _ _ _ _) ?_ c0.1
        rw [own_kth_sel (k := (3 : Int32)) (m := (4 : Int32)) (by decide) (own_et (by decide)) (own_et (by decide)) (own_et (by decide)), own_sel3]
        refine Int32.toInt_inj.mp ?_
        have hk : (1000 : Int32).toInt = 1000 := rfl
        obtain ⟨p0, q0⟩ := b0
        obtain ⟨p0', q0'⟩ := c0
        obtain ⟨p1, q1⟩ := b1
        obtain ⟨p1', q1'⟩ := c1
        obtain ⟨p2, q2⟩ := b2
        obtain ⟨p2', q2'⟩ := c2
        obtain ⟨p3, q3⟩ := b3
        obtain ⟨p3', q3'⟩ := c3
        have n0 := own_cmpr d0 d1
        have n1 := own_cmpr d2 d3
        have n2 := own_cmpr (own_min d0 d1) (own_min d2 d3)
        have n3 := own_cmpr (own_max d0 d1) (own_max d2 d3)
        have n4 := own_cmpr (own_min (own_max d0 d1) (own_max d2 d3)) (own_max (own_min d0 d1) (own_min d2 d3))
        omega
  · have w2_0 := own_Wn b1 b0 w2_0
    obtain ⟨g0, g1, -, -⟩ := own_inj ex
    obtain ⟨h0, h1, -, -⟩ := own_inj ey
    subst g0 g1 h0 h1
    rcases R3 with ⟨w3_0, ex, ey⟩ | ⟨w3_0, ex, ey⟩
    · have w3_0 := (own_Wk b2 b0).mp w3_0
      obtain ⟨g0, g1, g2, -⟩ := own_inj ex
      obtain ⟨h0, h1, h2, -⟩ := own_inj ey
      subst g0 g1 g2 h0 h1 h2
      rcases R4 with ⟨w4_0, rfl, rfl⟩ | ⟨w4_0, w4_1, w4_2, rfl, rfl⟩ | ⟨w4_0, w4_1, w4_2, rfl, rfl⟩ | ⟨w4_0, w4_1, w4_2, rfl, rfl⟩ | ⟨w4_0, w4_1, w4_2, rfl, rfl⟩
      · have w4_0 := own_Wn b2 b3 w4_0
        refine own_ok_of (v := d2) (by decide) (own_get0 _ _ _ _) ?_ c2.1
        rw [own_kth_sel (k := (3 : Int32)) (m := (4 : Int32)) (by decide) (own_et (by decide)) (own_et (by decide)) (own_et (by decide)), own_sel3]
        refine Int32.toInt_inj.mp ?_
        have hk : (1000 : Int32).toInt = 1000 := rfl
        obtain ⟨p0, q0⟩ := b0
        obtain ⟨p0', q0'⟩ := c0
        obtain ⟨p1, q1⟩ := b1
        obtain ⟨p1', q1'⟩ := c1
        obtain ⟨p2, q2⟩ := b2
        obtain ⟨p2', q2'⟩ := c2
        obtain ⟨p3, q3⟩ := b3
        obtain ⟨p3', q3'⟩ := c3
        have n0 := own_cmpr d0 d1
        have n1 := own_cmpr d2 d3
        have n2 := own_cmpr (own_min d0 d1) (own_min d2 d3)
        have n3 := own_cmpr (own_max d0 d1) (own_max d2 d3)
        have n4 := own_cmpr (own_min (own_max d0 d1) (own_max d2 d3)) (own_max (own_min d0 d1) (own_min d2 d3))
        omega
      · have w4_0 := (own_Wk b2 b3).mp w4_0
        have w4_1 := (own_Wk b0 b1).mp w4_1
        have w4_2 := own_Wn b0 b3 w4_2
        refine own_ok_of (v := d3) (by decide) (own_get0 _ _ _ _) ?_ c3.1
        rw [own_kth_sel (k := (3 : Int32)) (m := (4 : Int32)) (by decide) (own_et (by decide)) (own_et (by decide)) (own_et (by decide)), own_sel3]
        refine Int32.toInt_inj.mp ?_
        have hk : (1000 : Int32).toInt = 1000 := rfl
        obtain ⟨p0, q0⟩ := b0
        obtain ⟨p0', q0'⟩ := c0
        obtain ⟨p1, q1⟩ := b1
        obtain ⟨p1', q1'⟩ := c1
        obtain ⟨p2, q2⟩ := b2
        obtain ⟨p2', q2'⟩ := c2
        obtain ⟨p3, q3⟩ := b3
        obtain ⟨p3', q3'⟩ := c3
        have n0 := own_cmpr d0 d1
        have n1 := own_cmpr d2 d3
        have n2 := own_cmpr (own_min d0 d1) (own_min d2 d3)
        have n3 := own_cmpr (own_max d0 d1) (own_max d2 d3)
        have n4 := own_cmpr (own_min (own_max d0 d1) (own_max d2 d3)) (own_max (own_min d0 d1) (own_min d2 d3))
        omega
      · have w4_0 := (own_Wk b2 b3).mp w4_0
        have w4_1 := (own_Wk b0 b1).mp w4_1
        have w4_2 := (own_Wk b0 b3).mp w4_2
        refine own_ok_of (v := d0) (by decide) (own_get0 _ _ _ _) ?_ c0.1
        rw [own_kth_sel (k := (3 : Int32)) (m := (4 : Int32)) (by decide) (own_et (by decide)) (own_et (by decide)) (own_et (by decide)), own_sel3]
        refine Int32.toInt_inj.mp ?_
        have hk : (1000 : Int32).toInt = 1000 := rfl
        obtain ⟨p0, q0⟩ := b0
        obtain ⟨p0', q0'⟩ := c0
        obtain ⟨p1, q1⟩ := b1
        obtain ⟨p1', q1'⟩ := c1
        obtain ⟨p2, q2⟩ := b2
        obtain ⟨p2', q2'⟩ := c2
        obtain ⟨p3, q3⟩ := b3
        obtain ⟨p3', q3'⟩ := c3
        have n0 := own_cmpr d0 d1
        have n1 := own_cmpr d2 d3
        have n2 := own_cmpr (own_min d0 d1) (own_min d2 d3)
        have n3 := own_cmpr (own_max d0 d1) (own_max d2 d3)
        have n4 := own_cmpr (own_min (own_max d0 d1) (own_max d2 d3)) (own_max (own_min d0 d1) (own_min d2 d3))
        omega
      · have w4_0 := (own_Wk b2 b3).mp w4_0
        have w4_1 := own_Wn b0 b1 w4_1
        have w4_2 := own_Wn b1 b3 w4_2
        refine own_ok_of (v := d3) (by decide) (own_get0 _ _ _ _) ?_ c3.1
        rw [own_kth_sel (k := (3 : Int32)) (m := (4 : Int32)) (by decide) (own_et (by decide)) (own_et (by decide)) (own_et (by decide)), own_sel3]
        refine Int32.toInt_inj.mp ?_
        have hk : (1000 : Int32).toInt = 1000 := rfl
        obtain ⟨p0, q0⟩ := b0
        obtain ⟨p0', q0'⟩ := c0
        obtain ⟨p1, q1⟩ := b1
        obtain ⟨p1', q1'⟩ := c1
        obtain ⟨p2, q2⟩ := b2
        obtain ⟨p2', q2'⟩ := c2
        obtain ⟨p3, q3⟩ := b3
        obtain ⟨p3', q3'⟩ := c3
        have n0 := own_cmpr d0 d1
        have n1 := own_cmpr d2 d3
        have n2 := own_cmpr (own_min d0 d1) (own_min d2 d3)
        have n3 := own_cmpr (own_max d0 d1) (own_max d2 d3)
        have n4 := own_cmpr (own_min (own_max d0 d1) (own_max d2 d3)) (own_max (own_min d0 d1) (own_min d2 d3))
        omega
      · have w4_0 := (own_Wk b2 b3).mp w4_0
        have w4_1 := own_Wn b0 b1 w4_1
        have w4_2 := (own_Wk b1 b3).mp w4_2
        refine own_ok_of (v := d1) (by decide) (own_get0 _ _ _ _) ?_ c1.1
        rw [own_kth_sel (k := (3 : Int32)) (m := (4 : Int32)) (by decide) (own_et (by decide)) (own_et (by decide)) (own_et (by decide)), own_sel3]
        refine Int32.toInt_inj.mp ?_
        have hk : (1000 : Int32).toInt = 1000 := rfl
        obtain ⟨p0, q0⟩ := b0
        obtain ⟨p0', q0'⟩ := c0
        obtain ⟨p1, q1⟩ := b1
        obtain ⟨p1', q1'⟩ := c1
        obtain ⟨p2, q2⟩ := b2
        obtain ⟨p2', q2'⟩ := c2
        obtain ⟨p3, q3⟩ := b3
        obtain ⟨p3', q3'⟩ := c3
        have n0 := own_cmpr d0 d1
        have n1 := own_cmpr d2 d3
        have n2 := own_cmpr (own_min d0 d1) (own_min d2 d3)
        have n3 := own_cmpr (own_max d0 d1) (own_max d2 d3)
        have n4 := own_cmpr (own_min (own_max d0 d1) (own_max d2 d3)) (own_max (own_min d0 d1) (own_min d2 d3))
        omega
    · have w3_0 := own_Wn b2 b0 w3_0
      obtain ⟨g0, g1, g2, -⟩ := own_inj ex
      obtain ⟨h0, h1, h2, -⟩ := own_inj ey
      subst g0 g1 g2 h0 h1 h2
      rcases R4 with ⟨w4_0, rfl, rfl⟩ | ⟨w4_0, w4_1, w4_2, rfl, rfl⟩ | ⟨w4_0, w4_1, w4_2, rfl, rfl⟩ | ⟨w4_0, w4_1, w4_2, rfl, rfl⟩ | ⟨w4_0, w4_1, w4_2, rfl, rfl⟩
      · have w4_0 := own_Wn b0 b3 w4_0
        refine own_ok_of (v := d0) (by decide) (own_get0 _ _ _ _) ?_ c0.1
        rw [own_kth_sel (k := (3 : Int32)) (m := (4 : Int32)) (by decide) (own_et (by decide)) (own_et (by decide)) (own_et (by decide)), own_sel3]
        refine Int32.toInt_inj.mp ?_
        have hk : (1000 : Int32).toInt = 1000 := rfl
        obtain ⟨p0, q0⟩ := b0
        obtain ⟨p0', q0'⟩ := c0
        obtain ⟨p1, q1⟩ := b1
        obtain ⟨p1', q1'⟩ := c1
        obtain ⟨p2, q2⟩ := b2
        obtain ⟨p2', q2'⟩ := c2
        obtain ⟨p3, q3⟩ := b3
        obtain ⟨p3', q3'⟩ := c3
        have n0 := own_cmpr d0 d1
        have n1 := own_cmpr d2 d3
        have n2 := own_cmpr (own_min d0 d1) (own_min d2 d3)
        have n3 := own_cmpr (own_max d0 d1) (own_max d2 d3)
        have n4 := own_cmpr (own_min (own_max d0 d1) (own_max d2 d3)) (own_max (own_min d0 d1) (own_min d2 d3))
        omega
      · have w4_0 := (own_Wk b0 b3).mp w4_0
        have w4_1 := (own_Wk b2 b1).mp w4_1
        have w4_2 := own_Wn b2 b3 w4_2
        refine own_ok_of (v := d3) (by decide) (own_get0 _ _ _ _) ?_ c3.1
        rw [own_kth_sel (k := (3 : Int32)) (m := (4 : Int32)) (by decide) (own_et (by decide)) (own_et (by decide)) (own_et (by decide)), own_sel3]
        refine Int32.toInt_inj.mp ?_
        have hk : (1000 : Int32).toInt = 1000 := rfl
        obtain ⟨p0, q0⟩ := b0
        obtain ⟨p0', q0'⟩ := c0
        obtain ⟨p1, q1⟩ := b1
        obtain ⟨p1', q1'⟩ := c1
        obtain ⟨p2, q2⟩ := b2
        obtain ⟨p2', q2'⟩ := c2
        obtain ⟨p3, q3⟩ := b3
        obtain ⟨p3', q3'⟩ := c3
        have n0 := own_cmpr d0 d1
        have n1 := own_cmpr d2 d3
        have n2 := own_cmpr (own_min d0 d1) (own_min d2 d3)
        have n3 := own_cmpr (own_max d0 d1) (own_max d2 d3)
        have n4 := own_cmpr (own_min (own_max d0 d1) (own_max d2 d3)) (own_max (own_min d0 d1) (own_min d2 d3))
        omega
      · have w4_0 := (own_Wk b0 b3).mp w4_0
        have w4_1 := (own_Wk b2 b1).mp w4_1
        have w4_2 := (own_Wk b2 b3).mp w4_2
        refine own_ok_of (v := d2) (by decide) (own_get0 _ _ _ _) ?_ c2.1
        rw [own_kth_sel (k := (3 : Int32)) (m := (4 : Int32)) (by decide) (own_et (by decide)) (own_et (by decide)) (own_et (by decide)), own_sel3]
        refine Int32.toInt_inj.mp ?_
        have hk : (1000 : Int32).toInt = 1000 := rfl
        obtain ⟨p0, q0⟩ := b0
        obtain ⟨p0', q0'⟩ := c0
        obtain ⟨p1, q1⟩ := b1
        obtain ⟨p1', q1'⟩ := c1
        obtain ⟨p2, q2⟩ := b2
        obtain ⟨p2', q2'⟩ := c2
        obtain ⟨p3, q3⟩ := b3
        obtain ⟨p3', q3'⟩ := c3
        have n0 := own_cmpr d0 d1
        have n1 := own_cmpr d2 d3
        have n2 := own_cmpr (own_min d0 d1) (own_min d2 d3)
        have n3 := own_cmpr (own_max d0 d1) (own_max d2 d3)
        have n4 := own_cmpr (own_min (own_max d0 d1) (own_max d2 d3)) (own_max (own_min d0 d1) (own_min d2 d3))
        omega
      · have w4_0 := (own_Wk b0 b3).mp w4_0
        have w4_1 := own_Wn b2 b1 w4_1
        have w4_2 := own_Wn b1 b3 w4_2
        refine own_ok_of (v := d3) (by decide) (own_get0 _ _ _ _) ?_ c3.1
        rw [own_kth_sel (k := (3 : Int32)) (m := (4 : Int32)) (by decide) (own_et (by decide)) (own_et (by decide)) (own_et (by decide)), own_sel3]
        refine Int32.toInt_inj.mp ?_
        have hk : (1000 : Int32).toInt = 1000 := rfl
        obtain ⟨p0, q0⟩ := b0
        obtain ⟨p0', q0'⟩ := c0
        obtain ⟨p1, q1⟩ := b1
        obtain ⟨p1', q1'⟩ := c1
        obtain ⟨p2, q2⟩ := b2
        obtain ⟨p2', q2'⟩ := c2
        obtain ⟨p3, q3⟩ := b3
        obtain ⟨p3', q3'⟩ := c3
        have n0 := own_cmpr d0 d1
        have n1 := own_cmpr d2 d3
        have n2 := own_cmpr (own_min d0 d1) (own_min d2 d3)
        have n3 := own_cmpr (own_max d0 d1) (own_max d2 d3)
        have n4 := own_cmpr (own_min (own_max d0 d1) (own_max d2 d3)) (own_max (own_min d0 d1) (own_min d2 d3))
        omega
      · have w4_0 := (own_Wk b0 b3).mp w4_0
        have w4_1 := own_Wn b2 b1 w4_1
        have w4_2 := (own_Wk b1 b3).mp w4_2
        refine own_ok_of (v := d1) (by decide) (own_get0 _ _ _ _) ?_ c1.1
        rw [own_kth_sel (k := (3 : Int32)) (m := (4 : Int32)) (by decide) (own_et (by decide)) (own_et (by decide)) (own_et (by decide)), own_sel3]
        refine Int32.toInt_inj.mp ?_
        have hk : (1000 : Int32).toInt = 1000 := rfl
        obtain ⟨p0, q0⟩ := b0
        obtain ⟨p0', q0'⟩ := c0
        obtain ⟨p1, q1⟩ := b1
        obtain ⟨p1', q1'⟩ := c1
        obtain ⟨p2, q2⟩ := b2
        obtain ⟨p2', q2'⟩ := c2
        obtain ⟨p3, q3⟩ := b3
        obtain ⟨p3', q3'⟩ := c3
        have n0 := own_cmpr d0 d1
        have n1 := own_cmpr d2 d3
        have n2 := own_cmpr (own_min d0 d1) (own_min d2 d3)
        have n3 := own_cmpr (own_max d0 d1) (own_max d2 d3)
        have n4 := own_cmpr (own_min (own_max d0 d1) (own_max d2 d3)) (own_max (own_min d0 d1) (own_min d2 d3))
        omega
set_option maxRecDepth 65536 in
theorem own_p44 {d0 d1 d2 d3 i0 i1 i2 i3 a20 f20 a21 f21 a30 f30 a31 f31 a32 f32 : Int32} {X I : List Int32} (b0 : own_b i0) (c0 : own_c d0) (b1 : own_b i1) (c1 : own_c d1) (b2 : own_b i2) (c2 : own_c d2) (b3 : own_b i3) (c3 : own_c d3) (R2 : own_r1 d1 i1 d0 i0 (own_L a20 a21 0 0) (own_L f20 f21 0 0)) (R3 : own_r2 d2 i2 a20 f20 a21 f21 (own_L a30 a31 a32 0) (own_L f30 f31 f32 0)) (R4 : own_r3 d3 i3 a30 f30 a31 f31 a32 f32 X I) : own_ok (own_lim (4 : Int32) (4 : Int32) X) (own_kth (4 : Int32) (4 : Int32) d0 d1 d2 d3) := by
  rcases R2 with ⟨w2_0, ex, ey⟩ | ⟨w2_0, ex, ey⟩
  · have w2_0 := (own_Wk b1 b0).mp w2_0
    obtain ⟨g0, g1, -, -⟩ := own_inj ex
    obtain ⟨h0, h1, -, -⟩ := own_inj ey
    subst g0 g1 h0 h1
    rcases R3 with ⟨w3_0, ex, ey⟩ | ⟨w3_0, ex, ey⟩
    · have w3_0 := (own_Wk b2 b1).mp w3_0
      obtain ⟨g0, g1, g2, -⟩ := own_inj ex
      obtain ⟨h0, h1, h2, -⟩ := own_inj ey
      subst g0 g1 g2 h0 h1 h2
      rcases R4 with ⟨w4_0, rfl, rfl⟩ | ⟨w4_0, w4_1, rfl, rfl⟩ | ⟨w4_0, w4_1, rfl, rfl⟩
      · have w4_0 := own_Wn b3 b0 w4_0
        refine own_ok_of (v := d2) (by decide) (own_get0 _ _ _ _) ?_ c2.1
        rw [own_kth_sel (k := (4 : Int32)) (m := (4 : Int32)) (by decide) (own_et (by decide)) (own_et (by decide)) (own_et (by decide)), own_sel4]
        refine Int32.toInt_inj.mp ?_
        have hk : (1000 : Int32).toInt = 1000 := rfl
        obtain ⟨p0, q0⟩ := b0
        obtain ⟨p0', q0'⟩ := c0
        obtain ⟨p1, q1⟩ := b1
        obtain ⟨p1', q1'⟩ := c1
        obtain ⟨p2, q2⟩ := b2
        obtain ⟨p2', q2'⟩ := c2
        obtain ⟨p3, q3⟩ := b3
        obtain ⟨p3', q3'⟩ := c3
        have n0 := own_cmpr d0 d1
        have n1 := own_cmpr d2 d3
        have n2 := own_cmpr (own_max d0 d1) (own_max d2 d3)
        omega
      · have w4_0 := (own_Wk b3 b0).mp w4_0
        have w4_1 := own_Wn b3 b2 w4_1
        refine own_ok_of (v := d2) (by decide) (own_get0 _ _ _ _) ?_ c2.1
        rw [own_kth_sel (k := (4 : Int32)) (m := (4 : Int32)) (by decide) (own_et (by decide)) (own_et (by decide)) (own_et (by decide)), own_sel4]
        refine Int32.toInt_inj.mp ?_
        have hk : (1000 : Int32).toInt = 1000 := rfl
        obtain ⟨p0, q0⟩ := b0
        obtain ⟨p0', q0'⟩ := c0
        obtain ⟨p1, q1⟩ := b1
        obtain ⟨p1', q1'⟩ := c1
        obtain ⟨p2, q2⟩ := b2
        obtain ⟨p2', q2'⟩ := c2
        obtain ⟨p3, q3⟩ := b3
        obtain ⟨p3', q3'⟩ := c3
        have n0 := own_cmpr d0 d1
        have n1 := own_cmpr d2 d3
        have n2 := own_cmpr (own_max d0 d1) (own_max d2 d3)
        omega
      · have w4_0 := (own_Wk b3 b0).mp w4_0
        have w4_1 := (own_Wk b3 b2).mp w4_1
        refine own_ok_of (v := d3) (by decide) (own_get0 _ _ _ _) ?_ c3.1
        rw [own_kth_sel (k := (4 : Int32)) (m := (4 : Int32)) (by decide) (own_et (by decide)) (own_et (by decide)) (own_et (by decide)), own_sel4]
        refine Int32.toInt_inj.mp ?_
        have hk : (1000 : Int32).toInt = 1000 := rfl
        obtain ⟨p0, q0⟩ := b0
        obtain ⟨p0', q0'⟩ := c0
        obtain ⟨p1, q1⟩ := b1
        obtain ⟨p1', q1'⟩ := c1
        obtain ⟨p2, q2⟩ := b2
        obtain ⟨p2', q2'⟩ := c2
        obtain ⟨p3, q3⟩ := b3
        obtain ⟨p3', q3'⟩ := c3
        have n0 := own_cmpr d0 d1
        have n1 := own_cmpr d2 d3
        have n2 := own_cmpr (own_max d0 d1) (own_max d2 d3)
        omega
    · have w3_0 := own_Wn b2 b1 w3_0
      obtain ⟨g0, g1, g2, -⟩ := own_inj ex
      obtain ⟨h0, h1, h2, -⟩ := own_inj ey
      subst g0 g1 g2 h0 h1 h2
      rcases R4 with ⟨w4_0, rfl, rfl⟩ | ⟨w4_0, w4_1, rfl, rfl⟩ | ⟨w4_0, w4_1, rfl, rfl⟩
      · have w4_0 := own_Wn b3 b0 w4_0
        refine own_ok_of (v := d1) (by decide) (own_get0 _ _ _ _) ?_ c1.1
        rw [own_kth_sel (k := (4 : Int32)) (m := (4 : Int32)) (by decide) (own_et (by decide)) (own_et (by decide)) (own_et (by decide)), own_sel4]
        refine Int32.toInt_inj.mp ?_
        have hk : (1000 : Int32).toInt = 1000 := rfl
        obtain ⟨p0, q0⟩ := b0
        obtain ⟨p0', q0'⟩ := c0
        obtain ⟨p1, q1⟩ := b1
        obtain ⟨p1', q1'⟩ := c1
        obtain ⟨p2, q2⟩ := b2
        obtain ⟨p2', q2'⟩ := c2
        obtain ⟨p3, q3⟩ := b3
        obtain ⟨p3', q3'⟩ := c3
        have n0 := own_cmpr d0 d1
        have n1 := own_cmpr d2 d3
        have n2 := own_cmpr (own_max d0 d1) (own_max d2 d3)
        omega
      · have w4_0 := (own_Wk b3 b0).mp w4_0
        have w4_1 := own_Wn b3 b1 w4_1
        refine own_ok_of (v := d1) (by decide) (own_get0 _ _ _ _) ?_ c1.1
        rw [own_kth_sel (k := (4 : Int32)) (m := (4 : Int32)) (by decide) (own_et (by decide)) (own_et (by decide)) (own_et (by decide)), own_sel4]
        refine Int32.toInt_inj.mp ?_
        have hk : (1000 : Int32).toInt = 1000 := rfl
        obtain ⟨p0, q0⟩ := b0
        obtain ⟨p0', q0'⟩ := c0
        obtain ⟨p1, q1⟩ := b1
        obtain ⟨p1', q1'⟩ := c1
        obtain ⟨p2, q2⟩ := b2
        obtain ⟨p2', q2'⟩ := c2
        obtain ⟨p3, q3⟩ := b3
        obtain ⟨p3', q3'⟩ := c3
        have n0 := own_cmpr d0 d1
        have n1 := own_cmpr d2 d3
        have n2 := own_cmpr (own_max d0 d1) (own_max d2 d3)
        omega
      · have w4_0 := (own_Wk b3 b0).mp w4_0
        have w4_1 := (own_Wk b3 b1).mp w4_1
        refine own_ok_of (v := d3) (by decide) (own_get0 _ _ _ _) ?_ c3.1
        rw [own_kth_sel (k := (4 : Int32)) (m := (4 : Int32)) (by decide) (own_et (by decide)) (own_et (by decide)) (own_et (by decide)), own_sel4]
        refine Int32.toInt_inj.mp ?_
        have hk : (1000 : Int32).toInt = 1000 := rfl
        obtain ⟨p0, q0⟩ := b0
        obtain ⟨p0', q0'⟩ := c0
        obtain ⟨p1, q1⟩ := b1
        obtain ⟨p1', q1'⟩ := c1
        obtain ⟨p2, q2⟩ := b2
        obtain ⟨p2', q2'⟩ := c2
        obtain ⟨p3, q3⟩ := b3
        obtain ⟨p3', q3'⟩ := c3
        have n0 := own_cmpr d0 d1
        have n1 := own_cmpr d2 d3
        have n2 := own_cmpr (own_max d0 d1) (own_max d2 d3)
        omega
  · have w2_0 := own_Wn b1 b0 w2_0
    obtain ⟨g0, g1, -, -⟩ := own_inj ex
    obtain ⟨h0, h1, -, -⟩ := own_inj ey
    subst g0 g1 h0 h1
    rcases R3 with ⟨w3_0, ex, ey⟩ | ⟨w3_0, ex, ey⟩
    · have w3_0 := (own_Wk b2 b0).mp w3_0
      obtain ⟨g0, g1, g2, -⟩ := own_inj ex
      obtain ⟨h0, h1, h2, -⟩ := own_inj ey
      subst g0 g1 g2 h0 h1 h2
      rcases R4 with ⟨w4_0, rfl, rfl⟩ | ⟨w4_0, w4_1, rfl, rfl⟩ | ⟨w4_0, w4_1, rfl, rfl⟩
      · have w4_0 := own_Wn b3 b1 w4_0
        refine own_ok_of (v := d2) (by decide) (own_get0 _ _ _ _) ?_ c2.1
        rw [own_kth_sel (k := (4 : Int32)) (m := (4 : Int32)) (by decide) (own_et (by decide)) (own_et (by decide)) (own_et (by decide)), own_sel4]
        refine Int32.toInt_inj.mp ?_
        have hk : (1000 : Int32).toInt = 1000 := rfl
        obtain ⟨p0, q0⟩ := b0
        obtain ⟨p0', q0'⟩ := c0
        obtain ⟨p1, q1⟩ := b1
        obtain ⟨p1', q1'⟩ := c1
        obtain ⟨p2, q2⟩ := b2
        obtain ⟨p2', q2'⟩ := c2
        obtain ⟨p3, q3⟩ := b3
        obtain ⟨p3', q3'⟩ := c3
        have n0 := own_cmpr d0 d1
        have n1 := own_cmpr d2 d3
        have n2 := own_cmpr (own_max d0 d1) (own_max d2 d3)
        omega
      · have w4_0 := (own_Wk b3 b1).mp w4_0
        have w4_1 := own_Wn b3 b2 w4_1
        refine own_ok_of (v := d2) (by decide) (own_get0 _ _ _ _) ?_ c2.1
        rw [own_kth_sel (k := (4 : Int32)) (m := (4 : Int32)) (by decide) (own_et (by decide)) (own_et (by decide)) (own_et (by decide)), own_sel4]
        refine Int32.toInt_inj.mp ?_
        have hk : (1000 : Int32).toInt = 1000 := rfl
        obtain ⟨p0, q0⟩ := b0
        obtain ⟨p0', q0'⟩ := c0
        obtain ⟨p1, q1⟩ := b1
        obtain ⟨p1', q1'⟩ := c1
        obtain ⟨p2, q2⟩ := b2
        obtain ⟨p2', q2'⟩ := c2
        obtain ⟨p3, q3⟩ := b3
        obtain ⟨p3', q3'⟩ := c3
        have n0 := own_cmpr d0 d1
        have n1 := own_cmpr d2 d3
        have n2 := own_cmpr (own_max d0 d1) (own_max d2 d3)
        omega
      · have w4_0 := (own_Wk b3 b1).mp w4_0
        have w4_1 := (own_Wk b3 b2).mp w4_1
        refine own_ok_of (v := d3) (by decide) (own_get0 _ _ _ _) ?_ c3.1
        rw [own_kth_sel (k := (4 : Int32)) (m := (4 : Int32)) (by decide) (own_et (by decide)) (own_et (by decide)) (own_et (by decide)), own_sel4]
        refine Int32.toInt_inj.mp ?_
        have hk : (1000 : Int32).toInt = 1000 := rfl
        obtain ⟨p0, q0⟩ := b0
        obtain ⟨p0', q0'⟩ := c0
        obtain ⟨p1, q1⟩ := b1
        obtain ⟨p1', q1'⟩ := c1
        obtain ⟨p2, q2⟩ := b2
        obtain ⟨p2', q2'⟩ := c2
        obtain ⟨p3, q3⟩ := b3
        obtain ⟨p3', q3'⟩ := c3
        have n0 := own_cmpr d0 d1
        have n1 := own_cmpr d2 d3
        have n2 := own_cmpr (own_max d0 d1) (own_max d2 d3)
        omega
    · have w3_0 := own_Wn b2 b0 w3_0
      obtain ⟨g0, g1, g2, -⟩ := own_inj ex
      obtain ⟨h0, h1, h2, -⟩ := own_inj ey
      subst g0 g1 g2 h0 h1 h2
      rcases R4 with ⟨w4_0, rfl, rfl⟩ | ⟨w4_0, w4_1, rfl, rfl⟩ | ⟨w4_0, w4_1, rfl, rfl⟩
      · have w4_0 := own_Wn b3 b1 w4_0
        refine own_ok_of (v := d0) (by decide) (own_get0 _ _ _ _) ?_ c0.1
        rw [own_kth_sel (k := (4 : Int32)) (m := (4 : Int32)) (by decide) (own_et (by decide)) (own_et (by decide)) (own_et (by decide)), own_sel4]
        refine Int32.toInt_inj.mp ?_
        have hk : (1000 : Int32).toInt = 1000 := rfl
        obtain ⟨p0, q0⟩ := b0
        obtain ⟨p0', q0'⟩ := c0
        obtain ⟨p1, q1⟩ := b1
        obtain ⟨p1', q1'⟩ := c1
        obtain ⟨p2, q2⟩ := b2
        obtain ⟨p2', q2'⟩ := c2
        obtain ⟨p3, q3⟩ := b3
        obtain ⟨p3', q3'⟩ := c3
        have n0 := own_cmpr d0 d1
        have n1 := own_cmpr d2 d3
        have n2 := own_cmpr (own_max d0 d1) (own_max d2 d3)
        omega
      · have w4_0 := (own_Wk b3 b1).mp w4_0
        have w4_1 := own_Wn b3 b0 w4_1
        refine own_ok_of (v := d0) (by decide) (own_get0 _ _ _ _) ?_ c0.1
        rw [own_kth_sel (k := (4 : Int32)) (m := (4 : Int32)) (by decide) (own_et (by decide)) (own_et (by decide)) (own_et (by decide)), own_sel4]
        refine Int32.toInt_inj.mp ?_
        have hk : (1000 : Int32).toInt = 1000 := rfl
        obtain ⟨p0, q0⟩ := b0
        obtain ⟨p0', q0'⟩ := c0
        obtain ⟨p1, q1⟩ := b1
        obtain ⟨p1', q1'⟩ := c1
        obtain ⟨p2, q2⟩ := b2
        obtain ⟨p2', q2'⟩ := c2
        obtain ⟨p3, q3⟩ := b3
        obtain ⟨p3', q3'⟩ := c3
        have n0 := own_cmpr d0 d1
        have n1 := own_cmpr d2 d3
        have n2 := own_cmpr (own_max d0 d1) (own_max d2 d3)
        omega
      · have w4_0 := (own_Wk b3 b1).mp w4_0
        have w4_1 := (own_Wk b3 b0).mp w4_1
        refine own_ok_of (v := d3) (by decide) (own_get0 _ _ _ _) ?_ c3.1
        rw [own_kth_sel (k := (4 : Int32)) (m := (4 : Int32)) (by decide) (own_et (by decide)) (own_et (by decide)) (own_et (by decide)), own_sel4]
        refine Int32.toInt_inj.mp ?_
        have hk : (1000 : Int32).toInt = 1000 := rfl
        obtain ⟨p0, q0⟩ := b0
        obtain ⟨p0', q0'⟩ := c0
        obtain ⟨p1, q1⟩ := b1
        obtain ⟨p1', q1'⟩ := c1
        obtain ⟨p2, q2⟩ := b2
        obtain ⟨p2', q2'⟩ := c2
        obtain ⟨p3, q3⟩ := b3
        obtain ⟨p3', q3'⟩ := c3
        have n0 := own_cmpr d0 d1
        have n1 := own_cmpr d2 d3
        have n2 := own_cmpr (own_max d0 d1) (own_max d2 d3)
        omega
theorem pd_0_0 : parseMethodDescriptor "(II)V" = some ⟨[.int, .int], none⟩ := by decide +kernel
set_option maxRecDepth 65536 in
set_option maxHeartbeats 40000000 in
theorem own_lA {p : Program} {l : Launch} {e : Env} {s : State} {m : MethodId} {args : Array Value} {below : List Frame} {meth : Method} {c : Code} {T0 : State} {locs : List Loc} {Z : State} {a0 : Array Value} {h0 : Heap} {n0 : Nat} (xk : Int32) (xs : Int32) (xn : Int32) (xa : Int32) (xb : Int32) (xc : Int32)
    (X0 : Stand p l e room_1 s m args below meth c T0 locs 0 0) (hx : p.tables.exec = Jvm.exec) (hZ : Z.Warmed39 s.vm) (hw : ∀ d ∈ tables_1, d.before a0 Z = true) (hby : c.code = code) (hml : c.maxLocals = 19) (hown : s.vm.findClass "com/example/triangulum/triangulum/search/ShortlistLimitPinLaw" = some m.cls) (e0 : T0.heap = h0) (N0 : Fr n0 locs) (Z0 : n0 ≤ h0.size) (hk1 : ¬ (((xk &&& (3 : Int32)) + (1 : Int32)) < (1 : Int32))) (hmn : ¬ (own_min ((xk &&& (3 : Int32)) + (1 : Int32)) (xs &&& (7 : Int32))) < 0) (hmc : (own_min ((xk &&& (3 : Int32)) + (1 : Int32)) (xs &&& (7 : Int32))).toNatClampNeg ≤ 6) (hz0 : ¬ (0 : Int32) < ((xk &&& (3 : Int32)) + (1 : Int32)) → (0 : Int32) < (own_min ((xk &&& (3 : Int32)) + (1 : Int32)) (xs &&& (7 : Int32)))) (hag : own_ok (own_lim ((xk &&& (3 : Int32)) + (1 : Int32)) (0 : Int32) (List.replicate 6 (0 : Int32))) (own_kth ((xk &&& (3 : Int32)) + (1 : Int32)) (0 : Int32) (xa &&& (7 : Int32)) (xb &&& (7 : Int32)) (xc &&& (7 : Int32)) (((xn.toUInt32 >>> ((3 : Int32) &&& 31).toUInt32).toInt32) &&& (7 : Int32)))) :
    ∃ (T' : State) (h' : Heap) (locs' : List Loc) (b7 : Addr) (bd : Addr) (bi : Addr), Stand p l e room_1 s m args below meth c T' locs' 3 16 ∧ T'.heap = h' ∧ Fr n0 locs' ∧ h0.size ≤ h'.size ∧ own_S Z n0 h' b7 bd bi ((xk &&& (3 : Int32)) + (1 : Int32)) (0 : Int32) (own_min ((xk &&& (3 : Int32)) + (1 : Int32)) (xs &&& (7 : Int32))) (List.replicate 6 0) (List.replicate 6 0) ∧
      ∀ target, Steps p.tables e below (T'.setTop (mkF m 116 #[.val (.int xk), .val (.int xs), .val (.int xn), .val (.int xa), .val (.int xb), .val (.int xc), .val (.int ((xk &&& (3 : Int32)) + (1 : Int32))), .val (.int (xs &&& (7 : Int32))), .val (.int ((xn &&& (7 : Int32)) - (((xn &&& (7 : Int32)) / (5 : Int32)) * (5 : Int32)))), .val (.int (xa &&& (7 : Int32))), .val (.int (xb &&& (7 : Int32))), .val (.int (xc &&& (7 : Int32))), .val (.int (((xn.toUInt32 >>> ((3 : Int32) &&& 31).toUInt32).toInt32) &&& (7 : Int32))), .val (.int (((xk.toUInt32 >>> ((2 : Int32) &&& 31).toUInt32).toInt32) &&& (3 : Int32))), .val (.int (((xk.toUInt32 >>> ((4 : Int32) &&& 31).toUInt32).toInt32) &&& (3 : Int32))), .val (.int (((xk.toUInt32 >>> ((6 : Int32) &&& 31).toUInt32).toInt32) &&& (3 : Int32))), .val (.int (((xk.toUInt32 >>> ((8 : Int32) &&& 31).toUInt32).toInt32) &&& (3 : Int32))), .val (.ref b7), .val (.int (1 : Int32))] [])) target → Steps p.tables e below (T0.setTop (mkF m 0 #[.val (.int xk), .val (.int xs), .val (.int xn), .val (.int xa), .val (.int xb), .val (.int xc), .unset, .unset, .unset, .unset, .unset, .unset, .unset, .unset, .unset, .unset, .unset, .unset, .unset] [])) target := by
  -- 3. LAWS
  obtain ⟨T7, h7, X7, e7, E7, A7, D7, -, st7⟩ := newO X0 hx hZ hown (hw _ (List.mem_of_getElem? (i := 0) rfl)) (hw _ (List.mem_of_getElem? (i := 1) rfl)) (hw _ (List.mem_of_getElem? (i := 2) rfl)) e0 (g := (mkF m 79 #[.val (.int xk), .val (.int xs), .val (.int xn), .val (.int xa), .val (.int xb), .val (.int xc), .val (.int ((xk &&& (3 : Int32)) + (1 : Int32))), .val (.int (xs &&& (7 : Int32))), .val (.int ((xn &&& (7 : Int32)) - (((xn &&& (7 : Int32)) / (5 : Int32)) * (5 : Int32)))), .val (.int (xa &&& (7 : Int32))), .val (.int (xb &&& (7 : Int32))), .val (.int (xc &&& (7 : Int32))), .val (.int (((xn.toUInt32 >>> ((3 : Int32) &&& 31).toUInt32).toInt32) &&& (7 : Int32))), .val (.int (((xk.toUInt32 >>> ((2 : Int32) &&& 31).toUInt32).toInt32) &&& (3 : Int32))), .val (.int (((xk.toUInt32 >>> ((4 : Int32) &&& 31).toUInt32).toInt32) &&& (3 : Int32))), .val (.int (((xk.toUInt32 >>> ((6 : Int32) &&& 31).toUInt32).toInt32) &&& (3 : Int32))), .val (.int (((xk.toUInt32 >>> ((8 : Int32) &&& 31).toUInt32).toInt32) &&& (3 : Int32))), .unset, .unset] [])) rfl (hb hby at_79) (by decide) (by decide)
  obtain ⟨b7, g7⟩ : ∃ z, z = h0.size := ⟨_, rfl⟩      -- the fresh object's address
  rw [← g7] at A7 D7 st7      -- A7 : Exa Z h7 b7 "com/example/triangulum/triangulum/search/Shortlist"; E7 : Ext h0 h7 (carries every older fact: .ext E7)
  have F_k_b7 : Fld Z h7 b7 "com/example/triangulum/triangulum/search/Shortlist" "k" "I" (.int (0 : Int32)) := D7 (Or.inr (hw _ (List.mem_of_getElem? (i := 10) rfl))) (ty := .int) (by decide)
  have F_distances_b7 : Fld Z h7 b7 "com/example/triangulum/triangulum/search/Shortlist" "distances" "[D" .null := D7 (Or.inl (hw _ (List.mem_of_getElem? (i := 17) rfl))) (ty := (.array .double)) (by decide)
  have F_indexes_b7 : Fld Z h7 b7 "com/example/triangulum/triangulum/search/Shortlist" "indexes" "[I" .null := D7 (Or.inl (hw _ (List.mem_of_getElem? (i := 20) rfl))) (ty := (.array .int)) (by decide)
  have F_size_b7 : Fld Z h7 b7 "com/example/triangulum/triangulum/search/Shortlist" "size" "I" (.int (0 : Int32)) := D7 (Or.inl (hw _ (List.mem_of_getElem? (i := 27) rfl))) (ty := .int) (by decide)
  have E_b7 := A7
  have g_b7 : n0 ≤ b7 := Nat.le_trans Z0 (Nat.le_of_eq g7.symm)
  have sz_b7 : h0.size ≤ b7 := (Nat.le_trans (Keep.refl h0 []).1 (Nat.le_of_eq g7.symm))
  have K7 : Keep h0 h7 [] := (Keep.refl h0 []).ext E7
  -- pc 87: the constructor of com/example/triangulum/triangulum/search/Shortlist by its contract rm1
  obtain ⟨_, _, ⟨T8, L8, k8, n8⟩, -, X8, ⟨Lc8, hQ8, l8, y8, z8⟩, st8⟩ := X7.specialBack hx (y := (⟨"com/example/triangulum/triangulum/search/Shortlist", "<init>", "(II)V"⟩ : MethodName)) rfl hown (mvT hZ (hw _ (List.mem_of_getElem? (i := 3) rfl))) (mvT hZ (hw _ (List.mem_of_getElem? (i := 4) rfl))) (mvT hZ (hw _ (List.mem_of_getElem? (i := 5) rfl))) (by decide) (backOf (W := 1) (rm1 l Z a0 hw [] b7 ((xk &&& (3 : Int32)) + (1 : Int32)) (xs &&& (7 : Int32)) (0 : Int32) (.int (0 : Int32)) .null .null h7 n0 (Nat.le_trans g_b7 (Nat.le_of_lt (Exa.lt E_b7))) F_size_b7 E_b7 F_k_b7 g_b7 F_distances_b7 F_indexes_b7 hk1 hmn hmc hmn hmc) hZ (hw _ (List.mem_of_getElem? (i := 5) rfl)) (hw _ (List.mem_of_getElem? (i := 2) rfl)) (by decide) (by decide)) (g := (mkF m 87 #[.val (.int xk), .val (.int xs), .val (.int xn), .val (.int xa), .val (.int xb), .val (.int xc), .val (.int ((xk &&& (3 : Int32)) + (1 : Int32))), .val (.int (xs &&& (7 : Int32))), .val (.int ((xn &&& (7 : Int32)) - (((xn &&& (7 : Int32)) / (5 : Int32)) * (5 : Int32)))), .val (.int (xa &&& (7 : Int32))), .val (.int (xb &&& (7 : Int32))), .val (.int (xc &&& (7 : Int32))), .val (.int (((xn.toUInt32 >>> ((3 : Int32) &&& 31).toUInt32).toInt32) &&& (7 : Int32))), .val (.int (((xk.toUInt32 >>> ((2 : Int32) &&& 31).toUInt32).toInt32) &&& (3 : Int32))), .val (.int (((xk.toUInt32 >>> ((4 : Int32) &&& 31).toUInt32).toInt32) &&& (3 : Int32))), .val (.int (((xk.toUInt32 >>> ((6 : Int32) &&& 31).toUInt32).toInt32) &&& (3 : Int32))), .val (.int (((xk.toUInt32 >>> ((8 : Int32) &&& 31).toUInt32).toInt32) &&& (3 : Int32))), .unset, .unset] [(.int (xs &&& (7 : Int32))), (.int ((xk &&& (3 : Int32)) + (1 : Int32))), (.ref b7), (.ref b7)])) rfl (by rw [hml]; rfl) (Steps.refl _) (a := b7) (argsL := [(.int ((xk &&& (3 : Int32)) + (1 : Int32))), (.int (xs &&& (7 : Int32)))]) (rest := [(.ref b7)]) (lenOf pd_0_0 rfl) rfl (by show 2 * 0 + _ ≤ _; exact Nat.le_of_eq rfl) (hb hby at_87) (fun _ _ => ⟨rfl, e7, (by decide : 0 + 1 + 2 ≤ _), (by decide : 0 + 4 + 12 ≤ _)⟩)
  dsimp only [Pt.U, Pt.locs, Pt.cells, Pt.slots] at X8 l8 y8 z8 st8 hQ8
  subst l8 y8 z8
  obtain ⟨rfl, N8q, Kc8, bd, bi, SS8⟩ := hQ8      -- what it returned, that it wrote nothing old, and the rest of your Q1
  have N8 := Fr.app N0 N8q
  -- pc 94: com/example/triangulum/triangulum/search/Shortlist.limit
  obtain ⟨T9, X9, e9, st9⟩ := own_limit X8 hx hZ hw hown (hw _ (List.mem_of_getElem? (i := 21) rfl)) SS8 hz0 (W := 0) (g := (mkF m 94 #[.val (.int xk), .val (.int xs), .val (.int xn), .val (.int xa), .val (.int xb), .val (.int xc), .val (.int ((xk &&& (3 : Int32)) + (1 : Int32))), .val (.int (xs &&& (7 : Int32))), .val (.int ((xn &&& (7 : Int32)) - (((xn &&& (7 : Int32)) / (5 : Int32)) * (5 : Int32)))), .val (.int (xa &&& (7 : Int32))), .val (.int (xb &&& (7 : Int32))), .val (.int (xc &&& (7 : Int32))), .val (.int (((xn.toUInt32 >>> ((3 : Int32) &&& 31).toUInt32).toInt32) &&& (7 : Int32))), .val (.int (((xk.toUInt32 >>> ((2 : Int32) &&& 31).toUInt32).toInt32) &&& (3 : Int32))), .val (.int (((xk.toUInt32 >>> ((4 : Int32) &&& 31).toUInt32).toInt32) &&& (3 : Int32))), .val (.int (((xk.toUInt32 >>> ((6 : Int32) &&& 31).toUInt32).toInt32) &&& (3 : Int32))), .val (.int (((xk.toUInt32 >>> ((8 : Int32) &&& 31).toUInt32).toInt32) &&& (3 : Int32))), .val (.ref b7), .unset] [(.ref b7)])) rfl (by rw [hml]; rfl) (rest := []) rfl (by show 2 * 0 + _ ≤ _; exact Nat.le_of_eq rfl) (hb hby at_94) (by decide) (by decide) rfl
  -- pc 108: com/example/triangulum/triangulum/search/ShortlistLimitPinLaw.kth
  obtain ⟨T10, X10, e10, st10⟩ := own_call_kth X9 hx hZ hw hown (hw _ (List.mem_of_getElem? (i := 29) rfl)) ((xk &&& (3 : Int32)) + (1 : Int32)) (0 : Int32) (xa &&& (7 : Int32)) (xb &&& (7 : Int32)) (xc &&& (7 : Int32)) (((xn.toUInt32 >>> ((3 : Int32) &&& 31).toUInt32).toInt32) &&& (7 : Int32)) (W := 2) (g := (mkF m 108 #[.val (.int xk), .val (.int xs), .val (.int xn), .val (.int xa), .val (.int xb), .val (.int xc), .val (.int ((xk &&& (3 : Int32)) + (1 : Int32))), .val (.int (xs &&& (7 : Int32))), .val (.int ((xn &&& (7 : Int32)) - (((xn &&& (7 : Int32)) / (5 : Int32)) * (5 : Int32)))), .val (.int (xa &&& (7 : Int32))), .val (.int (xb &&& (7 : Int32))), .val (.int (xc &&& (7 : Int32))), .val (.int (((xn.toUInt32 >>> ((3 : Int32) &&& 31).toUInt32).toInt32) &&& (7 : Int32))), .val (.int (((xk.toUInt32 >>> ((2 : Int32) &&& 31).toUInt32).toInt32) &&& (3 : Int32))), .val (.int (((xk.toUInt32 >>> ((4 : Int32) &&& 31).toUInt32).toInt32) &&& (3 : Int32))), .val (.int (((xk.toUInt32 >>> ((6 : Int32) &&& 31).toUInt32).toInt32) &&& (3 : Int32))), .val (.int (((xk.toUInt32 >>> ((8 : Int32) &&& 31).toUInt32).toInt32) &&& (3 : Int32))), .val (.ref b7), .unset] [(.int (((xn.toUInt32 >>> ((3 : Int32) &&& 31).toUInt32).toInt32) &&& (7 : Int32))), (.int (xc &&& (7 : Int32))), (.int (xb &&& (7 : Int32))), (.int (xa &&& (7 : Int32))), (.int (0 : Int32)), (.int ((xk &&& (3 : Int32)) + (1 : Int32))), (.double (own_lim ((xk &&& (3 : Int32)) + (1 : Int32)) (0 : Int32) (List.replicate 6 (0 : Int32))))])) rfl (by rw [hml]; rfl) (rest := [(.double (own_lim ((xk &&& (3 : Int32)) + (1 : Int32)) (0 : Int32) (List.replicate 6 (0 : Int32))))]) rfl (by show 2 * 0 + _ ≤ _; exact Nat.le_of_eq rfl) (hb hby at_108) (by decide) (by decide) e9
  -- pc 111: com/example/triangulum/triangulum/search/ShortlistLimitPinLaw.agrees
  obtain ⟨T11, X11, e11, st11⟩ := own_call_agr X10 hx hZ hw hown (hw _ (List.mem_of_getElem? (i := 33) rfl)) (own_lim ((xk &&& (3 : Int32)) + (1 : Int32)) (0 : Int32) (List.replicate 6 (0 : Int32))) (own_kth ((xk &&& (3 : Int32)) + (1 : Int32)) (0 : Int32) (xa &&& (7 : Int32)) (xb &&& (7 : Int32)) (xc &&& (7 : Int32)) (((xn.toUInt32 >>> ((3 : Int32) &&& 31).toUInt32).toInt32) &&& (7 : Int32))) hag (W := 0) (g := (mkF m 111 #[.val (.int xk), .val (.int xs), .val (.int xn), .val (.int xa), .val (.int xb), .val (.int xc), .val (.int ((xk &&& (3 : Int32)) + (1 : Int32))), .val (.int (xs &&& (7 : Int32))), .val (.int ((xn &&& (7 : Int32)) - (((xn &&& (7 : Int32)) / (5 : Int32)) * (5 : Int32)))), .val (.int (xa &&& (7 : Int32))), .val (.int (xb &&& (7 : Int32))), .val (.int (xc &&& (7 : Int32))), .val (.int (((xn.toUInt32 >>> ((3 : Int32) &&& 31).toUInt32).toInt32) &&& (7 : Int32))), .val (.int (((xk.toUInt32 >>> ((2 : Int32) &&& 31).toUInt32).toInt32) &&& (3 : Int32))), .val (.int (((xk.toUInt32 >>> ((4 : Int32) &&& 31).toUInt32).toInt32) &&& (3 : Int32))), .val (.int (((xk.toUInt32 >>> ((6 : Int32) &&& 31).toUInt32).toInt32) &&& (3 : Int32))), .val (.int (((xk.toUInt32 >>> ((8 : Int32) &&& 31).toUInt32).toInt32) &&& (3 : Int32))), .val (.ref b7), .unset] [(.int (own_kth ((xk &&& (3 : Int32)) + (1 : Int32)) (0 : Int32) (xa &&& (7 : Int32)) (xb &&& (7 : Int32)) (xc &&& (7 : Int32)) (((xn.toUInt32 >>> ((3 : Int32) &&& 31).toUInt32).toInt32) &&& (7 : Int32)))), (.double (own_lim ((xk &&& (3 : Int32)) + (1 : Int32)) (0 : Int32) (List.replicate 6 (0 : Int32))))])) rfl (by rw [hml]; rfl) (rest := []) rfl (by show 2 * 0 + _ ≤ _; exact Nat.le_of_eq rfl) (hb hby at_111) (by decide) (by decide) e10
  refine ⟨T11, _, _, b7, bd, bi, X11, e11, N8, (Nat.le_trans (Nat.le_trans (Nat.le_refl _) E7.1) Kc8.1), SS8, fun target kt => ?_⟩
  -- 4. STEPS
  show Steps p.tables e below (T0.setTop (mkF m 0 #[.val (.int xk), .val (.int xs), .val (.int xn), .val (.int xa), .val (.int xb), .val (.int xc), .unset, .unset, .unset, .unset, .unset, .unset, .unset, .unset, .unset, .unset, .unset, .unset, .unset] [])) _
  refine XS.iloadN X0.here hx rfl (hb hby at_0) rfl ?_
  show Steps p.tables e below (T0.setTop (mkF m 1 #[.val (.int xk), .val (.int xs), .val (.int xn), .val (.int xa), .val (.int xb), .val (.int xc), .unset, .unset, .unset, .unset, .unset, .unset, .unset, .unset, .unset, .unset, .unset, .unset, .unset] [(.int xk)])) _
  refine XS.iconst X0.here hx rfl (hb hby at_1) ?_
  show Steps p.tables e below (T0.setTop (mkF m 2 #[.val (.int xk), .val (.int xs), .val (.int xn), .val (.int xa), .val (.int xb), .val (.int xc), .unset, .unset, .unset, .unset, .unset, .unset, .unset, .unset, .unset, .unset, .unset, .unset, .unset] [(.int (3 : Int32)), (.int xk)])) _
  refine XS.iand X0.here hx rfl (hb hby at_2) rfl ?_
  show Steps p.tables e below (T0.setTop (mkF m 3 #[.val (.int xk), .val (.int xs), .val (.int xn), .val (.int xa), .val (.int xb), .val (.int xc), .unset, .unset, .unset, .unset, .unset, .unset, .unset, .unset, .unset, .unset, .unset, .unset, .unset] [(.int (xk &&& (3 : Int32)))])) _
  refine XS.iconst X0.here hx rfl (hb hby at_3) ?_
  show Steps p.tables e below (T0.setTop (mkF m 4 #[.val (.int xk), .val (.int xs), .val (.int xn), .val (.int xa), .val (.int xb), .val (.int xc), .unset, .unset, .unset, .unset, .unset, .unset, .unset, .unset, .unset, .unset, .unset, .unset, .unset] [(.int (1 : Int32)), (.int (xk &&& (3 : Int32)))])) _
  refine XS.iadd X0.here hx rfl (hb hby at_4) rfl ?_
  show Steps p.tables e below (T0.setTop (mkF m 5 #[.val (.int xk), .val (.int xs), .val (.int xn), .val (.int xa), .val (.int xb), .val (.int xc), .unset, .unset, .unset, .unset, .unset, .unset, .unset, .unset, .unset, .unset, .unset, .unset, .unset] [(.int ((xk &&& (3 : Int32)) + (1 : Int32)))])) _
  refine XS.istore X0.here hx rfl (hb hby at_5) rfl (l' := #[.val (.int xk), .val (.int xs), .val (.int xn), .val (.int xa), .val (.int xb), .val (.int xc), .val (.int ((xk &&& (3 : Int32)) + (1 : Int32))), .unset, .unset, .unset, .unset, .unset, .unset, .unset, .unset, .unset, .unset, .unset, .unset]) rfl ?_
  show Steps p.tables e below (T0.setTop (mkF m 7 #[.val (.int xk), .val (.int xs), .val (.int xn), .val (.int xa), .val (.int xb), .val (.int xc), .val (.int ((xk &&& (3 : Int32)) + (1 : Int32))), .unset, .unset, .unset, .unset, .unset, .unset, .unset, .unset, .unset, .unset, .unset, .unset] [])) _
  refine XS.iloadN X0.here hx rfl (hb hby at_7) rfl ?_
  show Steps p.tables e below (T0.setTop (mkF m 8 #[.val (.int xk), .val (.int xs), .val (.int xn), .val (.int xa), .val (.int xb), .val (.int xc), .val (.int ((xk &&& (3 : Int32)) + (1 : Int32))), .unset, .unset, .unset, .unset, .unset, .unset, .unset, .unset, .unset, .unset, .unset, .unset] [(.int xs)])) _
  refine XS.bipush X0.here hx rfl (hb hby at_8) ?_
  show Steps p.tables e below (T0.setTop (mkF m 10 #[.val (.int xk), .val (.int xs), .val (.int xn), .val (.int xa), .val (.int xb), .val (.int xc), .val (.int ((xk &&& (3 : Int32)) + (1 : Int32))), .unset, .unset, .unset, .unset, .unset, .unset, .unset, .unset, .unset, .unset, .unset, .unset] [(.int (7 : Int32)), (.int xs)])) _
  refine XS.iand X0.here hx rfl (hb hby at_10) rfl ?_
  show Steps p.tables e below (T0.setTop (mkF m 11 #[.val (.int xk), .val (.int xs), .val (.int xn), .val (.int xa), .val (.int xb), .val (.int xc), .val (.int ((xk &&& (3 : Int32)) + (1 : Int32))), .unset, .unset, .unset, .unset, .unset, .unset, .unset, .unset, .unset, .unset, .unset, .unset] [(.int (xs &&& (7 : Int32)))])) _
  refine XS.istore X0.here hx rfl (hb hby at_11) rfl (l' := #[.val (.int xk), .val (.int xs), .val (.int xn), .val (.int xa), .val (.int xb), .val (.int xc), .val (.int ((xk &&& (3 : Int32)) + (1 : Int32))), .val (.int (xs &&& (7 : Int32))), .unset, .unset, .unset, .unset, .unset, .unset, .unset, .unset, .unset, .unset, .unset]) rfl ?_
  show Steps p.tables e below (T0.setTop (mkF m 13 #[.val (.int xk), .val (.int xs), .val (.int xn), .val (.int xa), .val (.int xb), .val (.int xc), .val (.int ((xk &&& (3 : Int32)) + (1 : Int32))), .val (.int (xs &&& (7 : Int32))), .unset, .unset, .unset, .unset, .unset, .unset, .unset, .unset, .unset, .unset, .unset] [])) _
  refine XS.iloadN X0.here hx rfl (hb hby at_13) rfl ?_
  show Steps p.tables e below (T0.setTop (mkF m 14 #[.val (.int xk), .val (.int xs), .val (.int xn), .val (.int xa), .val (.int xb), .val (.int xc), .val (.int ((xk &&& (3 : Int32)) + (1 : Int32))), .val (.int (xs &&& (7 : Int32))), .unset, .unset, .unset, .unset, .unset, .unset, .unset, .unset, .unset, .unset, .unset] [(.int xn)])) _
  refine XS.bipush X0.here hx rfl (hb hby at_14) ?_
  show Steps p.tables e below (T0.setTop (mkF m 16 #[.val (.int xk), .val (.int xs), .val (.int xn), .val (.int xa), .val (.int xb), .val (.int xc), .val (.int ((xk &&& (3 : Int32)) + (1 : Int32))), .val (.int (xs &&& (7 : Int32))), .unset, .unset, .unset, .unset, .unset, .unset, .unset, .unset, .unset, .unset, .unset] [(.int (7 : Int32)), (.int xn)])) _
  refine XS.iand X0.here hx rfl (hb hby at_16) rfl ?_
  show Steps p.tables e below (T0.setTop (mkF m 17 #[.val (.int xk), .val (.int xs), .val (.int xn), .val (.int xa), .val (.int xb), .val (.int xc), .val (.int ((xk &&& (3 : Int32)) + (1 : Int32))), .val (.int (xs &&& (7 : Int32))), .unset, .unset, .unset, .unset, .unset, .unset, .unset, .unset, .unset, .unset, .unset] [(.int (xn &&& (7 : Int32)))])) _
  refine XS.iconst X0.here hx rfl (hb hby at_17) ?_
  show Steps p.tables e below (T0.setTop (mkF m 18 #[.val (.int xk), .val (.int xs), .val (.int xn), .val (.int xa), .val (.int xb), .val (.int xc), .val (.int ((xk &&& (3 : Int32)) + (1 : Int32))), .val (.int (xs &&& (7 : Int32))), .unset, .unset, .unset, .unset, .unset, .unset, .unset, .unset, .unset, .unset, .unset] [(.int (5 : Int32)), (.int (xn &&& (7 : Int32)))])) _
  refine XS.irem X0.here hx rfl (hb hby at_18) rfl (by decide) ?_
  show Steps p.tables e below (T0.setTop (mkF m 19 #[.val (.int xk), .val (.int xs), .val (.int xn), .val (.int xa), .val (.int xb), .val (.int xc), .val (.int ((xk &&& (3 : Int32)) + (1 : Int32))), .val (.int (xs &&& (7 : Int32))), .unset, .unset, .unset, .unset, .unset, .unset, .unset, .unset, .unset, .unset, .unset] [(.int ((xn &&& (7 : Int32)) - (((xn &&& (7 : Int32)) / (5 : Int32)) * (5 : Int32))))])) _
  refine XS.istore X0.here hx rfl (hb hby at_19) rfl (l' := #[.val (.int xk), .val (.int xs), .val (.int xn), .val (.int xa), .val (.int xb), .val (.int xc), .val (.int ((xk &&& (3 : Int32)) + (1 : Int32))), .val (.int (xs &&& (7 : Int32))), .val (.int ((xn &&& (7 : Int32)) - (((xn &&& (7 : Int32)) / (5 : Int32)) * (5 : Int32)))), .unset, .unset, .unset, .unset, .unset, .unset, .unset, .unset, .unset, .unset]) rfl ?_
  show Steps p.tables e below (T0.setTop (mkF m 21 #[.val (.int xk), .val (.int xs), .val (.int xn), .val (.int xa), .val (.int xb), .val (.int xc), .val (.int ((xk &&& (3 : Int32)) + (1 : Int32))), .val (.int (xs &&& (7 : Int32))), .val (.int ((xn &&& (7 : Int32)) - (((xn &&& (7 : Int32)) / (5 : Int32)) * (5 : Int32)))), .unset, .unset, .unset, .unset, .unset, .unset, .unset, .unset, .unset, .unset] [])) _
  refine XS.iloadN X0.here hx rfl (hb hby at_21) rfl ?_
  show Steps p.tables e below (T0.setTop (mkF m 22 #[.val (.int xk), .val (.int xs), .val (.int xn), .val (.int xa), .val (.int xb), .val (.int xc), .val (.int ((xk &&& (3 : Int32)) + (1 : Int32))), .val (.int (xs &&& (7 : Int32))), .val (.int ((xn &&& (7 : Int32)) - (((xn &&& (7 : Int32)) / (5 : Int32)) * (5 : Int32)))), .unset, .unset, .unset, .unset, .unset, .unset, .unset, .unset, .unset, .unset] [(.int xa)])) _
  refine XS.bipush X0.here hx rfl (hb hby at_22) ?_
  show Steps p.tables e below (T0.setTop (mkF m 24 #[.val (.int xk), .val (.int xs), .val (.int xn), .val (.int xa), .val (.int xb), .val (.int xc), .val (.int ((xk &&& (3 : Int32)) + (1 : Int32))), .val (.int (xs &&& (7 : Int32))), .val (.int ((xn &&& (7 : Int32)) - (((xn &&& (7 : Int32)) / (5 : Int32)) * (5 : Int32)))), .unset, .unset, .unset, .unset, .unset, .unset, .unset, .unset, .unset, .unset] [(.int (7 : Int32)), (.int xa)])) _
  refine XS.iand X0.here hx rfl (hb hby at_24) rfl ?_
  show Steps p.tables e below (T0.setTop (mkF m 25 #[.val (.int xk), .val (.int xs), .val (.int xn), .val (.int xa), .val (.int xb), .val (.int xc), .val (.int ((xk &&& (3 : Int32)) + (1 : Int32))), .val (.int (xs &&& (7 : Int32))), .val (.int ((xn &&& (7 : Int32)) - (((xn &&& (7 : Int32)) / (5 : Int32)) * (5 : Int32)))), .unset, .unset, .unset, .unset, .unset, .unset, .unset, .unset, .unset, .unset] [(.int (xa &&& (7 : Int32)))])) _
  refine XS.istore X0.here hx rfl (hb hby at_25) rfl (l' := #[.val (.int xk), .val (.int xs), .val (.int xn), .val (.int xa), .val (.int xb), .val (.int xc), .val (.int ((xk &&& (3 : Int32)) + (1 : Int32))), .val (.int (xs &&& (7 : Int32))), .val (.int ((xn &&& (7 : Int32)) - (((xn &&& (7 : Int32)) / (5 : Int32)) * (5 : Int32)))), .val (.int (xa &&& (7 : Int32))), .unset, .unset, .unset, .unset, .unset, .unset, .unset, .unset, .unset]) rfl ?_
  show Steps p.tables e below (T0.setTop (mkF m 27 #[.val (.int xk), .val (.int xs), .val (.int xn), .val (.int xa), .val (.int xb), .val (.int xc), .val (.int ((xk &&& (3 : Int32)) + (1 : Int32))), .val (.int (xs &&& (7 : Int32))), .val (.int ((xn &&& (7 : Int32)) - (((xn &&& (7 : Int32)) / (5 : Int32)) * (5 : Int32)))), .val (.int (xa &&& (7 : Int32))), .unset, .unset, .unset, .unset, .unset, .unset, .unset, .unset, .unset] [])) _
  refine XS.iload X0.here hx rfl (hb hby at_27) rfl ?_
  show Steps p.tables e below (T0.setTop (mkF m 29 #[.val (.int xk), .val (.int xs), .val (.int xn), .val (.int xa), .val (.int xb), .val (.int xc), .val (.int ((xk &&& (3 : Int32)) + (1 : Int32))), .val (.int (xs &&& (7 : Int32))), .val (.int ((xn &&& (7 : Int32)) - (((xn &&& (7 : Int32)) / (5 : Int32)) * (5 : Int32)))), .val (.int (xa &&& (7 : Int32))), .unset, .unset, .unset, .unset, .unset, .unset, .unset, .unset, .unset] [(.int xb)])) _
  refine XS.bipush X0.here hx rfl (hb hby at_29) ?_
  show Steps p.tables e below (T0.setTop (mkF m 31 #[.val (.int xk), .val (.int xs), .val (.int xn), .val (.int xa), .val (.int xb), .val (.int xc), .val (.int ((xk &&& (3 : Int32)) + (1 : Int32))), .val (.int (xs &&& (7 : Int32))), .val (.int ((xn &&& (7 : Int32)) - (((xn &&& (7 : Int32)) / (5 : Int32)) * (5 : Int32)))), .val (.int (xa &&& (7 : Int32))), .unset, .unset, .unset, .unset, .unset, .unset, .unset, .unset, .unset] [(.int (7 : Int32)), (.int xb)])) _
  refine XS.iand X0.here hx rfl (hb hby at_31) rfl ?_
  show Steps p.tables e below (T0.setTop (mkF m 32 #[.val (.int xk), .val (.int xs), .val (.int xn), .val (.int xa), .val (.int xb), .val (.int xc), .val (.int ((xk &&& (3 : Int32)) + (1 : Int32))), .val (.int (xs &&& (7 : Int32))), .val (.int ((xn &&& (7 : Int32)) - (((xn &&& (7 : Int32)) / (5 : Int32)) * (5 : Int32)))), .val (.int (xa &&& (7 : Int32))), .unset, .unset, .unset, .unset, .unset, .unset, .unset, .unset, .unset] [(.int (xb &&& (7 : Int32)))])) _
  refine XS.istore X0.here hx rfl (hb hby at_32) rfl (l' := #[.val (.int xk), .val (.int xs), .val (.int xn), .val (.int xa), .val (.int xb), .val (.int xc), .val (.int ((xk &&& (3 : Int32)) + (1 : Int32))), .val (.int (xs &&& (7 : Int32))), .val (.int ((xn &&& (7 : Int32)) - (((xn &&& (7 : Int32)) / (5 : Int32)) * (5 : Int32)))), .val (.int (xa &&& (7 : Int32))), .val (.int (xb &&& (7 : Int32))), .unset, .unset, .unset, .unset, .unset, .unset, .unset, .unset]) rfl ?_
  show Steps p.tables e below (T0.setTop (mkF m 34 #[.val (.int xk), .val (.int xs), .val (.int xn), .val (.int xa), .val (.int xb), .val (.int xc), .val (.int ((xk &&& (3 : Int32)) + (1 : Int32))), .val (.int (xs &&& (7 : Int32))), .val (.int ((xn &&& (7 : Int32)) - (((xn &&& (7 : Int32)) / (5 : Int32)) * (5 : Int32)))), .val (.int (xa &&& (7 : Int32))), .val (.int (xb &&& (7 : Int32))), .unset, .unset, .unset, .unset, .unset, .unset, .unset, .unset] [])) _
  refine XS.iload X0.here hx rfl (hb hby at_34) rfl ?_
  show Steps p.tables e below (T0.setTop (mkF m 36 #[.val (.int xk), .val (.int xs), .val (.int xn), .val (.int xa), .val (.int xb), .val (.int xc), .val (.int ((xk &&& (3 : Int32)) + (1 : Int32))), .val (.int (xs &&& (7 : Int32))), .val (.int ((xn &&& (7 : Int32)) - (((xn &&& (7 : Int32)) / (5 : Int32)) * (5 : Int32)))), .val (.int (xa &&& (7 : Int32))), .val (.int (xb &&& (7 : Int32))), .unset, .unset, .unset, .unset, .unset, .unset, .unset, .unset] [(.int xc)])) _
  refine XS.bipush X0.here hx rfl (hb hby at_36) ?_
  show Steps p.tables e below (T0.setTop (mkF m 38 #[.val (.int xk), .val (.int xs), .val (.int xn), .val (.int xa), .val (.int xb), .val (.int xc), .val (.int ((xk &&& (3 : Int32)) + (1 : Int32))), .val (.int (xs &&& (7 : Int32))), .val (.int ((xn &&& (7 : Int32)) - (((xn &&& (7 : Int32)) / (5 : Int32)) * (5 : Int32)))), .val (.int (xa &&& (7 : Int32))), .val (.int (xb &&& (7 : Int32))), .unset, .unset, .unset, .unset, .unset, .unset, .unset, .unset] [(.int (7 : Int32)), (.int xc)])) _
  refine XS.iand X0.here hx rfl (hb hby at_38) rfl ?_
  show Steps p.tables e below (T0.setTop (mkF m 39 #[.val (.int xk), .val (.int xs), .val (.int xn), .val (.int xa), .val (.int xb), .val (.int xc), .val (.int ((xk &&& (3 : Int32)) + (1 : Int32))), .val (.int (xs &&& (7 : Int32))), .val (.int ((xn &&& (7 : Int32)) - (((xn &&& (7 : Int32)) / (5 : Int32)) * (5 : Int32)))), .val (.int (xa &&& (7 : Int32))), .val (.int (xb &&& (7 : Int32))), .unset, .unset, .unset, .unset, .unset, .unset, .unset, .unset] [(.int (xc &&& (7 : Int32)))])) _
  refine XS.istore X0.here hx rfl (hb hby at_39) rfl (l' := #[.val (.int xk), .val (.int xs), .val (.int xn), .val (.int xa), .val (.int xb), .val (.int xc), .val (.int ((xk &&& (3 : Int32)) + (1 : Int32))), .val (.int (xs &&& (7 : Int32))), .val (.int ((xn &&& (7 : Int32)) - (((xn &&& (7 : Int32)) / (5 : Int32)) * (5 : Int32)))), .val (.int (xa &&& (7 : Int32))), .val (.int (xb &&& (7 : Int32))), .val (.int (xc &&& (7 : Int32))), .unset, .unset, .unset, .unset, .unset, .unset, .unset]) rfl ?_
  show Steps p.tables e below (T0.setTop (mkF m 41 #[.val (.int xk), .val (.int xs), .val (.int xn), .val (.int xa), .val (.int xb), .val (.int xc), .val (.int ((xk &&& (3 : Int32)) + (1 : Int32))), .val (.int (xs &&& (7 : Int32))), .val (.int ((xn &&& (7 : Int32)) - (((xn &&& (7 : Int32)) / (5 : Int32)) * (5 : Int32)))), .val (.int (xa &&& (7 : Int32))), .val (.int (xb &&& (7 : Int32))), .val (.int (xc &&& (7 : Int32))), .unset, .unset, .unset, .unset, .unset, .unset, .unset] [])) _
  refine XS.iloadN X0.here hx rfl (hb hby at_41) rfl ?_
  show Steps p.tables e below (T0.setTop (mkF m 42 #[.val (.int xk), .val (.int xs), .val (.int xn), .val (.int xa), .val (.int xb), .val (.int xc), .val (.int ((xk &&& (3 : Int32)) + (1 : Int32))), .val (.int (xs &&& (7 : Int32))), .val (.int ((xn &&& (7 : Int32)) - (((xn &&& (7 : Int32)) / (5 : Int32)) * (5 : Int32)))), .val (.int (xa &&& (7 : Int32))), .val (.int (xb &&& (7 : Int32))), .val (.int (xc &&& (7 : Int32))), .unset, .unset, .unset, .unset, .unset, .unset, .unset] [(.int xn)])) _
  refine XS.iconst X0.here hx rfl (hb hby at_42) ?_
  show Steps p.tables e below (T0.setTop (mkF m 43 #[.val (.int xk), .val (.int xs), .val (.int xn), .val (.int xa), .val (.int xb), .val (.int xc), .val (.int ((xk &&& (3 : Int32)) + (1 : Int32))), .val (.int (xs &&& (7 : Int32))), .val (.int ((xn &&& (7 : Int32)) - (((xn &&& (7 : Int32)) / (5 : Int32)) * (5 : Int32)))), .val (.int (xa &&& (7 : Int32))), .val (.int (xb &&& (7 : Int32))), .val (.int (xc &&& (7 : Int32))), .unset, .unset, .unset, .unset, .unset, .unset, .unset] [(.int (3 : Int32)), (.int xn)])) _
  refine XS.iushr X0.here hx rfl (hb hby at_43) rfl ?_
  show Steps p.tables e below (T0.setTop (mkF m 44 #[.val (.int xk), .val (.int xs), .val (.int xn), .val (.int xa), .val (.int xb), .val (.int xc), .val (.int ((xk &&& (3 : Int32)) + (1 : Int32))), .val (.int (xs &&& (7 : Int32))), .val (.int ((xn &&& (7 : Int32)) - (((xn &&& (7 : Int32)) / (5 : Int32)) * (5 : Int32)))), .val (.int (xa &&& (7 : Int32))), .val (.int (xb &&& (7 : Int32))), .val (.int (xc &&& (7 : Int32))), .unset, .unset, .unset, .unset, .unset, .unset, .unset] [(.int ((xn.toUInt32 >>> ((3 : Int32) &&& 31).toUInt32).toInt32))])) _
  refine XS.bipush X0.here hx rfl (hb hby at_44) ?_
  show Steps p.tables e below (T0.setTop (mkF m 46 #[.val (.int xk), .val (.int xs), .val (.int xn), .val (.int xa), .val (.int xb), .val (.int xc), .val (.int ((xk &&& (3 : Int32)) + (1 : Int32))), .val (.int (xs &&& (7 : Int32))), .val (.int ((xn &&& (7 : Int32)) - (((xn &&& (7 : Int32)) / (5 : Int32)) * (5 : Int32)))), .val (.int (xa &&& (7 : Int32))), .val (.int (xb &&& (7 : Int32))), .val (.int (xc &&& (7 : Int32))), .unset, .unset, .unset, .unset, .unset, .unset, .unset] [(.int (7 : Int32)), (.int ((xn.toUInt32 >>> ((3 : Int32) &&& 31).toUInt32).toInt32))])) _
  refine XS.iand X0.here hx rfl (hb hby at_46) rfl ?_
  show Steps p.tables e below (T0.setTop (mkF m 47 #[.val (.int xk), .val (.int xs), .val (.int xn), .val (.int xa), .val (.int xb), .val (.int xc), .val (.int ((xk &&& (3 : Int32)) + (1 : Int32))), .val (.int (xs &&& (7 : Int32))), .val (.int ((xn &&& (7 : Int32)) - (((xn &&& (7 : Int32)) / (5 : Int32)) * (5 : Int32)))), .val (.int (xa &&& (7 : Int32))), .val (.int (xb &&& (7 : Int32))), .val (.int (xc &&& (7 : Int32))), .unset, .unset, .unset, .unset, .unset, .unset, .unset] [(.int (((xn.toUInt32 >>> ((3 : Int32) &&& 31).toUInt32).toInt32) &&& (7 : Int32)))])) _
  refine XS.istore X0.here hx rfl (hb hby at_47) rfl (l' := #[.val (.int xk), .val (.int xs), .val (.int xn), .val (.int xa), .val (.int xb), .val (.int xc), .val (.int ((xk &&& (3 : Int32)) + (1 : Int32))), .val (.int (xs &&& (7 : Int32))), .val (.int ((xn &&& (7 : Int32)) - (((xn &&& (7 : Int32)) / (5 : Int32)) * (5 : Int32)))), .val (.int (xa &&& (7 : Int32))), .val (.int (xb &&& (7 : Int32))), .val (.int (xc &&& (7 : Int32))), .val (.int (((xn.toUInt32 >>> ((3 : Int32) &&& 31).toUInt32).toInt32) &&& (7 : Int32))), .unset, .unset, .unset, .unset, .unset, .unset]) rfl ?_
  show Steps p.tables e below (T0.setTop (mkF m 49 #[.val (.int xk), .val (.int xs), .val (.int xn), .val (.int xa), .val (.int xb), .val (.int xc), .val (.int ((xk &&& (3 : Int32)) + (1 : Int32))), .val (.int (xs &&& (7 : Int32))), .val (.int ((xn &&& (7 : Int32)) - (((xn &&& (7 : Int32)) / (5 : Int32)) * (5 : Int32)))), .val (.int (xa &&& (7 : Int32))), .val (.int (xb &&& (7 : Int32))), .val (.int (xc &&& (7 : Int32))), .val (.int (((xn.toUInt32 >>> ((3 : Int32) &&& 31).toUInt32).toInt32) &&& (7 : Int32))), .unset, .unset, .unset, .unset, .unset, .unset] [])) _
  refine XS.iloadN X0.here hx rfl (hb hby at_49) rfl ?_
  show Steps p.tables e below (T0.setTop (mkF m 50 #[.val (.int xk), .val (.int xs), .val (.int xn), .val (.int xa), .val (.int xb), .val (.int xc), .val (.int ((xk &&& (3 : Int32)) + (1 : Int32))), .val (.int (xs &&& (7 : Int32))), .val (.int ((xn &&& (7 : Int32)) - (((xn &&& (7 : Int32)) / (5 : Int32)) * (5 : Int32)))), .val (.int (xa &&& (7 : Int32))), .val (.int (xb &&& (7 : Int32))), .val (.int (xc &&& (7 : Int32))), .val (.int (((xn.toUInt32 >>> ((3 : Int32) &&& 31).toUInt32).toInt32) &&& (7 : Int32))), .unset, .unset, .unset, .unset, .unset, .unset] [(.int xk)])) _
  refine XS.iconst X0.here hx rfl (hb hby at_50) ?_
  show Steps p.tables e below (T0.setTop (mkF m 51 #[.val (.int xk), .val (.int xs), .val (.int xn), .val (.int xa), .val (.int xb), .val (.int xc), .val (.int ((xk &&& (3 : Int32)) + (1 : Int32))), .val (.int (xs &&& (7 : Int32))), .val (.int ((xn &&& (7 : Int32)) - (((xn &&& (7 : Int32)) / (5 : Int32)) * (5 : Int32)))), .val (.int (xa &&& (7 : Int32))), .val (.int (xb &&& (7 : Int32))), .val (.int (xc &&& (7 : Int32))), .val (.int (((xn.toUInt32 >>> ((3 : Int32) &&& 31).toUInt32).toInt32) &&& (7 : Int32))), .unset, .unset, .unset, .unset, .unset, .unset] [(.int (2 : Int32)), (.int xk)])) _
  refine XS.iushr X0.here hx rfl (hb hby at_51) rfl ?_
  show Steps p.tables e below (T0.setTop (mkF m 52 #[.val (.int xk), .val (.int xs), .val (.int xn), .val (.int xa), .val (.int xb), .val (.int xc), .val (.int ((xk &&& (3 : Int32)) + (1 : Int32))), .val (.int (xs &&& (7 : Int32))), .val (.int ((xn &&& (7 : Int32)) - (((xn &&& (7 : Int32)) / (5 : Int32)) * (5 : Int32)))), .val (.int (xa &&& (7 : Int32))), .val (.int (xb &&& (7 : Int32))), .val (.int (xc &&& (7 : Int32))), .val (.int (((xn.toUInt32 >>> ((3 : Int32) &&& 31).toUInt32).toInt32) &&& (7 : Int32))), .unset, .unset, .unset, .unset, .unset, .unset] [(.int ((xk.toUInt32 >>> ((2 : Int32) &&& 31).toUInt32).toInt32))])) _
  refine XS.iconst X0.here hx rfl (hb hby at_52) ?_
  show Steps p.tables e below (T0.setTop (mkF m 53 #[.val (.int xk), .val (.int xs), .val (.int xn), .val (.int xa), .val (.int xb), .val (.int xc), .val (.int ((xk &&& (3 : Int32)) + (1 : Int32))), .val (.int (xs &&& (7 : Int32))), .val (.int ((xn &&& (7 : Int32)) - (((xn &&& (7 : Int32)) / (5 : Int32)) * (5 : Int32)))), .val (.int (xa &&& (7 : Int32))), .val (.int (xb &&& (7 : Int32))), .val (.int (xc &&& (7 : Int32))), .val (.int (((xn.toUInt32 >>> ((3 : Int32) &&& 31).toUInt32).toInt32) &&& (7 : Int32))), .unset, .unset, .unset, .unset, .unset, .unset] [(.int (3 : Int32)), (.int ((xk.toUInt32 >>> ((2 : Int32) &&& 31).toUInt32).toInt32))])) _
  refine XS.iand X0.here hx rfl (hb hby at_53) rfl ?_
  show Steps p.tables e below (T0.setTop (mkF m 54 #[.val (.int xk), .val (.int xs), .val (.int xn), .val (.int xa), .val (.int xb), .val (.int xc), .val (.int ((xk &&& (3 : Int32)) + (1 : Int32))), .val (.int (xs &&& (7 : Int32))), .val (.int ((xn &&& (7 : Int32)) - (((xn &&& (7 : Int32)) / (5 : Int32)) * (5 : Int32)))), .val (.int (xa &&& (7 : Int32))), .val (.int (xb &&& (7 : Int32))), .val (.int (xc &&& (7 : Int32))), .val (.int (((xn.toUInt32 >>> ((3 : Int32) &&& 31).toUInt32).toInt32) &&& (7 : Int32))), .unset, .unset, .unset, .unset, .unset, .unset] [(.int (((xk.toUInt32 >>> ((2 : Int32) &&& 31).toUInt32).toInt32) &&& (3 : Int32)))])) _
  refine XS.istore X0.here hx rfl (hb hby at_54) rfl (l' := #[.val (.int xk), .val (.int xs), .val (.int xn), .val (.int xa), .val (.int xb), .val (.int xc), .val (.int ((xk &&& (3 : Int32)) + (1 : Int32))), .val (.int (xs &&& (7 : Int32))), .val (.int ((xn &&& (7 : Int32)) - (((xn &&& (7 : Int32)) / (5 : Int32)) * (5 : Int32)))), .val (.int (xa &&& (7 : Int32))), .val (.int (xb &&& (7 : Int32))), .val (.int (xc &&& (7 : Int32))), .val (.int (((xn.toUInt32 >>> ((3 : Int32) &&& 31).toUInt32).toInt32) &&& (7 : Int32))), .val (.int (((xk.toUInt32 >>> ((2 : Int32) &&& 31).toUInt32).toInt32) &&& (3 : Int32))), .unset, .unset, .unset, .unset, .unset]) rfl ?_
  show Steps p.tables e below (T0.setTop (mkF m 56 #[.val (.int xk), .val (.int xs), .val (.int xn), .val (.int xa), .val (.int xb), .val (.int xc), .val (.int ((xk &&& (3 : Int32)) + (1 : Int32))), .val (.int (xs &&& (7 : Int32))), .val (.int ((xn &&& (7 : Int32)) - (((xn &&& (7 : Int32)) / (5 : Int32)) * (5 : Int32)))), .val (.int (xa &&& (7 : Int32))), .val (.int (xb &&& (7 : Int32))), .val (.int (xc &&& (7 : Int32))), .val (.int (((xn.toUInt32 >>> ((3 : Int32) &&& 31).toUInt32).toInt32) &&& (7 : Int32))), .val (.int (((xk.toUInt32 >>> ((2 : Int32) &&& 31).toUInt32).toInt32) &&& (3 : Int32))), .unset, .unset, .unset, .unset, .unset] [])) _
  refine XS.iloadN X0.here hx rfl (hb hby at_56) rfl ?_
  show Steps p.tables e below (T0.setTop (mkF m 57 #[.val (.int xk), .val (.int xs), .val (.int xn), .val (.int xa), .val (.int xb), .val (.int xc), .val (.int ((xk &&& (3 : Int32)) + (1 : Int32))), .val (.int (xs &&& (7 : Int32))), .val (.int ((xn &&& (7 : Int32)) - (((xn &&& (7 : Int32)) / (5 : Int32)) * (5 : Int32)))), .val (.int (xa &&& (7 : Int32))), .val (.int (xb &&& (7 : Int32))), .val (.int (xc &&& (7 : Int32))), .val (.int (((xn.toUInt32 >>> ((3 : Int32) &&& 31).toUInt32).toInt32) &&& (7 : Int32))), .val (.int (((xk.toUInt32 >>> ((2 : Int32) &&& 31).toUInt32).toInt32) &&& (3 : Int32))), .unset, .unset, .unset, .unset, .unset] [(.int xk)])) _
  refine XS.iconst X0.here hx rfl (hb hby at_57) ?_
  show Steps p.tables e below (T0.setTop (mkF m 58 #[.val (.int xk), .val (.int xs), .val (.int xn), .val (.int xa), .val (.int xb), .val (.int xc), .val (.int ((xk &&& (3 : Int32)) + (1 : Int32))), .val (.int (xs &&& (7 : Int32))), .val (.int ((xn &&& (7 : Int32)) - (((xn &&& (7 : Int32)) / (5 : Int32)) * (5 : Int32)))), .val (.int (xa &&& (7 : Int32))), .val (.int (xb &&& (7 : Int32))), .val (.int (xc &&& (7 : Int32))), .val (.int (((xn.toUInt32 >>> ((3 : Int32) &&& 31).toUInt32).toInt32) &&& (7 : Int32))), .val (.int (((xk.toUInt32 >>> ((2 : Int32) &&& 31).toUInt32).toInt32) &&& (3 : Int32))), .unset, .unset, .unset, .unset, .unset] [(.int (4 : Int32)), (.int xk)])) _
  refine XS.iushr X0.here hx rfl (hb hby at_58) rfl ?_
  show Steps p.tables e below (T0.setTop (mkF m 59 #[.val (.int xk), .val (.int xs), .val (.int xn), .val (.int xa), .val (.int xb), .val (.int xc), .val (.int ((xk &&& (3 : Int32)) + (1 : Int32))), .val (.int (xs &&& (7 : Int32))), .val (.int ((xn &&& (7 : Int32)) - (((xn &&& (7 : Int32)) / (5 : Int32)) * (5 : Int32)))), .val (.int (xa &&& (7 : Int32))), .val (.int (xb &&& (7 : Int32))), .val (.int (xc &&& (7 : Int32))), .val (.int (((xn.toUInt32 >>> ((3 : Int32) &&& 31).toUInt32).toInt32) &&& (7 : Int32))), .val (.int (((xk.toUInt32 >>> ((2 : Int32) &&& 31).toUInt32).toInt32) &&& (3 : Int32))), .unset, .unset, .unset, .unset, .unset] [(.int ((xk.toUInt32 >>> ((4 : Int32) &&& 31).toUInt32).toInt32))])) _
  refine XS.iconst X0.here hx rfl (hb hby at_59) ?_
  show Steps p.tables e below (T0.setTop (mkF m 60 #[.val (.int xk), .val (.int xs), .val (.int xn), .val (.int xa), .val (.int xb), .val (.int xc), .val (.int ((xk &&& (3 : Int32)) + (1 : Int32))), .val (.int (xs &&& (7 : Int32))), .val (.int ((xn &&& (7 : Int32)) - (((xn &&& (7 : Int32)) / (5 : Int32)) * (5 : Int32)))), .val (.int (xa &&& (7 : Int32))), .val (.int (xb &&& (7 : Int32))), .val (.int (xc &&& (7 : Int32))), .val (.int (((xn.toUInt32 >>> ((3 : Int32) &&& 31).toUInt32).toInt32) &&& (7 : Int32))), .val (.int (((xk.toUInt32 >>> ((2 : Int32) &&& 31).toUInt32).toInt32) &&& (3 : Int32))), .unset, .unset, .unset, .unset, .unset] [(.int (3 : Int32)), (.int ((xk.toUInt32 >>> ((4 : Int32) &&& 31).toUInt32).toInt32))])) _
  refine XS.iand X0.here hx rfl (hb hby at_60) rfl ?_
  show Steps p.tables e below (T0.setTop (mkF m 61 #[.val (.int xk), .val (.int xs), .val (.int xn), .val (.int xa), .val (.int xb), .val (.int xc), .val (.int ((xk &&& (3 : Int32)) + (1 : Int32))), .val (.int (xs &&& (7 : Int32))), .val (.int ((xn &&& (7 : Int32)) - (((xn &&& (7 : Int32)) / (5 : Int32)) * (5 : Int32)))), .val (.int (xa &&& (7 : Int32))), .val (.int (xb &&& (7 : Int32))), .val (.int (xc &&& (7 : Int32))), .val (.int (((xn.toUInt32 >>> ((3 : Int32) &&& 31).toUInt32).toInt32) &&& (7 : Int32))), .val (.int (((xk.toUInt32 >>> ((2 : Int32) &&& 31).toUInt32).toInt32) &&& (3 : Int32))), .unset, .unset, .unset, .unset, .unset] [(.int (((xk.toUInt32 >>> ((4 : Int32) &&& 31).toUInt32).toInt32) &&& (3 : Int32)))])) _
  refine XS.istore X0.here hx rfl (hb hby at_61) rfl (l' := #[.val (.int xk), .val (.int xs), .val (.int xn), .val (.int xa), .val (.int xb), .val (.int xc), .val (.int ((xk &&& (3 : Int32)) + (1 : Int32))), .val (.int (xs &&& (7 : Int32))), .val (.int ((xn &&& (7 : Int32)) - (((xn &&& (7 : Int32)) / (5 : Int32)) * (5 : Int32)))), .val (.int (xa &&& (7 : Int32))), .val (.int (xb &&& (7 : Int32))), .val (.int (xc &&& (7 : Int32))), .val (.int (((xn.toUInt32 >>> ((3 : Int32) &&& 31).toUInt32).toInt32) &&& (7 : Int32))), .val (.int (((xk.toUInt32 >>> ((2 : Int32) &&& 31).toUInt32).toInt32) &&& (3 : Int32))), .val (.int (((xk.toUInt32 >>> ((4 : Int32) &&& 31).toUInt32).toInt32) &&& (3 : Int32))), .unset, .unset, .unset, .unset]) rfl ?_
  show Steps p.tables e below (T0.setTop (mkF m 63 #[.val (.int xk), .val (.int xs), .val (.int xn), .val (.int xa), .val (.int xb), .val (.int xc), .val (.int ((xk &&& (3 : Int32)) + (1 : Int32))), .val (.int (xs &&& (7 : Int32))), .val (.int ((xn &&& (7 : Int32)) - (((xn &&& (7 : Int32)) / (5 : Int32)) * (5 : Int32)))), .val (.int (xa &&& (7 : Int32))), .val (.int (xb &&& (7 : Int32))), .val (.int (xc &&& (7 : Int32))), .val (.int (((xn.toUInt32 >>> ((3 : Int32) &&& 31).toUInt32).toInt32) &&& (7 : Int32))), .val (.int (((xk.toUInt32 >>> ((2 : Int32) &&& 31).toUInt32).toInt32) &&& (3 : Int32))), .val (.int (((xk.toUInt32 >>> ((4 : Int32) &&& 31).toUInt32).toInt32) &&& (3 : Int32))), .unset, .unset, .unset, .unset] [])) _
  refine XS.iloadN X0.here hx rfl (hb hby at_63) rfl ?_
  show Steps p.tables e below (T0.setTop (mkF m 64 #[.val (.int xk), .val (.int xs), .val (.int xn), .val (.int xa), .val (.int xb), .val (.int xc), .val (.int ((xk &&& (3 : Int32)) + (1 : Int32))), .val (.int (xs &&& (7 : Int32))), .val (.int ((xn &&& (7 : Int32)) - (((xn &&& (7 : Int32)) / (5 : Int32)) * (5 : Int32)))), .val (.int (xa &&& (7 : Int32))), .val (.int (xb &&& (7 : Int32))), .val (.int (xc &&& (7 : Int32))), .val (.int (((xn.toUInt32 >>> ((3 : Int32) &&& 31).toUInt32).toInt32) &&& (7 : Int32))), .val (.int (((xk.toUInt32 >>> ((2 : Int32) &&& 31).toUInt32).toInt32) &&& (3 : Int32))), .val (.int (((xk.toUInt32 >>> ((4 : Int32) &&& 31).toUInt32).toInt32) &&& (3 : Int32))), .unset, .unset, .unset, .unset] [(.int xk)])) _
  refine XS.bipush X0.here hx rfl (hb hby at_64) ?_
  show Steps p.tables e below (T0.setTop (mkF m 66 #[.val (.int xk), .val (.int xs), .val (.int xn), .val (.int xa), .val (.int xb), .val (.int xc), .val (.int ((xk &&& (3 : Int32)) + (1 : Int32))), .val (.int (xs &&& (7 : Int32))), .val (.int ((xn &&& (7 : Int32)) - (((xn &&& (7 : Int32)) / (5 : Int32)) * (5 : Int32)))), .val (.int (xa &&& (7 : Int32))), .val (.int (xb &&& (7 : Int32))), .val (.int (xc &&& (7 : Int32))), .val (.int (((xn.toUInt32 >>> ((3 : Int32) &&& 31).toUInt32).toInt32) &&& (7 : Int32))), .val (.int (((xk.toUInt32 >>> ((2 : Int32) &&& 31).toUInt32).toInt32) &&& (3 : Int32))), .val (.int (((xk.toUInt32 >>> ((4 : Int32) &&& 31).toUInt32).toInt32) &&& (3 : Int32))), .unset, .unset, .unset, .unset] [(.int (6 : Int32)), (.int xk)])) _
  refine XS.iushr X0.here hx rfl (hb hby at_66) rfl ?_
  show Steps p.tables e below (T0.setTop (mkF m 67 #[.val (.int xk), .val (.int xs), .val (.int xn), .val (.int xa), .val (.int xb), .val (.int xc), .val (.int ((xk &&& (3 : Int32)) + (1 : Int32))), .val (.int (xs &&& (7 : Int32))), .val (.int ((xn &&& (7 : Int32)) - (((xn &&& (7 : Int32)) / (5 : Int32)) * (5 : Int32)))), .val (.int (xa &&& (7 : Int32))), .val (.int (xb &&& (7 : Int32))), .val (.int (xc &&& (7 : Int32))), .val (.int (((xn.toUInt32 >>> ((3 : Int32) &&& 31).toUInt32).toInt32) &&& (7 : Int32))), .val (.int (((xk.toUInt32 >>> ((2 : Int32) &&& 31).toUInt32).toInt32) &&& (3 : Int32))), .val (.int (((xk.toUInt32 >>> ((4 : Int32) &&& 31).toUInt32).toInt32) &&& (3 : Int32))), .unset, .unset, .unset, .unset] [(.int ((xk.toUInt32 >>> ((6 : Int32) &&& 31).toUInt32).toInt32))])) _
  refine XS.iconst X0.here hx rfl (hb hby at_67) ?_
  show Steps p.tables e below (T0.setTop (mkF m 68 #[.val (.int xk), .val (.int xs), .val (.int xn), .val (.int xa), .val (.int xb), .val (.int xc), .val (.int ((xk &&& (3 : Int32)) + (1 : Int32))), .val (.int (xs &&& (7 : Int32))), .val (.int ((xn &&& (7 : Int32)) - (((xn &&& (7 : Int32)) / (5 : Int32)) * (5 : Int32)))), .val (.int (xa &&& (7 : Int32))), .val (.int (xb &&& (7 : Int32))), .val (.int (xc &&& (7 : Int32))), .val (.int (((xn.toUInt32 >>> ((3 : Int32) &&& 31).toUInt32).toInt32) &&& (7 : Int32))), .val (.int (((xk.toUInt32 >>> ((2 : Int32) &&& 31).toUInt32).toInt32) &&& (3 : Int32))), .val (.int (((xk.toUInt32 >>> ((4 : Int32) &&& 31).toUInt32).toInt32) &&& (3 : Int32))), .unset, .unset, .unset, .unset] [(.int (3 : Int32)), (.int ((xk.toUInt32 >>> ((6 : Int32) &&& 31).toUInt32).toInt32))])) _
  refine XS.iand X0.here hx rfl (hb hby at_68) rfl ?_
  show Steps p.tables e below (T0.setTop (mkF m 69 #[.val (.int xk), .val (.int xs), .val (.int xn), .val (.int xa), .val (.int xb), .val (.int xc), .val (.int ((xk &&& (3 : Int32)) + (1 : Int32))), .val (.int (xs &&& (7 : Int32))), .val (.int ((xn &&& (7 : Int32)) - (((xn &&& (7 : Int32)) / (5 : Int32)) * (5 : Int32)))), .val (.int (xa &&& (7 : Int32))), .val (.int (xb &&& (7 : Int32))), .val (.int (xc &&& (7 : Int32))), .val (.int (((xn.toUInt32 >>> ((3 : Int32) &&& 31).toUInt32).toInt32) &&& (7 : Int32))), .val (.int (((xk.toUInt32 >>> ((2 : Int32) &&& 31).toUInt32).toInt32) &&& (3 : Int32))), .val (.int (((xk.toUInt32 >>> ((4 : Int32) &&& 31).toUInt32).toInt32) &&& (3 : Int32))), .unset, .unset, .unset, .unset] [(.int (((xk.toUInt32 >>> ((6 : Int32) &&& 31).toUInt32).toInt32) &&& (3 : Int32)))])) _
  refine XS.istore X0.here hx rfl (hb hby at_69) rfl (l' := #[.val (.int xk), .val (.int xs), .val (.int xn), .val (.int xa), .val (.int xb), .val (.int xc), .val (.int ((xk &&& (3 : Int32)) + (1 : Int32))), .val (.int (xs &&& (7 : Int32))), .val (.int ((xn &&& (7 : Int32)) - (((xn &&& (7 : Int32)) / (5 : Int32)) * (5 : Int32)))), .val (.int (xa &&& (7 : Int32))), .val (.int (xb &&& (7 : Int32))), .val (.int (xc &&& (7 : Int32))), .val (.int (((xn.toUInt32 >>> ((3 : Int32) &&& 31).toUInt32).toInt32) &&& (7 : Int32))), .val (.int (((xk.toUInt32 >>> ((2 : Int32) &&& 31).toUInt32).toInt32) &&& (3 : Int32))), .val (.int (((xk.toUInt32 >>> ((4 : Int32) &&& 31).toUInt32).toInt32) &&& (3 : Int32))), .val (.int (((xk.toUInt32 >>> ((6 : Int32) &&& 31).toUInt32).toInt32) &&& (3 : Int32))), .unset, .unset, .unset]) rfl ?_
  show Steps p.tables e below (T0.setTop (mkF m 71 #[.val (.int xk), .val (.int xs), .val (.int xn), .val (.int xa), .val (.int xb), .val (.int xc), .val (.int ((xk &&& (3 : Int32)) + (1 : Int32))), .val (.int (xs &&& (7 : Int32))), .val (.int ((xn &&& (7 : Int32)) - (((xn &&& (7 : Int32)) / (5 : Int32)) * (5 : Int32)))), .val (.int (xa &&& (7 : Int32))), .val (.int (xb &&& (7 : Int32))), .val (.int (xc &&& (7 : Int32))), .val (.int (((xn.toUInt32 >>> ((3 : Int32) &&& 31).toUInt32).toInt32) &&& (7 : Int32))), .val (.int (((xk.toUInt32 >>> ((2 : Int32) &&& 31).toUInt32).toInt32) &&& (3 : Int32))), .val (.int (((xk.toUInt32 >>> ((4 : Int32) &&& 31).toUInt32).toInt32) &&& (3 : Int32))), .val (.int (((xk.toUInt32 >>> ((6 : Int32) &&& 31).toUInt32).toInt32) &&& (3 : Int32))), .unset, .unset, .unset] [])) _
  refine XS.iloadN X0.here hx rfl (hb hby at_71) rfl ?_
  show Steps p.tables e below (T0.setTop (mkF m 72 #[.val (.int xk), .val (.int xs), .val (.int xn), .val (.int xa), .val (.int xb), .val (.int xc), .val (.int ((xk &&& (3 : Int32)) + (1 : Int32))), .val (.int (xs &&& (7 : Int32))), .val (.int ((xn &&& (7 : Int32)) - (((xn &&& (7 : Int32)) / (5 : Int32)) * (5 : Int32)))), .val (.int (xa &&& (7 : Int32))), .val (.int (xb &&& (7 : Int32))), .val (.int (xc &&& (7 : Int32))), .val (.int (((xn.toUInt32 >>> ((3 : Int32) &&& 31).toUInt32).toInt32) &&& (7 : Int32))), .val (.int (((xk.toUInt32 >>> ((2 : Int32) &&& 31).toUInt32).toInt32) &&& (3 : Int32))), .val (.int (((xk.toUInt32 >>> ((4 : Int32) &&& 31).toUInt32).toInt32) &&& (3 : Int32))), .val (.int (((xk.toUInt32 >>> ((6 : Int32) &&& 31).toUInt32).toInt32) &&& (3 : Int32))), .unset, .unset, .unset] [(.int xk)])) _
  refine XS.bipush X0.here hx rfl (hb hby at_72) ?_
  show Steps p.tables e below (T0.setTop (mkF m 74 #[.val (.int xk), .val (.int xs), .val (.int xn), .val (.int xa), .val (.int xb), .val (.int xc), .val (.int ((xk &&& (3 : Int32)) + (1 : Int32))), .val (.int (xs &&& (7 : Int32))), .val (.int ((xn &&& (7 : Int32)) - (((xn &&& (7 : Int32)) / (5 : Int32)) * (5 : Int32)))), .val (.int (xa &&& (7 : Int32))), .val (.int (xb &&& (7 : Int32))), .val (.int (xc &&& (7 : Int32))), .val (.int (((xn.toUInt32 >>> ((3 : Int32) &&& 31).toUInt32).toInt32) &&& (7 : Int32))), .val (.int (((xk.toUInt32 >>> ((2 : Int32) &&& 31).toUInt32).toInt32) &&& (3 : Int32))), .val (.int (((xk.toUInt32 >>> ((4 : Int32) &&& 31).toUInt32).toInt32) &&& (3 : Int32))), .val (.int (((xk.toUInt32 >>> ((6 : Int32) &&& 31).toUInt32).toInt32) &&& (3 : Int32))), .unset, .unset, .unset] [(.int (8 : Int32)), (.int xk)])) _
  refine XS.iushr X0.here hx rfl (hb hby at_74) rfl ?_
  show Steps p.tables e below (T0.setTop (mkF m 75 #[.val (.int xk), .val (.int xs), .val (.int xn), .val (.int xa), .val (.int xb), .val (.int xc), .val (.int ((xk &&& (3 : Int32)) + (1 : Int32))), .val (.int (xs &&& (7 : Int32))), .val (.int ((xn &&& (7 : Int32)) - (((xn &&& (7 : Int32)) / (5 : Int32)) * (5 : Int32)))), .val (.int (xa &&& (7 : Int32))), .val (.int (xb &&& (7 : Int32))), .val (.int (xc &&& (7 : Int32))), .val (.int (((xn.toUInt32 >>> ((3 : Int32) &&& 31).toUInt32).toInt32) &&& (7 : Int32))), .val (.int (((xk.toUInt32 >>> ((2 : Int32) &&& 31).toUInt32).toInt32) &&& (3 : Int32))), .val (.int (((xk.toUInt32 >>> ((4 : Int32) &&& 31).toUInt32).toInt32) &&& (3 : Int32))), .val (.int (((xk.toUInt32 >>> ((6 : Int32) &&& 31).toUInt32).toInt32) &&& (3 : Int32))), .unset, .unset, .unset] [(.int ((xk.toUInt32 >>> ((8 : Int32) &&& 31).toUInt32).toInt32))])) _
  refine XS.iconst X0.here hx rfl (hb hby at_75) ?_
  show Steps p.tables e below (T0.setTop (mkF m 76 #[.val (.int xk), .val (.int xs), .val (.int xn), .val (.int xa), .val (.int xb), .val (.int xc), .val (.int ((xk &&& (3 : Int32)) + (1 : Int32))), .val (.int (xs &&& (7 : Int32))), .val (.int ((xn &&& (7 : Int32)) - (((xn &&& (7 : Int32)) / (5 : Int32)) * (5 : Int32)))), .val (.int (xa &&& (7 : Int32))), .val (.int (xb &&& (7 : Int32))), .val (.int (xc &&& (7 : Int32))), .val (.int (((xn.toUInt32 >>> ((3 : Int32) &&& 31).toUInt32).toInt32) &&& (7 : Int32))), .val (.int (((xk.toUInt32 >>> ((2 : Int32) &&& 31).toUInt32).toInt32) &&& (3 : Int32))), .val (.int (((xk.toUInt32 >>> ((4 : Int32) &&& 31).toUInt32).toInt32) &&& (3 : Int32))), .val (.int (((xk.toUInt32 >>> ((6 : Int32) &&& 31).toUInt32).toInt32) &&& (3 : Int32))), .unset, .unset, .unset] [(.int (3 : Int32)), (.int ((xk.toUInt32 >>> ((8 : Int32) &&& 31).toUInt32).toInt32))])) _
  refine XS.iand X0.here hx rfl (hb hby at_76) rfl ?_
  show Steps p.tables e below (T0.setTop (mkF m 77 #[.val (.int xk), .val (.int xs), .val (.int xn), .val (.int xa), .val (.int xb), .val (.int xc), .val (.int ((xk &&& (3 : Int32)) + (1 : Int32))), .val (.int (xs &&& (7 : Int32))), .val (.int ((xn &&& (7 : Int32)) - (((xn &&& (7 : Int32)) / (5 : Int32)) * (5 : Int32)))), .val (.int (xa &&& (7 : Int32))), .val (.int (xb &&& (7 : Int32))), .val (.int (xc &&& (7 : Int32))), .val (.int (((xn.toUInt32 >>> ((3 : Int32) &&& 31).toUInt32).toInt32) &&& (7 : Int32))), .val (.int (((xk.toUInt32 >>> ((2 : Int32) &&& 31).toUInt32).toInt32) &&& (3 : Int32))), .val (.int (((xk.toUInt32 >>> ((4 : Int32) &&& 31).toUInt32).toInt32) &&& (3 : Int32))), .val (.int (((xk.toUInt32 >>> ((6 : Int32) &&& 31).toUInt32).toInt32) &&& (3 : Int32))), .unset, .unset, .unset] [(.int (((xk.toUInt32 >>> ((8 : Int32) &&& 31).toUInt32).toInt32) &&& (3 : Int32)))])) _
  refine XS.istore X0.here hx rfl (hb hby at_77) rfl (l' := #[.val (.int xk), .val (.int xs), .val (.int xn), .val (.int xa), .val (.int xb), .val (.int xc), .val (.int ((xk &&& (3 : Int32)) + (1 : Int32))), .val (.int (xs &&& (7 : Int32))), .val (.int ((xn &&& (7 : Int32)) - (((xn &&& (7 : Int32)) / (5 : Int32)) * (5 : Int32)))), .val (.int (xa &&& (7 : Int32))), .val (.int (xb &&& (7 : Int32))), .val (.int (xc &&& (7 : Int32))), .val (.int (((xn.toUInt32 >>> ((3 : Int32) &&& 31).toUInt32).toInt32) &&& (7 : Int32))), .val (.int (((xk.toUInt32 >>> ((2 : Int32) &&& 31).toUInt32).toInt32) &&& (3 : Int32))), .val (.int (((xk.toUInt32 >>> ((4 : Int32) &&& 31).toUInt32).toInt32) &&& (3 : Int32))), .val (.int (((xk.toUInt32 >>> ((6 : Int32) &&& 31).toUInt32).toInt32) &&& (3 : Int32))), .val (.int (((xk.toUInt32 >>> ((8 : Int32) &&& 31).toUInt32).toInt32) &&& (3 : Int32))), .unset, .unset]) rfl ?_
  show Steps p.tables e below (T0.setTop (mkF m 79 #[.val (.int xk), .val (.int xs), .val (.int xn), .val (.int xa), .val (.int xb), .val (.int xc), .val (.int ((xk &&& (3 : Int32)) + (1 : Int32))), .val (.int (xs &&& (7 : Int32))), .val (.int ((xn &&& (7 : Int32)) - (((xn &&& (7 : Int32)) / (5 : Int32)) * (5 : Int32)))), .val (.int (xa &&& (7 : Int32))), .val (.int (xb &&& (7 : Int32))), .val (.int (xc &&& (7 : Int32))), .val (.int (((xn.toUInt32 >>> ((3 : Int32) &&& 31).toUInt32).toInt32) &&& (7 : Int32))), .val (.int (((xk.toUInt32 >>> ((2 : Int32) &&& 31).toUInt32).toInt32) &&& (3 : Int32))), .val (.int (((xk.toUInt32 >>> ((4 : Int32) &&& 31).toUInt32).toInt32) &&& (3 : Int32))), .val (.int (((xk.toUInt32 >>> ((6 : Int32) &&& 31).toUInt32).toInt32) &&& (3 : Int32))), .val (.int (((xk.toUInt32 >>> ((8 : Int32) &&& 31).toUInt32).toInt32) &&& (3 : Int32))), .unset, .unset] [])) _
  refine st7 _ ?_
  show Steps p.tables e below (T7.setTop (mkF m 82 #[.val (.int xk), .val (.int xs), .val (.int xn), .val (.int xa), .val (.int xb), .val (.int xc), .val (.int ((xk &&& (3 : Int32)) + (1 : Int32))), .val (.int (xs &&& (7 : Int32))), .val (.int ((xn &&& (7 : Int32)) - (((xn &&& (7 : Int32)) / (5 : Int32)) * (5 : Int32)))), .val (.int (xa &&& (7 : Int32))), .val (.int (xb &&& (7 : Int32))), .val (.int (xc &&& (7 : Int32))), .val (.int (((xn.toUInt32 >>> ((3 : Int32) &&& 31).toUInt32).toInt32) &&& (7 : Int32))), .val (.int (((xk.toUInt32 >>> ((2 : Int32) &&& 31).toUInt32).toInt32) &&& (3 : Int32))), .val (.int (((xk.toUInt32 >>> ((4 : Int32) &&& 31).toUInt32).toInt32) &&& (3 : Int32))), .val (.int (((xk.toUInt32 >>> ((6 : Int32) &&& 31).toUInt32).toInt32) &&& (3 : Int32))), .val (.int (((xk.toUInt32 >>> ((8 : Int32) &&& 31).toUInt32).toInt32) &&& (3 : Int32))), .unset, .unset] [(.ref b7)])) _
  refine XS.dup X7.here hx rfl (hb hby at_82) rfl rfl ?_
  show Steps p.tables e below (T7.setTop (mkF m 83 #[.val (.int xk), .val (.int xs), .val (.int xn), .val (.int xa), .val (.int xb), .val (.int xc), .val (.int ((xk &&& (3 : Int32)) + (1 : Int32))), .val (.int (xs &&& (7 : Int32))), .val (.int ((xn &&& (7 : Int32)) - (((xn &&& (7 : Int32)) / (5 : Int32)) * (5 : Int32)))), .val (.int (xa &&& (7 : Int32))), .val (.int (xb &&& (7 : Int32))), .val (.int (xc &&& (7 : Int32))), .val (.int (((xn.toUInt32 >>> ((3 : Int32) &&& 31).toUInt32).toInt32) &&& (7 : Int32))), .val (.int (((xk.toUInt32 >>> ((2 : Int32) &&& 31).toUInt32).toInt32) &&& (3 : Int32))), .val (.int (((xk.toUInt32 >>> ((4 : Int32) &&& 31).toUInt32).toInt32) &&& (3 : Int32))), .val (.int (((xk.toUInt32 >>> ((6 : Int32) &&& 31).toUInt32).toInt32) &&& (3 : Int32))), .val (.int (((xk.toUInt32 >>> ((8 : Int32) &&& 31).toUInt32).toInt32) &&& (3 : Int32))), .unset, .unset] [(.ref b7), (.ref b7)])) _
  refine XS.iload X7.here hx rfl (hb hby at_83) rfl ?_
  show Steps p.tables e below (T7.setTop (mkF m 85 #[.val (.int xk), .val (.int xs), .val (.int xn), .val (.int xa), .val (.int xb), .val (.int xc), .val (.int ((xk &&& (3 : Int32)) + (1 : Int32))), .val (.int (xs &&& (7 : Int32))), .val (.int ((xn &&& (7 : Int32)) - (((xn &&& (7 : Int32)) / (5 : Int32)) * (5 : Int32)))), .val (.int (xa &&& (7 : Int32))), .val (.int (xb &&& (7 : Int32))), .val (.int (xc &&& (7 : Int32))), .val (.int (((xn.toUInt32 >>> ((3 : Int32) &&& 31).toUInt32).toInt32) &&& (7 : Int32))), .val (.int (((xk.toUInt32 >>> ((2 : Int32) &&& 31).toUInt32).toInt32) &&& (3 : Int32))), .val (.int (((xk.toUInt32 >>> ((4 : Int32) &&& 31).toUInt32).toInt32) &&& (3 : Int32))), .val (.int (((xk.toUInt32 >>> ((6 : Int32) &&& 31).toUInt32).toInt32) &&& (3 : Int32))), .val (.int (((xk.toUInt32 >>> ((8 : Int32) &&& 31).toUInt32).toInt32) &&& (3 : Int32))), .unset, .unset] [(.int ((xk &&& (3 : Int32)) + (1 : Int32))), (.ref b7), (.ref b7)])) _
  refine XS.iload X7.here hx rfl (hb hby at_85) rfl ?_
  show Steps p.tables e below (T7.setTop (mkF m 87 #[.val (.int xk), .val (.int xs), .val (.int xn), .val (.int xa), .val (.int xb), .val (.int xc), .val (.int ((xk &&& (3 : Int32)) + (1 : Int32))), .val (.int (xs &&& (7 : Int32))), .val (.int ((xn &&& (7 : Int32)) - (((xn &&& (7 : Int32)) / (5 : Int32)) * (5 : Int32)))), .val (.int (xa &&& (7 : Int32))), .val (.int (xb &&& (7 : Int32))), .val (.int (xc &&& (7 : Int32))), .val (.int (((xn.toUInt32 >>> ((3 : Int32) &&& 31).toUInt32).toInt32) &&& (7 : Int32))), .val (.int (((xk.toUInt32 >>> ((2 : Int32) &&& 31).toUInt32).toInt32) &&& (3 : Int32))), .val (.int (((xk.toUInt32 >>> ((4 : Int32) &&& 31).toUInt32).toInt32) &&& (3 : Int32))), .val (.int (((xk.toUInt32 >>> ((6 : Int32) &&& 31).toUInt32).toInt32) &&& (3 : Int32))), .val (.int (((xk.toUInt32 >>> ((8 : Int32) &&& 31).toUInt32).toInt32) &&& (3 : Int32))), .unset, .unset] [(.int (xs &&& (7 : Int32))), (.int ((xk &&& (3 : Int32)) + (1 : Int32))), (.ref b7), (.ref b7)])) _
  refine st8.trans ?_
  show Steps p.tables e below (T8.setTop (mkF m 90 #[.val (.int xk), .val (.int xs), .val (.int xn), .val (.int xa), .val (.int xb), .val (.int xc), .val (.int ((xk &&& (3 : Int32)) + (1 : Int32))), .val (.int (xs &&& (7 : Int32))), .val (.int ((xn &&& (7 : Int32)) - (((xn &&& (7 : Int32)) / (5 : Int32)) * (5 : Int32)))), .val (.int (xa &&& (7 : Int32))), .val (.int (xb &&& (7 : Int32))), .val (.int (xc &&& (7 : Int32))), .val (.int (((xn.toUInt32 >>> ((3 : Int32) &&& 31).toUInt32).toInt32) &&& (7 : Int32))), .val (.int (((xk.toUInt32 >>> ((2 : Int32) &&& 31).toUInt32).toInt32) &&& (3 : Int32))), .val (.int (((xk.toUInt32 >>> ((4 : Int32) &&& 31).toUInt32).toInt32) &&& (3 : Int32))), .val (.int (((xk.toUInt32 >>> ((6 : Int32) &&& 31).toUInt32).toInt32) &&& (3 : Int32))), .val (.int (((xk.toUInt32 >>> ((8 : Int32) &&& 31).toUInt32).toInt32) &&& (3 : Int32))), .unset, .unset] [(.ref b7)])) _
  refine XS.astore X8.here hx rfl (hb hby at_90) rfl rfl (l' := #[.val (.int xk), .val (.int xs), .val (.int xn), .val (.int xa), .val (.int xb), .val (.int xc), .val (.int ((xk &&& (3 : Int32)) + (1 : Int32))), .val (.int (xs &&& (7 : Int32))), .val (.int ((xn &&& (7 : Int32)) - (((xn &&& (7 : Int32)) / (5 : Int32)) * (5 : Int32)))), .val (.int (xa &&& (7 : Int32))), .val (.int (xb &&& (7 : Int32))), .val (.int (xc &&& (7 : Int32))), .val (.int (((xn.toUInt32 >>> ((3 : Int32) &&& 31).toUInt32).toInt32) &&& (7 : Int32))), .val (.int (((xk.toUInt32 >>> ((2 : Int32) &&& 31).toUInt32).toInt32) &&& (3 : Int32))), .val (.int (((xk.toUInt32 >>> ((4 : Int32) &&& 31).toUInt32).toInt32) &&& (3 : Int32))), .val (.int (((xk.toUInt32 >>> ((6 : Int32) &&& 31).toUInt32).toInt32) &&& (3 : Int32))), .val (.int (((xk.toUInt32 >>> ((8 : Int32) &&& 31).toUInt32).toInt32) &&& (3 : Int32))), .val (.ref b7), .unset]) rfl ?_
  show Steps p.tables e below (T8.setTop (mkF m 92 #[.val (.int xk), .val (.int xs), .val (.int xn), .val (.int xa), .val (.int xb), .val (.int xc), .val (.int ((xk &&& (3 : Int32)) + (1 : Int32))), .val (.int (xs &&& (7 : Int32))), .val (.int ((xn &&& (7 : Int32)) - (((xn &&& (7 : Int32)) / (5 : Int32)) * (5 : Int32)))), .val (.int (xa &&& (7 : Int32))), .val (.int (xb &&& (7 : Int32))), .val (.int (xc &&& (7 : Int32))), .val (.int (((xn.toUInt32 >>> ((3 : Int32) &&& 31).toUInt32).toInt32) &&& (7 : Int32))), .val (.int (((xk.toUInt32 >>> ((2 : Int32) &&& 31).toUInt32).toInt32) &&& (3 : Int32))), .val (.int (((xk.toUInt32 >>> ((4 : Int32) &&& 31).toUInt32).toInt32) &&& (3 : Int32))), .val (.int (((xk.toUInt32 >>> ((6 : Int32) &&& 31).toUInt32).toInt32) &&& (3 : Int32))), .val (.int (((xk.toUInt32 >>> ((8 : Int32) &&& 31).toUInt32).toInt32) &&& (3 : Int32))), .val (.ref b7), .unset] [])) _
  refine XS.aload X8.here hx rfl (hb hby at_92) rfl rfl ?_
  show Steps p.tables e below (T8.setTop (mkF m 94 #[.val (.int xk), .val (.int xs), .val (.int xn), .val (.int xa), .val (.int xb), .val (.int xc), .val (.int ((xk &&& (3 : Int32)) + (1 : Int32))), .val (.int (xs &&& (7 : Int32))), .val (.int ((xn &&& (7 : Int32)) - (((xn &&& (7 : Int32)) / (5 : Int32)) * (5 : Int32)))), .val (.int (xa &&& (7 : Int32))), .val (.int (xb &&& (7 : Int32))), .val (.int (xc &&& (7 : Int32))), .val (.int (((xn.toUInt32 >>> ((3 : Int32) &&& 31).toUInt32).toInt32) &&& (7 : Int32))), .val (.int (((xk.toUInt32 >>> ((2 : Int32) &&& 31).toUInt32).toInt32) &&& (3 : Int32))), .val (.int (((xk.toUInt32 >>> ((4 : Int32) &&& 31).toUInt32).toInt32) &&& (3 : Int32))), .val (.int (((xk.toUInt32 >>> ((6 : Int32) &&& 31).toUInt32).toInt32) &&& (3 : Int32))), .val (.int (((xk.toUInt32 >>> ((8 : Int32) &&& 31).toUInt32).toInt32) &&& (3 : Int32))), .val (.ref b7), .unset] [(.ref b7)])) _
  refine st9 _ ?_
  show Steps p.tables e below (T9.setTop (mkF m 97 #[.val (.int xk), .val (.int xs), .val (.int xn), .val (.int xa), .val (.int xb), .val (.int xc), .val (.int ((xk &&& (3 : Int32)) + (1 : Int32))), .val (.int (xs &&& (7 : Int32))), .val (.int ((xn &&& (7 : Int32)) - (((xn &&& (7 : Int32)) / (5 : Int32)) * (5 : Int32)))), .val (.int (xa &&& (7 : Int32))), .val (.int (xb &&& (7 : Int32))), .val (.int (xc &&& (7 : Int32))), .val (.int (((xn.toUInt32 >>> ((3 : Int32) &&& 31).toUInt32).toInt32) &&& (7 : Int32))), .val (.int (((xk.toUInt32 >>> ((2 : Int32) &&& 31).toUInt32).toInt32) &&& (3 : Int32))), .val (.int (((xk.toUInt32 >>> ((4 : Int32) &&& 31).toUInt32).toInt32) &&& (3 : Int32))), .val (.int (((xk.toUInt32 >>> ((6 : Int32) &&& 31).toUInt32).toInt32) &&& (3 : Int32))), .val (.int (((xk.toUInt32 >>> ((8 : Int32) &&& 31).toUInt32).toInt32) &&& (3 : Int32))), .val (.ref b7), .unset] [(.double (own_lim ((xk &&& (3 : Int32)) + (1 : Int32)) (0 : Int32) (List.replicate 6 (0 : Int32))))])) _
  refine XS.iload X9.here hx rfl (hb hby at_97) rfl ?_
  show Steps p.tables e below (T9.setTop (mkF m 99 #[.val (.int xk), .val (.int xs), .val (.int xn), .val (.int xa), .val (.int xb), .val (.int xc), .val (.int ((xk &&& (3 : Int32)) + (1 : Int32))), .val (.int (xs &&& (7 : Int32))), .val (.int ((xn &&& (7 : Int32)) - (((xn &&& (7 : Int32)) / (5 : Int32)) * (5 : Int32)))), .val (.int (xa &&& (7 : Int32))), .val (.int (xb &&& (7 : Int32))), .val (.int (xc &&& (7 : Int32))), .val (.int (((xn.toUInt32 >>> ((3 : Int32) &&& 31).toUInt32).toInt32) &&& (7 : Int32))), .val (.int (((xk.toUInt32 >>> ((2 : Int32) &&& 31).toUInt32).toInt32) &&& (3 : Int32))), .val (.int (((xk.toUInt32 >>> ((4 : Int32) &&& 31).toUInt32).toInt32) &&& (3 : Int32))), .val (.int (((xk.toUInt32 >>> ((6 : Int32) &&& 31).toUInt32).toInt32) &&& (3 : Int32))), .val (.int (((xk.toUInt32 >>> ((8 : Int32) &&& 31).toUInt32).toInt32) &&& (3 : Int32))), .val (.ref b7), .unset] [(.int ((xk &&& (3 : Int32)) + (1 : Int32))), (.double (own_lim ((xk &&& (3 : Int32)) + (1 : Int32)) (0 : Int32) (List.replicate 6 (0 : Int32))))])) _
  refine XS.iconst X9.here hx rfl (hb hby at_99) ?_
  show Steps p.tables e below (T9.setTop (mkF m 100 #[.val (.int xk), .val (.int xs), .val (.int xn), .val (.int xa), .val (.int xb), .val (.int xc), .val (.int ((xk &&& (3 : Int32)) + (1 : Int32))), .val (.int (xs &&& (7 : Int32))), .val (.int ((xn &&& (7 : Int32)) - (((xn &&& (7 : Int32)) / (5 : Int32)) * (5 : Int32)))), .val (.int (xa &&& (7 : Int32))), .val (.int (xb &&& (7 : Int32))), .val (.int (xc &&& (7 : Int32))), .val (.int (((xn.toUInt32 >>> ((3 : Int32) &&& 31).toUInt32).toInt32) &&& (7 : Int32))), .val (.int (((xk.toUInt32 >>> ((2 : Int32) &&& 31).toUInt32).toInt32) &&& (3 : Int32))), .val (.int (((xk.toUInt32 >>> ((4 : Int32) &&& 31).toUInt32).toInt32) &&& (3 : Int32))), .val (.int (((xk.toUInt32 >>> ((6 : Int32) &&& 31).toUInt32).toInt32) &&& (3 : Int32))), .val (.int (((xk.toUInt32 >>> ((8 : Int32) &&& 31).toUInt32).toInt32) &&& (3 : Int32))), .val (.ref b7), .unset] [(.int (0 : Int32)), (.int ((xk &&& (3 : Int32)) + (1 : Int32))), (.double (own_lim ((xk &&& (3 : Int32)) + (1 : Int32)) (0 : Int32) (List.replicate 6 (0 : Int32))))])) _
  refine XS.iload X9.here hx rfl (hb hby at_100) rfl ?_
  show Steps p.tables e below (T9.setTop (mkF m 102 #[.val (.int xk), .val (.int xs), .val (.int xn), .val (.int xa), .val (.int xb), .val (.int xc), .val (.int ((xk &&& (3 : Int32)) + (1 : Int32))), .val (.int (xs &&& (7 : Int32))), .val (.int ((xn &&& (7 : Int32)) - (((xn &&& (7 : Int32)) / (5 : Int32)) * (5 : Int32)))), .val (.int (xa &&& (7 : Int32))), .val (.int (xb &&& (7 : Int32))), .val (.int (xc &&& (7 : Int32))), .val (.int (((xn.toUInt32 >>> ((3 : Int32) &&& 31).toUInt32).toInt32) &&& (7 : Int32))), .val (.int (((xk.toUInt32 >>> ((2 : Int32) &&& 31).toUInt32).toInt32) &&& (3 : Int32))), .val (.int (((xk.toUInt32 >>> ((4 : Int32) &&& 31).toUInt32).toInt32) &&& (3 : Int32))), .val (.int (((xk.toUInt32 >>> ((6 : Int32) &&& 31).toUInt32).toInt32) &&& (3 : Int32))), .val (.int (((xk.toUInt32 >>> ((8 : Int32) &&& 31).toUInt32).toInt32) &&& (3 : Int32))), .val (.ref b7), .unset] [(.int (xa &&& (7 : Int32))), (.int (0 : Int32)), (.int ((xk &&& (3 : Int32)) + (1 : Int32))), (.double (own_lim ((xk &&& (3 : Int32)) + (1 : Int32)) (0 : Int32) (List.replicate 6 (0 : Int32))))])) _
  refine XS.iload X9.here hx rfl (hb hby at_102) rfl ?_
  show Steps p.tables e below (T9.setTop (mkF m 104 #[.val (.int xk), .val (.int xs), .val (.int xn), .val (.int xa), .val (.int xb), .val (.int xc), .val (.int ((xk &&& (3 : Int32)) + (1 : Int32))), .val (.int (xs &&& (7 : Int32))), .val (.int ((xn &&& (7 : Int32)) - (((xn &&& (7 : Int32)) / (5 : Int32)) * (5 : Int32)))), .val (.int (xa &&& (7 : Int32))), .val (.int (xb &&& (7 : Int32))), .val (.int (xc &&& (7 : Int32))), .val (.int (((xn.toUInt32 >>> ((3 : Int32) &&& 31).toUInt32).toInt32) &&& (7 : Int32))), .val (.int (((xk.toUInt32 >>> ((2 : Int32) &&& 31).toUInt32).toInt32) &&& (3 : Int32))), .val (.int (((xk.toUInt32 >>> ((4 : Int32) &&& 31).toUInt32).toInt32) &&& (3 : Int32))), .val (.int (((xk.toUInt32 >>> ((6 : Int32) &&& 31).toUInt32).toInt32) &&& (3 : Int32))), .val (.int (((xk.toUInt32 >>> ((8 : Int32) &&& 31).toUInt32).toInt32) &&& (3 : Int32))), .val (.ref b7), .unset] [(.int (xb &&& (7 : Int32))), (.int (xa &&& (7 : Int32))), (.int (0 : Int32)), (.int ((xk &&& (3 : Int32)) + (1 : Int32))), (.double (own_lim ((xk &&& (3 : Int32)) + (1 : Int32)) (0 : Int32) (List.replicate 6 (0 : Int32))))])) _
  refine XS.iload X9.here hx rfl (hb hby at_104) rfl ?_
  show Steps p.tables e below (T9.setTop (mkF m 106 #[.val (.int xk), .val (.int xs), .val (.int xn), .val (.int xa), .val (.int xb), .val (.int xc), .val (.int ((xk &&& (3 : Int32)) + (1 : Int32))), .val (.int (xs &&& (7 : Int32))), .val (.int ((xn &&& (7 : Int32)) - (((xn &&& (7 : Int32)) / (5 : Int32)) * (5 : Int32)))), .val (.int (xa &&& (7 : Int32))), .val (.int (xb &&& (7 : Int32))), .val (.int (xc &&& (7 : Int32))), .val (.int (((xn.toUInt32 >>> ((3 : Int32) &&& 31).toUInt32).toInt32) &&& (7 : Int32))), .val (.int (((xk.toUInt32 >>> ((2 : Int32) &&& 31).toUInt32).toInt32) &&& (3 : Int32))), .val (.int (((xk.toUInt32 >>> ((4 : Int32) &&& 31).toUInt32).toInt32) &&& (3 : Int32))), .val (.int (((xk.toUInt32 >>> ((6 : Int32) &&& 31).toUInt32).toInt32) &&& (3 : Int32))), .val (.int (((xk.toUInt32 >>> ((8 : Int32) &&& 31).toUInt32).toInt32) &&& (3 : Int32))), .val (.ref b7), .unset] [(.int (xc &&& (7 : Int32))), (.int (xb &&& (7 : Int32))), (.int (xa &&& (7 : Int32))), (.int (0 : Int32)), (.int ((xk &&& (3 : Int32)) + (1 : Int32))), (.double (own_lim ((xk &&& (3 : Int32)) + (1 : Int32)) (0 : Int32) (List.replicate 6 (0 : Int32))))])) _
  refine XS.iload X9.here hx rfl (hb hby at_106) rfl ?_
  show Steps p.tables e below (T9.setTop (mkF m 108 #[.val (.int xk), .val (.int xs), .val (.int xn), .val (.int xa), .val (.int xb), .val (.int xc), .val (.int ((xk &&& (3 : Int32)) + (1 : Int32))), .val (.int (xs &&& (7 : Int32))), .val (.int ((xn &&& (7 : Int32)) - (((xn &&& (7 : Int32)) / (5 : Int32)) * (5 : Int32)))), .val (.int (xa &&& (7 : Int32))), .val (.int (xb &&& (7 : Int32))), .val (.int (xc &&& (7 : Int32))), .val (.int (((xn.toUInt32 >>> ((3 : Int32) &&& 31).toUInt32).toInt32) &&& (7 : Int32))), .val (.int (((xk.toUInt32 >>> ((2 : Int32) &&& 31).toUInt32).toInt32) &&& (3 : Int32))), .val (.int (((xk.toUInt32 >>> ((4 : Int32) &&& 31).toUInt32).toInt32) &&& (3 : Int32))), .val (.int (((xk.toUInt32 >>> ((6 : Int32) &&& 31).toUInt32).toInt32) &&& (3 : Int32))), .val (.int (((xk.toUInt32 >>> ((8 : Int32) &&& 31).toUInt32).toInt32) &&& (3 : Int32))), .val (.ref b7), .unset] [(.int (((xn.toUInt32 >>> ((3 : Int32) &&& 31).toUInt32).toInt32) &&& (7 : Int32))), (.int (xc &&& (7 : Int32))), (.int (xb &&& (7 : Int32))), (.int (xa &&& (7 : Int32))), (.int (0 : Int32)), (.int ((xk &&& (3 : Int32)) + (1 : Int32))), (.double (own_lim ((xk &&& (3 : Int32)) + (1 : Int32)) (0 : Int32) (List.replicate 6 (0 : Int32))))])) _
  refine st10 _ ?_
  show Steps p.tables e below (T10.setTop (mkF m 111 #[.val (.int xk), .val (.int xs), .val (.int xn), .val (.int xa), .val (.int xb), .val (.int xc), .val (.int ((xk &&& (3 : Int32)) + (1 : Int32))), .val (.int (xs &&& (7 : Int32))), .val (.int ((xn &&& (7 : Int32)) - (((xn &&& (7 : Int32)) / (5 : Int32)) * (5 : Int32)))), .val (.int (xa &&& (7 : Int32))), .val (.int (xb &&& (7 : Int32))), .val (.int (xc &&& (7 : Int32))), .val (.int (((xn.toUInt32 >>> ((3 : Int32) &&& 31).toUInt32).toInt32) &&& (7 : Int32))), .val (.int (((xk.toUInt32 >>> ((2 : Int32) &&& 31).toUInt32).toInt32) &&& (3 : Int32))), .val (.int (((xk.toUInt32 >>> ((4 : Int32) &&& 31).toUInt32).toInt32) &&& (3 : Int32))), .val (.int (((xk.toUInt32 >>> ((6 : Int32) &&& 31).toUInt32).toInt32) &&& (3 : Int32))), .val (.int (((xk.toUInt32 >>> ((8 : Int32) &&& 31).toUInt32).toInt32) &&& (3 : Int32))), .val (.ref b7), .unset] [(.int (own_kth ((xk &&& (3 : Int32)) + (1 : Int32)) (0 : Int32) (xa &&& (7 : Int32)) (xb &&& (7 : Int32)) (xc &&& (7 : Int32)) (((xn.toUInt32 >>> ((3 : Int32) &&& 31).toUInt32).toInt32) &&& (7 : Int32)))), (.double (own_lim ((xk &&& (3 : Int32)) + (1 : Int32)) (0 : Int32) (List.replicate 6 (0 : Int32))))])) _
  refine st11 _ ?_
  show Steps p.tables e below (T11.setTop (mkF m 114 #[.val (.int xk), .val (.int xs), .val (.int xn), .val (.int xa), .val (.int xb), .val (.int xc), .val (.int ((xk &&& (3 : Int32)) + (1 : Int32))), .val (.int (xs &&& (7 : Int32))), .val (.int ((xn &&& (7 : Int32)) - (((xn &&& (7 : Int32)) / (5 : Int32)) * (5 : Int32)))), .val (.int (xa &&& (7 : Int32))), .val (.int (xb &&& (7 : Int32))), .val (.int (xc &&& (7 : Int32))), .val (.int (((xn.toUInt32 >>> ((3 : Int32) &&& 31).toUInt32).toInt32) &&& (7 : Int32))), .val (.int (((xk.toUInt32 >>> ((2 : Int32) &&& 31).toUInt32).toInt32) &&& (3 : Int32))), .val (.int (((xk.toUInt32 >>> ((4 : Int32) &&& 31).toUInt32).toInt32) &&& (3 : Int32))), .val (.int (((xk.toUInt32 >>> ((6 : Int32) &&& 31).toUInt32).toInt32) &&& (3 : Int32))), .val (.int (((xk.toUInt32 >>> ((8 : Int32) &&& 31).toUInt32).toInt32) &&& (3 : Int32))), .val (.ref b7), .unset] [(.int (1 : Int32))])) _
  refine XS.istore X11.here hx rfl (hb hby at_114) rfl (l' := #[.val (.int xk), .val (.int xs), .val (.int xn), .val (.int xa), .val (.int xb), .val (.int xc), .val (.int ((xk &&& (3 : Int32)) + (1 : Int32))), .val (.int (xs &&& (7 : Int32))), .val (.int ((xn &&& (7 : Int32)) - (((xn &&& (7 : Int32)) / (5 : Int32)) * (5 : Int32)))), .val (.int (xa &&& (7 : Int32))), .val (.int (xb &&& (7 : Int32))), .val (.int (xc &&& (7 : Int32))), .val (.int (((xn.toUInt32 >>> ((3 : Int32) &&& 31).toUInt32).toInt32) &&& (7 : Int32))), .val (.int (((xk.toUInt32 >>> ((2 : Int32) &&& 31).toUInt32).toInt32) &&& (3 : Int32))), .val (.int (((xk.toUInt32 >>> ((4 : Int32) &&& 31).toUInt32).toInt32) &&& (3 : Int32))), .val (.int (((xk.toUInt32 >>> ((6 : Int32) &&& 31).toUInt32).toInt32) &&& (3 : Int32))), .val (.int (((xk.toUInt32 >>> ((8 : Int32) &&& 31).toUInt32).toInt32) &&& (3 : Int32))), .val (.ref b7), .val (.int (1 : Int32))]) rfl ?_
  exact kt
set_option maxRecDepth 65536 in
set_option maxHeartbeats 40000000 in
theorem own_lB1t {p : Program} {l : Launch} {e : Env} {s : State} {m : MethodId} {args : Array Value} {below : List Frame} {meth : Method} {c : Code} {T0 : State} {locs : List Loc} {Z : State} {a0 : Array Value} {h0 : Heap} {n0 : Nat} (xk : Int32) (xs : Int32) (xn : Int32) (xa : Int32) (xb : Int32) (xc : Int32) (k : Int32) (room : Int32) (count : Int32) (d0 : Int32) (d1 : Int32) (d2 : Int32) (d3 : Int32) (i0 : Int32) (i1 : Int32) (i2 : Int32) (i3 : Int32) (ao : Addr)
    (X0 : Stand p l e room_1 s m args below meth c T0 locs 3 16) (hx : p.tables.exec = Jvm.exec) (hZ : Z.Warmed39 s.vm) (hw : ∀ d ∈ tables_1, d.before a0 Z = true) (hby : c.code = code) (hml : c.maxLocals = 19) (hown : s.vm.findClass "com/example/triangulum/triangulum/search/ShortlistLimitPinLaw" = some m.cls) (e0 : T0.heap = h0) (N0 : Fr n0 locs) (Z0 : n0 ≤ h0.size) (hc119 : count < (1 : Int32)) :
    ∃ (T' : State) (h' : Heap) (locs' : List Loc), Stand p l e room_1 s m args below meth c T' locs' 3 16 ∧ T'.heap = h' ∧ Fr n0 locs' ∧ h' = h0 ∧
      ∀ target, Steps p.tables e below (T'.setTop (mkF m 169 #[.val (.int xk), .val (.int xs), .val (.int xn), .val (.int xa), .val (.int xb), .val (.int xc), .val (.int k), .val (.int room), .val (.int count), .val (.int d0), .val (.int d1), .val (.int d2), .val (.int d3), .val (.int i0), .val (.int i1), .val (.int i2), .val (.int i3), .val (.ref ao), .val (.int (1 : Int32))] [])) target → Steps p.tables e below (T0.setTop (mkF m 116 #[.val (.int xk), .val (.int xs), .val (.int xn), .val (.int xa), .val (.int xb), .val (.int xc), .val (.int k), .val (.int room), .val (.int count), .val (.int d0), .val (.int d1), .val (.int d2), .val (.int d3), .val (.int i0), .val (.int i1), .val (.int i2), .val (.int i3), .val (.ref ao), .val (.int (1 : Int32))] [])) target := by
  -- 3. LAWS

  refine ⟨T0, _, _, X0, e0, N0, rfl, fun target kt => ?_⟩
  -- 4. STEPS
  show Steps p.tables e below (T0.setTop (mkF m 116 #[.val (.int xk), .val (.int xs), .val (.int xn), .val (.int xa), .val (.int xb), .val (.int xc), .val (.int k), .val (.int room), .val (.int count), .val (.int d0), .val (.int d1), .val (.int d2), .val (.int d3), .val (.int i0), .val (.int i1), .val (.int i2), .val (.int i3), .val (.ref ao), .val (.int (1 : Int32))] [])) _
  refine XS.iload X0.here hx rfl (hb hby at_116) rfl ?_
  show Steps p.tables e below (T0.setTop (mkF m 118 #[.val (.int xk), .val (.int xs), .val (.int xn), .val (.int xa), .val (.int xb), .val (.int xc), .val (.int k), .val (.int room), .val (.int count), .val (.int d0), .val (.int d1), .val (.int d2), .val (.int d3), .val (.int i0), .val (.int i1), .val (.int i2), .val (.int i3), .val (.ref ao), .val (.int (1 : Int32))] [(.int count)])) _
  refine XS.iconst X0.here hx rfl (hb hby at_118) ?_
  show Steps p.tables e below (T0.setTop (mkF m 119 #[.val (.int xk), .val (.int xs), .val (.int xn), .val (.int xa), .val (.int xb), .val (.int xc), .val (.int k), .val (.int room), .val (.int count), .val (.int d0), .val (.int d1), .val (.int d2), .val (.int d3), .val (.int i0), .val (.int i1), .val (.int i2), .val (.int i3), .val (.ref ao), .val (.int (1 : Int32))] [(.int (1 : Int32)), (.int count)])) _
  refine XS.icmpYes X0.here hx rfl (pc0 := 119) (pc' := 169) rfl (hb hby at_119) rfl (tlt hc119).1 (by decide) (by decide) ?_
  exact kt
set_option maxRecDepth 65536 in
set_option maxHeartbeats 40000000 in
theorem own_lB1f {p : Program} {l : Launch} {e : Env} {s : State} {m : MethodId} {args : Array Value} {below : List Frame} {meth : Method} {c : Code} {T0 : State} {locs : List Loc} {Z : State} {a0 : Array Value} {h0 : Heap} {n0 : Nat} (xk : Int32) (xs : Int32) (xn : Int32) (xa : Int32) (xb : Int32) (xc : Int32) (k : Int32) (room : Int32) (count : Int32) (d0 : Int32) (d1 : Int32) (d2 : Int32) (d3 : Int32) (i0 : Int32) (i1 : Int32) (i2 : Int32) (i3 : Int32) (ao : Addr) (Q : Heap → Prop)
    (X0 : Stand p l e room_1 s m args below meth c T0 locs 3 16) (hx : p.tables.exec = Jvm.exec) (hZ : Z.Warmed39 s.vm) (hw : ∀ d ∈ tables_1, d.before a0 Z = true) (hby : c.code = code) (hml : c.maxLocals = 19) (hown : s.vm.findClass "com/example/triangulum/triangulum/search/ShortlistLimitPinLaw" = some m.cls) (e0 : T0.heap = h0) (N0 : Fr n0 locs) (Z0 : n0 ≤ h0.size) (hc119 : ¬ (count < (1 : Int32))) (E_ao : Exa Z h0 ao "com/example/triangulum/triangulum/search/Shortlist") (hM : MetFree l (⟨"com/example/triangulum/triangulum/search/Shortlist", "offer", "(ID)V"⟩ : MethodName) (head1 [Jvm.Cond.code (⟨"com/example/triangulum/triangulum/search/Shortlist", "offer", "(ID)V"⟩ : MethodName) prog_24_method_2_code 6 none] ({ frames := 5, cells := 2, slots := 12, locals := 160 } : Room)) (fun a U => a = #[(.ref ao), (.int i0), (.double (FP.i2d d0))] ∧ Z.Warmed39 U.vm ∧ U.heap = h0) (fun _ _ _ _ _ => True) (fun _ U o U' => ∃ v L, o = .returned v ∧ (v = none ∧ Fr n0 L ∧ Q U'.heap) ∧ FrameEnd U o U' L ({ frames := 5, cells := 2, slots := 12, locals := 160 } : Room).cells ({ frames := 5, cells := 2, slots := 12, locals := 160 } : Room).slots)) (hQ : ∀ h', Q h' → ∃ ad ai sz z XL IL, own_S Z n0 h' ao ad ai k sz z XL IL ∧ (¬ sz < k → (0 : Int32) < z) ∧ own_ok (own_lim k sz XL) (own_kth k (1 : Int32) d0 d1 d2 d3)) (hc134 : ¬ ((1 : Int32) = (0 : Int32))) (hc159 : ¬ ((1 : Int32) = (0 : Int32))) :
    ∃ (T' : State) (h' : Heap) (locs' : List Loc), Stand p l e room_1 s m args below meth c T' locs' 5 28 ∧ T'.heap = h' ∧ Fr n0 locs' ∧ Q h' ∧
      ∀ target, Steps p.tables e below (T'.setTop (mkF m 169 #[.val (.int xk), .val (.int xs), .val (.int xn), .val (.int xa), .val (.int xb), .val (.int xc), .val (.int k), .val (.int room), .val (.int count), .val (.int d0), .val (.int d1), .val (.int d2), .val (.int d3), .val (.int i0), .val (.int i1), .val (.int i2), .val (.int i3), .val (.ref ao), .val (.int (1 : Int32))] [])) target → Steps p.tables e below (T0.setTop (mkF m 116 #[.val (.int xk), .val (.int xs), .val (.int xn), .val (.int xa), .val (.int xb), .val (.int xc), .val (.int k), .val (.int room), .val (.int count), .val (.int d0), .val (.int d1), .val (.int d2), .val (.int d3), .val (.int i0), .val (.int i1), .val (.int i2), .val (.int i3), .val (.ref ao), .val (.int (1 : Int32))] [])) target := by
  -- 3. LAWS
  -- pc 129: com/example/triangulum/triangulum/search/Shortlist.offer
  obtain ⟨T7, h7, L7, X7, e7, N7, hq, st7⟩ := own_callV X0 hx hZ (n0 := n0) (Q := Q) hM hown (hw _ (List.mem_of_getElem? (i := 37) rfl)) (hw _ (List.mem_of_getElem? (i := 38) rfl)) (hw _ (List.mem_of_getElem? (i := 39) rfl)) (hw _ (List.mem_of_getElem? (i := 40) rfl)) (hw _ (List.mem_of_getElem? (i := 2) rfl)) (hw _ (List.mem_of_getElem? (i := 41) rfl)) (by decide) E_ao N0 (W := 0) (by decide) (by decide) e0 (g := (mkF m 129 #[.val (.int xk), .val (.int xs), .val (.int xn), .val (.int xa), .val (.int xb), .val (.int xc), .val (.int k), .val (.int room), .val (.int count), .val (.int d0), .val (.int d1), .val (.int d2), .val (.int d3), .val (.int i0), .val (.int i1), .val (.int i2), .val (.int i3), .val (.ref ao), .val (.int (1 : Int32))] [(.double (FP.i2d d0)), (.int i0), (.ref ao)])) rfl (by rw [hml]; rfl) (argsL := [(.int i0), (.double (FP.i2d d0))]) (rest := []) (lenOf pd_of rfl) rfl (by show 2 * 0 + _ ≤ _; exact Nat.le_of_eq rfl) (hb hby at_129) (by decide) (by decide)
  obtain ⟨adq, aiq, szq, zq, XLq, ILq, SSq, hzq, hagq⟩ := hQ _ hq
  -- pc 139: com/example/triangulum/triangulum/search/Shortlist.limit
  obtain ⟨T8, X8, e8, st8⟩ := own_limit X7 hx hZ hw hown (hw _ (List.mem_of_getElem? (i := 21) rfl)) SSq hzq (W := 0) (g := (mkF m 139 #[.val (.int xk), .val (.int xs), .val (.int xn), .val (.int xa), .val (.int xb), .val (.int xc), .val (.int k), .val (.int room), .val (.int count), .val (.int d0), .val (.int d1), .val (.int d2), .val (.int d3), .val (.int i0), .val (.int i1), .val (.int i2), .val (.int i3), .val (.ref ao), .val (.int (1 : Int32))] [(.ref ao)])) rfl (by rw [hml]; rfl) (rest := []) rfl (by show 2 * 0 + _ ≤ _; exact Nat.le_of_eq rfl) (hb hby at_139) (by decide) (by decide) e7
  -- pc 153: com/example/triangulum/triangulum/search/ShortlistLimitPinLaw.kth
  obtain ⟨T9, X9, e9, st9⟩ := own_call_kth X8 hx hZ hw hown (hw _ (List.mem_of_getElem? (i := 29) rfl)) k (1 : Int32) d0 d1 d2 d3 (W := 2) (g := (mkF m 153 #[.val (.int xk), .val (.int xs), .val (.int xn), .val (.int xa), .val (.int xb), .val (.int xc), .val (.int k), .val (.int room), .val (.int count), .val (.int d0), .val (.int d1), .val (.int d2), .val (.int d3), .val (.int i0), .val (.int i1), .val (.int i2), .val (.int i3), .val (.ref ao), .val (.int (1 : Int32))] [(.int d3), (.int d2), (.int d1), (.int d0), (.int (1 : Int32)), (.int k), (.double (own_lim k szq XLq))])) rfl (by rw [hml]; rfl) (rest := [(.double (own_lim k szq XLq))]) rfl (by show 2 * 0 + _ ≤ _; exact Nat.le_of_eq rfl) (hb hby at_153) (by decide) (by decide) e8
  -- pc 156: com/example/triangulum/triangulum/search/ShortlistLimitPinLaw.agrees
  obtain ⟨T10, X10, e10, st10⟩ := own_call_agr X9 hx hZ hw hown (hw _ (List.mem_of_getElem? (i := 33) rfl)) (own_lim k szq XLq) (own_kth k (1 : Int32) d0 d1 d2 d3) hagq (W := 0) (g := (mkF m 156 #[.val (.int xk), .val (.int xs), .val (.int xn), .val (.int xa), .val (.int xb), .val (.int xc), .val (.int k), .val (.int room), .val (.int count), .val (.int d0), .val (.int d1), .val (.int d2), .val (.int d3), .val (.int i0), .val (.int i1), .val (.int i2), .val (.int i3), .val (.ref ao), .val (.int (1 : Int32))] [(.int (own_kth k (1 : Int32) d0 d1 d2 d3)), (.double (own_lim k szq XLq))])) rfl (by rw [hml]; rfl) (rest := []) rfl (by show 2 * 0 + _ ≤ _; exact Nat.le_of_eq rfl) (hb hby at_156) (by decide) (by decide) e9
  refine ⟨T10, _, _, X10, e10, N7, hq, fun target kt => ?_⟩
  -- 4. STEPS
  show Steps p.tables e below (T0.setTop (mkF m 116 #[.val (.int xk), .val (.int xs), .val (.int xn), .val (.int xa), .val (.int xb), .val (.int xc), .val (.int k), .val (.int room), .val (.int count), .val (.int d0), .val (.int d1), .val (.int d2), .val (.int d3), .val (.int i0), .val (.int i1), .val (.int i2), .val (.int i3), .val (.ref ao), .val (.int (1 : Int32))] [])) _
  refine XS.iload X0.here hx rfl (hb hby at_116) rfl ?_
  show Steps p.tables e below (T0.setTop (mkF m 118 #[.val (.int xk), .val (.int xs), .val (.int xn), .val (.int xa), .val (.int xb), .val (.int xc), .val (.int k), .val (.int room), .val (.int count), .val (.int d0), .val (.int d1), .val (.int d2), .val (.int d3), .val (.int i0), .val (.int i1), .val (.int i2), .val (.int i3), .val (.ref ao), .val (.int (1 : Int32))] [(.int count)])) _
  refine XS.iconst X0.here hx rfl (hb hby at_118) ?_
  show Steps p.tables e below (T0.setTop (mkF m 119 #[.val (.int xk), .val (.int xs), .val (.int xn), .val (.int xa), .val (.int xb), .val (.int xc), .val (.int k), .val (.int room), .val (.int count), .val (.int d0), .val (.int d1), .val (.int d2), .val (.int d3), .val (.int i0), .val (.int i1), .val (.int i2), .val (.int i3), .val (.ref ao), .val (.int (1 : Int32))] [(.int (1 : Int32)), (.int count)])) _
  refine XS.icmpNo X0.here hx rfl (hb hby at_119) rfl (flt hc119).1 ?_
  show Steps p.tables e below (T0.setTop (mkF m 122 #[.val (.int xk), .val (.int xs), .val (.int xn), .val (.int xa), .val (.int xb), .val (.int xc), .val (.int k), .val (.int room), .val (.int count), .val (.int d0), .val (.int d1), .val (.int d2), .val (.int d3), .val (.int i0), .val (.int i1), .val (.int i2), .val (.int i3), .val (.ref ao), .val (.int (1 : Int32))] [])) _
  refine XS.aload X0.here hx rfl (hb hby at_122) rfl rfl ?_
  show Steps p.tables e below (T0.setTop (mkF m 124 #[.val (.int xk), .val (.int xs), .val (.int xn), .val (.int xa), .val (.int xb), .val (.int xc), .val (.int k), .val (.int room), .val (.int count), .val (.int d0), .val (.int d1), .val (.int d2), .val (.int d3), .val (.int i0), .val (.int i1), .val (.int i2), .val (.int i3), .val (.ref ao), .val (.int (1 : Int32))] [(.ref ao)])) _
  refine XS.iload X0.here hx rfl (hb hby at_124) rfl ?_
  show Steps p.tables e below (T0.setTop (mkF m 126 #[.val (.int xk), .val (.int xs), .val (.int xn), .val (.int xa), .val (.int xb), .val (.int xc), .val (.int k), .val (.int room), .val (.int count), .val (.int d0), .val (.int d1), .val (.int d2), .val (.int d3), .val (.int i0), .val (.int i1), .val (.int i2), .val (.int i3), .val (.ref ao), .val (.int (1 : Int32))] [(.int i0), (.ref ao)])) _
  refine XS.iload X0.here hx rfl (hb hby at_126) rfl ?_
  show Steps p.tables e below (T0.setTop (mkF m 128 #[.val (.int xk), .val (.int xs), .val (.int xn), .val (.int xa), .val (.int xb), .val (.int xc), .val (.int k), .val (.int room), .val (.int count), .val (.int d0), .val (.int d1), .val (.int d2), .val (.int d3), .val (.int i0), .val (.int i1), .val (.int i2), .val (.int i3), .val (.ref ao), .val (.int (1 : Int32))] [(.int d0), (.int i0), (.ref ao)])) _
  refine XS.i2dS X0.here hx rfl (hb hby at_128) rfl rfl ?_
  show Steps p.tables e below (T0.setTop (mkF m 129 #[.val (.int xk), .val (.int xs), .val (.int xn), .val (.int xa), .val (.int xb), .val (.int xc), .val (.int k), .val (.int room), .val (.int count), .val (.int d0), .val (.int d1), .val (.int d2), .val (.int d3), .val (.int i0), .val (.int i1), .val (.int i2), .val (.int i3), .val (.ref ao), .val (.int (1 : Int32))] [(.double (FP.i2d d0)), (.int i0), (.ref ao)])) _
  refine st7 _ ?_
  show Steps p.tables e below (T7.setTop (mkF m 132 #[.val (.int xk), .val (.int xs), .val (.int xn), .val (.int xa), .val (.int xb), .val (.int xc), .val (.int k), .val (.int room), .val (.int count), .val (.int d0), .val (.int d1), .val (.int d2), .val (.int d3), .val (.int i0), .val (.int i1), .val (.int i2), .val (.int i3), .val (.ref ao), .val (.int (1 : Int32))] [])) _
  refine XS.iload X7.here hx rfl (hb hby at_132) rfl ?_
  show Steps p.tables e below (T7.setTop (mkF m 134 #[.val (.int xk), .val (.int xs), .val (.int xn), .val (.int xa), .val (.int xb), .val (.int xc), .val (.int k), .val (.int room), .val (.int count), .val (.int d0), .val (.int d1), .val (.int d2), .val (.int d3), .val (.int i0), .val (.int i1), .val (.int i2), .val (.int i3), .val (.ref ao), .val (.int (1 : Int32))] [(.int (1 : Int32))])) _
  refine XS.ifNo X7.here hx rfl (hb hby at_134) rfl ((if0 _ _).trans (feq hc134).1) ?_
  show Steps p.tables e below (T7.setTop (mkF m 137 #[.val (.int xk), .val (.int xs), .val (.int xn), .val (.int xa), .val (.int xb), .val (.int xc), .val (.int k), .val (.int room), .val (.int count), .val (.int d0), .val (.int d1), .val (.int d2), .val (.int d3), .val (.int i0), .val (.int i1), .val (.int i2), .val (.int i3), .val (.ref ao), .val (.int (1 : Int32))] [])) _
  refine XS.aload X7.here hx rfl (hb hby at_137) rfl rfl ?_
  show Steps p.tables e below (T7.setTop (mkF m 139 #[.val (.int xk), .val (.int xs), .val (.int xn), .val (.int xa), .val (.int xb), .val (.int xc), .val (.int k), .val (.int room), .val (.int count), .val (.int d0), .val (.int d1), .val (.int d2), .val (.int d3), .val (.int i0), .val (.int i1), .val (.int i2), .val (.int i3), .val (.ref ao), .val (.int (1 : Int32))] [(.ref ao)])) _
  refine st8 _ ?_
  show Steps p.tables e below (T8.setTop (mkF m 142 #[.val (.int xk), .val (.int xs), .val (.int xn), .val (.int xa), .val (.int xb), .val (.int xc), .val (.int k), .val (.int room), .val (.int count), .val (.int d0), .val (.int d1), .val (.int d2), .val (.int d3), .val (.int i0), .val (.int i1), .val (.int i2), .val (.int i3), .val (.ref ao), .val (.int (1 : Int32))] [(.double (own_lim k szq XLq))])) _
  refine XS.iload X8.here hx rfl (hb hby at_142) rfl ?_
  show Steps p.tables e below (T8.setTop (mkF m 144 #[.val (.int xk), .val (.int xs), .val (.int xn), .val (.int xa), .val (.int xb), .val (.int xc), .val (.int k), .val (.int room), .val (.int count), .val (.int d0), .val (.int d1), .val (.int d2), .val (.int d3), .val (.int i0), .val (.int i1), .val (.int i2), .val (.int i3), .val (.ref ao), .val (.int (1 : Int32))] [(.int k), (.double (own_lim k szq XLq))])) _
  refine XS.iconst X8.here hx rfl (hb hby at_144) ?_
  show Steps p.tables e below (T8.setTop (mkF m 145 #[.val (.int xk), .val (.int xs), .val (.int xn), .val (.int xa), .val (.int xb), .val (.int xc), .val (.int k), .val (.int room), .val (.int count), .val (.int d0), .val (.int d1), .val (.int d2), .val (.int d3), .val (.int i0), .val (.int i1), .val (.int i2), .val (.int i3), .val (.ref ao), .val (.int (1 : Int32))] [(.int (1 : Int32)), (.int k), (.double (own_lim k szq XLq))])) _
  refine XS.iload X8.here hx rfl (hb hby at_145) rfl ?_
  show Steps p.tables e below (T8.setTop (mkF m 147 #[.val (.int xk), .val (.int xs), .val (.int xn), .val (.int xa), .val (.int xb), .val (.int xc), .val (.int k), .val (.int room), .val (.int count), .val (.int d0), .val (.int d1), .val (.int d2), .val (.int d3), .val (.int i0), .val (.int i1), .val (.int i2), .val (.int i3), .val (.ref ao), .val (.int (1 : Int32))] [(.int d0), (.int (1 : Int32)), (.int k), (.double (own_lim k szq XLq))])) _
  refine XS.iload X8.here hx rfl (hb hby at_147) rfl ?_
  show Steps p.tables e below (T8.setTop (mkF m 149 #[.val (.int xk), .val (.int xs), .val (.int xn), .val (.int xa), .val (.int xb), .val (.int xc), .val (.int k), .val (.int room), .val (.int count), .val (.int d0), .val (.int d1), .val (.int d2), .val (.int d3), .val (.int i0), .val (.int i1), .val (.int i2), .val (.int i3), .val (.ref ao), .val (.int (1 : Int32))] [(.int d1), (.int d0), (.int (1 : Int32)), (.int k), (.double (own_lim k szq XLq))])) _
  refine XS.iload X8.here hx rfl (hb hby at_149) rfl ?_
  show Steps p.tables e below (T8.setTop (mkF m 151 #[.val (.int xk), .val (.int xs), .val (.int xn), .val (.int xa), .val (.int xb), .val (.int xc), .val (.int k), .val (.int room), .val (.int count), .val (.int d0), .val (.int d1), .val (.int d2), .val (.int d3), .val (.int i0), .val (.int i1), .val (.int i2), .val (.int i3), .val (.ref ao), .val (.int (1 : Int32))] [(.int d2), (.int d1), (.int d0), (.int (1 : Int32)), (.int k), (.double (own_lim k szq XLq))])) _
  refine XS.iload X8.here hx rfl (hb hby at_151) rfl ?_
  show Steps p.tables e below (T8.setTop (mkF m 153 #[.val (.int xk), .val (.int xs), .val (.int xn), .val (.int xa), .val (.int xb), .val (.int xc), .val (.int k), .val (.int room), .val (.int count), .val (.int d0), .val (.int d1), .val (.int d2), .val (.int d3), .val (.int i0), .val (.int i1), .val (.int i2), .val (.int i3), .val (.ref ao), .val (.int (1 : Int32))] [(.int d3), (.int d2), (.int d1), (.int d0), (.int (1 : Int32)), (.int k), (.double (own_lim k szq XLq))])) _
  refine st9 _ ?_
  show Steps p.tables e below (T9.setTop (mkF m 156 #[.val (.int xk), .val (.int xs), .val (.int xn), .val (.int xa), .val (.int xb), .val (.int xc), .val (.int k), .val (.int room), .val (.int count), .val (.int d0), .val (.int d1), .val (.int d2), .val (.int d3), .val (.int i0), .val (.int i1), .val (.int i2), .val (.int i3), .val (.ref ao), .val (.int (1 : Int32))] [(.int (own_kth k (1 : Int32) d0 d1 d2 d3)), (.double (own_lim k szq XLq))])) _
  refine st10 _ ?_
  show Steps p.tables e below (T10.setTop (mkF m 159 #[.val (.int xk), .val (.int xs), .val (.int xn), .val (.int xa), .val (.int xb), .val (.int xc), .val (.int k), .val (.int room), .val (.int count), .val (.int d0), .val (.int d1), .val (.int d2), .val (.int d3), .val (.int i0), .val (.int i1), .val (.int i2), .val (.int i3), .val (.ref ao), .val (.int (1 : Int32))] [(.int (1 : Int32))])) _
  refine XS.ifNo X10.here hx rfl (hb hby at_159) rfl ((if0 _ _).trans (feq hc159).1) ?_
  show Steps p.tables e below (T10.setTop (mkF m 162 #[.val (.int xk), .val (.int xs), .val (.int xn), .val (.int xa), .val (.int xb), .val (.int xc), .val (.int k), .val (.int room), .val (.int count), .val (.int d0), .val (.int d1), .val (.int d2), .val (.int d3), .val (.int i0), .val (.int i1), .val (.int i2), .val (.int i3), .val (.ref ao), .val (.int (1 : Int32))] [])) _
  refine XS.iconst X10.here hx rfl (hb hby at_162) ?_
  show Steps p.tables e below (T10.setTop (mkF m 163 #[.val (.int xk), .val (.int xs), .val (.int xn), .val (.int xa), .val (.int xb), .val (.int xc), .val (.int k), .val (.int room), .val (.int count), .val (.int d0), .val (.int d1), .val (.int d2), .val (.int d3), .val (.int i0), .val (.int i1), .val (.int i2), .val (.int i3), .val (.ref ao), .val (.int (1 : Int32))] [(.int (1 : Int32))])) _
  refine XS.goto X10.here hx rfl (pc0 := 163) (pc' := 167) rfl (hb hby at_163) (by decide) (by decide) ?_
  show Steps p.tables e below (T10.setTop (mkF m 167 #[.val (.int xk), .val (.int xs), .val (.int xn), .val (.int xa), .val (.int xb), .val (.int xc), .val (.int k), .val (.int room), .val (.int count), .val (.int d0), .val (.int d1), .val (.int d2), .val (.int d3), .val (.int i0), .val (.int i1), .val (.int i2), .val (.int i3), .val (.ref ao), .val (.int (1 : Int32))] [(.int (1 : Int32))])) _
  refine XS.istore X10.here hx rfl (hb hby at_167) rfl (l' := #[.val (.int xk), .val (.int xs), .val (.int xn), .val (.int xa), .val (.int xb), .val (.int xc), .val (.int k), .val (.int room), .val (.int count), .val (.int d0), .val (.int d1), .val (.int d2), .val (.int d3), .val (.int i0), .val (.int i1), .val (.int i2), .val (.int i3), .val (.ref ao), .val (.int (1 : Int32))]) rfl ?_
  exact kt
set_option maxRecDepth 65536 in
set_option maxHeartbeats 40000000 in
theorem own_lB2t {p : Program} {l : Launch} {e : Env} {s : State} {m : MethodId} {args : Array Value} {below : List Frame} {meth : Method} {c : Code} {T0 : State} {locs : List Loc} {Z : State} {a0 : Array Value} {h0 : Heap} {n0 : Nat} (xk : Int32) (xs : Int32) (xn : Int32) (xa : Int32) (xb : Int32) (xc : Int32) (k : Int32) (room : Int32) (count : Int32) (d0 : Int32) (d1 : Int32) (d2 : Int32) (d3 : Int32) (i0 : Int32) (i1 : Int32) (i2 : Int32) (i3 : Int32) (ao : Addr)
    (X0 : Stand p l e room_1 s m args below meth c T0 locs 5 28) (hx : p.tables.exec = Jvm.exec) (hZ : Z.Warmed39 s.vm) (hw : ∀ d ∈ tables_1, d.before a0 Z = true) (hby : c.code = code) (hml : c.maxLocals = 19) (hown : s.vm.findClass "com/example/triangulum/triangulum/search/ShortlistLimitPinLaw" = some m.cls) (e0 : T0.heap = h0) (N0 : Fr n0 locs) (Z0 : n0 ≤ h0.size) (hc172 : count < (2 : Int32)) :
    ∃ (T' : State) (h' : Heap) (locs' : List Loc), Stand p l e room_1 s m args below meth c T' locs' 5 28 ∧ T'.heap = h' ∧ Fr n0 locs' ∧ h' = h0 ∧
      ∀ target, Steps p.tables e below (T'.setTop (mkF m 222 #[.val (.int xk), .val (.int xs), .val (.int xn), .val (.int xa), .val (.int xb), .val (.int xc), .val (.int k), .val (.int room), .val (.int count), .val (.int d0), .val (.int d1), .val (.int d2), .val (.int d3), .val (.int i0), .val (.int i1), .val (.int i2), .val (.int i3), .val (.ref ao), .val (.int (1 : Int32))] [])) target → Steps p.tables e below (T0.setTop (mkF m 169 #[.val (.int xk), .val (.int xs), .val (.int xn), .val (.int xa), .val (.int xb), .val (.int xc), .val (.int k), .val (.int room), .val (.int count), .val (.int d0), .val (.int d1), .val (.int d2), .val (.int d3), .val (.int i0), .val (.int i1), .val (.int i2), .val (.int i3), .val (.ref ao), .val (.int (1 : Int32))] [])) target := by
  -- 3. LAWS

  refine ⟨T0, _, _, X0, e0, N0, rfl, fun target kt => ?_⟩
  -- 4. STEPS
  show Steps p.tables e below (T0.setTop (mkF m 169 #[.val (.int xk), .val (.int xs), .val (.int xn), .val (.int xa), .val (.int xb), .val (.int xc), .val (.int k), .val (.int room), .val (.int count), .val (.int d0), .val (.int d1), .val (.int d2), .val (.int d3), .val (.int i0), .val (.int i1), .val (.int i2), .val (.int i3), .val (.ref ao), .val (.int (1 : Int32))] [])) _
  refine XS.iload X0.here hx rfl (hb hby at_169) rfl ?_
  show Steps p.tables e below (T0.setTop (mkF m 171 #[.val (.int xk), .val (.int xs), .val (.int xn), .val (.int xa), .val (.int xb), .val (.int xc), .val (.int k), .val (.int room), .val (.int count), .val (.int d0), .val (.int d1), .val (.int d2), .val (.int d3), .val (.int i0), .val (.int i1), .val (.int i2), .val (.int i3), .val (.ref ao), .val (.int (1 : Int32))] [(.int count)])) _
  refine XS.iconst X0.here hx rfl (hb hby at_171) ?_
  show Steps p.tables e below (T0.setTop (mkF m 172 #[.val (.int xk), .val (.int xs), .val (.int xn), .val (.int xa), .val (.int xb), .val (.int xc), .val (.int k), .val (.int room), .val (.int count), .val (.int d0), .val (.int d1), .val (.int d2), .val (.int d3), .val (.int i0), .val (.int i1), .val (.int i2), .val (.int i3), .val (.ref ao), .val (.int (1 : Int32))] [(.int (2 : Int32)), (.int count)])) _
  refine XS.icmpYes X0.here hx rfl (pc0 := 172) (pc' := 222) rfl (hb hby at_172) rfl (tlt hc172).1 (by decide) (by decide) ?_
  exact kt
set_option maxRecDepth 65536 in
set_option maxHeartbeats 40000000 in
theorem own_lB2f {p : Program} {l : Launch} {e : Env} {s : State} {m : MethodId} {args : Array Value} {below : List Frame} {meth : Method} {c : Code} {T0 : State} {locs : List Loc} {Z : State} {a0 : Array Value} {h0 : Heap} {n0 : Nat} (xk : Int32) (xs : Int32) (xn : Int32) (xa : Int32) (xb : Int32) (xc : Int32) (k : Int32) (room : Int32) (count : Int32) (d0 : Int32) (d1 : Int32) (d2 : Int32) (d3 : Int32) (i0 : Int32) (i1 : Int32) (i2 : Int32) (i3 : Int32) (ao : Addr) (Q : Heap → Prop)
    (X0 : Stand p l e room_1 s m args below meth c T0 locs 5 28) (hx : p.tables.exec = Jvm.exec) (hZ : Z.Warmed39 s.vm) (hw : ∀ d ∈ tables_1, d.before a0 Z = true) (hby : c.code = code) (hml : c.maxLocals = 19) (hown : s.vm.findClass "com/example/triangulum/triangulum/search/ShortlistLimitPinLaw" = some m.cls) (e0 : T0.heap = h0) (N0 : Fr n0 locs) (Z0 : n0 ≤ h0.size) (hc172 : ¬ (count < (2 : Int32))) (E_ao : Exa Z h0 ao "com/example/triangulum/triangulum/search/Shortlist") (hM : MetFree l (⟨"com/example/triangulum/triangulum/search/Shortlist", "offer", "(ID)V"⟩ : MethodName) (head1 [Jvm.Cond.code (⟨"com/example/triangulum/triangulum/search/Shortlist", "offer", "(ID)V"⟩ : MethodName) prog_24_method_2_code 6 none] ({ frames := 5, cells := 2, slots := 12, locals := 160 } : Room)) (fun a U => a = #[(.ref ao), (.int i1), (.double (FP.i2d d1))] ∧ Z.Warmed39 U.vm ∧ U.heap = h0) (fun _ _ _ _ _ => True) (fun _ U o U' => ∃ v L, o = .returned v ∧ (v = none ∧ Fr n0 L ∧ Q U'.heap) ∧ FrameEnd U o U' L ({ frames := 5, cells := 2, slots := 12, locals := 160 } : Room).cells ({ frames := 5, cells := 2, slots := 12, locals := 160 } : Room).slots)) (hQ : ∀ h', Q h' → ∃ ad ai sz z XL IL, own_S Z n0 h' ao ad ai k sz z XL IL ∧ (¬ sz < k → (0 : Int32) < z) ∧ own_ok (own_lim k sz XL) (own_kth k (2 : Int32) d0 d1 d2 d3)) (hc187 : ¬ ((1 : Int32) = (0 : Int32))) (hc212 : ¬ ((1 : Int32) = (0 : Int32))) :
    ∃ (T' : State) (h' : Heap) (locs' : List Loc), Stand p l e room_1 s m args below meth c T' locs' 7 40 ∧ T'.heap = h' ∧ Fr n0 locs' ∧ Q h' ∧
      ∀ target, Steps p.tables e below (T'.setTop (mkF m 222 #[.val (.int xk), .val (.int xs), .val (.int xn), .val (.int xa), .val (.int xb), .val (.int xc), .val (.int k), .val (.int room), .val (.int count), .val (.int d0), .val (.int d1), .val (.int d2), .val (.int d3), .val (.int i0), .val (.int i1), .val (.int i2), .val (.int i3), .val (.ref ao), .val (.int (1 : Int32))] [])) target → Steps p.tables e below (T0.setTop (mkF m 169 #[.val (.int xk), .val (.int xs), .val (.int xn), .val (.int xa), .val (.int xb), .val (.int xc), .val (.int k), .val (.int room), .val (.int count), .val (.int d0), .val (.int d1), .val (.int d2), .val (.int d3), .val (.int i0), .val (.int i1), .val (.int i2), .val (.int i3), .val (.ref ao), .val (.int (1 : Int32))] [])) target := by
  -- 3. LAWS
  -- pc 182: com/example/triangulum/triangulum/search/Shortlist.offer
  obtain ⟨T7, h7, L7, X7, e7, N7, hq, st7⟩ := own_callV X0 hx hZ (n0 := n0) (Q := Q) hM hown (hw _ (List.mem_of_getElem? (i := 37) rfl)) (hw _ (List.mem_of_getElem? (i := 38) rfl)) (hw _ (List.mem_of_getElem? (i := 39) rfl)) (hw _ (List.mem_of_getElem? (i := 40) rfl)) (hw _ (List.mem_of_getElem? (i := 2) rfl)) (hw _ (List.mem_of_getElem? (i := 41) rfl)) (by decide) E_ao N0 (W := 0) (by decide) (by decide) e0 (g := (mkF m 182 #[.val (.int xk), .val (.int xs), .val (.int xn), .val (.int xa), .val (.int xb), .val (.int xc), .val (.int k), .val (.int room), .val (.int count), .val (.int d0), .val (.int d1), .val (.int d2), .val (.int d3), .val (.int i0), .val (.int i1), .val (.int i2), .val (.int i3), .val (.ref ao), .val (.int (1 : Int32))] [(.double (FP.i2d d1)), (.int i1), (.ref ao)])) rfl (by rw [hml]; rfl) (argsL := [(.int i1), (.double (FP.i2d d1))]) (rest := []) (lenOf pd_of rfl) rfl (by show 2 * 0 + _ ≤ _; exact Nat.le_of_eq rfl) (hb hby at_182) (by decide) (by decide)
  obtain ⟨adq, aiq, szq, zq, XLq, ILq, SSq, hzq, hagq⟩ := hQ _ hq
  -- pc 192: com/example/triangulum/triangulum/search/Shortlist.limit
  obtain ⟨T8, X8, e8, st8⟩ := own_limit X7 hx hZ hw hown (hw _ (List.mem_of_getElem? (i := 21) rfl)) SSq hzq (W := 0) (g := (mkF m 192 #[.val (.int xk), .val (.int xs), .val (.int xn), .val (.int xa), .val (.int xb), .val (.int xc), .val (.int k), .val (.int room), .val (.int count), .val (.int d0), .val (.int d1), .val (.int d2), .val (.int d3), .val (.int i0), .val (.int i1), .val (.int i2), .val (.int i3), .val (.ref ao), .val (.int (1 : Int32))] [(.ref ao)])) rfl (by rw [hml]; rfl) (rest := []) rfl (by show 2 * 0 + _ ≤ _; exact Nat.le_of_eq rfl) (hb hby at_192) (by decide) (by decide) e7
  -- pc 206: com/example/triangulum/triangulum/search/ShortlistLimitPinLaw.kth
  obtain ⟨T9, X9, e9, st9⟩ := own_call_kth X8 hx hZ hw hown (hw _ (List.mem_of_getElem? (i := 29) rfl)) k (2 : Int32) d0 d1 d2 d3 (W := 2) (g := (mkF m 206 #[.val (.int xk), .val (.int xs), .val (.int xn), .val (.int xa), .val (.int xb), .val (.int xc), .val (.int k), .val (.int room), .val (.int count), .val (.int d0), .val (.int d1), .val (.int d2), .val (.int d3), .val (.int i0), .val (.int i1), .val (.int i2), .val (.int i3), .val (.ref ao), .val (.int (1 : Int32))] [(.int d3), (.int d2), (.int d1), (.int d0), (.int (2 : Int32)), (.int k), (.double (own_lim k szq XLq))])) rfl (by rw [hml]; rfl) (rest := [(.double (own_lim k szq XLq))]) rfl (by show 2 * 0 + _ ≤ _; exact Nat.le_of_eq rfl) (hb hby at_206) (by decide) (by decide) e8
  -- pc 209: com/example/triangulum/triangulum/search/ShortlistLimitPinLaw.agrees
  obtain ⟨T10, X10, e10, st10⟩ := own_call_agr X9 hx hZ hw hown (hw _ (List.mem_of_getElem? (i := 33) rfl)) (own_lim k szq XLq) (own_kth k (2 : Int32) d0 d1 d2 d3) hagq (W := 0) (g := (mkF m 209 #[.val (.int xk), .val (.int xs), .val (.int xn), .val (.int xa), .val (.int xb), .val (.int xc), .val (.int k), .val (.int room), .val (.int count), .val (.int d0), .val (.int d1), .val (.int d2), .val (.int d3), .val (.int i0), .val (.int i1), .val (.int i2), .val (.int i3), .val (.ref ao), .val (.int (1 : Int32))] [(.int (own_kth k (2 : Int32) d0 d1 d2 d3)), (.double (own_lim k szq XLq))])) rfl (by rw [hml]; rfl) (rest := []) rfl (by show 2 * 0 + _ ≤ _; exact Nat.le_of_eq rfl) (hb hby at_209) (by decide) (by decide) e9
  refine ⟨T10, _, _, X10, e10, N7, hq, fun target kt => ?_⟩
  -- 4. STEPS
  show Steps p.tables e below (T0.setTop (mkF m 169 #[.val (.int xk), .val (.int xs), .val (.int xn), .val (.int xa), .val (.int xb), .val (.int xc), .val (.int k), .val (.int room), .val (.int count), .val (.int d0), .val (.int d1), .val (.int d2), .val (.int d3), .val (.int i0), .val (.int i1), .val (.int i2), .val (.int i3), .val (.ref ao), .val (.int (1 : Int32))] [])) _
  refine XS.iload X0.here hx rfl (hb hby at_169) rfl ?_
  show Steps p.tables e below (T0.setTop (mkF m 171 #[.val (.int xk), .val (.int xs), .val (.int xn), .val (.int xa), .val (.int xb), .val (.int xc), .val (.int k), .val (.int room), .val (.int count), .val (.int d0), .val (.int d1), .val (.int d2), .val (.int d3), .val (.int i0), .val (.int i1), .val (.int i2), .val (.int i3), .val (.ref ao), .val (.int (1 : Int32))] [(.int count)])) _
  refine XS.iconst X0.here hx rfl (hb hby at_171) ?_
  show Steps p.tables e below (T0.setTop (mkF m 172 #[.val (.int xk), .val (.int xs), .val (.int xn), .val (.int xa), .val (.int xb), .val (.int xc), .val (.int k), .val (.int room), .val (.int count), .val (.int d0), .val (.int d1), .val (.int d2), .val (.int d3), .val (.int i0), .val (.int i1), .val (.int i2), .val (.int i3), .val (.ref ao), .val (.int (1 : Int32))] [(.int (2 : Int32)), (.int count)])) _
  refine XS.icmpNo X0.here hx rfl (hb hby at_172) rfl (flt hc172).1 ?_
  show Steps p.tables e below (T0.setTop (mkF m 175 #[.val (.int xk), .val (.int xs), .val (.int xn), .val (.int xa), .val (.int xb), .val (.int xc), .val (.int k), .val (.int room), .val (.int count), .val (.int d0), .val (.int d1), .val (.int d2), .val (.int d3), .val (.int i0), .val (.int i1), .val (.int i2), .val (.int i3), .val (.ref ao), .val (.int (1 : Int32))] [])) _
  refine XS.aload X0.here hx rfl (hb hby at_175) rfl rfl ?_
  show Steps p.tables e below (T0.setTop (mkF m 177 #[.val (.int xk), .val (.int xs), .val (.int xn), .val (.int xa), .val (.int xb), .val (.int xc), .val (.int k), .val (.int room), .val (.int count), .val (.int d0), .val (.int d1), .val (.int d2), .val (.int d3), .val (.int i0), .val (.int i1), .val (.int i2), .val (.int i3), .val (.ref ao), .val (.int (1 : Int32))] [(.ref ao)])) _
  refine XS.iload X0.here hx rfl (hb hby at_177) rfl ?_
  show Steps p.tables e below (T0.setTop (mkF m 179 #[.val (.int xk), .val (.int xs), .val (.int xn), .val (.int xa), .val (.int xb), .val (.int xc), .val (.int k), .val (.int room), .val (.int count), .val (.int d0), .val (.int d1), .val (.int d2), .val (.int d3), .val (.int i0), .val (.int i1), .val (.int i2), .val (.int i3), .val (.ref ao), .val (.int (1 : Int32))] [(.int i1), (.ref ao)])) _
  refine XS.iload X0.here hx rfl (hb hby at_179) rfl ?_
  show Steps p.tables e below (T0.setTop (mkF m 181 #[.val (.int xk), .val (.int xs), .val (.int xn), .val (.int xa), .val (.int xb), .val (.int xc), .val (.int k), .val (.int room), .val (.int count), .val (.int d0), .val (.int d1), .val (.int d2), .val (.int d3), .val (.int i0), .val (.int i1), .val (.int i2), .val (.int i3), .val (.ref ao), .val (.int (1 : Int32))] [(.int d1), (.int i1), (.ref ao)])) _
  refine XS.i2dS X0.here hx rfl (hb hby at_181) rfl rfl ?_
  show Steps p.tables e below (T0.setTop (mkF m 182 #[.val (.int xk), .val (.int xs), .val (.int xn), .val (.int xa), .val (.int xb), .val (.int xc), .val (.int k), .val (.int room), .val (.int count), .val (.int d0), .val (.int d1), .val (.int d2), .val (.int d3), .val (.int i0), .val (.int i1), .val (.int i2), .val (.int i3), .val (.ref ao), .val (.int (1 : Int32))] [(.double (FP.i2d d1)), (.int i1), (.ref ao)])) _
  refine st7 _ ?_
  show Steps p.tables e below (T7.setTop (mkF m 185 #[.val (.int xk), .val (.int xs), .val (.int xn), .val (.int xa), .val (.int xb), .val (.int xc), .val (.int k), .val (.int room), .val (.int count), .val (.int d0), .val (.int d1), .val (.int d2), .val (.int d3), .val (.int i0), .val (.int i1), .val (.int i2), .val (.int i3), .val (.ref ao), .val (.int (1 : Int32))] [])) _
  refine XS.iload X7.here hx rfl (hb hby at_185) rfl ?_
  show Steps p.tables e below (T7.setTop (mkF m 187 #[.val (.int xk), .val (.int xs), .val (.int xn), .val (.int xa), .val (.int xb), .val (.int xc), .val (.int k), .val (.int room), .val (.int count), .val (.int d0), .val (.int d1), .val (.int d2), .val (.int d3), .val (.int i0), .val (.int i1), .val (.int i2), .val (.int i3), .val (.ref ao), .val (.int (1 : Int32))] [(.int (1 : Int32))])) _
  refine XS.ifNo X7.here hx rfl (hb hby at_187) rfl ((if0 _ _).trans (feq hc187).1) ?_
  show Steps p.tables e below (T7.setTop (mkF m 190 #[.val (.int xk), .val (.int xs), .val (.int xn), .val (.int xa), .val (.int xb), .val (.int xc), .val (.int k), .val (.int room), .val (.int count), .val (.int d0), .val (.int d1), .val (.int d2), .val (.int d3), .val (.int i0), .val (.int i1), .val (.int i2), .val (.int i3), .val (.ref ao), .val (.int (1 : Int32))] [])) _
  refine XS.aload X7.here hx rfl (hb hby at_190) rfl rfl ?_
  show Steps p.tables e below (T7.setTop (mkF m 192 #[.val (.int xk), .val (.int xs), .val (.int xn), .val (.int xa), .val (.int xb), .val (.int xc), .val (.int k), .val (.int room), .val (.int count), .val (.int d0), .val (.int d1), .val (.int d2), .val (.int d3), .val (.int i0), .val (.int i1), .val (.int i2), .val (.int i3), .val (.ref ao), .val (.int (1 : Int32))] [(.ref ao)])) _
  refine st8 _ ?_
  show Steps p.tables e below (T8.setTop (mkF m 195 #[.val (.int xk), .val (.int xs), .val (.int xn), .val (.int xa), .val (.int xb), .val (.int xc), .val (.int k), .val (.int room), .val (.int count), .val (.int d0), .val (.int d1), .val (.int d2), .val (.int d3), .val (.int i0), .val (.int i1), .val (.int i2), .val (.int i3), .val (.ref ao), .val (.int (1 : Int32))] [(.double (own_lim k szq XLq))])) _
  refine XS.iload X8.here hx rfl (hb hby at_195) rfl ?_
  show Steps p.tables e below (T8.setTop (mkF m 197 #[.val (.int xk), .val (.int xs), .val (.int xn), .val (.int xa), .val (.int xb), .val (.int xc), .val (.int k), .val (.int room), .val (.int count), .val (.int d0), .val (.int d1), .val (.int d2), .val (.int d3), .val (.int i0), .val (.int i1), .val (.int i2), .val (.int i3), .val (.ref ao), .val (.int (1 : Int32))] [(.int k), (.double (own_lim k szq XLq))])) _
  refine XS.iconst X8.here hx rfl (hb hby at_197) ?_
  show Steps p.tables e below (T8.setTop (mkF m 198 #[.val (.int xk), .val (.int xs), .val (.int xn), .val (.int xa), .val (.int xb), .val (.int xc), .val (.int k), .val (.int room), .val (.int count), .val (.int d0), .val (.int d1), .val (.int d2), .val (.int d3), .val (.int i0), .val (.int i1), .val (.int i2), .val (.int i3), .val (.ref ao), .val (.int (1 : Int32))] [(.int (2 : Int32)), (.int k), (.double (own_lim k szq XLq))])) _
  refine XS.iload X8.here hx rfl (hb hby at_198) rfl ?_
  show Steps p.tables e below (T8.setTop (mkF m 200 #[.val (.int xk), .val (.int xs), .val (.int xn), .val (.int xa), .val (.int xb), .val (.int xc), .val (.int k), .val (.int room), .val (.int count), .val (.int d0), .val (.int d1), .val (.int d2), .val (.int d3), .val (.int i0), .val (.int i1), .val (.int i2), .val (.int i3), .val (.ref ao), .val (.int (1 : Int32))] [(.int d0), (.int (2 : Int32)), (.int k), (.double (own_lim k szq XLq))])) _
  refine XS.iload X8.here hx rfl (hb hby at_200) rfl ?_
  show Steps p.tables e below (T8.setTop (mkF m 202 #[.val (.int xk), .val (.int xs), .val (.int xn), .val (.int xa), .val (.int xb), .val (.int xc), .val (.int k), .val (.int room), .val (.int count), .val (.int d0), .val (.int d1), .val (.int d2), .val (.int d3), .val (.int i0), .val (.int i1), .val (.int i2), .val (.int i3), .val (.ref ao), .val (.int (1 : Int32))] [(.int d1), (.int d0), (.int (2 : Int32)), (.int k), (.double (own_lim k szq XLq))])) _
  refine XS.iload X8.here hx rfl (hb hby at_202) rfl ?_
  show Steps p.tables e below (T8.setTop (mkF m 204 #[.val (.int xk), .val (.int xs), .val (.int xn), .val (.int xa), .val (.int xb), .val (.int xc), .val (.int k), .val (.int room), .val (.int count), .val (.int d0), .val (.int d1), .val (.int d2), .val (.int d3), .val (.int i0), .val (.int i1), .val (.int i2), .val (.int i3), .val (.ref ao), .val (.int (1 : Int32))] [(.int d2), (.int d1), (.int d0), (.int (2 : Int32)), (.int k), (.double (own_lim k szq XLq))])) _
  refine XS.iload X8.here hx rfl (hb hby at_204) rfl ?_
  show Steps p.tables e below (T8.setTop (mkF m 206 #[.val (.int xk), .val (.int xs), .val (.int xn), .val (.int xa), .val (.int xb), .val (.int xc), .val (.int k), .val (.int room), .val (.int count), .val (.int d0), .val (.int d1), .val (.int d2), .val (.int d3), .val (.int i0), .val (.int i1), .val (.int i2), .val (.int i3), .val (.ref ao), .val (.int (1 : Int32))] [(.int d3), (.int d2), (.int d1), (.int d0), (.int (2 : Int32)), (.int k), (.double (own_lim k szq XLq))])) _
  refine st9 _ ?_
  show Steps p.tables e below (T9.setTop (mkF m 209 #[.val (.int xk), .val (.int xs), .val (.int xn), .val (.int xa), .val (.int xb), .val (.int xc), .val (.int k), .val (.int room), .val (.int count), .val (.int d0), .val (.int d1), .val (.int d2), .val (.int d3), .val (.int i0), .val (.int i1), .val (.int i2), .val (.int i3), .val (.ref ao), .val (.int (1 : Int32))] [(.int (own_kth k (2 : Int32) d0 d1 d2 d3)), (.double (own_lim k szq XLq))])) _
  refine st10 _ ?_
  show Steps p.tables e below (T10.setTop (mkF m 212 #[.val (.int xk), .val (.int xs), .val (.int xn), .val (.int xa), .val (.int xb), .val (.int xc), .val (.int k), .val (.int room), .val (.int count), .val (.int d0), .val (.int d1), .val (.int d2), .val (.int d3), .val (.int i0), .val (.int i1), .val (.int i2), .val (.int i3), .val (.ref ao), .val (.int (1 : Int32))] [(.int (1 : Int32))])) _
  refine XS.ifNo X10.here hx rfl (hb hby at_212) rfl ((if0 _ _).trans (feq hc212).1) ?_
  show Steps p.tables e below (T10.setTop (mkF m 215 #[.val (.int xk), .val (.int xs), .val (.int xn), .val (.int xa), .val (.int xb), .val (.int xc), .val (.int k), .val (.int room), .val (.int count), .val (.int d0), .val (.int d1), .val (.int d2), .val (.int d3), .val (.int i0), .val (.int i1), .val (.int i2), .val (.int i3), .val (.ref ao), .val (.int (1 : Int32))] [])) _
  refine XS.iconst X10.here hx rfl (hb hby at_215) ?_
  show Steps p.tables e below (T10.setTop (mkF m 216 #[.val (.int xk), .val (.int xs), .val (.int xn), .val (.int xa), .val (.int xb), .val (.int xc), .val (.int k), .val (.int room), .val (.int count), .val (.int d0), .val (.int d1), .val (.int d2), .val (.int d3), .val (.int i0), .val (.int i1), .val (.int i2), .val (.int i3), .val (.ref ao), .val (.int (1 : Int32))] [(.int (1 : Int32))])) _
  refine XS.goto X10.here hx rfl (pc0 := 216) (pc' := 220) rfl (hb hby at_216) (by decide) (by decide) ?_
  show Steps p.tables e below (T10.setTop (mkF m 220 #[.val (.int xk), .val (.int xs), .val (.int xn), .val (.int xa), .val (.int xb), .val (.int xc), .val (.int k), .val (.int room), .val (.int count), .val (.int d0), .val (.int d1), .val (.int d2), .val (.int d3), .val (.int i0), .val (.int i1), .val (.int i2), .val (.int i3), .val (.ref ao), .val (.int (1 : Int32))] [(.int (1 : Int32))])) _
  refine XS.istore X10.here hx rfl (hb hby at_220) rfl (l' := #[.val (.int xk), .val (.int xs), .val (.int xn), .val (.int xa), .val (.int xb), .val (.int xc), .val (.int k), .val (.int room), .val (.int count), .val (.int d0), .val (.int d1), .val (.int d2), .val (.int d3), .val (.int i0), .val (.int i1), .val (.int i2), .val (.int i3), .val (.ref ao), .val (.int (1 : Int32))]) rfl ?_
  exact kt
set_option maxRecDepth 65536 in
set_option maxHeartbeats 40000000 in
theorem own_lB3t {p : Program} {l : Launch} {e : Env} {s : State} {m : MethodId} {args : Array Value} {below : List Frame} {meth : Method} {c : Code} {T0 : State} {locs : List Loc} {Z : State} {a0 : Array Value} {h0 : Heap} {n0 : Nat} (xk : Int32) (xs : Int32) (xn : Int32) (xa : Int32) (xb : Int32) (xc : Int32) (k : Int32) (room : Int32) (count : Int32) (d0 : Int32) (d1 : Int32) (d2 : Int32) (d3 : Int32) (i0 : Int32) (i1 : Int32) (i2 : Int32) (i3 : Int32) (ao : Addr)
    (X0 : Stand p l e room_1 s m args below meth c T0 locs 7 40) (hx : p.tables.exec = Jvm.exec) (hZ : Z.Warmed39 s.vm) (hw : ∀ d ∈ tables_1, d.before a0 Z = true) (hby : c.code = code) (hml : c.maxLocals = 19) (hown : s.vm.findClass "com/example/triangulum/triangulum/search/ShortlistLimitPinLaw" = some m.cls) (e0 : T0.heap = h0) (N0 : Fr n0 locs) (Z0 : n0 ≤ h0.size) (hc225 : count < (3 : Int32)) :
    ∃ (T' : State) (h' : Heap) (locs' : List Loc), Stand p l e room_1 s m args below meth c T' locs' 7 40 ∧ T'.heap = h' ∧ Fr n0 locs' ∧ h' = h0 ∧
      ∀ target, Steps p.tables e below (T'.setTop (mkF m 275 #[.val (.int xk), .val (.int xs), .val (.int xn), .val (.int xa), .val (.int xb), .val (.int xc), .val (.int k), .val (.int room), .val (.int count), .val (.int d0), .val (.int d1), .val (.int d2), .val (.int d3), .val (.int i0), .val (.int i1), .val (.int i2), .val (.int i3), .val (.ref ao), .val (.int (1 : Int32))] [])) target → Steps p.tables e below (T0.setTop (mkF m 222 #[.val (.int xk), .val (.int xs), .val (.int xn), .val (.int xa), .val (.int xb), .val (.int xc), .val (.int k), .val (.int room), .val (.int count), .val (.int d0), .val (.int d1), .val (.int d2), .val (.int d3), .val (.int i0), .val (.int i1), .val (.int i2), .val (.int i3), .val (.ref ao), .val (.int (1 : Int32))] [])) target := by
  -- 3. LAWS

  refine ⟨T0, _, _, X0, e0, N0, rfl, fun target kt => ?_⟩
  -- 4. STEPS
  show Steps p.tables e below (T0.setTop (mkF m 222 #[.val (.int xk), .val (.int xs), .val (.int xn), .val (.int xa), .val (.int xb), .val (.int xc), .val (.int k), .val (.int room), .val (.int count), .val (.int d0), .val (.int d1), .val (.int d2), .val (.int d3), .val (.int i0), .val (.int i1), .val (.int i2), .val (.int i3), .val (.ref ao), .val (.int (1 : Int32))] [])) _
  refine XS.iload X0.here hx rfl (hb hby at_222) rfl ?_
  show Steps p.tables e below (T0.setTop (mkF m 224 #[.val (.int xk), .val (.int xs), .val (.int xn), .val (.int xa), .val (.int xb), .val (.int xc), .val (.int k), .val (.int room), .val (.int count), .val (.int d0), .val (.int d1), .val (.int d2), .val (.int d3), .val (.int i0), .val (.int i1), .val (.int i2), .val (.int i3), .val (.ref ao), .val (.int (1 : Int32))] [(.int count)])) _
  refine XS.iconst X0.here hx rfl (hb hby at_224) ?_
  show Steps p.tables e below (T0.setTop (mkF m 225 #[.val (.int xk), .val (.int xs), .val (.int xn), .val (.int xa), .val (.int xb), .val (.int xc), .val (.int k), .val (.int room), .val (.int count), .val (.int d0), .val (.int d1), .val (.int d2), .val (.int d3), .val (.int i0), .val (.int i1), .val (.int i2), .val (.int i3), .val (.ref ao), .val (.int (1 : Int32))] [(.int (3 : Int32)), (.int count)])) _
  refine XS.icmpYes X0.here hx rfl (pc0 := 225) (pc' := 275) rfl (hb hby at_225) rfl (tlt hc225).1 (by decide) (by decide) ?_
  exact kt
set_option maxRecDepth 65536 in
set_option maxHeartbeats 40000000 in
theorem own_lB3f {p : Program} {l : Launch} {e : Env} {s : State} {m : MethodId} {args : Array Value} {below : List Frame} {meth : Method} {c : Code} {T0 : State} {locs : List Loc} {Z : State} {a0 : Array Value} {h0 : Heap} {n0 : Nat} (xk : Int32) (xs : Int32) (xn : Int32) (xa : Int32) (xb : Int32) (xc : Int32) (k : Int32) (room : Int32) (count : Int32) (d0 : Int32) (d1 : Int32) (d2 : Int32) (d3 : Int32) (i0 : Int32) (i1 : Int32) (i2 : Int32) (i3 : Int32) (ao : Addr) (Q : Heap → Prop)
    (X0 : Stand p l e room_1 s m args below meth c T0 locs 7 40) (hx : p.tables.exec = Jvm.exec) (hZ : Z.Warmed39 s.vm) (hw : ∀ d ∈ tables_1, d.before a0 Z = true) (hby : c.code = code) (hml : c.maxLocals = 19) (hown : s.vm.findClass "com/example/triangulum/triangulum/search/ShortlistLimitPinLaw" = some m.cls) (e0 : T0.heap = h0) (N0 : Fr n0 locs) (Z0 : n0 ≤ h0.size) (hc225 : ¬ (count < (3 : Int32))) (E_ao : Exa Z h0 ao "com/example/triangulum/triangulum/search/Shortlist") (hM : MetFree l (⟨"com/example/triangulum/triangulum/search/Shortlist", "offer", "(ID)V"⟩ : MethodName) (head1 [Jvm.Cond.code (⟨"com/example/triangulum/triangulum/search/Shortlist", "offer", "(ID)V"⟩ : MethodName) prog_24_method_2_code 6 none] ({ frames := 5, cells := 2, slots := 12, locals := 160 } : Room)) (fun a U => a = #[(.ref ao), (.int i2), (.double (FP.i2d d2))] ∧ Z.Warmed39 U.vm ∧ U.heap = h0) (fun _ _ _ _ _ => True) (fun _ U o U' => ∃ v L, o = .returned v ∧ (v = none ∧ Fr n0 L ∧ Q U'.heap) ∧ FrameEnd U o U' L ({ frames := 5, cells := 2, slots := 12, locals := 160 } : Room).cells ({ frames := 5, cells := 2, slots := 12, locals := 160 } : Room).slots)) (hQ : ∀ h', Q h' → ∃ ad ai sz z XL IL, own_S Z n0 h' ao ad ai k sz z XL IL ∧ (¬ sz < k → (0 : Int32) < z) ∧ own_ok (own_lim k sz XL) (own_kth k (3 : Int32) d0 d1 d2 d3)) (hc240 : ¬ ((1 : Int32) = (0 : Int32))) (hc265 : ¬ ((1 : Int32) = (0 : Int32))) :
    ∃ (T' : State) (h' : Heap) (locs' : List Loc), Stand p l e room_1 s m args below meth c T' locs' 9 52 ∧ T'.heap = h' ∧ Fr n0 locs' ∧ Q h' ∧
      ∀ target, Steps p.tables e below (T'.setTop (mkF m 275 #[.val (.int xk), .val (.int xs), .val (.int xn), .val (.int xa), .val (.int xb), .val (.int xc), .val (.int k), .val (.int room), .val (.int count), .val (.int d0), .val (.int d1), .val (.int d2), .val (.int d3), .val (.int i0), .val (.int i1), .val (.int i2), .val (.int i3), .val (.ref ao), .val (.int (1 : Int32))] [])) target → Steps p.tables e below (T0.setTop (mkF m 222 #[.val (.int xk), .val (.int xs), .val (.int xn), .val (.int xa), .val (.int xb), .val (.int xc), .val (.int k), .val (.int room), .val (.int count), .val (.int d0), .val (.int d1), .val (.int d2), .val (.int d3), .val (.int i0), .val (.int i1), .val (.int i2), .val (.int i3), .val (.ref ao), .val (.int (1 : Int32))] [])) target := by
  -- 3. LAWS
  -- pc 235: com/example/triangulum/triangulum/search/Shortlist.offer
  obtain ⟨T7, h7, L7, X7, e7, N7, hq, st7⟩ := own_callV X0 hx hZ (n0 := n0) (Q := Q) hM hown (hw _ (List.mem_of_getElem? (i := 37) rfl)) (hw _ (List.mem_of_getElem? (i := 38) rfl)) (hw _ (List.mem_of_getElem? (i := 39) rfl)) (hw _ (List.mem_of_getElem? (i := 40) rfl)) (hw _ (List.mem_of_getElem? (i := 2) rfl)) (hw _ (List.mem_of_getElem? (i := 41) rfl)) (by decide) E_ao N0 (W := 0) (by decide) (by decide) e0 (g := (mkF m 235 #[.val (.int xk), .val (.int xs), .val (.int xn), .val (.int xa), .val (.int xb), .val (.int xc), .val (.int k), .val (.int room), .val (.int count), .val (.int d0), .val (.int d1), .val (.int d2), .val (.int d3), .val (.int i0), .val (.int i1), .val (.int i2), .val (.int i3), .val (.ref ao), .val (.int (1 : Int32))] [(.double (FP.i2d d2)), (.int i2), (.ref ao)])) rfl (by rw [hml]; rfl) (argsL := [(.int i2), (.double (FP.i2d d2))]) (rest := []) (lenOf pd_of rfl) rfl (by show 2 * 0 + _ ≤ _; exact Nat.le_of_eq rfl) (hb hby at_235) (by decide) (by decide)
  obtain ⟨adq, aiq, szq, zq, XLq, ILq, SSq, hzq, hagq⟩ := hQ _ hq
  -- pc 245: com/example/triangulum/triangulum/search/Shortlist.limit
  obtain ⟨T8, X8, e8, st8⟩ := own_limit X7 hx hZ hw hown (hw _ (List.mem_of_getElem? (i := 21) rfl)) SSq hzq (W := 0) (g := (mkF m 245 #[.val (.int xk), .val (.int xs), .val (.int xn), .val (.int xa), .val (.int xb), .val (.int xc), .val (.int k), .val (.int room), .val (.int count), .val (.int d0), .val (.int d1), .val (.int d2), .val (.int d3), .val (.int i0), .val (.int i1), .val (.int i2), .val (.int i3), .val (.ref ao), .val (.int (1 : Int32))] [(.ref ao)])) rfl (by rw [hml]; rfl) (rest := []) rfl (by show 2 * 0 + _ ≤ _; exact Nat.le_of_eq rfl) (hb hby at_245) (by decide) (by decide) e7
  -- pc 259: com/example/triangulum/triangulum/search/ShortlistLimitPinLaw.kth
  obtain ⟨T9, X9, e9, st9⟩ := own_call_kth X8 hx hZ hw hown (hw _ (List.mem_of_getElem? (i := 29) rfl)) k (3 : Int32) d0 d1 d2 d3 (W := 2) (g := (mkF m 259 #[.val (.int xk), .val (.int xs), .val (.int xn), .val (.int xa), .val (.int xb), .val (.int xc), .val (.int k), .val (.int room), .val (.int count), .val (.int d0), .val (.int d1), .val (.int d2), .val (.int d3), .val (.int i0), .val (.int i1), .val (.int i2), .val (.int i3), .val (.ref ao), .val (.int (1 : Int32))] [(.int d3), (.int d2), (.int d1), (.int d0), (.int (3 : Int32)), (.int k), (.double (own_lim k szq XLq))])) rfl (by rw [hml]; rfl) (rest := [(.double (own_lim k szq XLq))]) rfl (by show 2 * 0 + _ ≤ _; exact Nat.le_of_eq rfl) (hb hby at_259) (by decide) (by decide) e8
  -- pc 262: com/example/triangulum/triangulum/search/ShortlistLimitPinLaw.agrees
  obtain ⟨T10, X10, e10, st10⟩ := own_call_agr X9 hx hZ hw hown (hw _ (List.mem_of_getElem? (i := 33) rfl)) (own_lim k szq XLq) (own_kth k (3 : Int32) d0 d1 d2 d3) hagq (W := 0) (g := (mkF m 262 #[.val (.int xk), .val (.int xs), .val (.int xn), .val (.int xa), .val (.int xb), .val (.int xc), .val (.int k), .val (.int room), .val (.int count), .val (.int d0), .val (.int d1), .val (.int d2), .val (.int d3), .val (.int i0), .val (.int i1), .val (.int i2), .val (.int i3), .val (.ref ao), .val (.int (1 : Int32))] [(.int (own_kth k (3 : Int32) d0 d1 d2 d3)), (.double (own_lim k szq XLq))])) rfl (by rw [hml]; rfl) (rest := []) rfl (by show 2 * 0 + _ ≤ _; exact Nat.le_of_eq rfl) (hb hby at_262) (by decide) (by decide) e9
  refine ⟨T10, _, _, X10, e10, N7, hq, fun target kt => ?_⟩
  -- 4. STEPS
  show Steps p.tables e below (T0.setTop (mkF m 222 #[.val (.int xk), .val (.int xs), .val (.int xn), .val (.int xa), .val (.int xb), .val (.int xc), .val (.int k), .val (.int room), .val (.int count), .val (.int d0), .val (.int d1), .val (.int d2), .val (.int d3), .val (.int i0), .val (.int i1), .val (.int i2), .val (.int i3), .val (.ref ao), .val (.int (1 : Int32))] [])) _
  refine XS.iload X0.here hx rfl (hb hby at_222) rfl ?_
  show Steps p.tables e below (T0.setTop (mkF m 224 #[.val (.int xk), .val (.int xs), .val (.int xn), .val (.int xa), .val (.int xb), .val (.int xc), .val (.int k), .val (.int room), .val (.int count), .val (.int d0), .val (.int d1), .val (.int d2), .val (.int d3), .val (.int i0), .val (.int i1), .val (.int i2), .val (.int i3), .val (.ref ao), .val (.int (1 : Int32))] [(.int count)])) _
  refine XS.iconst X0.here hx rfl (hb hby at_224) ?_
  show Steps p.tables e below (T0.setTop (mkF m 225 #[.val (.int xk), .val (.int xs), .val (.int xn), .val (.int xa), .val (.int xb), .val (.int xc), .val (.int k), .val (.int room), .val (.int count), .val (.int d0), .val (.int d1), .val (.int d2), .val (.int d3), .val (.int i0), .val (.int i1), .val (.int i2), .val (.int i3), .val (.ref ao), .val (.int (1 : Int32))] [(.int (3 : Int32)), (.int count)])) _
  refine XS.icmpNo X0.here hx rfl (hb hby at_225) rfl (flt hc225).1 ?_
  show Steps p.tables e below (T0.setTop (mkF m 228 #[.val (.int xk), .val (.int xs), .val (.int xn), .val (.int xa), .val (.int xb), .val (.int xc), .val (.int k), .val (.int room), .val (.int count), .val (.int d0), .val (.int d1), .val (.int d2), .val (.int d3), .val (.int i0), .val (.int i1), .val (.int i2), .val (.int i3), .val (.ref ao), .val (.int (1 : Int32))] [])) _
  refine XS.aload X0.here hx rfl (hb hby at_228) rfl rfl ?_
  show Steps p.tables e below (T0.setTop (mkF m 230 #[.val (.int xk), .val (.int xs), .val (.int xn), .val (.int xa), .val (.int xb), .val (.int xc), .val (.int k), .val (.int room), .val (.int count), .val (.int d0), .val (.int d1), .val (.int d2), .val (.int d3), .val (.int i0), .val (.int i1), .val (.int i2), .val (.int i3), .val (.ref ao), .val (.int (1 : Int32))] [(.ref ao)])) _
  refine XS.iload X0.here hx rfl (hb hby at_230) rfl ?_
  show Steps p.tables e below (T0.setTop (mkF m 232 #[.val (.int xk), .val (.int xs), .val (.int xn), .val (.int xa), .val (.int xb), .val (.int xc), .val (.int k), .val (.int room), .val (.int count), .val (.int d0), .val (.int d1), .val (.int d2), .val (.int d3), .val (.int i0), .val (.int i1), .val (.int i2), .val (.int i3), .val (.ref ao), .val (.int (1 : Int32))] [(.int i2), (.ref ao)])) _
  refine XS.iload X0.here hx rfl (hb hby at_232) rfl ?_
  show Steps p.tables e below (T0.setTop (mkF m 234 #[.val (.int xk), .val (.int xs), .val (.int xn), .val (.int xa), .val (.int xb), .val (.int xc), .val (.int k), .val (.int room), .val (.int count), .val (.int d0), .val (.int d1), .val (.int d2), .val (.int d3), .val (.int i0), .val (.int i1), .val (.int i2), .val (.int i3), .val (.ref ao), .val (.int (1 : Int32))] [(.int d2), (.int i2), (.ref ao)])) _
  refine XS.i2dS X0.here hx rfl (hb hby at_234) rfl rfl ?_
  show Steps p.tables e below (T0.setTop (mkF m 235 #[.val (.int xk), .val (.int xs), .val (.int xn), .val (.int xa), .val (.int xb), .val (.int xc), .val (.int k), .val (.int room), .val (.int count), .val (.int d0), .val (.int d1), .val (.int d2), .val (.int d3), .val (.int i0), .val (.int i1), .val (.int i2), .val (.int i3), .val (.ref ao), .val (.int (1 : Int32))] [(.double (FP.i2d d2)), (.int i2), (.ref ao)])) _
  refine st7 _ ?_
  show Steps p.tables e below (T7.setTop (mkF m 238 #[.val (.int xk), .val (.int xs), .val (.int xn), .val (.int xa), .val (.int xb), .val (.int xc), .val (.int k), .val (.int room), .val (.int count), .val (.int d0), .val (.int d1), .val (.int d2), .val (.int d3), .val (.int i0), .val (.int i1), .val (.int i2), .val (.int i3), .val (.ref ao), .val (.int (1 : Int32))] [])) _
  refine XS.iload X7.here hx rfl (hb hby at_238) rfl ?_
  show Steps p.tables e below (T7.setTop (mkF m 240 #[.val (.int xk), .val (.int xs), .val (.int xn), .val (.int xa), .val (.int xb), .val (.int xc), .val (.int k), .val (.int room), .val (.int count), .val (.int d0), .val (.int d1), .val (.int d2), .val (.int d3), .val (.int i0), .val (.int i1), .val (.int i2), .val (.int i3), .val (.ref ao), .val (.int (1 : Int32))] [(.int (1 : Int32))])) _
  refine XS.ifNo X7.here hx rfl (hb hby at_240) rfl ((if0 _ _).trans (feq hc240).1) ?_
  show Steps p.tables e below (T7.setTop (mkF m 243 #[.val (.int xk), .val (.int xs), .val (.int xn), .val (.int xa), .val (.int xb), .val (.int xc), .val (.int k), .val (.int room), .val (.int count), .val (.int d0), .val (.int d1), .val (.int d2), .val (.int d3), .val (.int i0), .val (.int i1), .val (.int i2), .val (.int i3), .val (.ref ao), .val (.int (1 : Int32))] [])) _
  refine XS.aload X7.here hx rfl (hb hby at_243) rfl rfl ?_
  show Steps p.tables e below (T7.setTop (mkF m 245 #[.val (.int xk), .val (.int xs), .val (.int xn), .val (.int xa), .val (.int xb), .val (.int xc), .val (.int k), .val (.int room), .val (.int count), .val (.int d0), .val (.int d1), .val (.int d2), .val (.int d3), .val (.int i0), .val (.int i1), .val (.int i2), .val (.int i3), .val (.ref ao), .val (.int (1 : Int32))] [(.ref ao)])) _
  refine st8 _ ?_
  show Steps p.tables e below (T8.setTop (mkF m 248 #[.val (.int xk), .val (.int xs), .val (.int xn), .val (.int xa), .val (.int xb), .val (.int xc), .val (.int k), .val (.int room), .val (.int count), .val (.int d0), .val (.int d1), .val (.int d2), .val (.int d3), .val (.int i0), .val (.int i1), .val (.int i2), .val (.int i3), .val (.ref ao), .val (.int (1 : Int32))] [(.double (own_lim k szq XLq))])) _
  refine XS.iload X8.here hx rfl (hb hby at_248) rfl ?_
  show Steps p.tables e below (T8.setTop (mkF m 250 #[.val (.int xk), .val (.int xs), .val (.int xn), .val (.int xa), .val (.int xb), .val (.int xc), .val (.int k), .val (.int room), .val (.int count), .val (.int d0), .val (.int d1), .val (.int d2), .val (.int d3), .val (.int i0), .val (.int i1), .val (.int i2), .val (.int i3), .val (.ref ao), .val (.int (1 : Int32))] [(.int k), (.double (own_lim k szq XLq))])) _
  refine XS.iconst X8.here hx rfl (hb hby at_250) ?_
  show Steps p.tables e below (T8.setTop (mkF m 251 #[.val (.int xk), .val (.int xs), .val (.int xn), .val (.int xa), .val (.int xb), .val (.int xc), .val (.int k), .val (.int room), .val (.int count), .val (.int d0), .val (.int d1), .val (.int d2), .val (.int d3), .val (.int i0), .val (.int i1), .val (.int i2), .val (.int i3), .val (.ref ao), .val (.int (1 : Int32))] [(.int (3 : Int32)), (.int k), (.double (own_lim k szq XLq))])) _
  refine XS.iload X8.here hx rfl (hb hby at_251) rfl ?_
  show Steps p.tables e below (T8.setTop (mkF m 253 #[.val (.int xk), .val (.int xs), .val (.int xn), .val (.int xa), .val (.int xb), .val (.int xc), .val (.int k), .val (.int room), .val (.int count), .val (.int d0), .val (.int d1), .val (.int d2), .val (.int d3), .val (.int i0), .val (.int i1), .val (.int i2), .val (.int i3), .val (.ref ao), .val (.int (1 : Int32))] [(.int d0), (.int (3 : Int32)), (.int k), (.double (own_lim k szq XLq))])) _
  refine XS.iload X8.here hx rfl (hb hby at_253) rfl ?_
  show Steps p.tables e below (T8.setTop (mkF m 255 #[.val (.int xk), .val (.int xs), .val (.int xn), .val (.int xa), .val (.int xb), .val (.int xc), .val (.int k), .val (.int room), .val (.int count), .val (.int d0), .val (.int d1), .val (.int d2), .val (.int d3), .val (.int i0), .val (.int i1), .val (.int i2), .val (.int i3), .val (.ref ao), .val (.int (1 : Int32))] [(.int d1), (.int d0), (.int (3 : Int32)), (.int k), (.double (own_lim k szq XLq))])) _
  refine XS.iload X8.here hx rfl (hb hby at_255) rfl ?_
  show Steps p.tables e below (T8.setTop (mkF m 257 #[.val (.int xk), .val (.int xs), .val (.int xn), .val (.int xa), .val (.int xb), .val (.int xc), .val (.int k), .val (.int room), .val (.int count), .val (.int d0), .val (.int d1), .val (.int d2), .val (.int d3), .val (.int i0), .val (.int i1), .val (.int i2), .val (.int i3), .val (.ref ao), .val (.int (1 : Int32))] [(.int d2), (.int d1), (.int d0), (.int (3 : Int32)), (.int k), (.double (own_lim k szq XLq))])) _
  refine XS.iload X8.here hx rfl (hb hby at_257) rfl ?_
  show Steps p.tables e below (T8.setTop (mkF m 259 #[.val (.int xk), .val (.int xs), .val (.int xn), .val (.int xa), .val (.int xb), .val (.int xc), .val (.int k), .val (.int room), .val (.int count), .val (.int d0), .val (.int d1), .val (.int d2), .val (.int d3), .val (.int i0), .val (.int i1), .val (.int i2), .val (.int i3), .val (.ref ao), .val (.int (1 : Int32))] [(.int d3), (.int d2), (.int d1), (.int d0), (.int (3 : Int32)), (.int k), (.double (own_lim k szq XLq))])) _
  refine st9 _ ?_
  show Steps p.tables e below (T9.setTop (mkF m 262 #[.val (.int xk), .val (.int xs), .val (.int xn), .val (.int xa), .val (.int xb), .val (.int xc), .val (.int k), .val (.int room), .val (.int count), .val (.int d0), .val (.int d1), .val (.int d2), .val (.int d3), .val (.int i0), .val (.int i1), .val (.int i2), .val (.int i3), .val (.ref ao), .val (.int (1 : Int32))] [(.int (own_kth k (3 : Int32) d0 d1 d2 d3)), (.double (own_lim k szq XLq))])) _
  refine st10 _ ?_
  show Steps p.tables e below (T10.setTop (mkF m 265 #[.val (.int xk), .val (.int xs), .val (.int xn), .val (.int xa), .val (.int xb), .val (.int xc), .val (.int k), .val (.int room), .val (.int count), .val (.int d0), .val (.int d1), .val (.int d2), .val (.int d3), .val (.int i0), .val (.int i1), .val (.int i2), .val (.int i3), .val (.ref ao), .val (.int (1 : Int32))] [(.int (1 : Int32))])) _
  refine XS.ifNo X10.here hx rfl (hb hby at_265) rfl ((if0 _ _).trans (feq hc265).1) ?_
  show Steps p.tables e below (T10.setTop (mkF m 268 #[.val (.int xk), .val (.int xs), .val (.int xn), .val (.int xa), .val (.int xb), .val (.int xc), .val (.int k), .val (.int room), .val (.int count), .val (.int d0), .val (.int d1), .val (.int d2), .val (.int d3), .val (.int i0), .val (.int i1), .val (.int i2), .val (.int i3), .val (.ref ao), .val (.int (1 : Int32))] [])) _
  refine XS.iconst X10.here hx rfl (hb hby at_268) ?_
  show Steps p.tables e below (T10.setTop (mkF m 269 #[.val (.int xk), .val (.int xs), .val (.int xn), .val (.int xa), .val (.int xb), .val (.int xc), .val (.int k), .val (.int room), .val (.int count), .val (.int d0), .val (.int d1), .val (.int d2), .val (.int d3), .val (.int i0), .val (.int i1), .val (.int i2), .val (.int i3), .val (.ref ao), .val (.int (1 : Int32))] [(.int (1 : Int32))])) _
  refine XS.goto X10.here hx rfl (pc0 := 269) (pc' := 273) rfl (hb hby at_269) (by decide) (by decide) ?_
  show Steps p.tables e below (T10.setTop (mkF m 273 #[.val (.int xk), .val (.int xs), .val (.int xn), .val (.int xa), .val (.int xb), .val (.int xc), .val (.int k), .val (.int room), .val (.int count), .val (.int d0), .val (.int d1), .val (.int d2), .val (.int d3), .val (.int i0), .val (.int i1), .val (.int i2), .val (.int i3), .val (.ref ao), .val (.int (1 : Int32))] [(.int (1 : Int32))])) _
  refine XS.istore X10.here hx rfl (hb hby at_273) rfl (l' := #[.val (.int xk), .val (.int xs), .val (.int xn), .val (.int xa), .val (.int xb), .val (.int xc), .val (.int k), .val (.int room), .val (.int count), .val (.int d0), .val (.int d1), .val (.int d2), .val (.int d3), .val (.int i0), .val (.int i1), .val (.int i2), .val (.int i3), .val (.ref ao), .val (.int (1 : Int32))]) rfl ?_
  exact kt
set_option maxRecDepth 65536 in
set_option maxHeartbeats 40000000 in
theorem own_lB4t {p : Program} {l : Launch} {e : Env} {s : State} {m : MethodId} {args : Array Value} {below : List Frame} {meth : Method} {c : Code} {T0 : State} {locs : List Loc} {Z : State} {a0 : Array Value} {h0 : Heap} {n0 : Nat} (xk : Int32) (xs : Int32) (xn : Int32) (xa : Int32) (xb : Int32) (xc : Int32) (k : Int32) (room : Int32) (count : Int32) (d0 : Int32) (d1 : Int32) (d2 : Int32) (d3 : Int32) (i0 : Int32) (i1 : Int32) (i2 : Int32) (i3 : Int32) (ao : Addr)
    (X0 : Stand p l e room_1 s m args below meth c T0 locs 9 52) (hx : p.tables.exec = Jvm.exec) (hZ : Z.Warmed39 s.vm) (hw : ∀ d ∈ tables_1, d.before a0 Z = true) (hby : c.code = code) (hml : c.maxLocals = 19) (hown : s.vm.findClass "com/example/triangulum/triangulum/search/ShortlistLimitPinLaw" = some m.cls) (e0 : T0.heap = h0) (N0 : Fr n0 locs) (Z0 : n0 ≤ h0.size) (hc278 : count < (4 : Int32)) :
    ∃ (T' : State) (h' : Heap) (locs' : List Loc), Stand p l e room_1 s m args below meth c T' locs' 9 52 ∧ T'.heap = h' ∧ Fr n0 locs' ∧ h' = h0 ∧
      ∀ target, Steps p.tables e below (T'.setTop (mkF m 328 #[.val (.int xk), .val (.int xs), .val (.int xn), .val (.int xa), .val (.int xb), .val (.int xc), .val (.int k), .val (.int room), .val (.int count), .val (.int d0), .val (.int d1), .val (.int d2), .val (.int d3), .val (.int i0), .val (.int i1), .val (.int i2), .val (.int i3), .val (.ref ao), .val (.int (1 : Int32))] [])) target → Steps p.tables e below (T0.setTop (mkF m 275 #[.val (.int xk), .val (.int xs), .val (.int xn), .val (.int xa), .val (.int xb), .val (.int xc), .val (.int k), .val (.int room), .val (.int count), .val (.int d0), .val (.int d1), .val (.int d2), .val (.int d3), .val (.int i0), .val (.int i1), .val (.int i2), .val (.int i3), .val (.ref ao), .val (.int (1 : Int32))] [])) target := by
  -- 3. LAWS

  refine ⟨T0, _, _, X0, e0, N0, rfl, fun target kt => ?_⟩
  -- 4. STEPS
  show Steps p.tables e below (T0.setTop (mkF m 275 #[.val (.int xk), .val (.int xs), .val (.int xn), .val (.int xa), .val (.int xb), .val (.int xc), .val (.int k), .val (.int room), .val (.int count), .val (.int d0), .val (.int d1), .val (.int d2), .val (.int d3), .val (.int i0), .val (.int i1), .val (.int i2), .val (.int i3), .val (.ref ao), .val (.int (1 : Int32))] [])) _
  refine XS.iload X0.here hx rfl (hb hby at_275) rfl ?_
  show Steps p.tables e below (T0.setTop (mkF m 277 #[.val (.int xk), .val (.int xs), .val (.int xn), .val (.int xa), .val (.int xb), .val (.int xc), .val (.int k), .val (.int room), .val (.int count), .val (.int d0), .val (.int d1), .val (.int d2), .val (.int d3), .val (.int i0), .val (.int i1), .val (.int i2), .val (.int i3), .val (.ref ao), .val (.int (1 : Int32))] [(.int count)])) _
  refine XS.iconst X0.here hx rfl (hb hby at_277) ?_
  show Steps p.tables e below (T0.setTop (mkF m 278 #[.val (.int xk), .val (.int xs), .val (.int xn), .val (.int xa), .val (.int xb), .val (.int xc), .val (.int k), .val (.int room), .val (.int count), .val (.int d0), .val (.int d1), .val (.int d2), .val (.int d3), .val (.int i0), .val (.int i1), .val (.int i2), .val (.int i3), .val (.ref ao), .val (.int (1 : Int32))] [(.int (4 : Int32)), (.int count)])) _
  refine XS.icmpYes X0.here hx rfl (pc0 := 278) (pc' := 328) rfl (hb hby at_278) rfl (tlt hc278).1 (by decide) (by decide) ?_
  exact kt
set_option maxRecDepth 65536 in
set_option maxHeartbeats 40000000 in
theorem own_lB4f {p : Program} {l : Launch} {e : Env} {s : State} {m : MethodId} {args : Array Value} {below : List Frame} {meth : Method} {c : Code} {T0 : State} {locs : List Loc} {Z : State} {a0 : Array Value} {h0 : Heap} {n0 : Nat} (xk : Int32) (xs : Int32) (xn : Int32) (xa : Int32) (xb : Int32) (xc : Int32) (k : Int32) (room : Int32) (count : Int32) (d0 : Int32) (d1 : Int32) (d2 : Int32) (d3 : Int32) (i0 : Int32) (i1 : Int32) (i2 : Int32) (i3 : Int32) (ao : Addr) (Q : Heap → Prop)
    (X0 : Stand p l e room_1 s m args below meth c T0 locs 9 52) (hx : p.tables.exec = Jvm.exec) (hZ : Z.Warmed39 s.vm) (hw : ∀ d ∈ tables_1, d.before a0 Z = true) (hby : c.code = code) (hml : c.maxLocals = 19) (hown : s.vm.findClass "com/example/triangulum/triangulum/search/ShortlistLimitPinLaw" = some m.cls) (e0 : T0.heap = h0) (N0 : Fr n0 locs) (Z0 : n0 ≤ h0.size) (hc278 : ¬ (count < (4 : Int32))) (E_ao : Exa Z h0 ao "com/example/triangulum/triangulum/search/Shortlist") (hM : MetFree l (⟨"com/example/triangulum/triangulum/search/Shortlist", "offer", "(ID)V"⟩ : MethodName) (head1 [Jvm.Cond.code (⟨"com/example/triangulum/triangulum/search/Shortlist", "offer", "(ID)V"⟩ : MethodName) prog_24_method_2_code 6 none] ({ frames := 5, cells := 2, slots := 12, locals := 160 } : Room)) (fun a U => a = #[(.ref ao), (.int i3), (.double (FP.i2d d3))] ∧ Z.Warmed39 U.vm ∧ U.heap = h0) (fun _ _ _ _ _ => True) (fun _ U o U' => ∃ v L, o = .returned v ∧ (v = none ∧ Fr n0 L ∧ Q U'.heap) ∧ FrameEnd U o U' L ({ frames := 5, cells := 2, slots := 12, locals := 160 } : Room).cells ({ frames := 5, cells := 2, slots := 12, locals := 160 } : Room).slots)) (hQ : ∀ h', Q h' → ∃ ad ai sz z XL IL, own_S Z n0 h' ao ad ai k sz z XL IL ∧ (¬ sz < k → (0 : Int32) < z) ∧ own_ok (own_lim k sz XL) (own_kth k (4 : Int32) d0 d1 d2 d3)) (hc293 : ¬ ((1 : Int32) = (0 : Int32))) (hc318 : ¬ ((1 : Int32) = (0 : Int32))) :
    ∃ (T' : State) (h' : Heap) (locs' : List Loc), Stand p l e room_1 s m args below meth c T' locs' 11 64 ∧ T'.heap = h' ∧ Fr n0 locs' ∧ Q h' ∧
      ∀ target, Steps p.tables e below (T'.setTop (mkF m 328 #[.val (.int xk), .val (.int xs), .val (.int xn), .val (.int xa), .val (.int xb), .val (.int xc), .val (.int k), .val (.int room), .val (.int count), .val (.int d0), .val (.int d1), .val (.int d2), .val (.int d3), .val (.int i0), .val (.int i1), .val (.int i2), .val (.int i3), .val (.ref ao), .val (.int (1 : Int32))] [])) target → Steps p.tables e below (T0.setTop (mkF m 275 #[.val (.int xk), .val (.int xs), .val (.int xn), .val (.int xa), .val (.int xb), .val (.int xc), .val (.int k), .val (.int room), .val (.int count), .val (.int d0), .val (.int d1), .val (.int d2), .val (.int d3), .val (.int i0), .val (.int i1), .val (.int i2), .val (.int i3), .val (.ref ao), .val (.int (1 : Int32))] [])) target := by
  -- 3. LAWS
  -- pc 288: com/example/triangulum/triangulum/search/Shortlist.offer
  obtain ⟨T7, h7, L7, X7, e7, N7, hq, st7⟩ := own_callV X0 hx hZ (n0 := n0) (Q := Q) hM hown (hw _ (List.mem_of_getElem? (i := 37) rfl)) (hw _ (List.mem_of_getElem? (i := 38) rfl)) (hw _ (List.mem_of_getElem? (i := 39) rfl)) (hw _ (List.mem_of_getElem? (i := 40) rfl)) (hw _ (List.mem_of_getElem? (i := 2) rfl)) (hw _ (List.mem_of_getElem? (i := 41) rfl)) (by decide) E_ao N0 (W := 0) (by decide) (by decide) e0 (g := (mkF m 288 #[.val (.int xk), .val (.int xs), .val (.int xn), .val (.int xa), .val (.int xb), .val (.int xc), .val (.int k), .val (.int room), .val (.int count), .val (.int d0), .val (.int d1), .val (.int d2), .val (.int d3), .val (.int i0), .val (.int i1), .val (.int i2), .val (.int i3), .val (.ref ao), .val (.int (1 : Int32))] [(.double (FP.i2d d3)), (.int i3), (.ref ao)])) rfl (by rw [hml]; rfl) (argsL := [(.int i3), (.double (FP.i2d d3))]) (rest := []) (lenOf pd_of rfl) rfl (by show 2 * 0 + _ ≤ _; exact Nat.le_of_eq rfl) (hb hby at_288) (by decide) (by decide)
  obtain ⟨adq, aiq, szq, zq, XLq, ILq, SSq, hzq, hagq⟩ := hQ _ hq
  -- pc 298: com/example/triangulum/triangulum/search/Shortlist.limit
  obtain ⟨T8, X8, e8, st8⟩ := own_limit X7 hx hZ hw hown (hw _ (List.mem_of_getElem? (i := 21) rfl)) SSq hzq (W := 0) (g := (mkF m 298 #[.val (.int xk), .val (.int xs), .val (.int xn), .val (.int xa), .val (.int xb), .val (.int xc), .val (.int k), .val (.int room), .val (.int count), .val (.int d0), .val (.int d1), .val (.int d2), .val (.int d3), .val (.int i0), .val (.int i1), .val (.int i2), .val (.int i3), .val (.ref ao), .val (.int (1 : Int32))] [(.ref ao)])) rfl (by rw [hml]; rfl) (rest := []) rfl (by show 2 * 0 + _ ≤ _; exact Nat.le_of_eq rfl) (hb hby at_298) (by decide) (by decide) e7
  -- pc 312: com/example/triangulum/triangulum/search/ShortlistLimitPinLaw.kth
  obtain ⟨T9, X9, e9, st9⟩ := own_call_kth X8 hx hZ hw hown (hw _ (List.mem_of_getElem? (i := 29) rfl)) k (4 : Int32) d0 d1 d2 d3 (W := 2) (g := (mkF m 312 #[.val (.int xk), .val (.int xs), .val (.int xn), .val (.int xa), .val (.int xb), .val (.int xc), .val (.int k), .val (.int room), .val (.int count), .val (.int d0), .val (.int d1), .val (.int d2), .val (.int d3), .val (.int i0), .val (.int i1), .val (.int i2), .val (.int i3), .val (.ref ao), .val (.int (1 : Int32))] [(.int d3), (.int d2), (.int d1), (.int d0), (.int (4 : Int32)), (.int k), (.double (own_lim k szq XLq))])) rfl (by rw [hml]; rfl) (rest := [(.double (own_lim k szq XLq))]) rfl (by show 2 * 0 + _ ≤ _; exact Nat.le_of_eq rfl) (hb hby at_312) (by decide) (by decide) e8
  -- pc 315: com/example/triangulum/triangulum/search/ShortlistLimitPinLaw.agrees
  obtain ⟨T10, X10, e10, st10⟩ := own_call_agr X9 hx hZ hw hown (hw _ (List.mem_of_getElem? (i := 33) rfl)) (own_lim k szq XLq) (own_kth k (4 : Int32) d0 d1 d2 d3) hagq (W := 0) (g := (mkF m 315 #[.val (.int xk), .val (.int xs), .val (.int xn), .val (.int xa), .val (.int xb), .val (.int xc), .val (.int k), .val (.int room), .val (.int count), .val (.int d0), .val (.int d1), .val (.int d2), .val (.int d3), .val (.int i0), .val (.int i1), .val (.int i2), .val (.int i3), .val (.ref ao), .val (.int (1 : Int32))] [(.int (own_kth k (4 : Int32) d0 d1 d2 d3)), (.double (own_lim k szq XLq))])) rfl (by rw [hml]; rfl) (rest := []) rfl (by show 2 * 0 + _ ≤ _; exact Nat.le_of_eq rfl) (hb hby at_315) (by decide) (by decide) e9
  refine ⟨T10, _, _, X10, e10, N7, hq, fun target kt => ?_⟩
  -- 4. STEPS
  show Steps p.tables e below (T0.setTop (mkF m 275 #[.val (.int xk), .val (.int xs), .val (.int xn), .val (.int xa), .val (.int xb), .val (.int xc), .val (.int k), .val (.int room), .val (.int count), .val (.int d0), .val (.int d1), .val (.int d2), .val (.int d3), .val (.int i0), .val (.int i1), .val (.int i2), .val (.int i3), .val (.ref ao), .val (.int (1 : Int32))] [])) _
  refine XS.iload X0.here hx rfl (hb hby at_275) rfl ?_
  show Steps p.tables e below (T0.setTop (mkF m 277 #[.val (.int xk), .val (.int xs), .val (.int xn), .val (.int xa), .val (.int xb), .val (.int xc), .val (.int k), .val (.int room), .val (.int count), .val (.int d0), .val (.int d1), .val (.int d2), .val (.int d3), .val (.int i0), .val (.int i1), .val (.int i2), .val (.int i3), .val (.ref ao), .val (.int (1 : Int32))] [(.int count)])) _
  refine XS.iconst X0.here hx rfl (hb hby at_277) ?_
  show Steps p.tables e below (T0.setTop (mkF m 278 #[.val (.int xk), .val (.int xs), .val (.int xn), .val (.int xa), .val (.int xb), .val (.int xc), .val (.int k), .val (.int room), .val (.int count), .val (.int d0), .val (.int d1), .val (.int d2), .val (.int d3), .val (.int i0), .val (.int i1), .val (.int i2), .val (.int i3), .val (.ref ao), .val (.int (1 : Int32))] [(.int (4 : Int32)), (.int count)])) _
  refine XS.icmpNo X0.here hx rfl (hb hby at_278) rfl (flt hc278).1 ?_
  show Steps p.tables e below (T0.setTop (mkF m 281 #[.val (.int xk), .val (.int xs), .val (.int xn), .val (.int xa), .val (.int xb), .val (.int xc), .val (.int k), .val (.int room), .val (.int count), .val (.int d0), .val (.int d1), .val (.int d2), .val (.int d3), .val (.int i0), .val (.int i1), .val (.int i2), .val (.int i3), .val (.ref ao), .val (.int (1 : Int32))] [])) _
  refine XS.aload X0.here hx rfl (hb hby at_281) rfl rfl ?_
  show Steps p.tables e below (T0.setTop (mkF m 283 #[.val (.int xk), .val (.int xs), .val (.int xn), .val (.int xa), .val (.int xb), .val (.int xc), .val (.int k), .val (.int room), .val (.int count), .val (.int d0), .val (.int d1), .val (.int d2), .val (.int d3), .val (.int i0), .val (.int i1), .val (.int i2), .val (.int i3), .val (.ref ao), .val (.int (1 : Int32))] [(.ref ao)])) _
  refine XS.iload X0.here hx rfl (hb hby at_283) rfl ?_
  show Steps p.tables e below (T0.setTop (mkF m 285 #[.val (.int xk), .val (.int xs), .val (.int xn), .val (.int xa), .val (.int xb), .val (.int xc), .val (.int k), .val (.int room), .val (.int count), .val (.int d0), .val (.int d1), .val (.int d2), .val (.int d3), .val (.int i0), .val (.int i1), .val (.int i2), .val (.int i3), .val (.ref ao), .val (.int (1 : Int32))] [(.int i3), (.ref ao)])) _
  refine XS.iload X0.here hx rfl (hb hby at_285) rfl ?_
  show Steps p.tables e below (T0.setTop (mkF m 287 #[.val (.int xk), .val (.int xs), .val (.int xn), .val (.int xa), .val (.int xb), .val (.int xc), .val (.int k), .val (.int room), .val (.int count), .val (.int d0), .val (.int d1), .val (.int d2), .val (.int d3), .val (.int i0), .val (.int i1), .val (.int i2), .val (.int i3), .val (.ref ao), .val (.int (1 : Int32))] [(.int d3), (.int i3), (.ref ao)])) _
  refine XS.i2dS X0.here hx rfl (hb hby at_287) rfl rfl ?_
  show Steps p.tables e below (T0.setTop (mkF m 288 #[.val (.int xk), .val (.int xs), .val (.int xn), .val (.int xa), .val (.int xb), .val (.int xc), .val (.int k), .val (.int room), .val (.int count), .val (.int d0), .val (.int d1), .val (.int d2), .val (.int d3), .val (.int i0), .val (.int i1), .val (.int i2), .val (.int i3), .val (.ref ao), .val (.int (1 : Int32))] [(.double (FP.i2d d3)), (.int i3), (.ref ao)])) _
  refine st7 _ ?_
  show Steps p.tables e below (T7.setTop (mkF m 291 #[.val (.int xk), .val (.int xs), .val (.int xn), .val (.int xa), .val (.int xb), .val (.int xc), .val (.int k), .val (.int room), .val (.int count), .val (.int d0), .val (.int d1), .val (.int d2), .val (.int d3), .val (.int i0), .val (.int i1), .val (.int i2), .val (.int i3), .val (.ref ao), .val (.int (1 : Int32))] [])) _
  refine XS.iload X7.here hx rfl (hb hby at_291) rfl ?_
  show Steps p.tables e below (T7.setTop (mkF m 293 #[.val (.int xk), .val (.int xs), .val (.int xn), .val (.int xa), .val (.int xb), .val (.int xc), .val (.int k), .val (.int room), .val (.int count), .val (.int d0), .val (.int d1), .val (.int d2), .val (.int d3), .val (.int i0), .val (.int i1), .val (.int i2), .val (.int i3), .val (.ref ao), .val (.int (1 : Int32))] [(.int (1 : Int32))])) _
  refine XS.ifNo X7.here hx rfl (hb hby at_293) rfl ((if0 _ _).trans (feq hc293).1) ?_
  show Steps p.tables e below (T7.setTop (mkF m 296 #[.val (.int xk), .val (.int xs), .val (.int xn), .val (.int xa), .val (.int xb), .val (.int xc), .val (.int k), .val (.int room), .val (.int count), .val (.int d0), .val (.int d1), .val (.int d2), .val (.int d3), .val (.int i0), .val (.int i1), .val (.int i2), .val (.int i3), .val (.ref ao), .val (.int (1 : Int32))] [])) _
  refine XS.aload X7.here hx rfl (hb hby at_296) rfl rfl ?_
  show Steps p.tables e below (T7.setTop (mkF m 298 #[.val (.int xk), .val (.int xs), .val (.int xn), .val (.int xa), .val (.int xb), .val (.int xc), .val (.int k), .val (.int room), .val (.int count), .val (.int d0), .val (.int d1), .val (.int d2), .val (.int d3), .val (.int i0), .val (.int i1), .val (.int i2), .val (.int i3), .val (.ref ao), .val (.int (1 : Int32))] [(.ref ao)])) _
  refine st8 _ ?_
  show Steps p.tables e below (T8.setTop (mkF m 301 #[.val (.int xk), .val (.int xs), .val (.int xn), .val (.int xa), .val (.int xb), .val (.int xc), .val (.int k), .val (.int room), .val (.int count), .val (.int d0), .val (.int d1), .val (.int d2), .val (.int d3), .val (.int i0), .val (.int i1), .val (.int i2), .val (.int i3), .val (.ref ao), .val (.int (1 : Int32))] [(.double (own_lim k szq XLq))])) _
  refine XS.iload X8.here hx rfl (hb hby at_301) rfl ?_
  show Steps p.tables e below (T8.setTop (mkF m 303 #[.val (.int xk), .val (.int xs), .val (.int xn), .val (.int xa), .val (.int xb), .val (.int xc), .val (.int k), .val (.int room), .val (.int count), .val (.int d0), .val (.int d1), .val (.int d2), .val (.int d3), .val (.int i0), .val (.int i1), .val (.int i2), .val (.int i3), .val (.ref ao), .val (.int (1 : Int32))] [(.int k), (.double (own_lim k szq XLq))])) _
  refine XS.iconst X8.here hx rfl (hb hby at_303) ?_
  show Steps p.tables e below (T8.setTop (mkF m 304 #[.val (.int xk), .val (.int xs), .val (.int xn), .val (.int xa), .val (.int xb), .val (.int xc), .val (.int k), .val (.int room), .val (.int count), .val (.int d0), .val (.int d1), .val (.int d2), .val (.int d3), .val (.int i0), .val (.int i1), .val (.int i2), .val (.int i3), .val (.ref ao), .val (.int (1 : Int32))] [(.int (4 : Int32)), (.int k), (.double (own_lim k szq XLq))])) _
  refine XS.iload X8.here hx rfl (hb hby at_304) rfl ?_
  show Steps p.tables e below (T8.setTop (mkF m 306 #[.val (.int xk), .val (.int xs), .val (.int xn), .val (.int xa), .val (.int xb), .val (.int xc), .val (.int k), .val (.int room), .val (.int count), .val (.int d0), .val (.int d1), .val (.int d2), .val (.int d3), .val (.int i0), .val (.int i1), .val (.int i2), .val (.int i3), .val (.ref ao), .val (.int (1 : Int32))] [(.int d0), (.int (4 : Int32)), (.int k), (.double (own_lim k szq XLq))])) _
  refine XS.iload X8.here hx rfl (hb hby at_306) rfl ?_
  show Steps p.tables e below (T8.setTop (mkF m 308 #[.val (.int xk), .val (.int xs), .val (.int xn), .val (.int xa), .val (.int xb), .val (.int xc), .val (.int k), .val (.int room), .val (.int count), .val (.int d0), .val (.int d1), .val (.int d2), .val (.int d3), .val (.int i0), .val (.int i1), .val (.int i2), .val (.int i3), .val (.ref ao), .val (.int (1 : Int32))] [(.int d1), (.int d0), (.int (4 : Int32)), (.int k), (.double (own_lim k szq XLq))])) _
  refine XS.iload X8.here hx rfl (hb hby at_308) rfl ?_
  show Steps p.tables e below (T8.setTop (mkF m 310 #[.val (.int xk), .val (.int xs), .val (.int xn), .val (.int xa), .val (.int xb), .val (.int xc), .val (.int k), .val (.int room), .val (.int count), .val (.int d0), .val (.int d1), .val (.int d2), .val (.int d3), .val (.int i0), .val (.int i1), .val (.int i2), .val (.int i3), .val (.ref ao), .val (.int (1 : Int32))] [(.int d2), (.int d1), (.int d0), (.int (4 : Int32)), (.int k), (.double (own_lim k szq XLq))])) _
  refine XS.iload X8.here hx rfl (hb hby at_310) rfl ?_
  show Steps p.tables e below (T8.setTop (mkF m 312 #[.val (.int xk), .val (.int xs), .val (.int xn), .val (.int xa), .val (.int xb), .val (.int xc), .val (.int k), .val (.int room), .val (.int count), .val (.int d0), .val (.int d1), .val (.int d2), .val (.int d3), .val (.int i0), .val (.int i1), .val (.int i2), .val (.int i3), .val (.ref ao), .val (.int (1 : Int32))] [(.int d3), (.int d2), (.int d1), (.int d0), (.int (4 : Int32)), (.int k), (.double (own_lim k szq XLq))])) _
  refine st9 _ ?_
  show Steps p.tables e below (T9.setTop (mkF m 315 #[.val (.int xk), .val (.int xs), .val (.int xn), .val (.int xa), .val (.int xb), .val (.int xc), .val (.int k), .val (.int room), .val (.int count), .val (.int d0), .val (.int d1), .val (.int d2), .val (.int d3), .val (.int i0), .val (.int i1), .val (.int i2), .val (.int i3), .val (.ref ao), .val (.int (1 : Int32))] [(.int (own_kth k (4 : Int32) d0 d1 d2 d3)), (.double (own_lim k szq XLq))])) _
  refine st10 _ ?_
  show Steps p.tables e below (T10.setTop (mkF m 318 #[.val (.int xk), .val (.int xs), .val (.int xn), .val (.int xa), .val (.int xb), .val (.int xc), .val (.int k), .val (.int room), .val (.int count), .val (.int d0), .val (.int d1), .val (.int d2), .val (.int d3), .val (.int i0), .val (.int i1), .val (.int i2), .val (.int i3), .val (.ref ao), .val (.int (1 : Int32))] [(.int (1 : Int32))])) _
  refine XS.ifNo X10.here hx rfl (hb hby at_318) rfl ((if0 _ _).trans (feq hc318).1) ?_
  show Steps p.tables e below (T10.setTop (mkF m 321 #[.val (.int xk), .val (.int xs), .val (.int xn), .val (.int xa), .val (.int xb), .val (.int xc), .val (.int k), .val (.int room), .val (.int count), .val (.int d0), .val (.int d1), .val (.int d2), .val (.int d3), .val (.int i0), .val (.int i1), .val (.int i2), .val (.int i3), .val (.ref ao), .val (.int (1 : Int32))] [])) _
  refine XS.iconst X10.here hx rfl (hb hby at_321) ?_
  show Steps p.tables e below (T10.setTop (mkF m 322 #[.val (.int xk), .val (.int xs), .val (.int xn), .val (.int xa), .val (.int xb), .val (.int xc), .val (.int k), .val (.int room), .val (.int count), .val (.int d0), .val (.int d1), .val (.int d2), .val (.int d3), .val (.int i0), .val (.int i1), .val (.int i2), .val (.int i3), .val (.ref ao), .val (.int (1 : Int32))] [(.int (1 : Int32))])) _
  refine XS.goto X10.here hx rfl (pc0 := 322) (pc' := 326) rfl (hb hby at_322) (by decide) (by decide) ?_
  show Steps p.tables e below (T10.setTop (mkF m 326 #[.val (.int xk), .val (.int xs), .val (.int xn), .val (.int xa), .val (.int xb), .val (.int xc), .val (.int k), .val (.int room), .val (.int count), .val (.int d0), .val (.int d1), .val (.int d2), .val (.int d3), .val (.int i0), .val (.int i1), .val (.int i2), .val (.int i3), .val (.ref ao), .val (.int (1 : Int32))] [(.int (1 : Int32))])) _
  refine XS.istore X10.here hx rfl (hb hby at_326) rfl (l' := #[.val (.int xk), .val (.int xs), .val (.int xn), .val (.int xa), .val (.int xb), .val (.int xc), .val (.int k), .val (.int room), .val (.int count), .val (.int d0), .val (.int d1), .val (.int d2), .val (.int d3), .val (.int i0), .val (.int i1), .val (.int i2), .val (.int i3), .val (.ref ao), .val (.int (1 : Int32))]) rfl ?_
  exact kt
set_option maxRecDepth 65536 in
set_option maxHeartbeats 40000000 in
theorem own_lZ {p : Program} {l : Launch} {e : Env} {s : State} {m : MethodId} {args : Array Value} {below : List Frame} {meth : Method} {c : Code} {T0 : State} {locs : List Loc} {Z : State} {a0 : Array Value} {h0 : Heap} {n0 : Nat} (xk : Int32) (xs : Int32) (xn : Int32) (xa : Int32) (xb : Int32) (xc : Int32) (k : Int32) (room : Int32) (count : Int32) (d0 : Int32) (d1 : Int32) (d2 : Int32) (d3 : Int32) (i0 : Int32) (i1 : Int32) (i2 : Int32) (i3 : Int32) (ao : Addr)
    (X0 : Stand p l e room_1 s m args below meth c T0 locs 11 64) (hx : p.tables.exec = Jvm.exec) (hZ : Z.Warmed39 s.vm) (hw : ∀ d ∈ tables_1, d.before a0 Z = true) (hby : c.code = code) (hml : c.maxLocals = 19) (hown : s.vm.findClass "com/example/triangulum/triangulum/search/ShortlistLimitPinLaw" = some m.cls) (e0 : T0.heap = h0) (N0 : Fr n0 locs) (Z0 : n0 ≤ h0.size) :
    ∃ (T' : State) (h' : Heap) (locs' : List Loc), Stand p l e room_1 s m args below meth c T' locs' 11 64 ∧ T'.heap = h' ∧ Fr n0 locs' ∧ h' = h0 ∧
      ∀ target, Steps p.tables e below (T'.setTop (mkF m 330 #[.val (.int xk), .val (.int xs), .val (.int xn), .val (.int xa), .val (.int xb), .val (.int xc), .val (.int k), .val (.int room), .val (.int count), .val (.int d0), .val (.int d1), .val (.int d2), .val (.int d3), .val (.int i0), .val (.int i1), .val (.int i2), .val (.int i3), .val (.ref ao), .val (.int (1 : Int32))] [(.int (1 : Int32))])) target → Steps p.tables e below (T0.setTop (mkF m 328 #[.val (.int xk), .val (.int xs), .val (.int xn), .val (.int xa), .val (.int xb), .val (.int xc), .val (.int k), .val (.int room), .val (.int count), .val (.int d0), .val (.int d1), .val (.int d2), .val (.int d3), .val (.int i0), .val (.int i1), .val (.int i2), .val (.int i3), .val (.ref ao), .val (.int (1 : Int32))] [])) target := by
  -- 3. LAWS

  refine ⟨T0, _, _, X0, e0, N0, rfl, fun target kt => ?_⟩
  -- 4. STEPS
  show Steps p.tables e below (T0.setTop (mkF m 328 #[.val (.int xk), .val (.int xs), .val (.int xn), .val (.int xa), .val (.int xb), .val (.int xc), .val (.int k), .val (.int room), .val (.int count), .val (.int d0), .val (.int d1), .val (.int d2), .val (.int d3), .val (.int i0), .val (.int i1), .val (.int i2), .val (.int i3), .val (.ref ao), .val (.int (1 : Int32))] [])) _
  refine XS.iload X0.here hx rfl (hb hby at_328) rfl ?_
  exact kt
theorem own_lS4 {p : Program} {l : Launch} {e : Env} {s : State} {m : MethodId} {args : Array Value} {below : List Frame} {meth : Method} {c : Code} {T0 : State} {locs : List Loc} {Z : State} {a0 : Array Value} {h0 : Heap} {n0 : Nat} (xk xs xn xa xb xc k room count d0 d1 d2 d3 i0 i1 i2 i3 : Int32) (ao : Addr) (X0 : Stand p l e room_1 s m args below meth c T0 locs 9 52) (hx : p.tables.exec = Jvm.exec) (hZ : Z.Warmed39 s.vm) (hw : ∀ d ∈ tables_1, d.before a0 Z = true) (hby : c.code = code) (hml : c.maxLocals = 19) (hown : s.vm.findClass "com/example/triangulum/triangulum/search/ShortlistLimitPinLaw" = some m.cls) (e0 : T0.heap = h0) (N0 : Fr n0 locs) (Z0 : n0 ≤ h0.size) (hc : count < (4 : Int32)) :
    ∃ (T' : State) (locs' : List Loc), Stand p l e room_1 s m args below meth c T' locs' 11 64 ∧ Fr n0 locs' ∧ ∀ target, Steps p.tables e below (T'.setTop (mkF m 328 #[.val (.int xk), .val (.int xs), .val (.int xn), .val (.int xa), .val (.int xb), .val (.int xc), .val (.int k), .val (.int room), .val (.int count), .val (.int d0), .val (.int d1), .val (.int d2), .val (.int d3), .val (.int i0), .val (.int i1), .val (.int i2), .val (.int i3), .val (.ref ao), .val (.int (1 : Int32))] [])) target → Steps p.tables e below (T0.setTop (mkF m 275 #[.val (.int xk), .val (.int xs), .val (.int xn), .val (.int xa), .val (.int xb), .val (.int xc), .val (.int k), .val (.int room), .val (.int count), .val (.int d0), .val (.int d1), .val (.int d2), .val (.int d3), .val (.int i0), .val (.int i1), .val (.int i2), .val (.int i3), .val (.ref ao), .val (.int (1 : Int32))] [])) target := by
  obtain ⟨T1, h1, l1, X1, e1, N1, rfl, st1⟩ := own_lB4t xk xs xn xa xb xc k room count d0 d1 d2 d3 i0 i1 i2 i3 ao X0 hx hZ hw hby hml hown e0 N0 Z0 hc
  exact ⟨T1, l1, X1.more (by decide) (by decide), N1, st1⟩
theorem own_lS3 {p : Program} {l : Launch} {e : Env} {s : State} {m : MethodId} {args : Array Value} {below : List Frame} {meth : Method} {c : Code} {T0 : State} {locs : List Loc} {Z : State} {a0 : Array Value} {h0 : Heap} {n0 : Nat} (xk xs xn xa xb xc k room count d0 d1 d2 d3 i0 i1 i2 i3 : Int32) (ao : Addr) (X0 : Stand p l e room_1 s m args below meth c T0 locs 7 40) (hx : p.tables.exec = Jvm.exec) (hZ : Z.Warmed39 s.vm) (hw : ∀ d ∈ tables_1, d.before a0 Z = true) (hby : c.code = code) (hml : c.maxLocals = 19) (hown : s.vm.findClass "com/example/triangulum/triangulum/search/ShortlistLimitPinLaw" = some m.cls) (e0 : T0.heap = h0) (N0 : Fr n0 locs) (Z0 : n0 ≤ h0.size) (hc : count < (3 : Int32)) :
    ∃ (T' : State) (locs' : List Loc), Stand p l e room_1 s m args below meth c T' locs' 11 64 ∧ Fr n0 locs' ∧ ∀ target, Steps p.tables e below (T'.setTop (mkF m 328 #[.val (.int xk), .val (.int xs), .val (.int xn), .val (.int xa), .val (.int xb), .val (.int xc), .val (.int k), .val (.int room), .val (.int count), .val (.int d0), .val (.int d1), .val (.int d2), .val (.int d3), .val (.int i0), .val (.int i1), .val (.int i2), .val (.int i3), .val (.ref ao), .val (.int (1 : Int32))] [])) target → Steps p.tables e below (T0.setTop (mkF m 222 #[.val (.int xk), .val (.int xs), .val (.int xn), .val (.int xa), .val (.int xb), .val (.int xc), .val (.int k), .val (.int room), .val (.int count), .val (.int d0), .val (.int d1), .val (.int d2), .val (.int d3), .val (.int i0), .val (.int i1), .val (.int i2), .val (.int i3), .val (.ref ao), .val (.int (1 : Int32))] [])) target := by
  obtain ⟨T1, h1, l1, X1, e1, N1, rfl, st1⟩ := own_lB3t xk xs xn xa xb xc k room count d0 d1 d2 d3 i0 i1 i2 i3 ao X0 hx hZ hw hby hml hown e0 N0 Z0 hc
  obtain ⟨T2, l2, X2, N2, st2⟩ := own_lS4 xk xs xn xa xb xc k room count d0 d1 d2 d3 i0 i1 i2 i3 ao (X1.more (cells' := 9) (slots' := 52) (by decide) (by decide)) hx hZ hw hby hml hown e1 N1 Z0 (own_lt hc (by decide))
  exact ⟨T2, l2, X2, N2, fun t k => st1 t (st2 t k)⟩
theorem own_lS2 {p : Program} {l : Launch} {e : Env} {s : State} {m : MethodId} {args : Array Value} {below : List Frame} {meth : Method} {c : Code} {T0 : State} {locs : List Loc} {Z : State} {a0 : Array Value} {h0 : Heap} {n0 : Nat} (xk xs xn xa xb xc k room count d0 d1 d2 d3 i0 i1 i2 i3 : Int32) (ao : Addr) (X0 : Stand p l e room_1 s m args below meth c T0 locs 5 28) (hx : p.tables.exec = Jvm.exec) (hZ : Z.Warmed39 s.vm) (hw : ∀ d ∈ tables_1, d.before a0 Z = true) (hby : c.code = code) (hml : c.maxLocals = 19) (hown : s.vm.findClass "com/example/triangulum/triangulum/search/ShortlistLimitPinLaw" = some m.cls) (e0 : T0.heap = h0) (N0 : Fr n0 locs) (Z0 : n0 ≤ h0.size) (hc : count < (2 : Int32)) :
    ∃ (T' : State) (locs' : List Loc), Stand p l e room_1 s m args below meth c T' locs' 11 64 ∧ Fr n0 locs' ∧ ∀ target, Steps p.tables e below (T'.setTop (mkF m 328 #[.val (.int xk), .val (.int xs), .val (.int xn), .val (.int xa), .val (.int xb), .val (.int xc), .val (.int k), .val (.int room), .val (.int count), .val (.int d0), .val (.int d1), .val (.int d2), .val (.int d3), .val (.int i0), .val (.int i1), .val (.int i2), .val (.int i3), .val (.ref ao), .val (.int (1 : Int32))] [])) target → Steps p.tables e below (T0.setTop (mkF m 169 #[.val (.int xk), .val (.int xs), .val (.int xn), .val (.int xa), .val (.int xb), .val (.int xc), .val (.int k), .val (.int room), .val (.int count), .val (.int d0), .val (.int d1), .val (.int d2), .val (.int d3), .val (.int i0), .val (.int i1), .val (.int i2), .val (.int i3), .val (.ref ao), .val (.int (1 : Int32))] [])) target := by
  obtain ⟨T1, h1, l1, X1, e1, N1, rfl, st1⟩ := own_lB2t xk xs xn xa xb xc k room count d0 d1 d2 d3 i0 i1 i2 i3 ao X0 hx hZ hw hby hml hown e0 N0 Z0 hc
  obtain ⟨T2, l2, X2, N2, st2⟩ := own_lS3 xk xs xn xa xb xc k room count d0 d1 d2 d3 i0 i1 i2 i3 ao (X1.more (cells' := 7) (slots' := 40) (by decide) (by decide)) hx hZ hw hby hml hown e1 N1 Z0 (own_lt hc (by decide))
  exact ⟨T2, l2, X2, N2, fun t k => st1 t (st2 t k)⟩
theorem own_lS1 {p : Program} {l : Launch} {e : Env} {s : State} {m : MethodId} {args : Array Value} {below : List Frame} {meth : Method} {c : Code} {T0 : State} {locs : List Loc} {Z : State} {a0 : Array Value} {h0 : Heap} {n0 : Nat} (xk xs xn xa xb xc k room count d0 d1 d2 d3 i0 i1 i2 i3 : Int32) (ao : Addr) (X0 : Stand p l e room_1 s m args below meth c T0 locs 3 16) (hx : p.tables.exec = Jvm.exec) (hZ : Z.Warmed39 s.vm) (hw : ∀ d ∈ tables_1, d.before a0 Z = true) (hby : c.code = code) (hml : c.maxLocals = 19) (hown : s.vm.findClass "com/example/triangulum/triangulum/search/ShortlistLimitPinLaw" = some m.cls) (e0 : T0.heap = h0) (N0 : Fr n0 locs) (Z0 : n0 ≤ h0.size) (hc : count < (1 : Int32)) :
    ∃ (T' : State) (locs' : List Loc), Stand p l e room_1 s m args below meth c T' locs' 11 64 ∧ Fr n0 locs' ∧ ∀ target, Steps p.tables e below (T'.setTop (mkF m 328 #[.val (.int xk), .val (.int xs), .val (.int xn), .val (.int xa), .val (.int xb), .val (.int xc), .val (.int k), .val (.int room), .val (.int count), .val (.int d0), .val (.int d1), .val (.int d2), .val (.int d3), .val (.int i0), .val (.int i1), .val (.int i2), .val (.int i3), .val (.ref ao), .val (.int (1 : Int32))] [])) target → Steps p.tables e below (T0.setTop (mkF m 116 #[.val (.int xk), .val (.int xs), .val (.int xn), .val (.int xa), .val (.int xb), .val (.int xc), .val (.int k), .val (.int room), .val (.int count), .val (.int d0), .val (.int d1), .val (.int d2), .val (.int d3), .val (.int i0), .val (.int i1), .val (.int i2), .val (.int i3), .val (.ref ao), .val (.int (1 : Int32))] [])) target := by
  obtain ⟨T1, h1, l1, X1, e1, N1, rfl, st1⟩ := own_lB1t xk xs xn xa xb xc k room count d0 d1 d2 d3 i0 i1 i2 i3 ao X0 hx hZ hw hby hml hown e0 N0 Z0 hc
  obtain ⟨T2, l2, X2, N2, st2⟩ := own_lS2 xk xs xn xa xb xc k room count d0 d1 d2 d3 i0 i1 i2 i3 ao (X1.more (cells' := 5) (slots' := 28) (by decide) (by decide)) hx hZ hw hby hml hown e1 N1 Z0 (own_lt hc (by decide))
  exact ⟨T2, l2, X2, N2, fun t k => st1 t (st2 t k)⟩
set_option maxRecDepth 65536 in
set_option maxHeartbeats 40000000 in
theorem own_law1 {p : Program} {l : Launch} {e : Env} {s : State} {m : MethodId} {args : Array Value} {below : List Frame} {meth : Method} {c : Code} {T0 : State} {locs : List Loc} {Z : State} {a0 : Array Value} {h0 : Heap} {n0 : Nat} (xk xs xn xa xb xc room count d0 d1 d2 d3 i0 i1 i2 i3 : Int32) (ao : Addr) (ad ai : Addr) (z : Int32) (X0 : Stand p l e room_1 s m args below meth c T0 locs 3 16) (hx : p.tables.exec = Jvm.exec) (hZ : Z.Warmed39 s.vm) (hw : ∀ d ∈ tables_1, d.before a0 Z = true) (hby : c.code = code) (hml : c.maxLocals = 19) (hown : s.vm.findClass "com/example/triangulum/triangulum/search/ShortlistLimitPinLaw" = some m.cls) (e0 : T0.heap = h0) (N0 : Fr n0 locs) (Z0 : n0 ≤ h0.size) (S0 : own_S Z n0 h0 ao ad ai (1 : Int32) (0 : Int32) z (own_L 0 0 0 0) (own_L 0 0 0 0)) (hz1 : ¬ z < (0 : Int32)) (hz6 : ¬ (6 : Int32) < z) (b0 : own_b i0) (c0 : own_c d0) (b1 : own_b i1) (c1 : own_c d1) (b2 : own_b i2) (c2 : own_c d2) (b3 : own_b i3) (c3 : own_c d3) :
    ∃ (T' : State) (locs' : List Loc), Stand p l e room_1 s m args below meth c T' locs' 11 64 ∧ Fr n0 locs' ∧ ∀ target, Steps p.tables e below (T'.setTop (mkF m 328 #[.val (.int xk), .val (.int xs), .val (.int xn), .val (.int xa), .val (.int xb), .val (.int xc), .val (.int (1 : Int32)), .val (.int room), .val (.int count), .val (.int d0), .val (.int d1), .val (.int d2), .val (.int d3), .val (.int i0), .val (.int i1), .val (.int i2), .val (.int i3), .val (.ref ao), .val (.int (1 : Int32))] [])) target → Steps p.tables e below (T0.setTop (mkF m 116 #[.val (.int xk), .val (.int xs), .val (.int xn), .val (.int xa), .val (.int xb), .val (.int xc), .val (.int (1 : Int32)), .val (.int room), .val (.int count), .val (.int d0), .val (.int d1), .val (.int d2), .val (.int d3), .val (.int i0), .val (.int i1), .val (.int i2), .val (.int i3), .val (.ref ao), .val (.int (1 : Int32))] [])) target := by
  by_cases c1c : count < (1 : Int32)
  · obtain ⟨Tf, lf, Xf, Nf, stf⟩ := own_lS1 xk xs xn xa xb xc (1 : Int32) room count d0 d1 d2 d3 i0 i1 i2 i3 ao X0 hx hZ hw hby hml hown e0 N0 Z0 c1c
    exact ⟨Tf, lf, Xf, Nf, fun t k => (stf t k)⟩
  obtain ⟨T1, h1, l1, X1, e1, N1, ⟨ad1, ai1, z1, XL1, IL1, S1, y1, q1, R1⟩, st1⟩ := own_lB1f xk xs xn xa xb xc (1 : Int32) room count d0 d1 d2 d3 i0 i1 i2 i3 ao (fun h' => ∃ ad' ai' z' XL' IL', own_S Z n0 h' ao ad' ai' (1 : Int32) (1 : Int32) z' XL' IL' ∧ ¬ z' < (1 : Int32) ∧ ¬ (6 : Int32) < z' ∧ own_r0 d0 i0 XL' IL') X0 hx hZ hw hby hml hown e0 N0 Z0 c1c S0.1 (rm7_r0 l Z a0 hw [] ao i0 d0 ad ai (1 : Int32) z _ n0 Z0 S0 (by decide) hz1 hz6) (fun h' ⟨ad', ai', z', XL', IL', s', y', q', r'⟩ => ⟨ad', ai', _, z', XL', IL', s', fun _ => own_le2 (by decide) y', (by obtain ⟨rfl, rfl⟩ := r'; exact own_p11 b0 c0)⟩) (by decide) (by decide)
  have A1 : n0 ≤ h1.size := Nat.le_trans S1.2.2.2.2.2.2.2.1 (Nat.le_of_lt (Exa.lt S1.1))
  obtain ⟨rfl, rfl⟩ := R1
  by_cases c2c : count < (2 : Int32)
  · obtain ⟨Tf, lf, Xf, Nf, stf⟩ := own_lS2 xk xs xn xa xb xc (1 : Int32) room count d0 d1 d2 d3 i0 i1 i2 i3 ao X1 hx hZ hw hby hml hown e1 N1 A1 c2c
    exact ⟨Tf, lf, Xf, Nf, fun t k => (st1 t (stf t k))⟩
  obtain ⟨T2, h2, l2, X2, e2, N2, ⟨ad2, ai2, z2, XL2, IL2, S2, y2, q2, R2⟩, st2⟩ := own_lB2f xk xs xn xa xb xc (1 : Int32) room count d0 d1 d2 d3 i0 i1 i2 i3 ao (fun h' => ∃ ad' ai' z' XL' IL', own_S Z n0 h' ao ad' ai' (1 : Int32) (1 : Int32) z' XL' IL' ∧ ¬ z' < (1 : Int32) ∧ ¬ (6 : Int32) < z' ∧ own_s1 d1 i1 d0 i0 XL' IL') X1 hx hZ hw hby hml hown e1 N1 A1 c2c S1.1 (rm7_s1 l Z a0 hw [] ao i1 d1 ad1 ai1 (1 : Int32) z1 d0 i0 _ n0 A1 S1 (by decide) y1 q1) (fun h' ⟨ad', ai', z', XL', IL', s', y', q', r'⟩ => ⟨ad', ai', _, z', XL', IL', s', fun _ => own_le2 (by decide) y', own_p12 b0 c0 b1 c1 r'⟩) (by decide) (by decide)
  have A2 : n0 ≤ h2.size := Nat.le_trans S2.2.2.2.2.2.2.2.1 (Nat.le_of_lt (Exa.lt S2.1))
  obtain ⟨a20, f20, rfl, rfl⟩ := own_g1 R2
  by_cases c3c : count < (3 : Int32)
  · obtain ⟨Tf, lf, Xf, Nf, stf⟩ := own_lS3 xk xs xn xa xb xc (1 : Int32) room count d0 d1 d2 d3 i0 i1 i2 i3 ao X2 hx hZ hw hby hml hown e2 N2 A2 c3c
    exact ⟨Tf, lf, Xf, Nf, fun t k => (st1 t (st2 t (stf t k)))⟩
  obtain ⟨T3, h3, l3, X3, e3, N3, ⟨ad3, ai3, z3, XL3, IL3, S3, y3, q3, R3⟩, st3⟩ := own_lB3f xk xs xn xa xb xc (1 : Int32) room count d0 d1 d2 d3 i0 i1 i2 i3 ao (fun h' => ∃ ad' ai' z' XL' IL', own_S Z n0 h' ao ad' ai' (1 : Int32) (1 : Int32) z' XL' IL' ∧ ¬ z' < (1 : Int32) ∧ ¬ (6 : Int32) < z' ∧ own_s1 d2 i2 a20 f20 XL' IL') X2 hx hZ hw hby hml hown e2 N2 A2 c3c S2.1 (rm7_s1 l Z a0 hw [] ao i2 d2 ad2 ai2 (1 : Int32) z2 a20 f20 _ n0 A2 S2 (by decide) y2 q2) (fun h' ⟨ad', ai', z', XL', IL', s', y', q', r'⟩ => ⟨ad', ai', _, z', XL', IL', s', fun _ => own_le2 (by decide) y', own_p13 b0 c0 b1 c1 b2 c2 R2 r'⟩) (by decide) (by decide)
  have A3 : n0 ≤ h3.size := Nat.le_trans S3.2.2.2.2.2.2.2.1 (Nat.le_of_lt (Exa.lt S3.1))
  obtain ⟨a30, f30, rfl, rfl⟩ := own_g1 R3
  by_cases c4c : count < (4 : Int32)
  · obtain ⟨Tf, lf, Xf, Nf, stf⟩ := own_lS4 xk xs xn xa xb xc (1 : Int32) room count d0 d1 d2 d3 i0 i1 i2 i3 ao X3 hx hZ hw hby hml hown e3 N3 A3 c4c
    exact ⟨Tf, lf, Xf, Nf, fun t k => (st1 t (st2 t (st3 t (stf t k))))⟩
  obtain ⟨T4, h4, l4, X4, e4, N4, ⟨ad4, ai4, z4, XL4, IL4, S4, y4, q4, R4⟩, st4⟩ := own_lB4f xk xs xn xa xb xc (1 : Int32) room count d0 d1 d2 d3 i0 i1 i2 i3 ao (fun h' => ∃ ad' ai' z' XL' IL', own_S Z n0 h' ao ad' ai' (1 : Int32) (1 : Int32) z' XL' IL' ∧ ¬ z' < (1 : Int32) ∧ ¬ (6 : Int32) < z' ∧ own_s1 d3 i3 a30 f30 XL' IL') X3 hx hZ hw hby hml hown e3 N3 A3 c4c S3.1 (rm7_s1 l Z a0 hw [] ao i3 d3 ad3 ai3 (1 : Int32) z3 a30 f30 _ n0 A3 S3 (by decide) y3 q3) (fun h' ⟨ad', ai', z', XL', IL', s', y', q', r'⟩ => ⟨ad', ai', _, z', XL', IL', s', fun _ => own_le2 (by decide) y', own_p14 b0 c0 b1 c1 b2 c2 b3 c3 R2 R3 r'⟩) (by decide) (by decide)
  have A4 : n0 ≤ h4.size := Nat.le_trans S4.2.2.2.2.2.2.2.1 (Nat.le_of_lt (Exa.lt S4.1))
  exact ⟨T4, l4, X4, N4, fun t k => st1 t (st2 t (st3 t (st4 t k)))⟩
set_option maxRecDepth 65536 in
set_option maxHeartbeats 40000000 in
theorem own_law2 {p : Program} {l : Launch} {e : Env} {s : State} {m : MethodId} {args : Array Value} {below : List Frame} {meth : Method} {c : Code} {T0 : State} {locs : List Loc} {Z : State} {a0 : Array Value} {h0 : Heap} {n0 : Nat} (xk xs xn xa xb xc room count d0 d1 d2 d3 i0 i1 i2 i3 : Int32) (ao : Addr) (ad ai : Addr) (z : Int32) (X0 : Stand p l e room_1 s m args below meth c T0 locs 3 16) (hx : p.tables.exec = Jvm.exec) (hZ : Z.Warmed39 s.vm) (hw : ∀ d ∈ tables_1, d.before a0 Z = true) (hby : c.code = code) (hml : c.maxLocals = 19) (hown : s.vm.findClass "com/example/triangulum/triangulum/search/ShortlistLimitPinLaw" = some m.cls) (e0 : T0.heap = h0) (N0 : Fr n0 locs) (Z0 : n0 ≤ h0.size) (S0 : own_S Z n0 h0 ao ad ai (2 : Int32) (0 : Int32) z (own_L 0 0 0 0) (own_L 0 0 0 0)) (hz1 : ¬ z < (0 : Int32)) (hz6 : ¬ (6 : Int32) < z) (b0 : own_b i0) (c0 : own_c d0) (b1 : own_b i1) (c1 : own_c d1) (b2 : own_b i2) (c2 : own_c d2) (b3 : own_b i3) (c3 : own_c d3) :
    ∃ (T' : State) (locs' : List Loc), Stand p l e room_1 s m args below meth c T' locs' 11 64 ∧ Fr n0 locs' ∧ ∀ target, Steps p.tables e below (T'.setTop (mkF m 328 #[.val (.int xk), .val (.int xs), .val (.int xn), .val (.int xa), .val (.int xb), .val (.int xc), .val (.int (2 : Int32)), .val (.int room), .val (.int count), .val (.int d0), .val (.int d1), .val (.int d2), .val (.int d3), .val (.int i0), .val (.int i1), .val (.int i2), .val (.int i3), .val (.ref ao), .val (.int (1 : Int32))] [])) target → Steps p.tables e below (T0.setTop (mkF m 116 #[.val (.int xk), .val (.int xs), .val (.int xn), .val (.int xa), .val (.int xb), .val (.int xc), .val (.int (2 : Int32)), .val (.int room), .val (.int count), .val (.int d0), .val (.int d1), .val (.int d2), .val (.int d3), .val (.int i0), .val (.int i1), .val (.int i2), .val (.int i3), .val (.ref ao), .val (.int (1 : Int32))] [])) target := by
  by_cases c1c : count < (1 : Int32)
  · obtain ⟨Tf, lf, Xf, Nf, stf⟩ := own_lS1 xk xs xn xa xb xc (2 : Int32) room count d0 d1 d2 d3 i0 i1 i2 i3 ao X0 hx hZ hw hby hml hown e0 N0 Z0 c1c
    exact ⟨Tf, lf, Xf, Nf, fun t k => (stf t k)⟩
  obtain ⟨T1, h1, l1, X1, e1, N1, ⟨ad1, ai1, z1, XL1, IL1, S1, y1, q1, R1⟩, st1⟩ := own_lB1f xk xs xn xa xb xc (2 : Int32) room count d0 d1 d2 d3 i0 i1 i2 i3 ao (fun h' => ∃ ad' ai' z' XL' IL', own_S Z n0 h' ao ad' ai' (2 : Int32) (1 : Int32) z' XL' IL' ∧ ¬ z' < (1 : Int32) ∧ ¬ (6 : Int32) < z' ∧ own_r0 d0 i0 XL' IL') X0 hx hZ hw hby hml hown e0 N0 Z0 c1c S0.1 (rm7_r0 l Z a0 hw [] ao i0 d0 ad ai (2 : Int32) z _ n0 Z0 S0 (by decide) hz1 hz6) (fun h' ⟨ad', ai', z', XL', IL', s', y', q', r'⟩ => ⟨ad', ai', _, z', XL', IL', s', fun _ => own_le2 (by decide) y', own_ok_inf (by decide) (by decide)⟩) (by decide) (by decide)
  have A1 : n0 ≤ h1.size := Nat.le_trans S1.2.2.2.2.2.2.2.1 (Nat.le_of_lt (Exa.lt S1.1))
  obtain ⟨rfl, rfl⟩ := R1
  by_cases c2c : count < (2 : Int32)
  · obtain ⟨Tf, lf, Xf, Nf, stf⟩ := own_lS2 xk xs xn xa xb xc (2 : Int32) room count d0 d1 d2 d3 i0 i1 i2 i3 ao X1 hx hZ hw hby hml hown e1 N1 A1 c2c
    exact ⟨Tf, lf, Xf, Nf, fun t k => (st1 t (stf t k))⟩
  obtain ⟨T2, h2, l2, X2, e2, N2, ⟨ad2, ai2, z2, XL2, IL2, S2, y2, q2, R2⟩, st2⟩ := own_lB2f xk xs xn xa xb xc (2 : Int32) room count d0 d1 d2 d3 i0 i1 i2 i3 ao (fun h' => ∃ ad' ai' z' XL' IL', own_S Z n0 h' ao ad' ai' (2 : Int32) (2 : Int32) z' XL' IL' ∧ ¬ z' < (2 : Int32) ∧ ¬ (6 : Int32) < z' ∧ own_r1 d1 i1 d0 i0 XL' IL') X1 hx hZ hw hby hml hown e1 N1 A1 c2c S1.1 (rm7_r1 l Z a0 hw [] ao i1 d1 ad1 ai1 (2 : Int32) z1 d0 i0 _ n0 A1 S1 (by decide) y1 q1) (fun h' ⟨ad', ai', z', XL', IL', s', y', q', r'⟩ => ⟨ad', ai', _, z', XL', IL', s', fun _ => own_le2 (by decide) y', own_p22 b0 c0 b1 c1 r'⟩) (by decide) (by decide)
  have A2 : n0 ≤ h2.size := Nat.le_trans S2.2.2.2.2.2.2.2.1 (Nat.le_of_lt (Exa.lt S2.1))
  obtain ⟨a20, a21, f20, f21, rfl, rfl⟩ := own_f1 R2
  by_cases c3c : count < (3 : Int32)
  · obtain ⟨Tf, lf, Xf, Nf, stf⟩ := own_lS3 xk xs xn xa xb xc (2 : Int32) room count d0 d1 d2 d3 i0 i1 i2 i3 ao X2 hx hZ hw hby hml hown e2 N2 A2 c3c
    exact ⟨Tf, lf, Xf, Nf, fun t k => (st1 t (st2 t (stf t k)))⟩
  obtain ⟨T3, h3, l3, X3, e3, N3, ⟨ad3, ai3, z3, XL3, IL3, S3, y3, q3, R3⟩, st3⟩ := own_lB3f xk xs xn xa xb xc (2 : Int32) room count d0 d1 d2 d3 i0 i1 i2 i3 ao (fun h' => ∃ ad' ai' z' XL' IL', own_S Z n0 h' ao ad' ai' (2 : Int32) (2 : Int32) z' XL' IL' ∧ ¬ z' < (2 : Int32) ∧ ¬ (6 : Int32) < z' ∧ own_s2 d2 i2 a20 f20 a21 f21 XL' IL') X2 hx hZ hw hby hml hown e2 N2 A2 c3c S2.1 (rm7_s2 l Z a0 hw [] ao i2 d2 ad2 ai2 (2 : Int32) z2 a20 f20 a21 f21 _ n0 A2 S2 (by decide) y2 q2) (fun h' ⟨ad', ai', z', XL', IL', s', y', q', r'⟩ => ⟨ad', ai', _, z', XL', IL', s', fun _ => own_le2 (by decide) y', own_p23 b0 c0 b1 c1 b2 c2 R2 r'⟩) (by decide) (by decide)
  have A3 : n0 ≤ h3.size := Nat.le_trans S3.2.2.2.2.2.2.2.1 (Nat.le_of_lt (Exa.lt S3.1))
  obtain ⟨a30, a31, f30, f31, rfl, rfl⟩ := own_g2 R3
  by_cases c4c : count < (4 : Int32)
  · obtain ⟨Tf, lf, Xf, Nf, stf⟩ := own_lS4 xk xs xn xa xb xc (2 : Int32) room count d0 d1 d2 d3 i0 i1 i2 i3 ao X3 hx hZ hw hby hml hown e3 N3 A3 c4c
    exact ⟨Tf, lf, Xf, Nf, fun t k => (st1 t (st2 t (st3 t (stf t k))))⟩
  obtain ⟨T4, h4, l4, X4, e4, N4, ⟨ad4, ai4, z4, XL4, IL4, S4, y4, q4, R4⟩, st4⟩ := own_lB4f xk xs xn xa xb xc (2 : Int32) room count d0 d1 d2 d3 i0 i1 i2 i3 ao (fun h' => ∃ ad' ai' z' XL' IL', own_S Z n0 h' ao ad' ai' (2 : Int32) (2 : Int32) z' XL' IL' ∧ ¬ z' < (2 : Int32) ∧ ¬ (6 : Int32) < z' ∧ own_s2 d3 i3 a30 f30 a31 f31 XL' IL') X3 hx hZ hw hby hml hown e3 N3 A3 c4c S3.1 (rm7_s2 l Z a0 hw [] ao i3 d3 ad3 ai3 (2 : Int32) z3 a30 f30 a31 f31 _ n0 A3 S3 (by decide) y3 q3) (fun h' ⟨ad', ai', z', XL', IL', s', y', q', r'⟩ => ⟨ad', ai', _, z', XL', IL', s', fun _ => own_le2 (by decide) y', own_p24 b0 c0 b1 c1 b2 c2 b3 c3 R2 R3 r'⟩) (by decide) (by decide)
  have A4 : n0 ≤ h4.size := Nat.le_trans S4.2.2.2.2.2.2.2.1 (Nat.le_of_lt (Exa.lt S4.1))
  exact ⟨T4, l4, X4, N4, fun t k => st1 t (st2 t (st3 t (st4 t k)))⟩
set_option maxRecDepth 65536 in
set_option maxHeartbeats 40000000 in
theorem own_law3 {p : Program} {l : Launch} {e : Env} {s : State} {m : MethodId} {args : Array Value} {below : List Frame} {meth : Method} {c : Code} {T0 : State} {locs : List Loc} {Z : State} {a0 : Array Value} {h0 : Heap} {n0 : Nat} (xk xs xn xa xb xc room count d0 d1 d2 d3 i0 i1 i2 i3 : Int32) (ao : Addr) (ad ai : Addr) (z : Int32) (X0 : Stand p l e room_1 s m args below meth c T0 locs 3 16) (hx : p.tables.exec = Jvm.exec) (hZ : Z.Warmed39 s.vm) (hw : ∀ d ∈ tables_1, d.before a0 Z = true) (hby : c.code = code) (hml : c.maxLocals = 19) (hown : s.vm.findClass "com/example/triangulum/triangulum/search/ShortlistLimitPinLaw" = some m.cls) (e0 : T0.heap = h0) (N0 : Fr n0 locs) (Z0 : n0 ≤ h0.size) (S0 : own_S Z n0 h0 ao ad ai (3 : Int32) (0 : Int32) z (own_L 0 0 0 0) (own_L 0 0 0 0)) (hz1 : ¬ z < (0 : Int32)) (hz6 : ¬ (6 : Int32) < z) (b0 : own_b i0) (c0 : own_c d0) (b1 : own_b i1) (c1 : own_c d1) (b2 : own_b i2) (c2 : own_c d2) (b3 : own_b i3) (c3 : own_c d3) :
    ∃ (T' : State) (locs' : List Loc), Stand p l e room_1 s m args below meth c T' locs' 11 64 ∧ Fr n0 locs' ∧ ∀ target, Steps p.tables e below (T'.setTop (mkF m 328 #[.val (.int xk), .val (.int xs), .val (.int xn), .val (.int xa), .val (.int xb), .val (.int xc), .val (.int (3 : Int32)), .val (.int room), .val (.int count), .val (.int d0), .val (.int d1), .val (.int d2), .val (.int d3), .val (.int i0), .val (.int i1), .val (.int i2), .val (.int i3), .val (.ref ao), .val (.int (1 : Int32))] [])) target → Steps p.tables e below (T0.setTop (mkF m 116 #[.val (.int xk), .val (.int xs), .val (.int xn), .val (.int xa), .val (.int xb), .val (.int xc), .val (.int (3 : Int32)), .val (.int room), .val (.int count), .val (.int d0), .val (.int d1), .val (.int d2), .val (.int d3), .val (.int i0), .val (.int i1), .val (.int i2), .val (.int i3), .val (.ref ao), .val (.int (1 : Int32))] [])) target := by
  by_cases c1c : count < (1 : Int32)
  · obtain ⟨Tf, lf, Xf, Nf, stf⟩ := own_lS1 xk xs xn xa xb xc (3 : Int32) room count d0 d1 d2 d3 i0 i1 i2 i3 ao X0 hx hZ hw hby hml hown e0 N0 Z0 c1c
    exact ⟨Tf, lf, Xf, Nf, fun t k => (stf t k)⟩
  obtain ⟨T1, h1, l1, X1, e1, N1, ⟨ad1, ai1, z1, XL1, IL1, S1, y1, q1, R1⟩, st1⟩ := own_lB1f xk xs xn xa xb xc (3 : Int32) room count d0 d1 d2 d3 i0 i1 i2 i3 ao (fun h' => ∃ ad' ai' z' XL' IL', own_S Z n0 h' ao ad' ai' (3 : Int32) (1 : Int32) z' XL' IL' ∧ ¬ z' < (1 : Int32) ∧ ¬ (6 : Int32) < z' ∧ own_r0 d0 i0 XL' IL') X0 hx hZ hw hby hml hown e0 N0 Z0 c1c S0.1 (rm7_r0 l Z a0 hw [] ao i0 d0 ad ai (3 : Int32) z _ n0 Z0 S0 (by decide) hz1 hz6) (fun h' ⟨ad', ai', z', XL', IL', s', y', q', r'⟩ => ⟨ad', ai', _, z', XL', IL', s', fun _ => own_le2 (by decide) y', own_ok_inf (by decide) (by decide)⟩) (by decide) (by decide)
  have A1 : n0 ≤ h1.size := Nat.le_trans S1.2.2.2.2.2.2.2.1 (Nat.le_of_lt (Exa.lt S1.1))
  obtain ⟨rfl, rfl⟩ := R1
  by_cases c2c : count < (2 : Int32)
  · obtain ⟨Tf, lf, Xf, Nf, stf⟩ := own_lS2 xk xs xn xa xb xc (3 : Int32) room count d0 d1 d2 d3 i0 i1 i2 i3 ao X1 hx hZ hw hby hml hown e1 N1 A1 c2c
    exact ⟨Tf, lf, Xf, Nf, fun t k => (st1 t (stf t k))⟩
  obtain ⟨T2, h2, l2, X2, e2, N2, ⟨ad2, ai2, z2, XL2, IL2, S2, y2, q2, R2⟩, st2⟩ := own_lB2f xk xs xn xa xb xc (3 : Int32) room count d0 d1 d2 d3 i0 i1 i2 i3 ao (fun h' => ∃ ad' ai' z' XL' IL', own_S Z n0 h' ao ad' ai' (3 : Int32) (2 : Int32) z' XL' IL' ∧ ¬ z' < (2 : Int32) ∧ ¬ (6 : Int32) < z' ∧ own_r1 d1 i1 d0 i0 XL' IL') X1 hx hZ hw hby hml hown e1 N1 A1 c2c S1.1 (rm7_r1 l Z a0 hw [] ao i1 d1 ad1 ai1 (3 : Int32) z1 d0 i0 _ n0 A1 S1 (by decide) y1 q1) (fun h' ⟨ad', ai', z', XL', IL', s', y', q', r'⟩ => ⟨ad', ai', _, z', XL', IL', s', fun _ => own_le2 (by decide) y', own_ok_inf (by decide) (by decide)⟩) (by decide) (by decide)
  have A2 : n0 ≤ h2.size := Nat.le_trans S2.2.2.2.2.2.2.2.1 (Nat.le_of_lt (Exa.lt S2.1))
  obtain ⟨a20, a21, f20, f21, rfl, rfl⟩ := own_f1 R2
  by_cases c3c : count < (3 : Int32)
  · obtain ⟨Tf, lf, Xf, Nf, stf⟩ := own_lS3 xk xs xn xa xb xc (3 : Int32) room count d0 d1 d2 d3 i0 i1 i2 i3 ao X2 hx hZ hw hby hml hown e2 N2 A2 c3c
    exact ⟨Tf, lf, Xf, Nf, fun t k => (st1 t (st2 t (stf t k)))⟩
  obtain ⟨T3, h3, l3, X3, e3, N3, ⟨ad3, ai3, z3, XL3, IL3, S3, y3, q3, R3⟩, st3⟩ := own_lB3f xk xs xn xa xb xc (3 : Int32) room count d0 d1 d2 d3 i0 i1 i2 i3 ao (fun h' => ∃ ad' ai' z' XL' IL', own_S Z n0 h' ao ad' ai' (3 : Int32) (3 : Int32) z' XL' IL' ∧ ¬ z' < (3 : Int32) ∧ ¬ (6 : Int32) < z' ∧ own_r2 d2 i2 a20 f20 a21 f21 XL' IL') X2 hx hZ hw hby hml hown e2 N2 A2 c3c S2.1 (rm7_r2 l Z a0 hw [] ao i2 d2 ad2 ai2 (3 : Int32) z2 a20 f20 a21 f21 _ n0 A2 S2 (by decide) y2 q2) (fun h' ⟨ad', ai', z', XL', IL', s', y', q', r'⟩ => ⟨ad', ai', _, z', XL', IL', s', fun _ => own_le2 (by decide) y', own_p33 b0 c0 b1 c1 b2 c2 R2 r'⟩) (by decide) (by decide)
  have A3 : n0 ≤ h3.size := Nat.le_trans S3.2.2.2.2.2.2.2.1 (Nat.le_of_lt (Exa.lt S3.1))
  obtain ⟨a30, a31, a32, f30, f31, f32, rfl, rfl⟩ := own_f2 R3
  by_cases c4c : count < (4 : Int32)
  · obtain ⟨Tf, lf, Xf, Nf, stf⟩ := own_lS4 xk xs xn xa xb xc (3 : Int32) room count d0 d1 d2 d3 i0 i1 i2 i3 ao X3 hx hZ hw hby hml hown e3 N3 A3 c4c
    exact ⟨Tf, lf, Xf, Nf, fun t k => (st1 t (st2 t (st3 t (stf t k))))⟩
  obtain ⟨T4, h4, l4, X4, e4, N4, ⟨ad4, ai4, z4, XL4, IL4, S4, y4, q4, R4⟩, st4⟩ := own_lB4f xk xs xn xa xb xc (3 : Int32) room count d0 d1 d2 d3 i0 i1 i2 i3 ao (fun h' => ∃ ad' ai' z' XL' IL', own_S Z n0 h' ao ad' ai' (3 : Int32) (3 : Int32) z' XL' IL' ∧ ¬ z' < (3 : Int32) ∧ ¬ (6 : Int32) < z' ∧ own_s3 d3 i3 a30 f30 a31 f31 a32 f32 XL' IL') X3 hx hZ hw hby hml hown e3 N3 A3 c4c S3.1 (rm7_s3 l Z a0 hw [] ao i3 d3 ad3 ai3 (3 : Int32) z3 a30 f30 a31 f31 a32 f32 _ n0 A3 S3 (by decide) y3 q3) (fun h' ⟨ad', ai', z', XL', IL', s', y', q', r'⟩ => ⟨ad', ai', _, z', XL', IL', s', fun _ => own_le2 (by decide) y', own_p34 b0 c0 b1 c1 b2 c2 b3 c3 R2 R3 r'⟩) (by decide) (by decide)
  have A4 : n0 ≤ h4.size := Nat.le_trans S4.2.2.2.2.2.2.2.1 (Nat.le_of_lt (Exa.lt S4.1))
  exact ⟨T4, l4, X4, N4, fun t k => st1 t (st2 t (st3 t (st4 t k)))⟩
set_option maxRecDepth 65536 in
set_option maxHeartbeats 40000000 in
theorem own_law4 {p : Program} {l : Launch} {e : Env} {s : State} {m : MethodId} {args : Array Value} {below : List Frame} {meth : Method} {c : Code} {T0 : State} {locs : List Loc} {Z : State} {a0 : Array Value} {h0 : Heap} {n0 : Nat} (xk xs xn xa xb xc room count d0 d1 d2 d3 i0 i1 i2 i3 : Int32) (ao : Addr) (ad ai : Addr) (z : Int32) (X0 : Stand p l e room_1 s m args below meth c T0 locs 3 16) (hx : p.tables.exec = Jvm.exec) (hZ : Z.Warmed39 s.vm) (hw : ∀ d ∈ tables_1, d.before a0 Z = true) (hby : c.code = code) (hml : c.maxLocals = 19) (hown : s.vm.findClass "com/example/triangulum/triangulum/search/ShortlistLimitPinLaw" = some m.cls) (e0 : T0.heap = h0) (N0 : Fr n0 locs) (Z0 : n0 ≤ h0.size) (S0 : own_S Z n0 h0 ao ad ai (4 : Int32) (0 : Int32) z (own_L 0 0 0 0) (own_L 0 0 0 0)) (hz1 : ¬ z < (0 : Int32)) (hz6 : ¬ (6 : Int32) < z) (b0 : own_b i0) (c0 : own_c d0) (b1 : own_b i1) (c1 : own_c d1) (b2 : own_b i2) (c2 : own_c d2) (b3 : own_b i3) (c3 : own_c d3) :
    ∃ (T' : State) (locs' : List Loc), Stand p l e room_1 s m args below meth c T' locs' 11 64 ∧ Fr n0 locs' ∧ ∀ target, Steps p.tables e below (T'.setTop (mkF m 328 #[.val (.int xk), .val (.int xs), .val (.int xn), .val (.int xa), .val (.int xb), .val (.int xc), .val (.int (4 : Int32)), .val (.int room), .val (.int count), .val (.int d0), .val (.int d1), .val (.int d2), .val (.int d3), .val (.int i0), .val (.int i1), .val (.int i2), .val (.int i3), .val (.ref ao), .val (.int (1 : Int32))] [])) target → Steps p.tables e below (T0.setTop (mkF m 116 #[.val (.int xk), .val (.int xs), .val (.int xn), .val (.int xa), .val (.int xb), .val (.int xc), .val (.int (4 : Int32)), .val (.int room), .val (.int count), .val (.int d0), .val (.int d1), .val (.int d2), .val (.int d3), .val (.int i0), .val (.int i1), .val (.int i2), .val (.int i3), .val (.ref ao), .val (.int (1 : Int32))] [])) target := by
  by_cases c1c : count < (1 : Int32)
  · obtain ⟨Tf, lf, Xf, Nf, stf⟩ := own_lS1 xk xs xn xa xb xc (4 : Int32) room count d0 d1 d2 d3 i0 i1 i2 i3 ao X0 hx hZ hw hby hml hown e0 N0 Z0 c1c
    exact ⟨Tf, lf, Xf, Nf, fun t k => (stf t k)⟩
  obtain ⟨T1, h1, l1, X1, e1, N1, ⟨ad1, ai1, z1, XL1, IL1, S1, y1, q1, R1⟩, st1⟩ := own_lB1f xk xs xn xa xb xc (4 : Int32) room count d0 d1 d2 d3 i0 i1 i2 i3 ao (fun h' => ∃ ad' ai' z' XL' IL', own_S Z n0 h' ao ad' ai' (4 : Int32) (1 : Int32) z' XL' IL' ∧ ¬ z' < (1 : Int32) ∧ ¬ (6 : Int32) < z' ∧ own_r0 d0 i0 XL' IL') X0 hx hZ hw hby hml hown e0 N0 Z0 c1c S0.1 (rm7_r0 l Z a0 hw [] ao i0 d0 ad ai (4 : Int32) z _ n0 Z0 S0 (by decide) hz1 hz6) (fun h' ⟨ad', ai', z', XL', IL', s', y', q', r'⟩ => ⟨ad', ai', _, z', XL', IL', s', fun _ => own_le2 (by decide) y', own_ok_inf (by decide) (by decide)⟩) (by decide) (by decide)
  have A1 : n0 ≤ h1.size := Nat.le_trans S1.2.2.2.2.2.2.2.1 (Nat.le_of_lt (Exa.lt S1.1))
  obtain ⟨rfl, rfl⟩ := R1
  by_cases c2c : count < (2 : Int32)
  · obtain ⟨Tf, lf, Xf, Nf, stf⟩ := own_lS2 xk xs xn xa xb xc (4 : Int32) room count d0 d1 d2 d3 i0 i1 i2 i3 ao X1 hx hZ hw hby hml hown e1 N1 A1 c2c
    exact ⟨Tf, lf, Xf, Nf, fun t k => (st1 t (stf t k))⟩
  obtain ⟨T2, h2, l2, X2, e2, N2, ⟨ad2, ai2, z2, XL2, IL2, S2, y2, q2, R2⟩, st2⟩ := own_lB2f xk xs xn xa xb xc (4 : Int32) room count d0 d1 d2 d3 i0 i1 i2 i3 ao (fun h' => ∃ ad' ai' z' XL' IL', own_S Z n0 h' ao ad' ai' (4 : Int32) (2 : Int32) z' XL' IL' ∧ ¬ z' < (2 : Int32) ∧ ¬ (6 : Int32) < z' ∧ own_r1 d1 i1 d0 i0 XL' IL') X1 hx hZ hw hby hml hown e1 N1 A1 c2c S1.1 (rm7_r1 l Z a0 hw [] ao i1 d1 ad1 ai1 (4 : Int32) z1 d0 i0 _ n0 A1 S1 (by decide) y1 q1) (fun h' ⟨ad', ai', z', XL', IL', s', y', q', r'⟩ => ⟨ad', ai', _, z', XL', IL', s', fun _ => own_le2 (by decide) y', own_ok_inf (by decide) (by decide)⟩) (by decide) (by decide)
  have A2 : n0 ≤ h2.size := Nat.le_trans S2.2.2.2.2.2.2.2.1 (Nat.le_of_lt (Exa.lt S2.1))
  obtain ⟨a20, a21, f20, f21, rfl, rfl⟩ := own_f1 R2
  by_cases c3c : count < (3 : Int32)
  · obtain ⟨Tf, lf, Xf, Nf, stf⟩ := own_lS3 xk xs xn xa xb xc (4 : Int32) room count d0 d1 d2 d3 i0 i1 i2 i3 ao X2 hx hZ hw hby hml hown e2 N2 A2 c3c
    exact ⟨Tf, lf, Xf, Nf, fun t k => (st1 t (st2 t (stf t k)))⟩
  obtain ⟨T3, h3, l3, X3, e3, N3, ⟨ad3, ai3, z3, XL3, IL3, S3, y3, q3, R3⟩, st3⟩ := own_lB3f xk xs xn xa xb xc (4 : Int32) room count d0 d1 d2 d3 i0 i1 i2 i3 ao (fun h' => ∃ ad' ai' z' XL' IL', own_S Z n0 h' ao ad' ai' (4 : Int32) (3 : Int32) z' XL' IL' ∧ ¬ z' < (3 : Int32) ∧ ¬ (6 : Int32) < z' ∧ own_r2 d2 i2 a20 f20 a21 f21 XL' IL') X2 hx hZ hw hby hml hown e2 N2 A2 c3c S2.1 (rm7_r2 l Z a0 hw [] ao i2 d2 ad2 ai2 (4 : Int32) z2 a20 f20 a21 f21 _ n0 A2 S2 (by decide) y2 q2) (fun h' ⟨ad', ai', z', XL', IL', s', y', q', r'⟩ => ⟨ad', ai', _, z', XL', IL', s', fun _ => own_le2 (by decide) y', own_ok_inf (by decide) (by decide)⟩) (by decide) (by decide)
  have A3 : n0 ≤ h3.size := Nat.le_trans S3.2.2.2.2.2.2.2.1 (Nat.le_of_lt (Exa.lt S3.1))
  obtain ⟨a30, a31, a32, f30, f31, f32, rfl, rfl⟩ := own_f2 R3
  by_cases c4c : count < (4 : Int32)
  · obtain ⟨Tf, lf, Xf, Nf, stf⟩ := own_lS4 xk xs xn xa xb xc (4 : Int32) room count d0 d1 d2 d3 i0 i1 i2 i3 ao X3 hx hZ hw hby hml hown e3 N3 A3 c4c
    exact ⟨Tf, lf, Xf, Nf, fun t k => (st1 t (st2 t (st3 t (stf t k))))⟩
  obtain ⟨T4, h4, l4, X4, e4, N4, ⟨ad4, ai4, z4, XL4, IL4, S4, y4, q4, R4⟩, st4⟩ := own_lB4f xk xs xn xa xb xc (4 : Int32) room count d0 d1 d2 d3 i0 i1 i2 i3 ao (fun h' => ∃ ad' ai' z' XL' IL', own_S Z n0 h' ao ad' ai' (4 : Int32) (4 : Int32) z' XL' IL' ∧ ¬ z' < (4 : Int32) ∧ ¬ (6 : Int32) < z' ∧ own_r3 d3 i3 a30 f30 a31 f31 a32 f32 XL' IL') X3 hx hZ hw hby hml hown e3 N3 A3 c4c S3.1 (rm7_r3 l Z a0 hw [] ao i3 d3 ad3 ai3 (4 : Int32) z3 a30 f30 a31 f31 a32 f32 _ n0 A3 S3 (by decide) y3 q3) (fun h' ⟨ad', ai', z', XL', IL', s', y', q', r'⟩ => ⟨ad', ai', _, z', XL', IL', s', fun _ => own_le2 (by decide) y', own_p44 b0 c0 b1 c1 b2 c2 b3 c3 R2 R3 r'⟩) (by decide) (by decide)
  have A4 : n0 ≤ h4.size := Nat.le_trans S4.2.2.2.2.2.2.2.1 (Nat.le_of_lt (Exa.lt S4.1))
  exact ⟨T4, l4, X4, N4, fun t k => st1 t (st2 t (st3 t (st4 t k)))⟩
theorem own_andm (x m : Int32) (hm : 0 ≤ m.toInt) : 0 ≤ (x &&& m).toInt ∧ (x &&& m).toInt ≤ m.toInt := by
  have h1 : 0 ≤ (x &&& m).toInt := (c_andS x m).2.2 hm
  refine ⟨h1, ?_⟩
  have nn : ∀ y : Int32, 0 ≤ y.toInt → y.toInt = (y.toBitVec.toNat : Int) := fun y hy => by
    have e : y.toInt = y.toBitVec.toInt := rfl
    rw [e] at hy ⊢
    have l := y.toBitVec.isLt
    rw [BitVec.toInt_eq_toNat_cond] at hy ⊢
    split at hy
    · rename_i q; rw [if_pos q]
    · omega
  have e : (x &&& m).toBitVec.toNat ≤ m.toBitVec.toNat := by
    rw [Int32.toBitVec_and, BitVec.toNat_and]
    exact Nat.and_le_right
  rw [nn _ h1, nn _ hm]
  omega
theorem own_and7 (x : Int32) : own_c (x &&& (7 : Int32)) := own_andm x 7 (by decide)
theorem own_and3 (x : Int32) : own_b (x &&& (3 : Int32)) := own_andm x 3 (by decide)
theorem own_k14 (x : Int32) : (x &&& (3 : Int32)) + (1 : Int32) = 1 ∨ (x &&& (3 : Int32)) + (1 : Int32) = 2 ∨ (x &&& (3 : Int32)) + (1 : Int32) = 3 ∨ (x &&& (3 : Int32)) + (1 : Int32) = 4 := by
  have h := own_and3 x
  generalize x &&& (3 : Int32) = y at *
  have h' : 0 ≤ y.toInt ∧ y.toInt ≤ 3 := h
  have : y = 0 ∨ y = 1 ∨ y = 2 ∨ y = 3 := by
    simp only [← Int32.toInt_inj]
    rw [show (0 : Int32).toInt = 0 from rfl, show (1 : Int32).toInt = 1 from rfl, show (2 : Int32).toInt = 2 from rfl, show (3 : Int32).toInt = 3 from rfl]
    omega
  rcases this with rfl | rfl | rfl | rfl <;> decide
theorem own_min_b {k r : Int32} (hk : k = 1 ∨ k = 2 ∨ k = 3 ∨ k = 4) (hr : own_c r) : 0 ≤ (own_min k r).toInt ∧ (own_min k r).toInt ≤ 4 := by
  have h1 : 1 ≤ k.toInt ∧ k.toInt ≤ 4 := by rcases hk with rfl | rfl | rfl | rfl <;> decide
  obtain ⟨h2, h3⟩ := hr
  rcases own_cmpr k r with ⟨a, b, c⟩ | ⟨a, b, c⟩ <;> omega
theorem pn_0 : plainName "com/example/triangulum/triangulum/search/ShortlistLimitPinLaw" = true := by first | (simp [plainName, overriddenIn]; done) | decide +kernel
theorem ef_0 (m : MethodId) (xk xs xn xa xb xc : Int32) : entryFrame m #[(.int xk), (.int xs), (.int xn), (.int xa), (.int xb), (.int xc)] maxLocals = mkF m 0 #[.val (.int xk), .val (.int xs), .val (.int xn), .val (.int xa), .val (.int xb), .val (.int xc), .unset, .unset, .unset, .unset, .unset, .unset, .unset, .unset, .unset, .unset, .unset, .unset, .unset] [] := by first | (simp [entryFrame, mkF, argsToLocals, Value.category, maxLocals]; done) | rfl
set_option maxRecDepth 65536 in
set_option maxHeartbeats 40000000 in
theorem rm0 (l : Launch) (Z : State) (a0 : Array Value) (hw : ∀ d ∈ tables_1, d.before a0 Z = true) (ws : List Jvm.Cond) (xk xs xn xa xb xc : Int32) (h0 : Heap) (n0 : Nat) (Z0 : n0 ≤ h0.size) :
    MetFree l x (head1 (Jvm.Cond.code x code maxLocals ret :: ws) room_1) (fun a U => a = #[(.int xk), (.int xs), (.int xn), (.int xa), (.int xb), (.int xc)] ∧ Z.Warmed39 U.vm ∧ U.heap = h0) (fun _ _ _ _ _ => True) (fun _ U o U' => ∃ v L, o = .returned v ∧ (v = some (.int (1 : Int32)) ∧ Fr n0 L) ∧ FrameEnd U o U' L room_1.cells room_1.slots) := by
  refine MetFree.of_bodySF (plainFor_of_name pn_0) hisR ?_
  intro p e s m args below meth c s₁ Bd hml0 hP hK
  obtain ⟨rfl, hZ, hh⟩ := hP
  have hx := Bd.exec
  have hby := Bd.bytes
  have hml : c.maxLocals = 19 := hml0
  have hown : s.vm.findClass "com/example/triangulum/triangulum/search/ShortlistLimitPinLaw" = some m.cls := findClass_of_methodNamed Bd.named
  have X0 : Stand p l e room_1 s m #[(.int xk), (.int xs), (.int xn), (.int xa), (.int xb), (.int xc)] below meth c s₁ [] 0 0 := Stand.of_body Bd
  have e0 : s₁.heap = h0 := by rw [← hh, Bd.state]; rfl
  have N0 := Fr.nil n0
  have pre0 : ∀ t, Steps p.tables e below (s₁.setTop (mkF m 0 #[.val (.int xk), .val (.int xs), .val (.int xn), .val (.int xa), .val (.int xb), .val (.int xc), .unset, .unset, .unset, .unset, .unset, .unset, .unset, .unset, .unset, .unset, .unset, .unset, .unset] [])) t → Steps p.tables e below (s₁.setTop (entryFrame m #[(.int xk), (.int xs), (.int xn), (.int xa), (.int xb), (.int xc)] maxLocals)) t := fun t k => castTop (ef_0 m xk xs xn xa xb xc) k
  have hk14 := own_k14 xk
  have hmb := own_min_b hk14 (own_and7 xs)
  have hk0 : (0 : Int32) < ((xk &&& (3 : Int32)) + (1 : Int32)) := by rcases hk14 with q | q | q | q <;> rw [q] <;> decide
  have hk1 : ¬ (((xk &&& (3 : Int32)) + (1 : Int32)) < (1 : Int32)) := by rcases hk14 with q | q | q | q <;> rw [q] <;> decide
  have hmn : ¬ (own_min ((xk &&& (3 : Int32)) + (1 : Int32)) (xs &&& (7 : Int32))) < 0 := fun q => by rw [Int32.lt_iff_toInt_lt, show (0 : Int32).toInt = 0 from rfl] at q; omega
  have hm6 : ¬ (6 : Int32) < (own_min ((xk &&& (3 : Int32)) + (1 : Int32)) (xs &&& (7 : Int32))) := fun q => by rw [Int32.lt_iff_toInt_lt, show (6 : Int32).toInt = 6 from rfl] at q; omega
  have hmc : (own_min ((xk &&& (3 : Int32)) + (1 : Int32)) (xs &&& (7 : Int32))).toNatClampNeg ≤ 6 := by simp only [Int32.toNatClampNeg]; omega
  obtain ⟨T1, h1, l1, ao, bd, bi, X1, e1, N1, S1, SS, st1⟩ := own_lA xk xs xn xa xb xc X0 hx hZ hw hby hml hown e0 N0 Z0 hk1 hmn hmc (fun q => absurd hk0 q) (own_ok_inf hk0 hk0)
  have A1 := Nat.le_trans Z0 S1
  have c0 : own_c (xa &&& (7 : Int32)) := own_and7 _
  have c1 : own_c (xb &&& (7 : Int32)) := own_and7 _
  have c2 : own_c (xc &&& (7 : Int32)) := own_and7 _
  have c3 : own_c (((xn.toUInt32 >>> ((3 : Int32) &&& 31).toUInt32).toInt32) &&& (7 : Int32)) := own_and7 _
  have b0 : own_b (((xk.toUInt32 >>> ((2 : Int32) &&& 31).toUInt32).toInt32) &&& (3 : Int32)) := own_and3 _
  have b1 : own_b (((xk.toUInt32 >>> ((4 : Int32) &&& 31).toUInt32).toInt32) &&& (3 : Int32)) := own_and3 _
  have b2 : own_b (((xk.toUInt32 >>> ((6 : Int32) &&& 31).toUInt32).toInt32) &&& (3 : Int32)) := own_and3 _
  have b3 : own_b (((xk.toUInt32 >>> ((8 : Int32) &&& 31).toUInt32).toInt32) &&& (3 : Int32)) := own_and3 _
  have hz1 : ¬ (own_min ((xk &&& (3 : Int32)) + (1 : Int32)) (xs &&& (7 : Int32))) < (0 : Int32) := hmn
  obtain ⟨k, g_k⟩ : ∃ t, ((xk &&& (3 : Int32)) + (1 : Int32)) = t := ⟨_, rfl⟩
  rw [g_k] at st1 SS hk14 hz1 hm6
  obtain ⟨room, g_room⟩ : ∃ t, (xs &&& (7 : Int32)) = t := ⟨_, rfl⟩
  rw [g_room] at st1 SS hz1 hm6
  obtain ⟨count, g_count⟩ : ∃ t, ((xn &&& (7 : Int32)) - (((xn &&& (7 : Int32)) / (5 : Int32)) * (5 : Int32))) = t := ⟨_, rfl⟩
  rw [g_count] at st1
  obtain ⟨d0, g_d0⟩ : ∃ t, (xa &&& (7 : Int32)) = t := ⟨_, rfl⟩
  rw [g_d0] at st1 c0
  obtain ⟨d1, g_d1⟩ : ∃ t, (xb &&& (7 : Int32)) = t := ⟨_, rfl⟩
  rw [g_d1] at st1 c1
  obtain ⟨d2, g_d2⟩ : ∃ t, (xc &&& (7 : Int32)) = t := ⟨_, rfl⟩
  rw [g_d2] at st1 c2
  obtain ⟨d3, g_d3⟩ : ∃ t, (((xn.toUInt32 >>> ((3 : Int32) &&& 31).toUInt32).toInt32) &&& (7 : Int32)) = t := ⟨_, rfl⟩
  rw [g_d3] at st1 c3
  obtain ⟨i0, g_i0⟩ : ∃ t, (((xk.toUInt32 >>> ((2 : Int32) &&& 31).toUInt32).toInt32) &&& (3 : Int32)) = t := ⟨_, rfl⟩
  rw [g_i0] at st1 b0
  obtain ⟨i1, g_i1⟩ : ∃ t, (((xk.toUInt32 >>> ((4 : Int32) &&& 31).toUInt32).toInt32) &&& (3 : Int32)) = t := ⟨_, rfl⟩
  rw [g_i1] at st1 b1
  obtain ⟨i2, g_i2⟩ : ∃ t, (((xk.toUInt32 >>> ((6 : Int32) &&& 31).toUInt32).toInt32) &&& (3 : Int32)) = t := ⟨_, rfl⟩
  rw [g_i2] at st1 b2
  obtain ⟨i3, g_i3⟩ : ∃ t, (((xk.toUInt32 >>> ((8 : Int32) &&& 31).toUInt32).toInt32) &&& (3 : Int32)) = t := ⟨_, rfl⟩
  rw [g_i3] at st1 b3
  obtain ⟨z, g_z⟩ : ∃ t, own_min k room = t := ⟨_, rfl⟩
  rw [g_z] at SS hz1 hm6
  have fin : ∃ (T' : State) (locs' : List Loc), Stand p l e room_1 s m #[(.int xk), (.int xs), (.int xn), (.int xa), (.int xb), (.int xc)] below meth c T' locs' 11 64 ∧ Fr n0 locs' ∧ ∀ target, Steps p.tables e below (T'.setTop (mkF m 328 #[.val (.int xk), .val (.int xs), .val (.int xn), .val (.int xa), .val (.int xb), .val (.int xc), .val (.int k), .val (.int room), .val (.int count), .val (.int d0), .val (.int d1), .val (.int d2), .val (.int d3), .val (.int i0), .val (.int i1), .val (.int i2), .val (.int i3), .val (.ref ao), .val (.int (1 : Int32))] [])) target → Steps p.tables e below (T1.setTop (mkF m 116 #[.val (.int xk), .val (.int xs), .val (.int xn), .val (.int xa), .val (.int xb), .val (.int xc), .val (.int k), .val (.int room), .val (.int count), .val (.int d0), .val (.int d1), .val (.int d2), .val (.int d3), .val (.int i0), .val (.int i1), .val (.int i2), .val (.int i3), .val (.ref ao), .val (.int (1 : Int32))] [])) target := by
    clear g_k g_z
    rcases hk14 with rfl | rfl | rfl | rfl
    · exact own_law1 xk xs xn xa xb xc room count d0 d1 d2 d3 i0 i1 i2 i3 ao bd bi z X1 hx hZ hw hby hml hown e1 N1 A1 SS hz1 hm6 b0 c0 b1 c1 b2 c2 b3 c3
    · exact own_law2 xk xs xn xa xb xc room count d0 d1 d2 d3 i0 i1 i2 i3 ao bd bi z X1 hx hZ hw hby hml hown e1 N1 A1 SS hz1 hm6 b0 c0 b1 c1 b2 c2 b3 c3
    · exact own_law3 xk xs xn xa xb xc room count d0 d1 d2 d3 i0 i1 i2 i3 ao bd bi z X1 hx hZ hw hby hml hown e1 N1 A1 SS hz1 hm6 b0 c0 b1 c1 b2 c2 b3 c3
    · exact own_law4 xk xs xn xa xb xc room count d0 d1 d2 d3 i0 i1 i2 i3 ao bd bi z X1 hx hZ hw hby hml hown e1 N1 A1 SS hz1 hm6 b0 c0 b1 c1 b2 c2 b3 c3
  obtain ⟨T2, l2, X2, N2, st2⟩ := fin
  obtain ⟨fs, hr, hrun, hended, hW, hsame⟩ := X2.leave (v := some (.int (1 : Int32))) (fun h => by rw [Bd.returns] at h; cases h)
  refine ⟨_, _, pre0 _ ?_, hrun, hended, _, _, rfl, ⟨rfl, N2⟩, ⟨_, rfl⟩, hW, hsame.mono (by decide) (by decide)⟩
  refine st1 _ (st2 _ ?_)
  refine XS.iload X2.here hx rfl (hb hby at_328) rfl ?_
  show Steps p.tables e below (T2.setTop (mkF m 330 #[.val (.int xk), .val (.int xs), .val (.int xn), .val (.int xa), .val (.int xb), .val (.int xc), .val (.int k), .val (.int room), .val (.int count), .val (.int d0), .val (.int d1), .val (.int d2), .val (.int d3), .val (.int i0), .val (.int i1), .val (.int i2), .val (.int i3), .val (.ref ao), .val (.int (1 : Int32))] [(.int (1 : Int32))])) _
  exact retN X2 hx (t := .boolean) Bd.returns (by simp) (hb hby at_330) hr
set_option maxRecDepth 65536 in
set_option maxHeartbeats 40000000 in
theorem comes_1 {Post : Tables → Env → Array Value → State → Outcome → State → Prop} (hpost : ∀ tb e args s v u, (limb_1_1.after args s (.returned v) u = true ∧ limb_1_2.after args s (.returned v) u = true ∧ True) → FrameEnd s (.returned v) u (Jvm.fieldLocs frame_1_writes args s ++ Jvm.arrayLocs frame_1_arrays args s ++ Jvm.staticLocs frame_1_statics s) 32 128 → Post tb e args s (.returned v) u) :
    ArmFor flags0 classFile x code maxLocals ret World_1 tables_1 room_1 Calls_1 rest_1 Pre_1 Post := by
  intro l hfl _ _ p e ha hc hk s m args below hf hA hF happ hP
  obtain ⟨hcalls, hrest, hpre⟩ := hP
  obtain ⟨-, -, -, hnamed, -, -, -, hat⟩ := (Spec.applies_iff hf).mp happ
  obtain ⟨hg, hn⟩ := and_e (Cond.before_iff.mp (show (Jvm.Cond.and given_1 narrow_1).before args s = true from hpre))
  obtain ⟨g1, g2⟩ := and_e hg
  obtain ⟨g3, g4⟩ := and_e g2
  obtain ⟨g5, g6⟩ := and_e g4
  obtain ⟨g7, g8⟩ := and_e g6
  obtain ⟨g9, g10⟩ := and_e g8
  obtain ⟨g11, g12⟩ := and_e g10
  obtain ⟨w0, w1, w2, w3, w4, w5, rfl⟩ : ∃ w0 w1 w2 w3 w4 w5 : Value, args = #[w0, w1, w2, w3, w4, w5] := by
    have hs : args.size = 6 := by simpa [Cond.value, given_1] using g1
    obtain ⟨L⟩ := args
    match L, hs with
    | [w0, w1, w2, w3, w4, w5], _ => exact ⟨w0, w1, w2, w3, w4, w5, rfl⟩
  have hw := fun d (hd : d ∈ tables_1) => atoms_spec (ws := Jvm.Cond.code x code maxLocals ret :: tables_1) hat d (List.mem_cons_of_mem _ hd)
  obtain ⟨i0, ei0⟩ := is_v g3
  obtain rfl : w0 = (.int i0) := Option.some.inj ei0
  obtain ⟨i1, ei1⟩ := is_v g5
  obtain rfl : w1 = (.int i1) := Option.some.inj ei1
  obtain ⟨i2, ei2⟩ := is_v g7
  obtain rfl : w2 = (.int i2) := Option.some.inj ei2
  obtain ⟨i3, ei3⟩ := is_v g9
  obtain rfl : w3 = (.int i3) := Option.some.inj ei3
  obtain ⟨i4, ei4⟩ := is_v g11
  obtain rfl : w4 = (.int i4) := Option.some.inj ei4
  obtain ⟨i5, ei5⟩ := is_v g12
  obtain rfl : w5 = (.int i5) := Option.some.inj ei5
  obtain ⟨n, o, h1, h2, h3, _, L, rfl, ⟨rfl, N⟩, hq⟩ := rm0 l s _ hw tables_1 i0 i1 i2 i3 i4 i5 s.heap s.heap.size (Nat.le_refl _) p e ha hc hk s m _ below hf ((Spec.applies_iff_loose hf).mp happ).1 ⟨rfl, State.Warmed39.refl s, rfl⟩ trivial
  refine ⟨n, _, h1, h2, h3, hpost _ _ _ _ _ _ ⟨Cond.after_iff.mpr rfl, Cond.after_iff.mpr (eq_i res_at (Term.int_eval (1)) rfl), trivial⟩ ⟨hq.1, hq.2.1, (hq.2.2.sift fun y hy => Or.inr (N y hy)).mono (by decide) (by decide)⟩⟩
theorem main_1_1 : Claimed_1_1 := comes_1 fun _ _ _ _ _ _ h hF => ⟨h.1, hF⟩
theorem main_1_2 : Claimed_1_2 := comes_1 fun _ _ _ _ _ _ h hF => ⟨h.2.1, hF⟩
end Jvm.Pilot.@@N@@
namespace Jvm.Pilot.@@N@@
open Jvm Jvm.ClassFile Sem Op Lib Jvm.Free Jvm.Stand Jvm.Pilot.@@N@@.Jvm.D
/-! MADE BY PROGRAM (witnessworld.py) out of the Statement's table words and the real class files: 20 classes; the members and pool entries that the words name. The judged class is class 1, her method 1. -/
namespace start1
open Jvm.ClassFile
def u (s : String) : CpInfo := .utf8 (stringToUtf16 s)
/-- a pool by its gaps: so many unusable entries, then the entry; so many at the end -/
def gap : Nat → List CpInfo → List CpInfo
  | 0, r => r
  | n + 1, r => .unusable :: gap n r
def poolList (es : List (Nat × CpInfo)) (last : Nat) : List CpInfo := es.foldr (fun e r => gap e.1 (e.2 :: r)) (gap last [])
def pool (es : List (Nat × CpInfo)) (last : Nat) : Array CpInfo := ⟨poolList es last⟩
def fileOf (pool : Array CpInfo) (this : Nat) (attrs : Array Attribute := #[]) (ms : Array MethodInfo := #[]) (fl : Nat := 33) (sup : Nat := 0) (ifs : Array Nat := #[]) (fds : Array FieldInfo := #[]) : ClassFile where
  minorVersion := 0
  majorVersion := 65
  constantPool := pool
  accessFlags := fl
  thisClass := this
  superClass := sup
  interfaces := ifs
  fields := fds
  methods := ms
  attributes := attrs
def plain (name : String) (sup : Option ClassId) : Class where
  name := name
  kind := .ordinary
  loader := none
  accessFlags := 33
  super := sup
  interfaces := #[]
  cf := none
  fields := #[]
  methods := #[]
  instanceTypes := #[]
  staticTypes := #[]
  resolved := #[]
  callSites := []
  init := .initialized
  statics := none
  mirror := none

def pool0 : Array CpInfo := pool [(5, u "<init>"), (0, u "()V"), (1, .class_ 10), (1, u "java/lang/Object")] 113

def k0c0 : Code := { maxStack := 0, maxLocals := 1, code := object_method_1_code, exceptionTable := #[], attributes := #[] }
def k0m0 : Method := { name := "<init>", desc := "()V", sig := { parameters := [], returnType := none }, accessFlags := 1, code := some k0c0 }
/-- java/lang/Object -/
def k0 : Class := { plain "java/lang/Object" none with
  accessFlags := 33
  interfaces := #[]
  cf := some (fileOf pool0 8 #[] #[{ accessFlags := 1, nameIndex := 5, descriptorIndex := 6, attributes := #[] }] 33 0 #[] #[])
  fields := #[]
  methods := #[k0m0]
  instanceTypes := #[]
  staticTypes := #[]
  resolved := Array.replicate 124 none
  statics := none }

def pool1 : Array CpInfo := pool [(2, .class_ 4), (1, u "java/lang/Object"), (0, u "<init>"), (0, u "()V"), (0, .class_ 8), (0, u "com/example/triangulum/triangulum/search/Shortlist"), (0, .methodref 7 10), (0, .nameAndType 5 11), (0, u "(II)V"), (0, .methodref 7 13), (0, .nameAndType 14 15), (0, u "limit"), (0, u "()D"), (0, .methodref 17 18), (0, .class_ 19), (0, .nameAndType 20 21), (0, u "com/example/triangulum/triangulum/search/ShortlistLimitPinLaw"), (0, u "kth"), (0, u "(IIIIII)I"), (0, .methodref 17 23), (0, .nameAndType 24 25), (0, u "agrees"), (0, u "(DI)Z"), (0, .methodref 7 27), (0, .nameAndType 28 29), (0, u "offer"), (0, u "(ID)V"), (0, .double 9218868437227405311), (1, .methodref 33 34), (0, .class_ 35), (0, .nameAndType 36 37), (0, u "java/lang/Math"), (0, u "min"), (0, u "(II)I"), (0, .methodref 33 39), (0, .nameAndType 40 37), (0, u "max"), (2, u "law"), (0, u "(IIIIII)Z")] 3

def k1m0 : Method := { name := "<init>", desc := "()V", sig := { parameters := [], returnType := none }, accessFlags := 1, code := none }
def k1c1 : Code := { maxStack := 8, maxLocals := 19, code := code, exceptionTable := #[], attributes := #[] }
def k1m1 : Method := { name := "law", desc := "(IIIIII)Z", sig := { parameters := [.int, .int, .int, .int, .int, .int], returnType := some .boolean }, accessFlags := 9, code := some k1c1 }
def k1c2 : Code := { maxStack := 4, maxLocals := 3, code := method_3_code, exceptionTable := #[], attributes := #[] }
def k1m2 : Method := { name := "agrees", desc := "(DI)Z", sig := { parameters := [.double, .int], returnType := some .boolean }, accessFlags := 10, code := some k1c2 }
def k1c3 : Code := { maxStack := 2, maxLocals := 20, code := method_4_code, exceptionTable := #[], attributes := #[] }
def k1m3 : Method := { name := "kth", desc := "(IIIIII)I", sig := { parameters := [.int, .int, .int, .int, .int, .int], returnType := some .int }, accessFlags := 10, code := some k1c3 }
/-- com/example/triangulum/triangulum/search/ShortlistLimitPinLaw -/
def k1 : Class := { plain "com/example/triangulum/triangulum/search/ShortlistLimitPinLaw" (some 0) with
  accessFlags := 49
  interfaces := #[]
  cf := some (fileOf pool1 17 #[] #[{ accessFlags := 1, nameIndex := 5, descriptorIndex := 6, attributes := #[] }, { accessFlags := 9, nameIndex := 43, descriptorIndex := 44, attributes := #[] }, { accessFlags := 10, nameIndex := 24, descriptorIndex := 25, attributes := #[] }, { accessFlags := 10, nameIndex := 20, descriptorIndex := 21, attributes := #[] }] 49 2 #[] #[])
  fields := #[]
  methods := #[k1m0, k1m1, k1m2, k1m3]
  instanceTypes := #[]
  staticTypes := #[]
  resolved := Array.replicate 48 none
  statics := none }

def pool2 : Array CpInfo := pool [(1, .class_ 2), (0, u "com/example/triangulum/triangulum/search/Answer"), (0, .class_ 4), (0, u "java/lang/Object")] 11

/-- com/example/triangulum/triangulum/search/Answer -/
def k2 : Class := { plain "com/example/triangulum/triangulum/search/Answer" (some 0) with
  accessFlags := 1537
  interfaces := #[]
  cf := some (fileOf pool2 1 #[] #[] 1537 3 #[] #[])
  fields := #[]
  methods := #[]
  instanceTypes := #[]
  staticTypes := #[]
  resolved := Array.replicate 16 none
  statics := none }

def pool3 : Array CpInfo := pool [(1, .methodref 2 3), (0, .class_ 4), (0, .nameAndType 5 6), (0, u "java/lang/Object"), (0, u "<init>"), (0, u "()V"), (9, .fieldref 17 18), (0, .class_ 19), (0, .nameAndType 20 21), (0, u "com/example/triangulum/triangulum/search/Shortlist"), (0, u "k"), (0, u "I"), (0, .methodref 23 24), (0, .class_ 25), (0, .nameAndType 26 27), (0, u "java/lang/Math"), (0, u "min"), (0, u "(II)I"), (0, .fieldref 17 29), (0, .nameAndType 30 31), (0, u "distances"), (0, u "[D"), (0, .fieldref 17 33), (0, .nameAndType 34 35), (0, u "indexes"), (0, u "[I"), (0, .fieldref 17 37), (0, .nameAndType 38 21), (0, u "size"), (0, .methodref 23 40), (0, .nameAndType 41 27), (0, u "max"), (0, .methodref 43 44), (0, .class_ 45), (0, .nameAndType 46 47), (0, u "java/util/Arrays"), (0, u "copyOf"), (0, u "([DI)[D"), (0, .methodref 43 49), (0, .nameAndType 46 50), (0, u "([II)[I"), (0, .methodref 17 52), (0, .nameAndType 53 54), (0, u "worse"), (0, u "(DII)Z"), (0, .methodref 17 56), (0, .nameAndType 57 58), (0, u "put"), (0, u "(IDI)V"), (0, .methodref 17 60), (0, .nameAndType 53 61), (0, u "(DIDI)Z"), (0, .class_ 63), (0, u "java/lang/Double"), (0, .double 9218868437227405312), (3, u "limit"), (0, u "()D"), (13, u "(ID)V"), (14, .methodref 62 99), (0, .nameAndType 100 101), (0, u "compare"), (0, u "(DD)I"), (0, .class_ 103), (0, u "com/example/triangulum/triangulum/search/Answer"), (0, u "(II)V"), (3, u "offer")] 22

def k3c0 : Code := { maxStack := 3, maxLocals := 3, code := prog_24_method_1_code, exceptionTable := #[], attributes := #[] }
def k3m0 : Method := { name := "<init>", desc := "(II)V", sig := { parameters := [.int, .int], returnType := none }, accessFlags := 1, code := some k3c0 }
def k3c1 : Code := { maxStack := 7, maxLocals := 6, code := prog_24_method_2_code, exceptionTable := #[], attributes := #[] }
def k3m1 : Method := { name := "offer", desc := "(ID)V", sig := { parameters := [.int, .double], returnType := none }, accessFlags := 1, code := some k3c1 }
def k3c2 : Code := { maxStack := 2, maxLocals := 1, code := prog_24_method_3_code, exceptionTable := #[], attributes := #[] }
def k3m2 : Method := { name := "limit", desc := "()D", sig := { parameters := [], returnType := some .double }, accessFlags := 1, code := some k3c2 }
def k3c3 : Code := { maxStack := 7, maxLocals := 5, code := prog_24_method_6_code, exceptionTable := #[], attributes := #[] }
def k3m3 : Method := { name := "worse", desc := "(DII)Z", sig := { parameters := [.double, .int, .int], returnType := some .boolean }, accessFlags := 2, code := some k3c3 }
def k3c4 : Code := { maxStack := 4, maxLocals := 7, code := prog_24_method_7_code, exceptionTable := #[], attributes := #[] }
def k3m4 : Method := { name := "worse", desc := "(DIDI)Z", sig := { parameters := [.double, .int, .double, .int], returnType := some .boolean }, accessFlags := 10, code := some k3c4 }
def k3c5 : Code := { maxStack := 4, maxLocals := 5, code := prog_24_method_8_code, exceptionTable := #[], attributes := #[] }
def k3m5 : Method := { name := "put", desc := "(IDI)V", sig := { parameters := [.int, .double, .int], returnType := none }, accessFlags := 2, code := some k3c5 }
/-- com/example/triangulum/triangulum/search/Shortlist -/
def k3 : Class := { plain "com/example/triangulum/triangulum/search/Shortlist" (some 0) with
  accessFlags := 49
  interfaces := #[2]
  cf := some (fileOf pool3 17 #[] #[{ accessFlags := 1, nameIndex := 5, descriptorIndex := 104, attributes := #[] }, { accessFlags := 1, nameIndex := 108, descriptorIndex := 83, attributes := #[] }, { accessFlags := 1, nameIndex := 68, descriptorIndex := 69, attributes := #[] }, { accessFlags := 2, nameIndex := 53, descriptorIndex := 54, attributes := #[] }, { accessFlags := 10, nameIndex := 53, descriptorIndex := 61, attributes := #[] }, { accessFlags := 2, nameIndex := 57, descriptorIndex := 58, attributes := #[] }] 49 2 #[102] #[{ accessFlags := 18, nameIndex := 20, descriptorIndex := 21, attributes := #[] }, { accessFlags := 2, nameIndex := 30, descriptorIndex := 31, attributes := #[] }, { accessFlags := 2, nameIndex := 34, descriptorIndex := 35, attributes := #[] }, { accessFlags := 2, nameIndex := 38, descriptorIndex := 21, attributes := #[] }])
  fields := #[{ name := "k", type := .int, accessFlags := 18, slot := 0, constantValue := 0 }, { name := "distances", type := (.array .double), accessFlags := 2, slot := 1, constantValue := 0 }, { name := "indexes", type := (.array .int), accessFlags := 2, slot := 2, constantValue := 0 }, { name := "size", type := .int, accessFlags := 2, slot := 3, constantValue := 0 }]
  methods := #[k3m0, k3m1, k3m2, k3m3, k3m4, k3m5]
  instanceTypes := #[.int, (.array .double), (.array .int), .int]
  staticTypes := #[]
  resolved := Array.replicate 131 none
  statics := none }

def pool4 : Array CpInfo := pool [(1, .class_ 2), (0, u "java/lang/Math"), (1, .class_ 6), (1, u "java/lang/Object"), (0, u "<init>"), (0, u "()V"), (89, .class_ 100), (1, u "java/lang/Math$RandomNumberGeneratorHolder"), (71, u "negativeZeroFloatBits"), (0, u "J"), (2, u "negativeZeroDoubleBits"), (21, u "max"), (2, u "min"), (43, u "$assertionsDisabled"), (0, u "Z"), (88, u "(II)I"), (2, u "twoToTheDoubleScaleDown"), (0, u "D"), (4, u "twoToTheDoubleScaleUp"), (9, u "E"), (3, u "PI"), (2, u "TAU"), (2, u "DEGREES_TO_RADIANS"), (0, u "RADIANS_TO_DEGREES")] 94

def k4m0 : Method := { name := "<init>", desc := "()V", sig := { parameters := [], returnType := none }, accessFlags := 2, code := none }
def k4c1 : Code := { maxStack := 2, maxLocals := 2, code := jdk_29_method_65_code, exceptionTable := #[], attributes := #[] }
def k4m1 : Method := { name := "max", desc := "(II)I", sig := { parameters := [.int, .int], returnType := some .int }, accessFlags := 9, code := some k4c1 }
def k4c2 : Code := { maxStack := 2, maxLocals := 2, code := jdk_29_method_69_code, exceptionTable := #[], attributes := #[] }
def k4m2 : Method := { name := "min", desc := "(II)I", sig := { parameters := [.int, .int], returnType := some .int }, accessFlags := 9, code := some k4c2 }
/-- java/lang/Math -/
def k4 : Class := { plain "java/lang/Math" (some 0) with
  accessFlags := 49
  interfaces := #[]
  cf := some (fileOf pool4 1 #[.nestMembers #[98]] #[{ accessFlags := 2, nameIndex := 7, descriptorIndex := 8, attributes := #[] }, { accessFlags := 9, nameIndex := 198, descriptorIndex := 335, attributes := #[] }, { accessFlags := 9, nameIndex := 201, descriptorIndex := 335, attributes := #[] }] 49 4 #[] #[{ accessFlags := 25, nameIndex := 354, descriptorIndex := 339, attributes := #[] }, { accessFlags := 25, nameIndex := 358, descriptorIndex := 339, attributes := #[] }, { accessFlags := 25, nameIndex := 361, descriptorIndex := 339, attributes := #[] }, { accessFlags := 26, nameIndex := 364, descriptorIndex := 339, attributes := #[] }, { accessFlags := 26, nameIndex := 365, descriptorIndex := 339, attributes := #[] }, { accessFlags := 26, nameIndex := 172, descriptorIndex := 173, attributes := #[] }, { accessFlags := 26, nameIndex := 176, descriptorIndex := 173, attributes := #[] }, { accessFlags := 8, nameIndex := 344, descriptorIndex := 339, attributes := #[] }, { accessFlags := 8, nameIndex := 338, descriptorIndex := 339, attributes := #[] }, { accessFlags := 4120, nameIndex := 245, descriptorIndex := 246, attributes := #[] }])
  fields := #[{ name := "E", type := .double, accessFlags := 25, slot := 0, constantValue := 0 }, { name := "PI", type := .double, accessFlags := 25, slot := 1, constantValue := 0 }, { name := "TAU", type := .double, accessFlags := 25, slot := 2, constantValue := 0 }, { name := "DEGREES_TO_RADIANS", type := .double, accessFlags := 26, slot := 3, constantValue := 0 }, { name := "RADIANS_TO_DEGREES", type := .double, accessFlags := 26, slot := 4, constantValue := 0 }, { name := "negativeZeroFloatBits", type := .long, accessFlags := 26, slot := 5, constantValue := 0 }, { name := "negativeZeroDoubleBits", type := .long, accessFlags := 26, slot := 6, constantValue := 0 }, { name := "twoToTheDoubleScaleUp", type := .double, accessFlags := 8, slot := 7, constantValue := 0 }, { name := "twoToTheDoubleScaleDown", type := .double, accessFlags := 8, slot := 8, constantValue := 0 }, { name := "$assertionsDisabled", type := .boolean, accessFlags := 4120, slot := 9, constantValue := 0 }]
  methods := #[k4m0, k4m1, k4m2]
  instanceTypes := #[]
  staticTypes := #[.double, .double, .double, .double, .double, .long, .long, .double, .double, .boolean]
  resolved := Array.replicate 460 none
  statics := none }

def pool5 : Array CpInfo := pool [(1, .class_ 2), (0, u "java/io/Serializable"), (0, .class_ 4), (0, u "java/lang/Object")] 2

/-- java/io/Serializable -/
def k5 : Class := { plain "java/io/Serializable" (some 0) with
  accessFlags := 1537
  interfaces := #[]
  cf := some (fileOf pool5 1 #[] #[] 1537 3 #[] #[])
  fields := #[]
  methods := #[]
  instanceTypes := #[]
  staticTypes := #[]
  resolved := Array.replicate 7 none
  statics := none }

def pool6 : Array CpInfo := pool [(2, .class_ 4), (1, u "java/lang/Object"), (0, u "<init>"), (0, u "()V"), (1, .class_ 10), (1, u "java/lang/Number"), (2, .class_ 14), (0, u "java/io/Serializable"), (0, u "serialVersionUID"), (0, u "J")] 20

def k6m0 : Method := { name := "<init>", desc := "()V", sig := { parameters := [], returnType := none }, accessFlags := 1, code := none }
/-- java/lang/Number -/
def k6 : Class := { plain "java/lang/Number" (some 0) with
  accessFlags := 1057
  interfaces := #[5]
  cf := some (fileOf pool6 8 #[] #[{ accessFlags := 1, nameIndex := 5, descriptorIndex := 6, attributes := #[] }] 1057 2 #[13] #[{ accessFlags := 26, nameIndex := 15, descriptorIndex := 16, attributes := #[] }])
  fields := #[{ name := "serialVersionUID", type := .long, accessFlags := 26, slot := 0, constantValue := 0 }]
  methods := #[k6m0]
  instanceTypes := #[]
  staticTypes := #[.long]
  resolved := Array.replicate 37 none
  statics := none }

def pool7 : Array CpInfo := pool [(1, .class_ 2), (0, u "java/lang/Comparable"), (0, .class_ 4), (0, u "java/lang/Object")] 7

/-- java/lang/Comparable -/
def k7 : Class := { plain "java/lang/Comparable" (some 0) with
  accessFlags := 1537
  interfaces := #[]
  cf := some (fileOf pool7 1 #[] #[] 1537 3 #[] #[])
  fields := #[]
  methods := #[]
  instanceTypes := #[]
  staticTypes := #[]
  resolved := Array.replicate 12 none
  statics := none }

def pool8 : Array CpInfo := pool [(1, .class_ 2), (0, u "java/lang/constant/Constable"), (0, .class_ 4), (0, u "java/lang/Object")] 6

/-- java/lang/constant/Constable -/
def k8 : Class := { plain "java/lang/constant/Constable" (some 0) with
  accessFlags := 1537
  interfaces := #[]
  cf := some (fileOf pool8 1 #[] #[] 1537 3 #[] #[])
  fields := #[]
  methods := #[]
  instanceTypes := #[]
  staticTypes := #[]
  resolved := Array.replicate 11 none
  statics := none }

def pool9 : Array CpInfo := pool [(1, .class_ 2), (0, u "java/lang/constant/ConstantDesc"), (0, .class_ 4), (0, u "java/lang/Object")] 32

/-- java/lang/constant/ConstantDesc -/
def k9 : Class := { plain "java/lang/constant/ConstantDesc" (some 0) with
  accessFlags := 1537
  interfaces := #[]
  cf := some (fileOf pool9 1 #[] #[] 1537 3 #[] #[])
  fields := #[]
  methods := #[]
  instanceTypes := #[]
  staticTypes := #[]
  resolved := Array.replicate 37 none
  statics := none }

def pool10 : Array CpInfo := pool [(1, .class_ 2), (0, u "java/lang/Double"), (11, u "(D)Z"), (31, .methodref 1 47), (0, .nameAndType 48 49), (0, u "doubleToLongBits"), (0, u "(D)J"), (64, .class_ 116), (1, u "java/lang/Number"), (3, u "value"), (0, u "D"), (0, .methodref 1 123), (0, .nameAndType 124 14), (0, u "isNaN"), (9, .methodref 1 135), (0, .nameAndType 136 49), (0, u "doubleToRawLongBits"), (4, u "compare"), (0, u "(DD)I"), (30, u "TYPE"), (0, u "Ljava/lang/Class;"), (0, .class_ 176), (0, u "java/lang/Comparable"), (0, .class_ 178), (0, u "java/lang/constant/Constable"), (0, .class_ 180), (0, u "java/lang/constant/ConstantDesc"), (0, u "POSITIVE_INFINITY"), (3, u "NEGATIVE_INFINITY"), (2, u "NaN"), (2, u "MAX_VALUE"), (0, u "MIN_NORMAL"), (0, u "MIN_VALUE"), (2, u "SIZE"), (0, u "I"), (1, u "PRECISION"), (1, u "MAX_EXPONENT"), (1, u "MIN_EXPONENT"), (1, u "BYTES"), (3, u "serialVersionUID"), (0, u "J")] 79

def k10c0 : Code := { maxStack := 4, maxLocals := 2, code := jdk_117_method_6_code, exceptionTable := #[], attributes := #[] }
def k10m0 : Method := { name := "isNaN", desc := "(D)Z", sig := { parameters := [.double], returnType := some .boolean }, accessFlags := 9, code := some k10c0 }
def k10c1 : Code := { maxStack := 2, maxLocals := 2, code := jdk_117_method_23_code, exceptionTable := #[], attributes := #[] }
def k10m1 : Method := { name := "doubleToLongBits", desc := "(D)J", sig := { parameters := [.double], returnType := some .long }, accessFlags := 9, code := some k10c1 }
def k10m2 : Method := { name := "doubleToRawLongBits", desc := "(D)J", sig := { parameters := [.double], returnType := some .long }, accessFlags := 265, code := none }
def k10c3 : Code := { maxStack := 4, maxLocals := 8, code := jdk_117_method_27_code, exceptionTable := #[], attributes := #[] }
def k10m3 : Method := { name := "compare", desc := "(DD)I", sig := { parameters := [.double, .double], returnType := some .int }, accessFlags := 9, code := some k10c3 }
/-- java/lang/Double -/
def k10 : Class := { plain "java/lang/Double" (some 6) with
  accessFlags := 49
  interfaces := #[7, 8, 9]
  cf := some (fileOf pool10 1 #[] #[{ accessFlags := 9, nameIndex := 124, descriptorIndex := 14, attributes := #[] }, { accessFlags := 9, nameIndex := 48, descriptorIndex := 49, attributes := #[] }, { accessFlags := 265, nameIndex := 136, descriptorIndex := 49, attributes := #[] }, { accessFlags := 9, nameIndex := 141, descriptorIndex := 142, attributes := #[] }] 49 114 #[175, 177, 179] #[{ accessFlags := 25, nameIndex := 181, descriptorIndex := 121, attributes := #[] }, { accessFlags := 25, nameIndex := 185, descriptorIndex := 121, attributes := #[] }, { accessFlags := 25, nameIndex := 188, descriptorIndex := 121, attributes := #[] }, { accessFlags := 25, nameIndex := 191, descriptorIndex := 121, attributes := #[] }, { accessFlags := 25, nameIndex := 192, descriptorIndex := 121, attributes := #[] }, { accessFlags := 25, nameIndex := 193, descriptorIndex := 121, attributes := #[] }, { accessFlags := 25, nameIndex := 196, descriptorIndex := 197, attributes := #[] }, { accessFlags := 25, nameIndex := 199, descriptorIndex := 197, attributes := #[] }, { accessFlags := 25, nameIndex := 201, descriptorIndex := 197, attributes := #[] }, { accessFlags := 25, nameIndex := 203, descriptorIndex := 197, attributes := #[] }, { accessFlags := 25, nameIndex := 205, descriptorIndex := 197, attributes := #[] }, { accessFlags := 25, nameIndex := 173, descriptorIndex := 174, attributes := #[] }, { accessFlags := 18, nameIndex := 120, descriptorIndex := 121, attributes := #[] }, { accessFlags := 26, nameIndex := 209, descriptorIndex := 210, attributes := #[] }])
  fields := #[{ name := "POSITIVE_INFINITY", type := .double, accessFlags := 25, slot := 0, constantValue := 0 }, { name := "NEGATIVE_INFINITY", type := .double, accessFlags := 25, slot := 1, constantValue := 0 }, { name := "NaN", type := .double, accessFlags := 25, slot := 2, constantValue := 0 }, { name := "MAX_VALUE", type := .double, accessFlags := 25, slot := 3, constantValue := 0 }, { name := "MIN_NORMAL", type := .double, accessFlags := 25, slot := 4, constantValue := 0 }, { name := "MIN_VALUE", type := .double, accessFlags := 25, slot := 5, constantValue := 0 }, { name := "SIZE", type := .int, accessFlags := 25, slot := 6, constantValue := 0 }, { name := "PRECISION", type := .int, accessFlags := 25, slot := 7, constantValue := 0 }, { name := "MAX_EXPONENT", type := .int, accessFlags := 25, slot := 8, constantValue := 0 }, { name := "MIN_EXPONENT", type := .int, accessFlags := 25, slot := 9, constantValue := 0 }, { name := "BYTES", type := .int, accessFlags := 25, slot := 10, constantValue := 0 }, { name := "TYPE", type := (.object "java/lang/Class"), accessFlags := 25, slot := 11, constantValue := 0 }, { name := "value", type := .double, accessFlags := 18, slot := 0, constantValue := 0 }, { name := "serialVersionUID", type := .long, accessFlags := 26, slot := 12, constantValue := 0 }]
  methods := #[k10m0, k10m1, k10m2, k10m3]
  instanceTypes := #[.double]
  staticTypes := #[.double, .double, .double, .double, .double, .double, .int, .int, .int, .int, .int, (.object "java/lang/Class"), .long]
  resolved := Array.replicate 290 none
  statics := none }

def pool11 : Array CpInfo := pool [(2, .class_ 4), (1, u "java/lang/Object"), (0, u "<init>"), (0, u "()V"), (7, .class_ 16), (1, u "java/util/Arrays"), (57, .class_ 76), (1, u "java/util/Arrays$NaturalOrder"), (36, .class_ 115), (1, u "java/util/Arrays$LegacyMergeSort"), (1, u "Z"), (32, .methodref 151 152), (0, .class_ 153), (0, .nameAndType 154 155), (0, u "java/lang/System"), (0, u "arraycopy"), (0, u "(Ljava/lang/Object;ILjava/lang/Object;II)V"), (146, u "copyOf"), (1, .methodref 305 306), (0, .class_ 307), (0, .nameAndType 308 309), (0, u "java/lang/Math"), (0, u "min"), (0, u "(II)I"), (65, .class_ 376), (0, u "java/util/Arrays$ArrayList"), (68, u "$assertionsDisabled"), (269, u "MIN_ARRAY_SORT_GRAN"), (0, u "I"), (2, u "INSERTIONSORT_THRESHOLD"), (151, u "([II)[I"), (3, u "([DI)[D"), (99, .class_ 976), (0, u "java/util/Arrays$ArrayItr")] 52

def k11m0 : Method := { name := "<init>", desc := "()V", sig := { parameters := [], returnType := none }, accessFlags := 2, code := none }
def k11c1 : Code := { maxStack := 6, maxLocals := 3, code := jdk_65_method_123_code, exceptionTable := #[], attributes := #[] }
def k11m1 : Method := { name := "copyOf", desc := "([II)[I", sig := { parameters := [(.array .int), .int], returnType := some (.array .int) }, accessFlags := 9, code := some k11c1 }
def k11c2 : Code := { maxStack := 6, maxLocals := 3, code := jdk_65_method_127_code, exceptionTable := #[], attributes := #[] }
def k11m2 : Method := { name := "copyOf", desc := "([DI)[D", sig := { parameters := [(.array .double), .int], returnType := some (.array .double) }, accessFlags := 9, code := some k11c2 }
/-- java/util/Arrays -/
def k11 : Class := { plain "java/util/Arrays" (some 0) with
  accessFlags := 49
  interfaces := #[]
  cf := some (fileOf pool11 14 #[.nestMembers #[975, 375, 113, 74]] #[{ accessFlags := 2, nameIndex := 5, descriptorIndex := 6, attributes := #[] }, { accessFlags := 9, nameIndex := 302, descriptorIndex := 871, attributes := #[] }, { accessFlags := 9, nameIndex := 302, descriptorIndex := 875, attributes := #[] }] 49 2 #[] #[{ accessFlags := 26, nameIndex := 715, descriptorIndex := 716, attributes := #[] }, { accessFlags := 26, nameIndex := 719, descriptorIndex := 716, attributes := #[] }, { accessFlags := 4120, nameIndex := 445, descriptorIndex := 117, attributes := #[] }])
  fields := #[{ name := "MIN_ARRAY_SORT_GRAN", type := .int, accessFlags := 26, slot := 0, constantValue := 0 }, { name := "INSERTIONSORT_THRESHOLD", type := .int, accessFlags := 26, slot := 1, constantValue := 0 }, { name := "$assertionsDisabled", type := .boolean, accessFlags := 4120, slot := 2, constantValue := 0 }]
  methods := #[k11m0, k11m1, k11m2]
  instanceTypes := #[]
  staticTypes := #[.int, .int, .boolean]
  resolved := Array.replicate 1029 none
  statics := none }

def pool12 : Array CpInfo := pool [(2, .class_ 4), (1, u "java/lang/Object"), (0, u "<init>"), (0, u "()V"), (1, .class_ 10), (1, u "java/lang/System"), (0, u "allowSecurityManager"), (0, u "I"), (16, u "cons"), (0, u "Ljava/io/Console;"), (77, .class_ 110), (1, u "java/lang/System$CallersHolder"), (43, u "initialErrStream"), (0, u "Ljava/io/PrintStream;"), (19, u "security"), (0, u "Ljava/lang/SecurityManager;"), (31, .class_ 209), (0, u "java/lang/System$1"), (7, u "props"), (0, u "Ljava/util/Properties;"), (2, u "lineSeparator"), (0, u "Ljava/lang/String;"), (96, .class_ 321), (1, u "java/lang/System$LoggerFinder"), (5, .class_ 328), (0, u "java/lang/System$Logger"), (67, u "err"), (2, u "out"), (91, u "notSupportedJnuEncoding"), (15, u "in"), (17, u "initialIn"), (0, u "Ljava/io/InputStream;"), (35, u "bootLayer"), (0, u "Ljava/lang/ModuleLayer;"), (99, .class_ 664), (0, u "java/lang/System$2"), (9, u "NEVER"), (2, u "MAYBE"), (49, u "arraycopy"), (0, u "(Ljava/lang/Object;ILjava/lang/Object;II)V"), (72, .class_ 802), (0, u "java/lang/System$Logger$Level")] 31

def k12m0 : Method := { name := "<init>", desc := "()V", sig := { parameters := [], returnType := none }, accessFlags := 2, code := none }
def k12m1 : Method := { name := "arraycopy", desc := "(Ljava/lang/Object;ILjava/lang/Object;II)V", sig := { parameters := [(.object "java/lang/Object"), .int, (.object "java/lang/Object"), .int, .int], returnType := none }, accessFlags := 265, code := none }
/-- java/lang/System -/
def k12 : Class := { plain "java/lang/System" (some 0) with
  accessFlags := 49
  interfaces := #[]
  cf := some (fileOf pool12 8 #[.nestMembers #[319, 327, 801, 108, 663, 208]] #[{ accessFlags := 2, nameIndex := 5, descriptorIndex := 6, attributes := #[] }, { accessFlags := 265, nameIndex := 727, descriptorIndex := 728, attributes := #[] }] 49 2 #[] #[{ accessFlags := 25, nameIndex := 507, descriptorIndex := 526, attributes := #[] }, { accessFlags := 25, nameIndex := 399, descriptorIndex := 155, attributes := #[] }, { accessFlags := 25, nameIndex := 396, descriptorIndex := 155, attributes := #[] }, { accessFlags := 10, nameIndex := 525, descriptorIndex := 526, attributes := #[] }, { accessFlags := 26, nameIndex := 674, descriptorIndex := 12, attributes := #[] }, { accessFlags := 26, nameIndex := 677, descriptorIndex := 12, attributes := #[] }, { accessFlags := 10, nameIndex := 11, descriptorIndex := 12, attributes := #[] }, { accessFlags := 74, nameIndex := 175, descriptorIndex := 176, attributes := #[] }, { accessFlags := 10, nameIndex := 491, descriptorIndex := 222, attributes := #[] }, { accessFlags := 74, nameIndex := 29, descriptorIndex := 30, attributes := #[] }, { accessFlags := 74, nameIndex := 154, descriptorIndex := 155, attributes := #[] }, { accessFlags := 10, nameIndex := 217, descriptorIndex := 218, attributes := #[] }, { accessFlags := 10, nameIndex := 221, descriptorIndex := 222, attributes := #[] }, { accessFlags := 8, nameIndex := 562, descriptorIndex := 563, attributes := #[] }])
  fields := #[{ name := "in", type := (.object "java/io/InputStream"), accessFlags := 25, slot := 0, constantValue := 0 }, { name := "out", type := (.object "java/io/PrintStream"), accessFlags := 25, slot := 1, constantValue := 0 }, { name := "err", type := (.object "java/io/PrintStream"), accessFlags := 25, slot := 2, constantValue := 0 }, { name := "initialIn", type := (.object "java/io/InputStream"), accessFlags := 10, slot := 3, constantValue := 0 }, { name := "NEVER", type := .int, accessFlags := 26, slot := 4, constantValue := 0 }, { name := "MAYBE", type := .int, accessFlags := 26, slot := 5, constantValue := 0 }, { name := "allowSecurityManager", type := .int, accessFlags := 10, slot := 6, constantValue := 0 }, { name := "security", type := (.object "java/lang/SecurityManager"), accessFlags := 74, slot := 7, constantValue := 0 }, { name := "notSupportedJnuEncoding", type := (.object "java/lang/String"), accessFlags := 10, slot := 8, constantValue := 0 }, { name := "cons", type := (.object "java/io/Console"), accessFlags := 74, slot := 9, constantValue := 0 }, { name := "initialErrStream", type := (.object "java/io/PrintStream"), accessFlags := 74, slot := 10, constantValue := 0 }, { name := "props", type := (.object "java/util/Properties"), accessFlags := 10, slot := 11, constantValue := 0 }, { name := "lineSeparator", type := (.object "java/lang/String"), accessFlags := 10, slot := 12, constantValue := 0 }, { name := "bootLayer", type := (.object "java/lang/ModuleLayer"), accessFlags := 8, slot := 13, constantValue := 0 }]
  methods := #[k12m0, k12m1]
  instanceTypes := #[]
  staticTypes := #[(.object "java/io/InputStream"), (.object "java/io/PrintStream"), (.object "java/io/PrintStream"), (.object "java/io/InputStream"), .int, .int, .int, (.object "java/lang/SecurityManager"), (.object "java/lang/String"), (.object "java/io/Console"), (.object "java/io/PrintStream"), (.object "java/util/Properties"), (.object "java/lang/String"), (.object "java/lang/ModuleLayer")]
  resolved := Array.replicate 834 none
  statics := none }

def pool13 : Array CpInfo := pool [(1, u "java/lang/Cloneable"), (0, .class_ 1), (0, u "java/lang/Object"), (0, .class_ 3)] 3

/-- java/lang/Cloneable -/
def k13 : Class := { plain "java/lang/Cloneable" (some 0) with
  accessFlags := 1537
  interfaces := #[]
  cf := some (fileOf pool13 2 #[] #[] 1537 4 #[] #[])
  fields := #[]
  methods := #[]
  instanceTypes := #[]
  staticTypes := #[]
  resolved := Array.replicate 8 none
  statics := none }

/-- the primitive byte -/
def k14 : Class := { plain "byte" none with kind := .primitive 'B', accessFlags := 0x411 }
/-- [B -/
def k15 : Class := { plain "[B" (some 0) with kind := .array 14 .byte, interfaces := #[13, 5], accessFlags := 1041 }

/-- the primitive double -/
def k16 : Class := { plain "double" none with kind := .primitive 'D', accessFlags := 0x411 }
/-- [D -/
def k17 : Class := { plain "[D" (some 0) with kind := .array 16 .double, interfaces := #[13, 5], accessFlags := 1041 }

/-- the primitive int -/
def k18 : Class := { plain "int" none with kind := .primitive 'I', accessFlags := 0x411 }
/-- [I -/
def k19 : Class := { plain "[I" (some 0) with kind := .array 18 .int, interfaces := #[13, 5], accessFlags := 1041 }

def heap : Heap := #[]
def classes : Array Class := #[k0, k1, k2, k3, k4, k5, k6, k7, k8, k9, k10, k11, k12, k13, k14, k15, k16, k17, k18, k19]
def interned : List (Array UInt16 × Addr) := []
def slotsUsed : Nat := 0
def theMethod : MethodId := ⟨1, 1⟩
def args0 : Array Value := #[.int 5, .int 7, .int 1, .int 3, .int 2, .int 1]
def aboutOver (below : List Frame) : State where
  vm := { classes := classes, interned := interned.toArray }
  heap := heap
  slotsUsed := slotsUsed
  threads := #[{ frames := .invoking theMethod args0 :: below }]
def below0 : List Frame := [.native { method := ⟨0, 0⟩, args := #[] }]
def about1 : State := aboutOver below0
def p0 : Program := .bare "" "" ""
def e0 : Env := launch0.env 0 0 0
theorem w_frames : about1.frames = Frame.invoking theMethod args0 :: below0 := rfl
set_option maxRecDepth 65536 in
theorem w_args : argsFit about1.vm theMethod args0 = true := by decide +kernel
set_option maxRecDepth 65536 in
theorem w_heap : heapFits about1 = true := by decide +kernel
set_option maxRecDepth 65536 in
theorem w_runnable : about1.curStatus? = some .runnable := by decide +kernel
set_option maxRecDepth 65536 in
theorem w_alone : about1.alone = true := by decide +kernel
set_option maxRecDepth 65536 in
theorem w_named : about1.methodNamed? x = some theMethod := by decide +kernel
set_option maxRecDepth 65536 in
theorem w_hears : about1.hears theMethod below0 = true := by decide +kernel
set_option maxRecDepth 65536 in
theorem w_ripe : about1.ripe theMethod args0 below0 = true := by decide +kernel
theorem w_running : about1.status = .running := rfl
set_option maxRecDepth 65536 in
theorem w_room : about1.hasRoom e0.platform room_1 = true :=
  launch0.hasRoom_least _ room_1 (by decide +kernel) (by decide +kernel) (by decide +kernel) (by decide +kernel) (by decide +kernel) (by decide +kernel)
theorem allAtoms_all (ts : List Jvm.Cond) (a : Array Jvm.Value) (st : Jvm.State) : (allAtoms ts).before a st = ts.all (fun c => c.before a st) := by
  induction ts with
  | nil => rfl
  | cons c t ih =>
    show (Jvm.Cond.and c (allAtoms t)).before a st = _
    rw [Jvm.Cond.before_and, ih, List.all_cons]
def words1 : List Jvm.Cond := Jvm.Cond.code x code maxLocals ret :: tables_1
/-- a 'code' word, met by the world's own term for the bytes: nothing is compared byte by byte -/
theorem code_word {y : MethodName} {bytes : ByteArray} {mx : Nat} {rt : Option FieldType} {a : Array Value} {s : State} {m : MethodId} {meth : Method} {c : Code} (h1 : s.methodNamed? y = some m) (h2 : s.vm.method? m = some meth) (h3 : meth.code = some c) (h4 : c.code = bytes)
    (h5 : (c.maxLocals == mx && c.exceptionTable.isEmpty && decide (c.maxStack ≤ mostOperands) && decide (meth.sig.returnType = rt) && !meth.locks && decide (parseMethodDescriptor y.desc = some meth.sig)) = true) : (Jvm.Cond.code y bytes mx rt).before a s = true := by
  simp only [Bool.and_eq_true, beq_iff_eq, Bool.not_eq_true', decide_eq_true_eq] at h5
  obtain ⟨⟨⟨⟨⟨g1, g2⟩, g3⟩, g4⟩, g5⟩, g6⟩ := h5
  simp [Cond.before, Cond.holds, Cond.value, h1, h2, h3, h4, g1, g2, g3, g4, g5, g6]
def isCode : Jvm.Cond → Bool
  | .code _ _ _ _ => true
  | _ => false
theorem all_split {L : List Jvm.Cond} {P : Jvm.Cond → Bool} (h1 : L.all (fun c => isCode c || P c) = true) (h2 : ∀ c ∈ L.filter isCode, P c = true) : L.all P = true := by
  refine List.all_eq_true.mpr fun c hc => ?_
  have h := List.all_eq_true.mp h1 c hc
  rcases Bool.eq_false_or_eq_true (isCode c) with hi | hi
  · exact h2 c (List.mem_filter.mpr ⟨hc, hi⟩)
  · simpa [hi] using h
set_option maxRecDepth 65536 in
theorem w_c0 : (Jvm.Cond.code x code maxLocals ret).before args0 about1 = true := code_word (m := ⟨1, 1⟩) (meth := k1m1) (c := k1c1) (by decide +kernel) rfl rfl rfl (by decide +kernel)
set_option maxRecDepth 65536 in
theorem w_c1 : (Jvm.Cond.code ({ cls := "com/example/triangulum/triangulum/search/Shortlist", name := "<init>", desc := "(II)V" } : Jvm.MethodName) prog_24_method_1_code (3 : Nat) (Option.none : Option Jvm.ClassFile.FieldType)).before args0 about1 = true := code_word (m := ⟨3, 0⟩) (meth := k3m0) (c := k3c0) (by decide +kernel) rfl rfl rfl (by decide +kernel)
set_option maxRecDepth 65536 in
theorem w_c2 : (Jvm.Cond.code ({ cls := "java/lang/Object", name := "<init>", desc := "()V" } : Jvm.MethodName) object_method_1_code (1 : Nat) (Option.none : Option Jvm.ClassFile.FieldType)).before args0 about1 = true := code_word (m := ⟨0, 0⟩) (meth := k0m0) (c := k0c0) (by decide +kernel) rfl rfl rfl (by decide +kernel)
set_option maxRecDepth 65536 in
theorem w_c3 : (Jvm.Cond.code ({ cls := "java/lang/Math", name := "min", desc := "(II)I" } : Jvm.MethodName) jdk_29_method_69_code (2 : Nat) (Option.some Jvm.ClassFile.FieldType.int)).before args0 about1 = true := code_word (m := ⟨4, 2⟩) (meth := k4m2) (c := k4c2) (by decide +kernel) rfl rfl rfl (by decide +kernel)
set_option maxRecDepth 65536 in
theorem w_c4 : (Jvm.Cond.code ({ cls := "com/example/triangulum/triangulum/search/Shortlist", name := "limit", desc := "()D" } : Jvm.MethodName) prog_24_method_3_code (1 : Nat) (Option.some Jvm.ClassFile.FieldType.double)).before args0 about1 = true := code_word (m := ⟨3, 2⟩) (meth := k3m2) (c := k3c2) (by decide +kernel) rfl rfl rfl (by decide +kernel)
set_option maxRecDepth 65536 in
theorem w_c5 : (Jvm.Cond.code ({ cls := "com/example/triangulum/triangulum/search/ShortlistLimitPinLaw", name := "kth", desc := "(IIIIII)I" } : Jvm.MethodName) method_4_code (20 : Nat) (Option.some Jvm.ClassFile.FieldType.int)).before args0 about1 = true := code_word (m := ⟨1, 3⟩) (meth := k1m3) (c := k1c3) (by decide +kernel) rfl rfl rfl (by decide +kernel)
set_option maxRecDepth 65536 in
theorem w_c6 : (Jvm.Cond.code ({ cls := "com/example/triangulum/triangulum/search/ShortlistLimitPinLaw", name := "agrees", desc := "(DI)Z" } : Jvm.MethodName) method_3_code (3 : Nat) (Option.some Jvm.ClassFile.FieldType.boolean)).before args0 about1 = true := code_word (m := ⟨1, 2⟩) (meth := k1m2) (c := k1c2) (by decide +kernel) rfl rfl rfl (by decide +kernel)
set_option maxRecDepth 65536 in
theorem w_c7 : (Jvm.Cond.code ({ cls := "com/example/triangulum/triangulum/search/Shortlist", name := "offer", desc := "(ID)V" } : Jvm.MethodName) prog_24_method_2_code (6 : Nat) (Option.none : Option Jvm.ClassFile.FieldType)).before args0 about1 = true := code_word (m := ⟨3, 1⟩) (meth := k3m1) (c := k3c1) (by decide +kernel) rfl rfl rfl (by decide +kernel)
set_option maxRecDepth 65536 in
theorem w_c8 : (Jvm.Cond.code ({ cls := "com/example/triangulum/triangulum/search/Shortlist", name := "put", desc := "(IDI)V" } : Jvm.MethodName) prog_24_method_8_code (5 : Nat) (Option.none : Option Jvm.ClassFile.FieldType)).before args0 about1 = true := code_word (m := ⟨3, 5⟩) (meth := k3m5) (c := k3c5) (by decide +kernel) rfl rfl rfl (by decide +kernel)
set_option maxRecDepth 65536 in
theorem w_c9 : (Jvm.Cond.code ({ cls := "java/lang/Math", name := "max", desc := "(II)I" } : Jvm.MethodName) jdk_29_method_65_code (2 : Nat) (Option.some Jvm.ClassFile.FieldType.int)).before args0 about1 = true := code_word (m := ⟨4, 1⟩) (meth := k4m1) (c := k4c1) (by decide +kernel) rfl rfl rfl (by decide +kernel)
set_option maxRecDepth 65536 in
theorem w_c10 : (Jvm.Cond.code ({ cls := "com/example/triangulum/triangulum/search/Shortlist", name := "worse", desc := "(DIDI)Z" } : Jvm.MethodName) prog_24_method_7_code (7 : Nat) (Option.some Jvm.ClassFile.FieldType.boolean)).before args0 about1 = true := code_word (m := ⟨3, 4⟩) (meth := k3m4) (c := k3c4) (by decide +kernel) rfl rfl rfl (by decide +kernel)
set_option maxRecDepth 65536 in
theorem w_c11 : (Jvm.Cond.code ({ cls := "java/lang/Double", name := "compare", desc := "(DD)I" } : Jvm.MethodName) jdk_117_method_27_code (8 : Nat) (Option.some Jvm.ClassFile.FieldType.int)).before args0 about1 = true := code_word (m := ⟨10, 3⟩) (meth := k10m3) (c := k10c3) (by decide +kernel) rfl rfl rfl (by decide +kernel)
set_option maxRecDepth 65536 in
theorem w_c12 : (Jvm.Cond.code ({ cls := "com/example/triangulum/triangulum/search/Shortlist", name := "worse", desc := "(DII)Z" } : Jvm.MethodName) prog_24_method_6_code (5 : Nat) (Option.some Jvm.ClassFile.FieldType.boolean)).before args0 about1 = true := code_word (m := ⟨3, 3⟩) (meth := k3m3) (c := k3c3) (by decide +kernel) rfl rfl rfl (by decide +kernel)
set_option maxRecDepth 65536 in
theorem w_c13 : (Jvm.Cond.code ({ cls := "java/lang/Double", name := "doubleToLongBits", desc := "(D)J" } : Jvm.MethodName) jdk_117_method_23_code (2 : Nat) (Option.some Jvm.ClassFile.FieldType.long)).before args0 about1 = true := code_word (m := ⟨10, 1⟩) (meth := k10m1) (c := k10c1) (by decide +kernel) rfl rfl rfl (by decide +kernel)
set_option maxRecDepth 65536 in
theorem w_c14 : (Jvm.Cond.code ({ cls := "java/lang/Double", name := "isNaN", desc := "(D)Z" } : Jvm.MethodName) jdk_117_method_6_code (2 : Nat) (Option.some Jvm.ClassFile.FieldType.boolean)).before args0 about1 = true := code_word (m := ⟨10, 0⟩) (meth := k10m0) (c := k10c0) (by decide +kernel) rfl rfl rfl (by decide +kernel)
set_option maxRecDepth 65536 in
theorem w_c15 : (Jvm.Cond.code ({ cls := "java/util/Arrays", name := "copyOf", desc := "([DI)[D" } : Jvm.MethodName) jdk_65_method_127_code (3 : Nat) (Option.some (Jvm.ClassFile.FieldType.array Jvm.ClassFile.FieldType.double))).before args0 about1 = true := code_word (m := ⟨11, 2⟩) (meth := k11m2) (c := k11c2) (by decide +kernel) rfl rfl rfl (by decide +kernel)
set_option maxRecDepth 65536 in
theorem w_c16 : (Jvm.Cond.code ({ cls := "java/util/Arrays", name := "copyOf", desc := "([II)[I" } : Jvm.MethodName) jdk_65_method_123_code (3 : Nat) (Option.some (Jvm.ClassFile.FieldType.array Jvm.ClassFile.FieldType.int))).before args0 about1 = true := code_word (m := ⟨11, 1⟩) (meth := k11m1) (c := k11c1) (by decide +kernel) rfl rfl rfl (by decide +kernel)
def codes1 : List Jvm.Cond := [Jvm.Cond.code x code maxLocals ret, Jvm.Cond.code ({ cls := "com/example/triangulum/triangulum/search/Shortlist", name := "<init>", desc := "(II)V" } : Jvm.MethodName) prog_24_method_1_code (3 : Nat) (Option.none : Option Jvm.ClassFile.FieldType), Jvm.Cond.code ({ cls := "java/lang/Object", name := "<init>", desc := "()V" } : Jvm.MethodName) object_method_1_code (1 : Nat) (Option.none : Option Jvm.ClassFile.FieldType), Jvm.Cond.code ({ cls := "java/lang/Math", name := "min", desc := "(II)I" } : Jvm.MethodName) jdk_29_method_69_code (2 : Nat) (Option.some Jvm.ClassFile.FieldType.int), Jvm.Cond.code ({ cls := "com/example/triangulum/triangulum/search/Shortlist", name := "limit", desc := "()D" } : Jvm.MethodName) prog_24_method_3_code (1 : Nat) (Option.some Jvm.ClassFile.FieldType.double), Jvm.Cond.code ({ cls := "com/example/triangulum/triangulum/search/ShortlistLimitPinLaw", name := "kth", desc := "(IIIIII)I" } : Jvm.MethodName) method_4_code (20 : Nat) (Option.some Jvm.ClassFile.FieldType.int), Jvm.Cond.code ({ cls := "com/example/triangulum/triangulum/search/ShortlistLimitPinLaw", name := "agrees", desc := "(DI)Z" } : Jvm.MethodName) method_3_code (3 : Nat) (Option.some Jvm.ClassFile.FieldType.boolean), Jvm.Cond.code ({ cls := "com/example/triangulum/triangulum/search/Shortlist", name := "offer", desc := "(ID)V" } : Jvm.MethodName) prog_24_method_2_code (6 : Nat) (Option.none : Option Jvm.ClassFile.FieldType), Jvm.Cond.code ({ cls := "com/example/triangulum/triangulum/search/Shortlist", name := "put", desc := "(IDI)V" } : Jvm.MethodName) prog_24_method_8_code (5 : Nat) (Option.none : Option Jvm.ClassFile.FieldType), Jvm.Cond.code ({ cls := "java/lang/Math", name := "max", desc := "(II)I" } : Jvm.MethodName) jdk_29_method_65_code (2 : Nat) (Option.some Jvm.ClassFile.FieldType.int), Jvm.Cond.code ({ cls := "com/example/triangulum/triangulum/search/Shortlist", name := "worse", desc := "(DIDI)Z" } : Jvm.MethodName) prog_24_method_7_code (7 : Nat) (Option.some Jvm.ClassFile.FieldType.boolean), Jvm.Cond.code ({ cls := "java/lang/Double", name := "compare", desc := "(DD)I" } : Jvm.MethodName) jdk_117_method_27_code (8 : Nat) (Option.some Jvm.ClassFile.FieldType.int), Jvm.Cond.code ({ cls := "com/example/triangulum/triangulum/search/Shortlist", name := "worse", desc := "(DII)Z" } : Jvm.MethodName) prog_24_method_6_code (5 : Nat) (Option.some Jvm.ClassFile.FieldType.boolean), Jvm.Cond.code ({ cls := "java/lang/Double", name := "doubleToLongBits", desc := "(D)J" } : Jvm.MethodName) jdk_117_method_23_code (2 : Nat) (Option.some Jvm.ClassFile.FieldType.long), Jvm.Cond.code ({ cls := "java/lang/Double", name := "isNaN", desc := "(D)Z" } : Jvm.MethodName) jdk_117_method_6_code (2 : Nat) (Option.some Jvm.ClassFile.FieldType.boolean), Jvm.Cond.code ({ cls := "java/util/Arrays", name := "copyOf", desc := "([DI)[D" } : Jvm.MethodName) jdk_65_method_127_code (3 : Nat) (Option.some (Jvm.ClassFile.FieldType.array Jvm.ClassFile.FieldType.double)), Jvm.Cond.code ({ cls := "java/util/Arrays", name := "copyOf", desc := "([II)[I" } : Jvm.MethodName) jdk_65_method_123_code (3 : Nat) (Option.some (Jvm.ClassFile.FieldType.array Jvm.ClassFile.FieldType.int))]
set_option maxRecDepth 65536 in
theorem codes_eq : words1.filter isCode = codes1 := rfl
theorem w_codes : ∀ c ∈ words1.filter isCode, c.before args0 about1 = true := by
  rw [codes_eq]
  intro c hc
  simp only [codes1, List.mem_cons, List.not_mem_nil, or_false] at hc
  rcases hc with rfl | rfl | rfl | rfl | rfl | rfl | rfl | rfl | rfl | rfl | rfl | rfl | rfl | rfl | rfl | rfl | rfl
  · exact w_c0
  · exact w_c1
  · exact w_c2
  · exact w_c3
  · exact w_c4
  · exact w_c5
  · exact w_c6
  · exact w_c7
  · exact w_c8
  · exact w_c9
  · exact w_c10
  · exact w_c11
  · exact w_c12
  · exact w_c13
  · exact w_c14
  · exact w_c15
  · exact w_c16
set_option maxRecDepth 65536 in
theorem w_t1 : (words1.take 24).all (fun c => isCode c || c.before args0 about1) = true := by decide +kernel
set_option maxRecDepth 65536 in
theorem w_t2 : ((words1.drop 24).take 24).all (fun c => isCode c || c.before args0 about1) = true := by decide +kernel
set_option maxRecDepth 65536 in
theorem w_t3 : (((words1.drop 24).drop 24).take 24).all (fun c => isCode c || c.before args0 about1) = true := by decide +kernel
set_option maxRecDepth 65536 in
theorem w_t4 : (((words1.drop 24).drop 24).drop 24).all (fun c => isCode c || c.before args0 about1) = true := by decide +kernel
theorem w_tables : (allAtoms (Jvm.Cond.code x code maxLocals ret :: tables_1)).before args0 about1 = true := by
  rw [allAtoms_all]
  show words1.all (fun c => c.before args0 about1) = true
  refine all_split ?_ w_codes
  rw [← List.take_append_drop 24 words1, List.all_append, w_t1, ← List.take_append_drop 24 (words1.drop 24), List.all_append, w_t2, ← List.take_append_drop 24 ((words1.drop 24).drop 24), List.all_append, w_t3, w_t4]
  rfl
set_option maxRecDepth 65536 in
theorem w_case : (Jvm.Cond.and given_1 narrow_1).before args0 about1 = true := by decide +kernel
theorem w_applies : (headSpec (Jvm.Cond.code x code maxLocals ret :: tables_1) room_1).applies x e0.platform about1 = true :=
  (Spec.applies_iff w_frames).mpr ⟨w_running, w_runnable, w_alone, w_named, w_hears, w_ripe, w_room, w_tables⟩
theorem atStart : AtStart classFile x code maxLocals ret World_1 tables_1 room_1 Calls_1 rest_1 Pre_1 launch0 p0 e0 about1 theMethod args0 below0 :=
  ⟨lists_1, trivial, launch0.admits_env _ _ _, launch0.least_env, fairChoices_fair.cas, fairChoices_fair.clock, w_frames, w_args, w_heap, w_applies, trivial, trivial, w_case⟩
end start1
theorem witness_1 : WitnessClaimed_1 := ⟨start1.p0, start1.e0, start1.about1, start1.theMethod, start1.args0, start1.below0, start1.atStart⟩
end Jvm.Pilot.@@N@@
