import JvmDerived
import JvmDerived.Pilot.@@N@@Statement
import JvmDerived.Pilot.@@N@@Code
set_option linter.unusedVariables false
set_option linter.unusedSimpArgs false
namespace Jvm.Pilot.@@N@@
open Jvm Jvm.ClassFile Sem Op Lib Jvm.Free Jvm.Stand Jvm.LawKit Jvm.RoadKit Bundle Jvm.Pilot.@@N@@.Jvm.D
section OwnKit
abbrev oU : Slot := .unset
abbrev oS : Slot := .second
abbrev oJ (x : Int64) : Slot := .val (.long x)
variable {p : Program} {l : Launch} {e : Env} {R : Room} {s : State} {m : MethodId} {args : Array Value} {below : List Frame} {meth : Method} {c : Code} {T A B : State} {locs : List Loc} {cells slots : Nat} {G : State → Outcome → Prop} {Q : Option Value → Heap → List Loc → Prop} {C S : Nat} {pc : Nat} {Ls : Array Slot} {rest : List Value}
/-- from A the run ends, and what it leaves is G -/
def own_Go (p : Program) (e : Env) (below : List Frame) (G : State → Outcome → Prop) (A : State) : Prop := ∃ u o, Steps p.tables e below A u ∧ u.status = .running ∧ Ended u below o ∧ G u o
def own_Post (s : State) (Q : Option Value → Heap → List Loc → Prop) (C S : Nat) : State → Outcome → Prop := fun u o => ∃ v L, o = .returned v ∧ Q v u.heap L ∧ FrameEnd s o u L C S
def own_PostW (s : State) (Q : Option Value → Heap → List Loc → Prop) (C S : Nat) : State → Outcome → Prop := fun u o => ∃ v L, o = .returned v ∧ Q v u.heap L ∧ ReturnedEndW s o u L C S
theorem own_by (k : ∀ t, Steps p.tables e below B t → Steps p.tables e below A t) (h : own_Go p e below G B) : own_Go p e below G A := by
  obtain ⟨u, o, h1, h2⟩ := h
  exact ⟨u, o, k _ h1, h2⟩
theorem own_tr (k : Steps p.tables e below A B) (h : own_Go p e below G B) : own_Go p e below G A := by
  obtain ⟨u, o, h1, h2⟩ := h
  exact ⟨u, o, k.trans h1, h2⟩
theorem own_retI (X : Stand p l e R s m args below meth c T locs cells slots) (hlk : meth.locks = false) (hx : p.tables.exec = Jvm.exec) (hret : meth.sig.returnType = some .int) {z : Int32} (hd : decode c.code pc = .ok (.ireturn, 1)) (hq : Q (some (.int z)) T.heap locs) (hC : cells ≤ C) (hS : slots ≤ S) :
    own_Go p e below (own_Post s Q C S) (T.setTop (mkF m pc Ls (.int z :: rest))) := by
  obtain ⟨fs, hr, hrun, hended, hW, hsame⟩ := X.leave (v := some (.int z)) (fun h => by rw [hret] at h; cases h) hlk
  have hm' : T.vm.method? m = some meth := X.method'
  have hn : narrow .int (.int z) = .int z := rfl
  refine ⟨_, _, ?_, hrun, hended, _, _, rfl, hq, ⟨_, rfl⟩, hW, hsame.mono hC hS⟩
  show Steps p.tables e below (T.setTop { method := m, pc := pc, locals := Ls, stack := _ :: rest, locked := none }) _
  jvm_step X.here [X.here.top, hx, hd, hm', hret, hn]
  first | (intro acts; rw [hr _ acts rfl rfl rfl]) | rw [hr _ _ rfl rfl rfl]
  exact Steps.refl _
theorem own_retN (X : Stand p l e R s m args below meth c T locs cells slots) (hlk : meth.locks = false) (hx : p.tables.exec = Jvm.exec) {t : FieldType} (hret : meth.sig.returnType = some t) (ht : t = .boolean ∨ t = .byte ∨ t = .char ∨ t = .short) {z : Int32} (hd : decode c.code pc = .ok (.ireturn, 1)) (hq : Q (some (.int (nar t z))) T.heap locs) (hC : cells ≤ C) (hS : slots ≤ S) :
    own_Go p e below (own_Post s Q C S) (T.setTop (mkF m pc Ls (.int z :: rest))) := by
  obtain ⟨fs, hr, hrun, hended, hW, hsame⟩ := X.leave (v := some (.int (nar t z))) (fun h => by rw [hret] at h; cases h) hlk
  exact ⟨_, _, retN X hx hret ht hd hr, hrun, hended, _, _, rfl, hq, ⟨_, rfl⟩, hW, hsame.mono hC hS⟩
theorem own_retNW {vm₁ : Vm} (X : Stand p l e R (s.setVm vm₁) m args below meth c T locs cells slots) (hlk : meth.locks = false) (hx : p.tables.exec = Jvm.exec) {t : FieldType} (hret : meth.sig.returnType = some t) (ht : t = .boolean ∨ t = .byte ∨ t = .char ∨ t = .short) {z : Int32} (hd : decode c.code pc = .ok (.ireturn, 1)) {n : Nat} (hSi : s.Since vm₁ n) (hn : n ≤ T.heap.size) (hq : Q (some (.int (nar t z))) T.heap locs) (hC : cells ≤ C) (hS : slots ≤ S) :
    own_Go p e below (own_PostW s Q C S) (T.setTop (mkF m pc Ls (.int z :: rest))) := by
  obtain ⟨fs, hr, hrun, hended, h1, h2, h3, h4⟩ := X.leaveW hSi hn (v := some (.int (nar t z))) (fun h => by rw [hret] at h; cases h) hlk
  exact ⟨_, _, retN X hx hret ht hd hr, hrun, hended, _, _, rfl, hq, h1, h2, h3, h4.mono hC hS⟩
theorem own_retL (X : Stand p l e R s m args below meth c T locs cells slots) (hlk : meth.locks = false) (hx : p.tables.exec = Jvm.exec) (hret : meth.sig.returnType = some .long) {z : Int64} (hd : decode c.code pc = .ok (.lreturn, 1)) (hq : Q (some (.long z)) T.heap locs) (hC : cells ≤ C) (hS : slots ≤ S) :
    own_Go p e below (own_Post s Q C S) (T.setTop (mkF m pc Ls [.long z])) := by
  obtain ⟨fs, hr, hrun, hended, hW, hsame⟩ := X.leave (v := some (.long z)) (fun h => by rw [hret] at h; cases h) hlk
  exact ⟨_, _, retOut X hx (t := .long) (i := .lreturn) hret rfl (Or.inr (Or.inl ⟨rfl, rfl, _, rfl⟩)) hd hr, hrun, hended, _, _, rfl, hq, ⟨_, rfl⟩, hW, hsame.mono hC hS⟩
theorem own_retR (X : Stand p l e R s m args below meth c T locs cells slots) (hlk : meth.locks = false) (hx : p.tables.exec = Jvm.exec) {t : FieldType} (hret : meth.sig.returnType = some t) {w : Value} (ht : t.isReference = true) (hn : narrow t w = w) (hw : w.isRef = true) (hd : decode c.code pc = .ok (.areturn, 1)) (hq : Q (some w) T.heap locs) (hC : cells ≤ C) (hS : slots ≤ S) :
    own_Go p e below (own_Post s Q C S) (T.setTop (mkF m pc Ls (w :: rest))) := by
  obtain ⟨fs, hr, hrun, hended, hW, hsame⟩ := X.leave (v := some w) (fun h => by rw [hret] at h; cases h) hlk
  exact ⟨_, _, retOut X hx (t := t) (i := .areturn) hret hn (Or.inr (Or.inr (Or.inr (Or.inr ⟨rfl, ht, hw⟩)))) hd hr, hrun, hended, _, _, rfl, hq, ⟨_, rfl⟩, hW, hsame.mono hC hS⟩
theorem own_retV (X : Stand p l e R s m args below meth c T locs cells slots) (hlk : meth.locks = false) (hx : p.tables.exec = Jvm.exec) (hret : meth.sig.returnType = none) (hd : decode c.code pc = .ok (.return_, 1)) (hq : Q none T.heap locs) (hC : cells ≤ C) (hS : slots ≤ S) :
    own_Go p e below (own_Post s Q C S) (T.setTop (mkF m pc Ls [])) := by
  obtain ⟨fs, hr, hrun, hended, hW, hsame⟩ := X.leave (v := none) (fun _ => rfl) hlk
  exact ⟨_, _, X.returnOut hx hret hd hr, hrun, hended, _, _, rfl, hq, ⟨_, rfl⟩, hW, hsame.mono hC hS⟩
theorem own_nev {Z : State} {h : Heap} {a b : Addr} {C : String} {a0 : Array Value} {n : Nat} {k : ClassId} {ty : FieldType} {z : Int32} {vs : List Value} {dv : Value} (E : Exa Z h a C) (wi : (Jvm.Cond.instantiable C n).before a0 Z = true) (F : Arv Z h b k ty z vs dv) : a ≠ b := by
  obtain ⟨c, A, -⟩ := F
  exact ne_arr E wi A
theorem own_selp {args' : Array Value} {y : MethodName} {n : Nat} (hins : (Jvm.Cond.instantiable y.cls n).before args' s = true) (hpriv : (Jvm.Cond.privateMethod y).before args' s = true) (hinst : (Jvm.Cond.instanceMethod y).before args' s = true) (hy : y.cls ≠ "java/lang/invoke/MethodHandle" ∧ y.cls ≠ "java/lang/invoke/VarHandle") : (Jvm.Cond.selects y.cls y y).before args' s = true := by
  obtain ⟨c, k, hc, hk, -, hniab, -, -⟩ := Cond.instantiable_spec hins
  exact selects_self_of_private hc hk (Bool.or_eq_false_iff.mp hniab).1 (Cond.privateMethod_at hpriv) hinst hy
theorem own_callS (X : Stand p l e R s m args below meth c T locs cells slots) (hx : p.tables.exec = Jvm.exec) {Z : State} {a0 : Array Value} {h : Heap} (hZ : Z.Warmed39 s.vm) {own : String} {index : Nat} {y : MethodName} (hown : s.vm.findClass own = some m.cls) {bytes : ByteArray} {maxL : Nat} {ret : Option FieldType} {rm : Room} {as' : Array Value} {Q : Option Value → Heap → List Loc → Prop} (w1 : (Jvm.Cond.methodLink own index y).before a0 Z = true) (w2 : (Jvm.Cond.static y).before a0 Z = true) (w3 : (Jvm.Cond.initialized y.cls).before a0 Z = true) (w4 : (Jvm.Cond.code y bytes maxL ret).before a0 Z = true) (hy : y.cls ≠ "java/lang/invoke/MethodHandle" ∧ y.cls ≠ "java/lang/invoke/VarHandle")
    (hM : MetFree l y (head1 [Jvm.Cond.code y bytes maxL ret] rm) (fun a U => a = as' ∧ Z.Warmed39 U.vm ∧ U.heap = h) (fun _ _ _ _ _ => True) (fun _ U o U' => ∃ v L, o = .returned v ∧ Q v U'.heap L ∧ FrameEnd U o U' L rm.cells rm.slots)) (eT : T.heap = h) (W : Nat) (hf : rm.frames + 1 ≤ R.frames) (hl : W + (maxL + 11) + rm.locals ≤ R.locals) (hc : cells + rm.cells ≤ R.cells) (hs : slots + rm.slots ≤ R.slots) {g : JFrame} (hg : g.method = m) (hsize : g.locals.size = c.maxLocals) (argsL rest : List Value) (ha : argsL.toArray = as') (hlen : ∀ sig, parseMethodDescriptor y.desc = some sig → argsL.length = sig.parameters.length) (hstack : g.stack = argsL.reverse ++ rest) (hW : 2 * g.monitorRoom + (rest.map fun v => v.category).sum ≤ W) (hd : decode c.code g.pc = .ok (.invokestatic index, 3)) :
    ∃ (T' : State) (L : List Loc) (v : Option Value), Stand p l e R s m args below meth c T' (locs ++ L) (cells + rm.cells) (slots + rm.slots) ∧ Q v T'.heap L ∧ ∀ t, Steps p.tables e below (T'.setTop { g with pc := g.pc + 3, stack := v.toList ++ rest }) t → Steps p.tables e below (T.setTop g) t := by
  obtain ⟨v, _, ⟨T', L', k', n'⟩, -, X', ⟨L, hQ, h2, h3, h4⟩, st⟩ := Jvm.LawKit.callS X hx (y := y) hown (mvT hZ w1) (mvT hZ w2) (mvT hZ w3) (mvT hZ w4) hy (backOf (W := W) hM hZ w4 w3 hf hl) (g := g) hg hsize (argsL := argsL) (rest := rest) hlen hstack hW hd (fun _ _ => ⟨ha, eT, hc, hs⟩)
  dsimp only [Pt.U, Pt.locs, Pt.cells, Pt.slots] at X' h2 h3 h4 st hQ
  subst h2 h3 h4
  exact ⟨T', L, v, X', hQ, st⟩
theorem own_callI (X : Stand p l e R s m args below meth c T locs cells slots) (hx : p.tables.exec = Jvm.exec) {Z : State} {a0 : Array Value} {h : Heap} (hZ : Z.Warmed39 s.vm) {own : String} {index : Nat} {y : MethodName} (hy1 : y.name = "<init>") (hown : s.vm.findClass own = some m.cls) {bytes : ByteArray} {maxL : Nat} {rm : Room} {as' : Array Value} {Q : Option Value → Heap → List Loc → Prop} (w1 : (Jvm.Cond.methodLink own index y).before a0 Z = true) (w2 : (Jvm.Cond.instanceMethod y).before a0 Z = true) (w3 : (Jvm.Cond.initialized y.cls).before a0 Z = true) (w4 : (Jvm.Cond.code y bytes maxL none).before a0 Z = true) (hy : y.cls ≠ "java/lang/invoke/MethodHandle" ∧ y.cls ≠ "java/lang/invoke/VarHandle")
    (hM : MetFree l y (head1 [Jvm.Cond.code y bytes maxL none] rm) (fun a U => a = as' ∧ Z.Warmed39 U.vm ∧ U.heap = h) (fun _ _ _ _ _ => True) (fun _ U o U' => ∃ v L, o = .returned v ∧ Q v U'.heap L ∧ FrameEnd U o U' L rm.cells rm.slots)) (eT : T.heap = h) (W : Nat) (hf : rm.frames + 1 ≤ R.frames) (hl : W + (maxL + 11) + rm.locals ≤ R.locals) (hc : cells + rm.cells ≤ R.cells) (hs : slots + rm.slots ≤ R.slots) {g : JFrame} (hg : g.method = m) (hsize : g.locals.size = c.maxLocals) (a : Addr) (argsL rest : List Value) (ha : (.ref a :: argsL).toArray = as') (hlen : ∀ sig, parseMethodDescriptor y.desc = some sig → argsL.length = sig.parameters.length) (hstack : g.stack = argsL.reverse ++ .ref a :: rest) (hW : 2 * g.monitorRoom + (rest.map fun v => v.category).sum ≤ W) (hd : decode c.code g.pc = .ok (.invokespecial index, 3)) :
    ∃ (T' : State) (L : List Loc) (v : Option Value), Stand p l e R s m args below meth c T' (locs ++ L) (cells + rm.cells) (slots + rm.slots) ∧ Q v T'.heap L ∧ ∀ t, Steps p.tables e below (T'.setTop { g with pc := g.pc + 3, stack := v.toList ++ rest }) t → Steps p.tables e below (T.setTop g) t := by
  obtain ⟨v, _, ⟨T', L', k', n'⟩, -, X', ⟨L, hQ, h2, h3, h4⟩, st⟩ := X.specialBack hx (y := y) hy1 hown (mvT hZ w1) (mvT hZ w2) (mvT hZ w4) hy (backOf (W := W) hM hZ w4 w3 hf hl) (g := g) hg hsize (Steps.refl _) (a := a) (argsL := argsL) (rest := rest) hlen hstack hW hd (fun _ _ => ⟨ha, eT, hc, hs⟩)
  dsimp only [Pt.U, Pt.locs, Pt.cells, Pt.slots] at X' h2 h3 h4 st hQ
  subst h2 h3 h4
  exact ⟨T', L, v, X', hQ, fun t k => st.trans k⟩
theorem own_callP (X : Stand p l e R s m args below meth c T locs cells slots) (hx : p.tables.exec = Jvm.exec) {Z : State} {a0 : Array Value} {h : Heap} (hZ : Z.Warmed39 s.vm) {own C : String} {index n : Nat} {y : MethodName} (hown : s.vm.findClass own = some m.cls) {bytes : ByteArray} {maxL : Nat} {ret : Option FieldType} {rm : Room} {as' : Array Value} {Q : Option Value → Heap → List Loc → Prop} (w1 : (Jvm.Cond.methodLink own index y).before a0 Z = true) (w2 : (Jvm.Cond.instanceMethod y).before a0 Z = true) (w3 : (Jvm.Cond.initialized y.cls).before a0 Z = true) (w4 : (Jvm.Cond.code y bytes maxL ret).before a0 Z = true) (w5 : (Jvm.Cond.privateMethod y).before a0 Z = true) (w6 : (Jvm.Cond.instantiable y.cls n).before a0 Z = true) (hy : y.cls ≠ "java/lang/invoke/MethodHandle" ∧ y.cls ≠ "java/lang/invoke/VarHandle")
    (hM : MetFree l y (head1 [Jvm.Cond.code y bytes maxL ret] rm) (fun a U => a = as' ∧ Z.Warmed39 U.vm ∧ U.heap = h) (fun _ _ _ _ _ => True) (fun _ U o U' => ∃ v L, o = .returned v ∧ Q v U'.heap L ∧ FrameEnd U o U' L rm.cells rm.slots)) (eT : T.heap = h) (W : Nat) (hf : rm.frames + 1 ≤ R.frames) (hl : W + (maxL + 11) + rm.locals ≤ R.locals) (hc : cells + rm.cells ≤ R.cells) (hs : slots + rm.slots ≤ R.slots) {g : JFrame} (hg : g.method = m) (hsize : g.locals.size = c.maxLocals) (a : Addr) (E : Exa Z h a C) (argsL rest : List Value) (ha : (.ref a :: argsL).toArray = as') (hlen : ∀ sig, parseMethodDescriptor y.desc = some sig → argsL.length = sig.parameters.length) (hstack : g.stack = argsL.reverse ++ .ref a :: rest) (hW : 2 * g.monitorRoom + (rest.map fun v => v.category).sum ≤ W) (hd : decode c.code g.pc = .ok (.invokevirtual index, 3)) :
    ∃ (T' : State) (L : List Loc) (v : Option Value), Stand p l e R s m args below meth c T' (locs ++ L) (cells + rm.cells) (slots + rm.slots) ∧ Q v T'.heap L ∧ ∀ t, Steps p.tables e below (T'.setTop { g with pc := g.pc + 3, stack := v.toList ++ rest }) t → Steps p.tables e below (T.setTop g) t := by
  obtain ⟨cq, q1, q2⟩ := E.cell
  obtain ⟨v, _, ⟨T', L', k', n'⟩, -, X', ⟨L, hQ, h2, h3, h4⟩, st⟩ := X.privateBack hx (y := y) hown (mvT hZ w1) (mvT hZ w2) (own_selp (y := y) (mvT hZ w6) (mvP hZ w5) (mvT hZ w2) hy) (Cond.privateMethod_at (mvP hZ w5 (args := #[]))) (mvT hZ w4) hy (backOf (W := W) hM hZ w4 w3 hf hl) (g := g) hg hsize (Steps.refl _) (a := a) (by rw [eT]; exact q1) q2 (argsL := argsL) (rest := rest) hlen hstack hW hd (fun _ _ => ⟨ha, eT, hc, hs⟩)
  dsimp only [Pt.U, Pt.locs, Pt.cells, Pt.slots] at X' h2 h3 h4 st hQ
  subst h2 h3 h4
  exact ⟨T', L, v, X', hQ, fun t k => st.trans k⟩
theorem own_callV (X : Stand p l e R s m args below meth c T locs cells slots) (hx : p.tables.exec = Jvm.exec) {Z : State} {a0 : Array Value} {h : Heap} (hZ : Z.Warmed39 s.vm) {own C : String} {index : Nat} {y z : MethodName} (hown : s.vm.findClass own = some m.cls) {bytes : ByteArray} {maxL : Nat} {ret : Option FieldType} {rm : Room} {as' : Array Value} {Q : Option Value → Heap → List Loc → Prop} (w1 : (Jvm.Cond.methodLink own index y).before a0 Z = true) (w2 : (Jvm.Cond.declares y).before a0 Z = true) (hnf : NotFace s y) (w3 : (Jvm.Cond.selects C y z).before a0 Z = true) (w4 : (Jvm.Cond.instanceMethod z).before a0 Z = true) (w5 : (Jvm.Cond.initialized z.cls).before a0 Z = true) (w6 : (Jvm.Cond.code z bytes maxL ret).before a0 Z = true) (hy : y.cls ≠ "java/lang/invoke/MethodHandle" ∧ y.cls ≠ "java/lang/invoke/VarHandle")
    (hM : MetFree l z (head1 [Jvm.Cond.code z bytes maxL ret] rm) (fun a U => a = as' ∧ Z.Warmed39 U.vm ∧ U.heap = h) (fun _ _ _ _ _ => True) (fun _ U o U' => ∃ v L, o = .returned v ∧ Q v U'.heap L ∧ FrameEnd U o U' L rm.cells rm.slots)) (eT : T.heap = h) (W : Nat) (hf : rm.frames + 1 ≤ R.frames) (hl : W + (maxL + 11) + rm.locals ≤ R.locals) (hc : cells + rm.cells ≤ R.cells) (hs : slots + rm.slots ≤ R.slots) {g : JFrame} (hg : g.method = m) (hsize : g.locals.size = c.maxLocals) (a : Addr) (E : Exa Z h a C) (argsL rest : List Value) (ha : (.ref a :: argsL).toArray = as') (hlen : ∀ sig, parseMethodDescriptor y.desc = some sig → argsL.length = sig.parameters.length) (hstack : g.stack = argsL.reverse ++ .ref a :: rest) (hW : 2 * g.monitorRoom + (rest.map fun v => v.category).sum ≤ W) (hd : decode c.code g.pc = .ok (.invokevirtual index, 3)) :
    ∃ (T' : State) (L : List Loc) (v : Option Value), Stand p l e R s m args below meth c T' (locs ++ L) (cells + rm.cells) (slots + rm.slots) ∧ Q v T'.heap L ∧ ∀ t, Steps p.tables e below (T'.setTop { g with pc := g.pc + 3, stack := v.toList ++ rest }) t → Steps p.tables e below (T.setTop g) t := by
  obtain ⟨cq, kq, qa, qb, qc⟩ := isOf hZ eT E
  obtain ⟨v, _, ⟨T', L', k', n'⟩, -, X', ⟨L, hQ, h2, h3, h4⟩, st⟩ := X.virtualBack hx (y := y) (z := z) hown (mvT hZ w1) (mvT hZ w2) hnf (mvT hZ w3) (mvT hZ w4) hy (backOf (W := W) hM hZ w6 w5 hf hl) qa qc (g := g) hg hsize (Steps.refl _) (argsL := argsL) (rest := rest) hlen hstack hW hd (fun _ _ => ⟨ha, eT, hc, hs⟩)
  dsimp only [Pt.U, Pt.locs, Pt.cells, Pt.slots] at X' h2 h3 h4 st hQ
  subst h2 h3 h4
  exact ⟨T', L, v, X', hQ, fun t k => st.trans k⟩
theorem own_callF (X : Stand p l e R s m args below meth c T locs cells slots) (hx : p.tables.exec = Jvm.exec) {Z : State} {a0 : Array Value} {h : Heap} (hZ : Z.Warmed39 s.vm) {own C : String} {index count : Nat} {y z : MethodName} (hown : s.vm.findClass own = some m.cls) {bytes : ByteArray} {maxL : Nat} {ret : Option FieldType} {rm : Room} {as' : Array Value} {Q : Option Value → Heap → List Loc → Prop} (w1 : (Jvm.Cond.methodLink own index y).before a0 Z = true) (w2 : (Jvm.Cond.declares y).before a0 Z = true) (w3 : (Jvm.Cond.interfaceMethod y.cls y.cls y.name y.desc).before a0 Z = true) (w4 : (Jvm.Cond.selects C y z).before a0 Z = true) (w5 : (Jvm.Cond.instanceMethod z).before a0 Z = true) (w6 : (Jvm.Cond.publicMethod z).before a0 Z = true) (w7 : (Jvm.Cond.unhidden C y.name y.desc).before a0 Z = true) (w8 : (Jvm.Cond.castable C y.cls).before a0 Z = true) (w9 : (Jvm.Cond.initialized z.cls).before a0 Z = true) (w10 : (Jvm.Cond.code z bytes maxL ret).before a0 Z = true) (hy : y.cls ≠ "java/lang/invoke/MethodHandle" ∧ y.cls ≠ "java/lang/invoke/VarHandle")
    (hM : MetFree l z (head1 [Jvm.Cond.code z bytes maxL ret] rm) (fun a U => a = as' ∧ Z.Warmed39 U.vm ∧ U.heap = h) (fun _ _ _ _ _ => True) (fun _ U o U' => ∃ v L, o = .returned v ∧ Q v U'.heap L ∧ FrameEnd U o U' L rm.cells rm.slots)) (eT : T.heap = h) (W : Nat) (hf : rm.frames + 1 ≤ R.frames) (hl : W + (maxL + 11) + rm.locals ≤ R.locals) (hc : cells + rm.cells ≤ R.cells) (hs : slots + rm.slots ≤ R.slots) {g : JFrame} (hg : g.method = m) (hsize : g.locals.size = c.maxLocals) (a : Addr) (E : Exa Z h a C) (argsL rest : List Value) (ha : (.ref a :: argsL).toArray = as') (hlen : ∀ sig, parseMethodDescriptor y.desc = some sig → argsL.length = sig.parameters.length) (hstack : g.stack = argsL.reverse ++ .ref a :: rest) (hW : 2 * g.monitorRoom + (rest.map fun v => v.category).sum ≤ W) (hd : decode c.code g.pc = .ok (.invokeinterface index count, 5)) (hw3 : ((Jvm.Cond.interfaceMethod y.cls y.cls y.name y.desc).onTables && (Jvm.Cond.interfaceMethod y.cls y.cls y.name y.desc).keepsFace) = true := by first | rfl | simp [Cond.onTables, Cond.keepsFace, Cond.keeps, Cond.steady]) :
    ∃ (T' : State) (L : List Loc) (v : Option Value), Stand p l e R s m args below meth c T' (locs ++ L) (cells + rm.cells) (slots + rm.slots) ∧ Q v T'.heap L ∧ ∀ t, Steps p.tables e below (T'.setTop { g with pc := g.pc + 5, stack := v.toList ++ rest }) t → Steps p.tables e below (T.setTop g) t := by
  obtain ⟨cq, kq, qa, qb, qc⟩ := isOf hZ eT E
  obtain ⟨v, _, ⟨T', L', k', n'⟩, -, X', ⟨L, hQ, h2, h3, h4⟩, st⟩ := X.interfaceBack hx (xi := y) (y := z) hown (mvT hZ w1) (mvT hZ w2) (mvT hZ w3 hw3) (mvT hZ w4) (mvT hZ w5) (mvT hZ w6) (mvT hZ w7) (mvT hZ w8) hy (backOf (W := W) hM hZ w10 w9 hf hl) qa qb qc (g := g) hg hsize (Steps.refl _) (argsL := argsL) (rest := rest) hlen hstack hW hd (fun _ _ => ⟨ha, eT, hc, hs⟩)
  dsimp only [Pt.U, Pt.locs, Pt.cells, Pt.slots] at X' h2 h3 h4 st hQ
  subst h2 h3 h4
  exact ⟨T', L, v, X', hQ, fun t k => st.trans k⟩
theorem own_c1 {g g' : JFrame} {h : Heap} (h1 : ∃ T', Stand p l e R s m args below meth c T' locs cells slots ∧ T'.heap = h ∧ ∀ t, Steps p.tables e below (T'.setTop g') t → Steps p.tables e below (T.setTop g) t) (k : ∀ T', Stand p l e R s m args below meth c T' locs cells slots → T'.heap = h → own_Go p e below G (T'.setTop g')) : own_Go p e below G (T.setTop g) := by
  obtain ⟨T', X', e', st⟩ := h1
  exact own_by st (k T' X' e')
theorem own_c2 {g g' : JFrame} {h : Heap} {a : Addr} {sl : Nat} {v : Value} (h1 : ∃ T' h', Stand p l e R s m args below meth c T' (locs ++ [⟨a, sl⟩]) cells slots ∧ T'.heap = h' ∧ Wr h h' a sl v ∧ ∀ t, Steps p.tables e below (T'.setTop g') t → Steps p.tables e below (T.setTop g) t) (k : ∀ T' h', Stand p l e R s m args below meth c T' (locs ++ [⟨a, sl⟩]) cells slots → T'.heap = h' → Wr h h' a sl v → own_Go p e below G (T'.setTop g')) : own_Go p e below G (T.setTop g) := by
  obtain ⟨T', h', X', e', W, st⟩ := h1
  exact own_by st (k T' h' X' e' W)
theorem own_cc {g : JFrame} {c1 s1 : Nat} {Q : Option Value → Heap → List Loc → Prop} {f : Option Value → JFrame} (h1 : ∃ (T' : State) (L : List Loc) (v : Option Value), Stand p l e R s m args below meth c T' (locs ++ L) c1 s1 ∧ Q v T'.heap L ∧ ∀ t, Steps p.tables e below (T'.setTop (f v)) t → Steps p.tables e below (T.setTop g) t) (k : ∀ (T' : State) (L : List Loc) (v : Option Value), Stand p l e R s m args below meth c T' (locs ++ L) c1 s1 → Q v T'.heap L → own_Go p e below G (T'.setTop (f v))) : own_Go p e below G (T.setTop g) := by
  obtain ⟨T', L, v, X', hQ, st⟩ := h1
  exact own_by st (k T' L v X' hQ)
end OwnKit
theorem sn0 {Z : State} {a0 : Array Value} (hw : ∀ d ∈ tables_1, d.before a0 Z = true) : Jvm.RoadKit.slotOf Z "com/example/chartwell/chartwell/http/RequestReader$HeadEnd" "scanned" "I" ≠ Jvm.RoadKit.slotOf Z "com/example/chartwell/chartwell/http/RequestReader$HeadEnd" "lineEmpty" "Z" := slot_ne (Or.inl (hw _ (List.mem_of_getElem? (i := 31) rfl))) (Or.inl (hw _ (List.mem_of_getElem? (i := 22) rfl))) (by decide) (t := .int) (t' := .boolean) (by decide) (by decide)
theorem sn1 {Z : State} {a0 : Array Value} (hw : ∀ d ∈ tables_1, d.before a0 Z = true) : Jvm.RoadKit.slotOf Z "com/example/chartwell/chartwell/http/RequestReader$HeadEnd" "end" "I" ≠ Jvm.RoadKit.slotOf Z "com/example/chartwell/chartwell/http/RequestReader$HeadEnd" "lineEmpty" "Z" := slot_ne (Or.inl (hw _ (List.mem_of_getElem? (i := 24) rfl))) (Or.inl (hw _ (List.mem_of_getElem? (i := 22) rfl))) (by decide) (t := .int) (t' := .boolean) (by decide) (by decide)
theorem sn2 {Z : State} {a0 : Array Value} (hw : ∀ d ∈ tables_1, d.before a0 Z = true) : Jvm.RoadKit.slotOf Z "com/example/chartwell/chartwell/http/RequestReader$HeadEnd" "started" "Z" ≠ Jvm.RoadKit.slotOf Z "com/example/chartwell/chartwell/http/RequestReader$HeadEnd" "lineEmpty" "Z" := slot_ne (Or.inl (hw _ (List.mem_of_getElem? (i := 33) rfl))) (Or.inl (hw _ (List.mem_of_getElem? (i := 22) rfl))) (by decide) (t := .boolean) (t' := .boolean) (by decide) (by decide)
theorem sn3 {Z : State} {a0 : Array Value} (hw : ∀ d ∈ tables_1, d.before a0 Z = true) : Jvm.RoadKit.slotOf Z "com/example/chartwell/chartwell/http/RequestReader$HeadEnd" "scanned" "I" ≠ Jvm.RoadKit.slotOf Z "com/example/chartwell/chartwell/http/RequestReader$HeadEnd" "end" "I" := slot_ne (Or.inl (hw _ (List.mem_of_getElem? (i := 31) rfl))) (Or.inl (hw _ (List.mem_of_getElem? (i := 24) rfl))) (by decide) (t := .int) (t' := .int) (by decide) (by decide)
theorem sn4 {Z : State} {a0 : Array Value} (hw : ∀ d ∈ tables_1, d.before a0 Z = true) : Jvm.RoadKit.slotOf Z "com/example/chartwell/chartwell/http/RequestReader$HeadEnd" "lineEmpty" "Z" ≠ Jvm.RoadKit.slotOf Z "com/example/chartwell/chartwell/http/RequestReader$HeadEnd" "end" "I" := slot_ne (Or.inl (hw _ (List.mem_of_getElem? (i := 22) rfl))) (Or.inl (hw _ (List.mem_of_getElem? (i := 24) rfl))) (by decide) (t := .boolean) (t' := .int) (by decide) (by decide)
theorem sn5 {Z : State} {a0 : Array Value} (hw : ∀ d ∈ tables_1, d.before a0 Z = true) : Jvm.RoadKit.slotOf Z "com/example/chartwell/chartwell/http/RequestReader$HeadEnd" "started" "Z" ≠ Jvm.RoadKit.slotOf Z "com/example/chartwell/chartwell/http/RequestReader$HeadEnd" "end" "I" := slot_ne (Or.inl (hw _ (List.mem_of_getElem? (i := 33) rfl))) (Or.inl (hw _ (List.mem_of_getElem? (i := 24) rfl))) (by decide) (t := .boolean) (t' := .int) (by decide) (by decide)
theorem sn6 {Z : State} {a0 : Array Value} (hw : ∀ d ∈ tables_1, d.before a0 Z = true) : Jvm.RoadKit.slotOf Z "com/example/chartwell/chartwell/http/RequestReader$HeadEnd" "end" "I" ≠ Jvm.RoadKit.slotOf Z "com/example/chartwell/chartwell/http/RequestReader$HeadEnd" "scanned" "I" := slot_ne (Or.inl (hw _ (List.mem_of_getElem? (i := 24) rfl))) (Or.inl (hw _ (List.mem_of_getElem? (i := 31) rfl))) (by decide) (t := .int) (t' := .int) (by decide) (by decide)
theorem sn7 {Z : State} {a0 : Array Value} (hw : ∀ d ∈ tables_1, d.before a0 Z = true) : Jvm.RoadKit.slotOf Z "com/example/chartwell/chartwell/http/RequestReader$HeadEnd" "lineEmpty" "Z" ≠ Jvm.RoadKit.slotOf Z "com/example/chartwell/chartwell/http/RequestReader$HeadEnd" "scanned" "I" := slot_ne (Or.inl (hw _ (List.mem_of_getElem? (i := 22) rfl))) (Or.inl (hw _ (List.mem_of_getElem? (i := 31) rfl))) (by decide) (t := .boolean) (t' := .int) (by decide) (by decide)
theorem sn8 {Z : State} {a0 : Array Value} (hw : ∀ d ∈ tables_1, d.before a0 Z = true) : Jvm.RoadKit.slotOf Z "com/example/chartwell/chartwell/http/RequestReader$HeadEnd" "started" "Z" ≠ Jvm.RoadKit.slotOf Z "com/example/chartwell/chartwell/http/RequestReader$HeadEnd" "scanned" "I" := slot_ne (Or.inl (hw _ (List.mem_of_getElem? (i := 33) rfl))) (Or.inl (hw _ (List.mem_of_getElem? (i := 31) rfl))) (by decide) (t := .boolean) (t' := .int) (by decide) (by decide)
theorem sn9 {Z : State} {a0 : Array Value} (hw : ∀ d ∈ tables_1, d.before a0 Z = true) : Jvm.RoadKit.slotOf Z "com/example/chartwell/chartwell/http/RequestReader$HeadEnd" "scanned" "I" ≠ Jvm.RoadKit.slotOf Z "com/example/chartwell/chartwell/http/RequestReader$HeadEnd" "started" "Z" := slot_ne (Or.inl (hw _ (List.mem_of_getElem? (i := 31) rfl))) (Or.inl (hw _ (List.mem_of_getElem? (i := 33) rfl))) (by decide) (t := .int) (t' := .boolean) (by decide) (by decide)
theorem sn10 {Z : State} {a0 : Array Value} (hw : ∀ d ∈ tables_1, d.before a0 Z = true) : Jvm.RoadKit.slotOf Z "com/example/chartwell/chartwell/http/RequestReader$HeadEnd" "end" "I" ≠ Jvm.RoadKit.slotOf Z "com/example/chartwell/chartwell/http/RequestReader$HeadEnd" "started" "Z" := slot_ne (Or.inl (hw _ (List.mem_of_getElem? (i := 24) rfl))) (Or.inl (hw _ (List.mem_of_getElem? (i := 33) rfl))) (by decide) (t := .int) (t' := .boolean) (by decide) (by decide)
theorem sn11 {Z : State} {a0 : Array Value} (hw : ∀ d ∈ tables_1, d.before a0 Z = true) : Jvm.RoadKit.slotOf Z "com/example/chartwell/chartwell/http/RequestReader$HeadEnd" "lineEmpty" "Z" ≠ Jvm.RoadKit.slotOf Z "com/example/chartwell/chartwell/http/RequestReader$HeadEnd" "started" "Z" := slot_ne (Or.inl (hw _ (List.mem_of_getElem? (i := 22) rfl))) (Or.inl (hw _ (List.mem_of_getElem? (i := 33) rfl))) (by decide) (t := .boolean) (t' := .boolean) (by decide) (by decide)
def fpick (p0 : Int32) (q1 : Int64) (p2 : Int32) : Int32 := (if (((p0.toUInt32 >>> (((2 : Int32) * p2) &&& 31).toUInt32).toInt32) &&& (3 : Int32)) = (0 : Int32) then (nar .byte (10 : Int32)) else (if (((p0.toUInt32 >>> (((2 : Int32) * p2) &&& 31).toUInt32).toInt32) &&& (3 : Int32)) = (1 : Int32) then (nar .byte (13 : Int32)) else (nar .byte ((((q1.toUInt64 >>> (((8 : Int32) * p2) &&& 0x3f).toInt64.toUInt64).toInt64).toInt32).toInt8.toInt32))))
theorem d1_0 : decode method_2_code 0 = .ok (.iload_n 0, 1) := by decide +kernel
theorem d1_1 : decode method_2_code 1 = .ok (.iconst 2, 1) := by decide +kernel
theorem d1_2 : decode method_2_code 2 = .ok (.iload_n 3, 1) := by decide +kernel
theorem d1_3 : decode method_2_code 3 = .ok (.imul, 1) := by decide +kernel
theorem d1_4 : decode method_2_code 4 = .ok (.iushr, 1) := by decide +kernel
theorem d1_5 : decode method_2_code 5 = .ok (.iconst 3, 1) := by decide +kernel
theorem d1_6 : decode method_2_code 6 = .ok (.iand, 1) := by decide +kernel
theorem d1_7 : decode method_2_code 7 = .ok (.istore 4, 2) := by decide +kernel
theorem d1_9 : decode method_2_code 9 = .ok (.iload 4, 2) := by decide +kernel
theorem d1_11 : decode method_2_code 11 = .ok (.ifCond .ne 6, 3) := by decide +kernel
theorem d1_14 : decode method_2_code 14 = .ok (.bipush 10, 2) := by decide +kernel
theorem d1_16 : decode method_2_code 16 = .ok (.ireturn, 1) := by decide +kernel
theorem d1_17 : decode method_2_code 17 = .ok (.iload 4, 2) := by decide +kernel
theorem d1_19 : decode method_2_code 19 = .ok (.iconst 1, 1) := by decide +kernel
theorem d1_20 : decode method_2_code 20 = .ok (.if_icmp .ne 6, 3) := by decide +kernel
theorem d1_23 : decode method_2_code 23 = .ok (.bipush 13, 2) := by decide +kernel
theorem d1_25 : decode method_2_code 25 = .ok (.ireturn, 1) := by decide +kernel
theorem d1_26 : decode method_2_code 26 = .ok (.lload_n 1, 1) := by decide +kernel
theorem d1_27 : decode method_2_code 27 = .ok (.bipush 8, 2) := by decide +kernel
theorem d1_29 : decode method_2_code 29 = .ok (.iload_n 3, 1) := by decide +kernel
theorem d1_30 : decode method_2_code 30 = .ok (.imul, 1) := by decide +kernel
theorem d1_31 : decode method_2_code 31 = .ok (.lushr, 1) := by decide +kernel
theorem d1_32 : decode method_2_code 32 = .ok (.l2i, 1) := by decide +kernel
theorem d1_33 : decode method_2_code 33 = .ok (.i2b, 1) := by decide +kernel
theorem d1_34 : decode method_2_code 34 = .ok (.ireturn, 1) := by decide +kernel
theorem pn_1 : plainName "com/example/chartwell/chartwell/http/HeadEndFindPinLaw" = true := by first | (simp [plainName, overriddenIn]; done) | decide +kernel
theorem ef_1 (m : MethodId) (x0 : Int32) (x1 : Int64) (x2 : Int32) : entryFrame m #[(.int x0), (.long x1), (.int x2)] 5 = mkF m 0 #[iv x0, oJ x1, oS, iv x2, oU] [] := by first | (simp [entryFrame, mkF, argsToLocals, Value.category]; done) | rfl
def Q1 (Z : State) (p0 : Int32) (q1 : Int64) (p2 : Int32) (h0 : Heap) (n0 : Nat) (v : Option Value) (h : Heap) (L : List Loc) : Prop := v = some (.int (fpick p0 q1 p2)) ∧ Fr n0 L ∧ h = h0
set_option maxRecDepth 65536 in
set_option maxHeartbeats 40000000 in
theorem rm1 (l : Launch) (Z : State) (a0 : Array Value) (hw : ∀ d ∈ tables_1, d.before a0 Z = true) (ws : List Jvm.Cond) (p0 : Int32) (q1 : Int64) (p2 : Int32) (h0 : Heap) (n0 : Nat) (Z0 : n0 ≤ h0.size) :
    MetFree l (⟨"com/example/chartwell/chartwell/http/HeadEndFindPinLaw", "pick", "(IJI)B"⟩ : MethodName) (head1 (Jvm.Cond.code (⟨"com/example/chartwell/chartwell/http/HeadEndFindPinLaw", "pick", "(IJI)B"⟩ : MethodName) method_2_code 5 (some .byte) :: ws) ({ frames := 0, cells := 0, slots := 0, locals := 0 } : Room)) (fun a U => a = #[(.int p0), (.long q1), (.int p2)] ∧ Z.Warmed39 U.vm ∧ U.heap = h0) (fun _ _ _ _ _ => True) (fun _ U o U' => ∃ v L, o = .returned v ∧ Q1 Z p0 q1 p2 h0 n0 v U'.heap L ∧ FrameEnd U o U' L ({ frames := 0, cells := 0, slots := 0, locals := 0 } : Room).cells ({ frames := 0, cells := 0, slots := 0, locals := 0 } : Room).slots) := by
  refine MetFree.of_bodySF (plainFor_of_name pn_1) hisR ?_
  intro p e s m args below meth c s₁ Bd hml0 hP hK
  obtain ⟨rfl, hZ, hh⟩ := hP
  have hx := Bd.exec
  have hby := Bd.bytes
  have hml : c.maxLocals = 5 := hml0
  have hown : s.vm.findClass "com/example/chartwell/chartwell/http/HeadEndFindPinLaw" = some m.cls := findClass_of_methodNamed Bd.named
  have hnm := (name_of_methodNamed Bd.named Bd.method).1
  have X0 : Stand p l e ({ frames := 0, cells := 0, slots := 0, locals := 0 } : Room) s m #[(.int p0), (.long q1), (.int p2)] below meth c s₁ [] 0 0 := Stand.of_body Bd
  have e0 : s₁.heap = h0 := by rw [← hh, Bd.state]; rfl
  have N0 := Fr.nil n0
  change own_Go p e below (own_Post s (Q1 Z p0 q1 p2 h0 n0) ({ frames := 0, cells := 0, slots := 0, locals := 0 } : Room).cells ({ frames := 0, cells := 0, slots := 0, locals := 0 } : Room).slots) (s₁.setTop (entryFrame m #[(.int p0), (.long q1), (.int p2)] 5))
  refine own_by (fun t k => castTop (ef_1 m p0 q1 p2) k) ?_
  show own_Go p e below _ (s₁.setTop (mkF m 0 #[iv p0, oJ q1, oS, iv p2, oU] []))
  refine own_by (B := s₁.setTop (mkF m 11 #[iv p0, oJ q1, oS, iv p2, iv (((p0.toUInt32 >>> (((2 : Int32) * p2) &&& 31).toUInt32).toInt32) &&& (3 : Int32))] [(.int (((p0.toUInt32 >>> (((2 : Int32) * p2) &&& 31).toUInt32).toInt32) &&& (3 : Int32)))])) (fun t k => ?_) ?_
  · show Steps p.tables e below (s₁.setTop (mkF m 0 #[iv p0, oJ q1, oS, iv p2, oU] [])) _
    refine XS.iloadN X0.here hx rfl (hb hby d1_0) rfl ?_
    show Steps p.tables e below (s₁.setTop (mkF m 1 #[iv p0, oJ q1, oS, iv p2, oU] [(.int p0)])) _
    refine XS.iconst X0.here hx rfl (hb hby d1_1) ?_
    show Steps p.tables e below (s₁.setTop (mkF m 2 #[iv p0, oJ q1, oS, iv p2, oU] [(.int (2 : Int32)), (.int p0)])) _
    refine XS.iloadN X0.here hx rfl (hb hby d1_2) rfl ?_
    show Steps p.tables e below (s₁.setTop (mkF m 3 #[iv p0, oJ q1, oS, iv p2, oU] [(.int p2), (.int (2 : Int32)), (.int p0)])) _
    refine XS.imul X0.here hx rfl (hb hby d1_3) rfl ?_
    show Steps p.tables e below (s₁.setTop (mkF m 4 #[iv p0, oJ q1, oS, iv p2, oU] [(.int ((2 : Int32) * p2)), (.int p0)])) _
    refine XS.iushr X0.here hx rfl (hb hby d1_4) rfl ?_
    show Steps p.tables e below (s₁.setTop (mkF m 5 #[iv p0, oJ q1, oS, iv p2, oU] [(.int ((p0.toUInt32 >>> (((2 : Int32) * p2) &&& 31).toUInt32).toInt32))])) _
    refine XS.iconst X0.here hx rfl (hb hby d1_5) ?_
    show Steps p.tables e below (s₁.setTop (mkF m 6 #[iv p0, oJ q1, oS, iv p2, oU] [(.int (3 : Int32)), (.int ((p0.toUInt32 >>> (((2 : Int32) * p2) &&& 31).toUInt32).toInt32))])) _
    refine XS.iand X0.here hx rfl (hb hby d1_6) rfl ?_
    show Steps p.tables e below (s₁.setTop (mkF m 7 #[iv p0, oJ q1, oS, iv p2, oU] [(.int (((p0.toUInt32 >>> (((2 : Int32) * p2) &&& 31).toUInt32).toInt32) &&& (3 : Int32)))])) _
    refine XS.istore X0.here hx rfl (hb hby d1_7) rfl (l' := #[iv p0, oJ q1, oS, iv p2, iv (((p0.toUInt32 >>> (((2 : Int32) * p2) &&& 31).toUInt32).toInt32) &&& (3 : Int32))]) rfl ?_
    show Steps p.tables e below (s₁.setTop (mkF m 9 #[iv p0, oJ q1, oS, iv p2, iv (((p0.toUInt32 >>> (((2 : Int32) * p2) &&& 31).toUInt32).toInt32) &&& (3 : Int32))] [])) _
    refine XS.iload X0.here hx rfl (hb hby d1_9) rfl ?_
    show Steps p.tables e below (s₁.setTop (mkF m 11 #[iv p0, oJ q1, oS, iv p2, iv (((p0.toUInt32 >>> (((2 : Int32) * p2) &&& 31).toUInt32).toInt32) &&& (3 : Int32))] [(.int (((p0.toUInt32 >>> (((2 : Int32) * p2) &&& 31).toUInt32).toInt32) &&& (3 : Int32)))])) _
    exact k
  by_cases hc1 : (((p0.toUInt32 >>> (((2 : Int32) * p2) &&& 31).toUInt32).toInt32) &&& (3 : Int32)) = (0 : Int32)
  · skip
    refine own_by (fun t k => XS.ifNo X0.here hx rfl (hb hby d1_11) rfl ((if0 _ _).trans (teq hc1).2) k) ?_
    show own_Go p e below _ (s₁.setTop (mkF m 14 #[iv p0, oJ q1, oS, iv p2, iv (((p0.toUInt32 >>> (((2 : Int32) * p2) &&& 31).toUInt32).toInt32) &&& (3 : Int32))] []))
    refine own_by (B := s₁.setTop (mkF m 16 #[iv p0, oJ q1, oS, iv p2, iv (((p0.toUInt32 >>> (((2 : Int32) * p2) &&& 31).toUInt32).toInt32) &&& (3 : Int32))] [(.int (10 : Int32))])) (fun t k => ?_) ?_
    · show Steps p.tables e below (s₁.setTop (mkF m 14 #[iv p0, oJ q1, oS, iv p2, iv (((p0.toUInt32 >>> (((2 : Int32) * p2) &&& 31).toUInt32).toInt32) &&& (3 : Int32))] [])) _
      refine XS.bipush X0.here hx rfl (hb hby d1_14) ?_
      show Steps p.tables e below (s₁.setTop (mkF m 16 #[iv p0, oJ q1, oS, iv p2, iv (((p0.toUInt32 >>> (((2 : Int32) * p2) &&& 31).toUInt32).toInt32) &&& (3 : Int32))] [(.int (10 : Int32))])) _
      exact k
    exact own_retN X0 Bd.notSynchronized hx (t := .byte) Bd.returns (by simp) (hb hby d1_16) (by
        rw [show s₁.heap = h0 from e0]
        exact ⟨congrArg (fun z => some (Value.int z)) (show nar .byte (10 : Int32) = (fpick p0 q1 p2) from (by simp only [fpick, if_pos hc1])), N0, rfl⟩) (by decide) (by decide)
  · skip
    refine own_by (fun t k => XS.ifYes X0.here hx rfl (pc0 := 11) (pc' := 17) rfl (hb hby d1_11) rfl ((if0 _ _).trans (feq hc1).2) (by decide) (by decide) k) ?_
    show own_Go p e below _ (s₁.setTop (mkF m 17 #[iv p0, oJ q1, oS, iv p2, iv (((p0.toUInt32 >>> (((2 : Int32) * p2) &&& 31).toUInt32).toInt32) &&& (3 : Int32))] []))
    refine own_by (B := s₁.setTop (mkF m 20 #[iv p0, oJ q1, oS, iv p2, iv (((p0.toUInt32 >>> (((2 : Int32) * p2) &&& 31).toUInt32).toInt32) &&& (3 : Int32))] [(.int (1 : Int32)), (.int (((p0.toUInt32 >>> (((2 : Int32) * p2) &&& 31).toUInt32).toInt32) &&& (3 : Int32)))])) (fun t k => ?_) ?_
    · show Steps p.tables e below (s₁.setTop (mkF m 17 #[iv p0, oJ q1, oS, iv p2, iv (((p0.toUInt32 >>> (((2 : Int32) * p2) &&& 31).toUInt32).toInt32) &&& (3 : Int32))] [])) _
      refine XS.iload X0.here hx rfl (hb hby d1_17) rfl ?_
      show Steps p.tables e below (s₁.setTop (mkF m 19 #[iv p0, oJ q1, oS, iv p2, iv (((p0.toUInt32 >>> (((2 : Int32) * p2) &&& 31).toUInt32).toInt32) &&& (3 : Int32))] [(.int (((p0.toUInt32 >>> (((2 : Int32) * p2) &&& 31).toUInt32).toInt32) &&& (3 : Int32)))])) _
      refine XS.iconst X0.here hx rfl (hb hby d1_19) ?_
      show Steps p.tables e below (s₁.setTop (mkF m 20 #[iv p0, oJ q1, oS, iv p2, iv (((p0.toUInt32 >>> (((2 : Int32) * p2) &&& 31).toUInt32).toInt32) &&& (3 : Int32))] [(.int (1 : Int32)), (.int (((p0.toUInt32 >>> (((2 : Int32) * p2) &&& 31).toUInt32).toInt32) &&& (3 : Int32)))])) _
      exact k
    by_cases hc2 : (((p0.toUInt32 >>> (((2 : Int32) * p2) &&& 31).toUInt32).toInt32) &&& (3 : Int32)) = (1 : Int32)
    · skip
      refine own_by (fun t k => XS.icmpNo X0.here hx rfl (hb hby d1_20) rfl (teq hc2).2 k) ?_
      show own_Go p e below _ (s₁.setTop (mkF m 23 #[iv p0, oJ q1, oS, iv p2, iv (((p0.toUInt32 >>> (((2 : Int32) * p2) &&& 31).toUInt32).toInt32) &&& (3 : Int32))] []))
      refine own_by (B := s₁.setTop (mkF m 25 #[iv p0, oJ q1, oS, iv p2, iv (((p0.toUInt32 >>> (((2 : Int32) * p2) &&& 31).toUInt32).toInt32) &&& (3 : Int32))] [(.int (13 : Int32))])) (fun t k => ?_) ?_
      · show Steps p.tables e below (s₁.setTop (mkF m 23 #[iv p0, oJ q1, oS, iv p2, iv (((p0.toUInt32 >>> (((2 : Int32) * p2) &&& 31).toUInt32).toInt32) &&& (3 : Int32))] [])) _
        refine XS.bipush X0.here hx rfl (hb hby d1_23) ?_
        show Steps p.tables e below (s₁.setTop (mkF m 25 #[iv p0, oJ q1, oS, iv p2, iv (((p0.toUInt32 >>> (((2 : Int32) * p2) &&& 31).toUInt32).toInt32) &&& (3 : Int32))] [(.int (13 : Int32))])) _
        exact k
      exact own_retN X0 Bd.notSynchronized hx (t := .byte) Bd.returns (by simp) (hb hby d1_25) (by
          rw [show s₁.heap = h0 from e0]
          exact ⟨congrArg (fun z => some (Value.int z)) (show nar .byte (13 : Int32) = (fpick p0 q1 p2) from (by simp only [fpick, if_neg hc1, if_pos hc2])), N0, rfl⟩) (by decide) (by decide)
    · skip
      refine own_by (fun t k => XS.icmpYes X0.here hx rfl (pc0 := 20) (pc' := 26) rfl (hb hby d1_20) rfl (feq hc2).2 (by decide) (by decide) k) ?_
      show own_Go p e below _ (s₁.setTop (mkF m 26 #[iv p0, oJ q1, oS, iv p2, iv (((p0.toUInt32 >>> (((2 : Int32) * p2) &&& 31).toUInt32).toInt32) &&& (3 : Int32))] []))
      refine own_by (B := s₁.setTop (mkF m 34 #[iv p0, oJ q1, oS, iv p2, iv (((p0.toUInt32 >>> (((2 : Int32) * p2) &&& 31).toUInt32).toInt32) &&& (3 : Int32))] [(.int ((((q1.toUInt64 >>> (((8 : Int32) * p2) &&& 0x3f).toInt64.toUInt64).toInt64).toInt32).toInt8.toInt32))])) (fun t k => ?_) ?_
      · show Steps p.tables e below (s₁.setTop (mkF m 26 #[iv p0, oJ q1, oS, iv p2, iv (((p0.toUInt32 >>> (((2 : Int32) * p2) &&& 31).toUInt32).toInt32) &&& (3 : Int32))] [])) _
        refine XS.lloadN X0.here hx rfl (hb hby d1_26) rfl ?_
        show Steps p.tables e below (s₁.setTop (mkF m 27 #[iv p0, oJ q1, oS, iv p2, iv (((p0.toUInt32 >>> (((2 : Int32) * p2) &&& 31).toUInt32).toInt32) &&& (3 : Int32))] [(.long q1)])) _
        refine XS.bipush X0.here hx rfl (hb hby d1_27) ?_
        show Steps p.tables e below (s₁.setTop (mkF m 29 #[iv p0, oJ q1, oS, iv p2, iv (((p0.toUInt32 >>> (((2 : Int32) * p2) &&& 31).toUInt32).toInt32) &&& (3 : Int32))] [(.int (8 : Int32)), (.long q1)])) _
        refine XS.iloadN X0.here hx rfl (hb hby d1_29) rfl ?_
        show Steps p.tables e below (s₁.setTop (mkF m 30 #[iv p0, oJ q1, oS, iv p2, iv (((p0.toUInt32 >>> (((2 : Int32) * p2) &&& 31).toUInt32).toInt32) &&& (3 : Int32))] [(.int p2), (.int (8 : Int32)), (.long q1)])) _
        refine XS.imul X0.here hx rfl (hb hby d1_30) rfl ?_
        show Steps p.tables e below (s₁.setTop (mkF m 31 #[iv p0, oJ q1, oS, iv p2, iv (((p0.toUInt32 >>> (((2 : Int32) * p2) &&& 31).toUInt32).toInt32) &&& (3 : Int32))] [(.int ((8 : Int32) * p2)), (.long q1)])) _
        refine XS.lushr X0.here hx rfl (hb hby d1_31) rfl ?_
        show Steps p.tables e below (s₁.setTop (mkF m 32 #[iv p0, oJ q1, oS, iv p2, iv (((p0.toUInt32 >>> (((2 : Int32) * p2) &&& 31).toUInt32).toInt32) &&& (3 : Int32))] [(.long ((q1.toUInt64 >>> (((8 : Int32) * p2) &&& 0x3f).toInt64.toUInt64).toInt64))])) _
        refine XS.l2i X0.here hx rfl (hb hby d1_32) rfl ?_
        show Steps p.tables e below (s₁.setTop (mkF m 33 #[iv p0, oJ q1, oS, iv p2, iv (((p0.toUInt32 >>> (((2 : Int32) * p2) &&& 31).toUInt32).toInt32) &&& (3 : Int32))] [(.int (((q1.toUInt64 >>> (((8 : Int32) * p2) &&& 0x3f).toInt64.toUInt64).toInt64).toInt32))])) _
        refine XS.i2b X0.here hx rfl (hb hby d1_33) rfl ?_
        show Steps p.tables e below (s₁.setTop (mkF m 34 #[iv p0, oJ q1, oS, iv p2, iv (((p0.toUInt32 >>> (((2 : Int32) * p2) &&& 31).toUInt32).toInt32) &&& (3 : Int32))] [(.int ((((q1.toUInt64 >>> (((8 : Int32) * p2) &&& 0x3f).toInt64.toUInt64).toInt64).toInt32).toInt8.toInt32))])) _
        exact k
      exact own_retN X0 Bd.notSynchronized hx (t := .byte) Bd.returns (by simp) (hb hby d1_34) (by
          rw [show s₁.heap = h0 from e0]
          exact ⟨congrArg (fun z => some (Value.int z)) (show nar .byte ((((q1.toUInt64 >>> (((8 : Int32) * p2) &&& 0x3f).toInt64.toUInt64).toInt64).toInt32).toInt8.toInt32) = (fpick p0 q1 p2) from (by simp only [fpick, if_neg hc1, if_neg hc2])), N0, rfl⟩) (by decide) (by decide)

def fmin (p0 : Int32) (p1 : Int32) : Int32 := (if p1 < p0 then p1 else p0)
theorem d2_0 : decode jdk_29_method_69_code 0 = .ok (.iload_n 0, 1) := by decide +kernel
theorem d2_1 : decode jdk_29_method_69_code 1 = .ok (.iload_n 1, 1) := by decide +kernel
theorem d2_2 : decode jdk_29_method_69_code 2 = .ok (.if_icmp .gt 7, 3) := by decide +kernel
theorem d2_5 : decode jdk_29_method_69_code 5 = .ok (.iload_n 0, 1) := by decide +kernel
theorem d2_6 : decode jdk_29_method_69_code 6 = .ok (.goto 4, 3) := by decide +kernel
theorem d2_9 : decode jdk_29_method_69_code 9 = .ok (.iload_n 1, 1) := by decide +kernel
theorem d2_10 : decode jdk_29_method_69_code 10 = .ok (.ireturn, 1) := by decide +kernel
theorem ef_2 (m : MethodId) (x0 : Int32) (x1 : Int32) : entryFrame m #[(.int x0), (.int x1)] 2 = mkF m 0 #[iv x0, iv x1] [] := by first | (simp [entryFrame, mkF, argsToLocals, Value.category]; done) | rfl
def Q2 (Z : State) (p0 : Int32) (p1 : Int32) (h0 : Heap) (n0 : Nat) (v : Option Value) (h : Heap) (L : List Loc) : Prop := v = some (.int (fmin p0 p1)) ∧ Fr n0 L ∧ h = h0
set_option maxRecDepth 65536 in
set_option maxHeartbeats 40000000 in
theorem rm2 (l : Launch) (Z : State) (a0 : Array Value) (hw : ∀ d ∈ tables_1, d.before a0 Z = true) (ws : List Jvm.Cond) (p0 : Int32) (p1 : Int32) (h0 : Heap) (n0 : Nat) (Z0 : n0 ≤ h0.size) :
    MetFree l (⟨"java/lang/Math", "min", "(II)I"⟩ : MethodName) (head1 (Jvm.Cond.code (⟨"java/lang/Math", "min", "(II)I"⟩ : MethodName) jdk_29_method_69_code 2 (some .int) :: ws) ({ frames := 0, cells := 0, slots := 0, locals := 0 } : Room)) (fun a U => a = #[(.int p0), (.int p1)] ∧ Z.Warmed39 U.vm ∧ U.heap = h0) (fun _ _ _ _ _ => True) (fun _ U o U' => ∃ v L, o = .returned v ∧ Q2 Z p0 p1 h0 n0 v U'.heap L ∧ FrameEnd U o U' L ({ frames := 0, cells := 0, slots := 0, locals := 0 } : Room).cells ({ frames := 0, cells := 0, slots := 0, locals := 0 } : Room).slots) := by
  refine MetFree.of_bodySF (Jvm.Free.JP.mathPlain rfl (by decide +kernel)) hisR ?_
  intro p e s m args below meth c s₁ Bd hml0 hP hK
  obtain ⟨rfl, hZ, hh⟩ := hP
  have hx := Bd.exec
  have hby := Bd.bytes
  have hml : c.maxLocals = 2 := hml0
  have hown : s.vm.findClass "java/lang/Math" = some m.cls := findClass_of_methodNamed Bd.named
  have hnm := (name_of_methodNamed Bd.named Bd.method).1
  have X0 : Stand p l e ({ frames := 0, cells := 0, slots := 0, locals := 0 } : Room) s m #[(.int p0), (.int p1)] below meth c s₁ [] 0 0 := Stand.of_body Bd
  have e0 : s₁.heap = h0 := by rw [← hh, Bd.state]; rfl
  have N0 := Fr.nil n0
  change own_Go p e below (own_Post s (Q2 Z p0 p1 h0 n0) ({ frames := 0, cells := 0, slots := 0, locals := 0 } : Room).cells ({ frames := 0, cells := 0, slots := 0, locals := 0 } : Room).slots) (s₁.setTop (entryFrame m #[(.int p0), (.int p1)] 2))
  refine own_by (fun t k => castTop (ef_2 m p0 p1) k) ?_
  show own_Go p e below _ (s₁.setTop (mkF m 0 #[iv p0, iv p1] []))
  refine own_by (B := s₁.setTop (mkF m 10 #[iv p0, iv p1] [(.int (if p1 < p0 then p1 else p0))])) (fun t k => ?_) ?_
  · show Steps p.tables e below (s₁.setTop (mkF m 0 #[iv p0, iv p1] [])) _
    refine XS.iloadN X0.here hx rfl (hb hby d2_0) rfl ?_
    show Steps p.tables e below (s₁.setTop (mkF m 1 #[iv p0, iv p1] [(.int p0)])) _
    refine XS.iloadN X0.here hx rfl (hb hby d2_1) rfl ?_
    show Steps p.tables e below (s₁.setTop (mkF m 2 #[iv p0, iv p1] [(.int p1), (.int p0)])) _
    refine (fun t (k : Steps p.tables e below (s₁.setTop (mkF m 10 #[iv p0, iv p1] [(.int (if p1 < p0 then p1 else p0))])) t) => (?_ : Steps p.tables e below _ t)) _ ?_
    · by_cases hc1 : p1 < p0
      · simp only [if_pos hc1] at k
        refine XS.icmpYes X0.here hx rfl (pc0 := 2) (pc' := 9) rfl (hb hby d2_2) rfl (tlt hc1).2.2.1 (by decide) (by decide) ?_
        show Steps p.tables e below (s₁.setTop (mkF m 9 #[iv p0, iv p1] [])) _
        refine XS.iloadN X0.here hx rfl (hb hby d2_9) rfl ?_
        show Steps p.tables e below (s₁.setTop (mkF m 10 #[iv p0, iv p1] [(.int p1)])) _
        exact k
      · simp only [if_neg hc1] at k
        refine XS.icmpNo X0.here hx rfl (hb hby d2_2) rfl (flt hc1).2.2.1 ?_
        show Steps p.tables e below (s₁.setTop (mkF m 5 #[iv p0, iv p1] [])) _
        refine XS.iloadN X0.here hx rfl (hb hby d2_5) rfl ?_
        show Steps p.tables e below (s₁.setTop (mkF m 6 #[iv p0, iv p1] [(.int p0)])) _
        refine XS.goto X0.here hx rfl (pc0 := 6) (pc' := 10) rfl (hb hby d2_6) (by decide) (by decide) ?_
        show Steps p.tables e below (s₁.setTop (mkF m 10 #[iv p0, iv p1] [(.int p0)])) _
        exact k
    show Steps p.tables e below (s₁.setTop (mkF m 10 #[iv p0, iv p1] [(.int (if p1 < p0 then p1 else p0))])) _
    exact k
  exact own_retI X0 Bd.notSynchronized hx Bd.returns (hb hby d2_10) (by
      rw [show s₁.heap = h0 from e0]
      exact ⟨congrArg (fun z => some (Value.int z)) (show (if p1 < p0 then p1 else p0) = (fmin p0 p1) from rfl), N0, rfl⟩) (by decide) (by decide)

def fmax (p0 : Int32) (p1 : Int32) : Int32 := (if p0 < p1 then p1 else p0)
theorem d3_0 : decode jdk_29_method_65_code 0 = .ok (.iload_n 0, 1) := by decide +kernel
theorem d3_1 : decode jdk_29_method_65_code 1 = .ok (.iload_n 1, 1) := by decide +kernel
theorem d3_2 : decode jdk_29_method_65_code 2 = .ok (.if_icmp .lt 7, 3) := by decide +kernel
theorem d3_5 : decode jdk_29_method_65_code 5 = .ok (.iload_n 0, 1) := by decide +kernel
theorem d3_6 : decode jdk_29_method_65_code 6 = .ok (.goto 4, 3) := by decide +kernel
theorem d3_9 : decode jdk_29_method_65_code 9 = .ok (.iload_n 1, 1) := by decide +kernel
theorem d3_10 : decode jdk_29_method_65_code 10 = .ok (.ireturn, 1) := by decide +kernel
theorem ef_3 (m : MethodId) (x0 : Int32) (x1 : Int32) : entryFrame m #[(.int x0), (.int x1)] 2 = mkF m 0 #[iv x0, iv x1] [] := by first | (simp [entryFrame, mkF, argsToLocals, Value.category]; done) | rfl
def Q3 (Z : State) (p0 : Int32) (p1 : Int32) (h0 : Heap) (n0 : Nat) (v : Option Value) (h : Heap) (L : List Loc) : Prop := v = some (.int (fmax p0 p1)) ∧ Fr n0 L ∧ h = h0
set_option maxRecDepth 65536 in
set_option maxHeartbeats 40000000 in
theorem rm3 (l : Launch) (Z : State) (a0 : Array Value) (hw : ∀ d ∈ tables_1, d.before a0 Z = true) (ws : List Jvm.Cond) (p0 : Int32) (p1 : Int32) (h0 : Heap) (n0 : Nat) (Z0 : n0 ≤ h0.size) :
    MetFree l (⟨"java/lang/Math", "max", "(II)I"⟩ : MethodName) (head1 (Jvm.Cond.code (⟨"java/lang/Math", "max", "(II)I"⟩ : MethodName) jdk_29_method_65_code 2 (some .int) :: ws) ({ frames := 0, cells := 0, slots := 0, locals := 0 } : Room)) (fun a U => a = #[(.int p0), (.int p1)] ∧ Z.Warmed39 U.vm ∧ U.heap = h0) (fun _ _ _ _ _ => True) (fun _ U o U' => ∃ v L, o = .returned v ∧ Q3 Z p0 p1 h0 n0 v U'.heap L ∧ FrameEnd U o U' L ({ frames := 0, cells := 0, slots := 0, locals := 0 } : Room).cells ({ frames := 0, cells := 0, slots := 0, locals := 0 } : Room).slots) := by
  refine MetFree.of_bodySF (Jvm.Free.JP.mathPlain rfl (by decide +kernel)) hisR ?_
  intro p e s m args below meth c s₁ Bd hml0 hP hK
  obtain ⟨rfl, hZ, hh⟩ := hP
  have hx := Bd.exec
  have hby := Bd.bytes
  have hml : c.maxLocals = 2 := hml0
  have hown : s.vm.findClass "java/lang/Math" = some m.cls := findClass_of_methodNamed Bd.named
  have hnm := (name_of_methodNamed Bd.named Bd.method).1
  have X0 : Stand p l e ({ frames := 0, cells := 0, slots := 0, locals := 0 } : Room) s m #[(.int p0), (.int p1)] below meth c s₁ [] 0 0 := Stand.of_body Bd
  have e0 : s₁.heap = h0 := by rw [← hh, Bd.state]; rfl
  have N0 := Fr.nil n0
  change own_Go p e below (own_Post s (Q3 Z p0 p1 h0 n0) ({ frames := 0, cells := 0, slots := 0, locals := 0 } : Room).cells ({ frames := 0, cells := 0, slots := 0, locals := 0 } : Room).slots) (s₁.setTop (entryFrame m #[(.int p0), (.int p1)] 2))
  refine own_by (fun t k => castTop (ef_3 m p0 p1) k) ?_
  show own_Go p e below _ (s₁.setTop (mkF m 0 #[iv p0, iv p1] []))
  refine own_by (B := s₁.setTop (mkF m 10 #[iv p0, iv p1] [(.int (if p0 < p1 then p1 else p0))])) (fun t k => ?_) ?_
  · show Steps p.tables e below (s₁.setTop (mkF m 0 #[iv p0, iv p1] [])) _
    refine XS.iloadN X0.here hx rfl (hb hby d3_0) rfl ?_
    show Steps p.tables e below (s₁.setTop (mkF m 1 #[iv p0, iv p1] [(.int p0)])) _
    refine XS.iloadN X0.here hx rfl (hb hby d3_1) rfl ?_
    show Steps p.tables e below (s₁.setTop (mkF m 2 #[iv p0, iv p1] [(.int p1), (.int p0)])) _
    refine (fun t (k : Steps p.tables e below (s₁.setTop (mkF m 10 #[iv p0, iv p1] [(.int (if p0 < p1 then p1 else p0))])) t) => (?_ : Steps p.tables e below _ t)) _ ?_
    · by_cases hc1 : p0 < p1
      · simp only [if_pos hc1] at k
        refine XS.icmpYes X0.here hx rfl (pc0 := 2) (pc' := 9) rfl (hb hby d3_2) rfl (tlt hc1).1 (by decide) (by decide) ?_
        show Steps p.tables e below (s₁.setTop (mkF m 9 #[iv p0, iv p1] [])) _
        refine XS.iloadN X0.here hx rfl (hb hby d3_9) rfl ?_
        show Steps p.tables e below (s₁.setTop (mkF m 10 #[iv p0, iv p1] [(.int p1)])) _
        exact k
      · simp only [if_neg hc1] at k
        refine XS.icmpNo X0.here hx rfl (hb hby d3_2) rfl (flt hc1).1 ?_
        show Steps p.tables e below (s₁.setTop (mkF m 5 #[iv p0, iv p1] [])) _
        refine XS.iloadN X0.here hx rfl (hb hby d3_5) rfl ?_
        show Steps p.tables e below (s₁.setTop (mkF m 6 #[iv p0, iv p1] [(.int p0)])) _
        refine XS.goto X0.here hx rfl (pc0 := 6) (pc' := 10) rfl (hb hby d3_6) (by decide) (by decide) ?_
        show Steps p.tables e below (s₁.setTop (mkF m 10 #[iv p0, iv p1] [(.int p0)])) _
        exact k
    show Steps p.tables e below (s₁.setTop (mkF m 10 #[iv p0, iv p1] [(.int (if p0 < p1 then p1 else p0))])) _
    exact k
  exact own_retI X0 Bd.notSynchronized hx Bd.returns (hb hby d3_10) (by
      rw [show s₁.heap = h0 from e0]
      exact ⟨congrArg (fun z => some (Value.int z)) (show (if p0 < p1 then p1 else p0) = (fmax p0 p1) from rfl), N0, rfl⟩) (by decide) (by decide)

def fex (p0 : Int32) (p1 : Int32) (p2 : Int32) (p3 : Int32) (p4 : Int32) (p5 : Int32) : Int32 := (if (0 : Int32) < p0 then (if p1 = (0 : Int32) then (if (1 : Int32) < p0 then (if p2 = (0 : Int32) then (if (2 : Int32) < p0 then (if p3 = (0 : Int32) then (if (3 : Int32) < p0 then (if p4 = (0 : Int32) then (if (4 : Int32) < p0 then (if p5 = (0 : Int32) then (-1 : Int32) else (5 : Int32)) else (-1 : Int32)) else (4 : Int32)) else (if (4 : Int32) < p0 then (if p5 = (0 : Int32) then (-1 : Int32) else (5 : Int32)) else (-1 : Int32))) else (3 : Int32)) else (if (3 : Int32) < p0 then (if p4 = (0 : Int32) then (if (4 : Int32) < p0 then (if p5 = (0 : Int32) then (-1 : Int32) else (5 : Int32)) else (-1 : Int32)) else (4 : Int32)) else (if (4 : Int32) < p0 then (if p5 = (0 : Int32) then (-1 : Int32) else (5 : Int32)) else (-1 : Int32)))) else (2 : Int32)) else (if (2 : Int32) < p0 then (if p3 = (0 : Int32) then (if (3 : Int32) < p0 then (if p4 = (0 : Int32) then (if (4 : Int32) < p0 then (if p5 = (0 : Int32) then (-1 : Int32) else (5 : Int32)) else (-1 : Int32)) else (4 : Int32)) else (if (4 : Int32) < p0 then (if p5 = (0 : Int32) then (-1 : Int32) else (5 : Int32)) else (-1 : Int32))) else (3 : Int32)) else (if (3 : Int32) < p0 then (if p4 = (0 : Int32) then (if (4 : Int32) < p0 then (if p5 = (0 : Int32) then (-1 : Int32) else (5 : Int32)) else (-1 : Int32)) else (4 : Int32)) else (if (4 : Int32) < p0 then (if p5 = (0 : Int32) then (-1 : Int32) else (5 : Int32)) else (-1 : Int32))))) else (1 : Int32)) else (if (1 : Int32) < p0 then (if p2 = (0 : Int32) then (if (2 : Int32) < p0 then (if p3 = (0 : Int32) then (if (3 : Int32) < p0 then (if p4 = (0 : Int32) then (if (4 : Int32) < p0 then (if p5 = (0 : Int32) then (-1 : Int32) else (5 : Int32)) else (-1 : Int32)) else (4 : Int32)) else (if (4 : Int32) < p0 then (if p5 = (0 : Int32) then (-1 : Int32) else (5 : Int32)) else (-1 : Int32))) else (3 : Int32)) else (if (3 : Int32) < p0 then (if p4 = (0 : Int32) then (if (4 : Int32) < p0 then (if p5 = (0 : Int32) then (-1 : Int32) else (5 : Int32)) else (-1 : Int32)) else (4 : Int32)) else (if (4 : Int32) < p0 then (if p5 = (0 : Int32) then (-1 : Int32) else (5 : Int32)) else (-1 : Int32)))) else (2 : Int32)) else (if (2 : Int32) < p0 then (if p3 = (0 : Int32) then (if (3 : Int32) < p0 then (if p4 = (0 : Int32) then (if (4 : Int32) < p0 then (if p5 = (0 : Int32) then (-1 : Int32) else (5 : Int32)) else (-1 : Int32)) else (4 : Int32)) else (if (4 : Int32) < p0 then (if p5 = (0 : Int32) then (-1 : Int32) else (5 : Int32)) else (-1 : Int32))) else (3 : Int32)) else (if (3 : Int32) < p0 then (if p4 = (0 : Int32) then (if (4 : Int32) < p0 then (if p5 = (0 : Int32) then (-1 : Int32) else (5 : Int32)) else (-1 : Int32)) else (4 : Int32)) else (if (4 : Int32) < p0 then (if p5 = (0 : Int32) then (-1 : Int32) else (5 : Int32)) else (-1 : Int32))))))
theorem d7_0 : decode method_3_code 0 = .ok (.iload_n 0, 1) := by decide +kernel
theorem d7_1 : decode method_3_code 1 = .ok (.ifCond .le 9, 3) := by decide +kernel
theorem d7_4 : decode method_3_code 4 = .ok (.iload_n 1, 1) := by decide +kernel
theorem d7_5 : decode method_3_code 5 = .ok (.ifCond .eq 5, 3) := by decide +kernel
theorem d7_8 : decode method_3_code 8 = .ok (.iconst 1, 1) := by decide +kernel
theorem d7_9 : decode method_3_code 9 = .ok (.ireturn, 1) := by decide +kernel
theorem d7_10 : decode method_3_code 10 = .ok (.iload_n 0, 1) := by decide +kernel
theorem d7_11 : decode method_3_code 11 = .ok (.iconst 1, 1) := by decide +kernel
theorem d7_12 : decode method_3_code 12 = .ok (.if_icmp .le 9, 3) := by decide +kernel
theorem d7_15 : decode method_3_code 15 = .ok (.iload_n 2, 1) := by decide +kernel
theorem d7_16 : decode method_3_code 16 = .ok (.ifCond .eq 5, 3) := by decide +kernel
theorem d7_19 : decode method_3_code 19 = .ok (.iconst 2, 1) := by decide +kernel
theorem d7_20 : decode method_3_code 20 = .ok (.ireturn, 1) := by decide +kernel
theorem d7_21 : decode method_3_code 21 = .ok (.iload_n 0, 1) := by decide +kernel
theorem d7_22 : decode method_3_code 22 = .ok (.iconst 2, 1) := by decide +kernel
theorem d7_23 : decode method_3_code 23 = .ok (.if_icmp .le 9, 3) := by decide +kernel
theorem d7_26 : decode method_3_code 26 = .ok (.iload_n 3, 1) := by decide +kernel
theorem d7_27 : decode method_3_code 27 = .ok (.ifCond .eq 5, 3) := by decide +kernel
theorem d7_30 : decode method_3_code 30 = .ok (.iconst 3, 1) := by decide +kernel
theorem d7_31 : decode method_3_code 31 = .ok (.ireturn, 1) := by decide +kernel
theorem d7_32 : decode method_3_code 32 = .ok (.iload_n 0, 1) := by decide +kernel
theorem d7_33 : decode method_3_code 33 = .ok (.iconst 3, 1) := by decide +kernel
theorem d7_34 : decode method_3_code 34 = .ok (.if_icmp .le 10, 3) := by decide +kernel
theorem d7_37 : decode method_3_code 37 = .ok (.iload 4, 2) := by decide +kernel
theorem d7_39 : decode method_3_code 39 = .ok (.ifCond .eq 5, 3) := by decide +kernel
theorem d7_42 : decode method_3_code 42 = .ok (.iconst 4, 1) := by decide +kernel
theorem d7_43 : decode method_3_code 43 = .ok (.ireturn, 1) := by decide +kernel
theorem d7_44 : decode method_3_code 44 = .ok (.iload_n 0, 1) := by decide +kernel
theorem d7_45 : decode method_3_code 45 = .ok (.iconst 4, 1) := by decide +kernel
theorem d7_46 : decode method_3_code 46 = .ok (.if_icmp .le 10, 3) := by decide +kernel
theorem d7_49 : decode method_3_code 49 = .ok (.iload 5, 2) := by decide +kernel
theorem d7_51 : decode method_3_code 51 = .ok (.ifCond .eq 5, 3) := by decide +kernel
theorem d7_54 : decode method_3_code 54 = .ok (.iconst 5, 1) := by decide +kernel
theorem d7_55 : decode method_3_code 55 = .ok (.ireturn, 1) := by decide +kernel
theorem d7_56 : decode method_3_code 56 = .ok (.iconst (-1), 1) := by decide +kernel
theorem d7_57 : decode method_3_code 57 = .ok (.ireturn, 1) := by decide +kernel
theorem pn_7 : plainName "com/example/chartwell/chartwell/http/HeadEndFindPinLaw" = true := by first | (simp [plainName, overriddenIn]; done) | decide +kernel
theorem ef_7 (m : MethodId) (x0 : Int32) (x1 : Int32) (x2 : Int32) (x3 : Int32) (x4 : Int32) (x5 : Int32) : entryFrame m #[(.int x0), (.int x1), (.int x2), (.int x3), (.int x4), (.int x5)] 6 = mkF m 0 #[iv x0, iv x1, iv x2, iv x3, iv x4, iv x5] [] := by first | (simp [entryFrame, mkF, argsToLocals, Value.category]; done) | rfl
def Q7 (Z : State) (p0 : Int32) (p1 : Int32) (p2 : Int32) (p3 : Int32) (p4 : Int32) (p5 : Int32) (h0 : Heap) (n0 : Nat) (v : Option Value) (h : Heap) (L : List Loc) : Prop := v = some (.int (fex p0 p1 p2 p3 p4 p5)) ∧ Fr n0 L ∧ h = h0
set_option maxRecDepth 65536 in
set_option maxHeartbeats 40000000 in
theorem rm7 (l : Launch) (Z : State) (a0 : Array Value) (hw : ∀ d ∈ tables_1, d.before a0 Z = true) (ws : List Jvm.Cond) (p0 : Int32) (p1 : Int32) (p2 : Int32) (p3 : Int32) (p4 : Int32) (p5 : Int32) (h0 : Heap) (n0 : Nat) (Z0 : n0 ≤ h0.size) :
    MetFree l (⟨"com/example/chartwell/chartwell/http/HeadEndFindPinLaw", "expected", "(IZZZZZ)I"⟩ : MethodName) (head1 (Jvm.Cond.code (⟨"com/example/chartwell/chartwell/http/HeadEndFindPinLaw", "expected", "(IZZZZZ)I"⟩ : MethodName) method_3_code 6 (some .int) :: ws) ({ frames := 0, cells := 0, slots := 0, locals := 0 } : Room)) (fun a U => a = #[(.int p0), (.int p1), (.int p2), (.int p3), (.int p4), (.int p5)] ∧ Z.Warmed39 U.vm ∧ U.heap = h0) (fun _ _ _ _ _ => True) (fun _ U o U' => ∃ v L, o = .returned v ∧ Q7 Z p0 p1 p2 p3 p4 p5 h0 n0 v U'.heap L ∧ FrameEnd U o U' L ({ frames := 0, cells := 0, slots := 0, locals := 0 } : Room).cells ({ frames := 0, cells := 0, slots := 0, locals := 0 } : Room).slots) := by
  refine MetFree.of_bodySF (plainFor_of_name pn_7) hisR ?_
  intro p e s m args below meth c s₁ Bd hml0 hP hK
  obtain ⟨rfl, hZ, hh⟩ := hP
  have hx := Bd.exec
  have hby := Bd.bytes
  have hml : c.maxLocals = 6 := hml0
  have hown : s.vm.findClass "com/example/chartwell/chartwell/http/HeadEndFindPinLaw" = some m.cls := findClass_of_methodNamed Bd.named
  have hnm := (name_of_methodNamed Bd.named Bd.method).1
  have X0 : Stand p l e ({ frames := 0, cells := 0, slots := 0, locals := 0 } : Room) s m #[(.int p0), (.int p1), (.int p2), (.int p3), (.int p4), (.int p5)] below meth c s₁ [] 0 0 := Stand.of_body Bd
  have e0 : s₁.heap = h0 := by rw [← hh, Bd.state]; rfl
  have N0 := Fr.nil n0
  change own_Go p e below (own_Post s (Q7 Z p0 p1 p2 p3 p4 p5 h0 n0) ({ frames := 0, cells := 0, slots := 0, locals := 0 } : Room).cells ({ frames := 0, cells := 0, slots := 0, locals := 0 } : Room).slots) (s₁.setTop (entryFrame m #[(.int p0), (.int p1), (.int p2), (.int p3), (.int p4), (.int p5)] 6))
  refine own_by (fun t k => castTop (ef_7 m p0 p1 p2 p3 p4 p5) k) ?_
  show own_Go p e below _ (s₁.setTop (mkF m 0 #[iv p0, iv p1, iv p2, iv p3, iv p4, iv p5] []))
  refine own_by (B := s₁.setTop (mkF m 1 #[iv p0, iv p1, iv p2, iv p3, iv p4, iv p5] [(.int p0)])) (fun t k => ?_) ?_
  · show Steps p.tables e below (s₁.setTop (mkF m 0 #[iv p0, iv p1, iv p2, iv p3, iv p4, iv p5] [])) _
    refine XS.iloadN X0.here hx rfl (hb hby d7_0) rfl ?_
    show Steps p.tables e below (s₁.setTop (mkF m 1 #[iv p0, iv p1, iv p2, iv p3, iv p4, iv p5] [(.int p0)])) _
    exact k
  by_cases hc1 : (0 : Int32) < p0
  · skip
    refine own_by (fun t k => XS.ifNo X0.here hx rfl (hb hby d7_1) rfl ((if0 _ _).trans (tlt hc1).2.2.2) k) ?_
    show own_Go p e below _ (s₁.setTop (mkF m 4 #[iv p0, iv p1, iv p2, iv p3, iv p4, iv p5] []))
    refine own_by (B := s₁.setTop (mkF m 5 #[iv p0, iv p1, iv p2, iv p3, iv p4, iv p5] [(.int p1)])) (fun t k => ?_) ?_
    · show Steps p.tables e below (s₁.setTop (mkF m 4 #[iv p0, iv p1, iv p2, iv p3, iv p4, iv p5] [])) _
      refine XS.iloadN X0.here hx rfl (hb hby d7_4) rfl ?_
      show Steps p.tables e below (s₁.setTop (mkF m 5 #[iv p0, iv p1, iv p2, iv p3, iv p4, iv p5] [(.int p1)])) _
      exact k
    by_cases hc2 : p1 = (0 : Int32)
    · skip
      refine own_by (fun t k => XS.ifYes X0.here hx rfl (pc0 := 5) (pc' := 10) rfl (hb hby d7_5) rfl ((if0 _ _).trans (teq hc2).1) (by decide) (by decide) k) ?_
      show own_Go p e below _ (s₁.setTop (mkF m 10 #[iv p0, iv p1, iv p2, iv p3, iv p4, iv p5] []))
      refine own_by (B := s₁.setTop (mkF m 12 #[iv p0, iv p1, iv p2, iv p3, iv p4, iv p5] [(.int (1 : Int32)), (.int p0)])) (fun t k => ?_) ?_
      · show Steps p.tables e below (s₁.setTop (mkF m 10 #[iv p0, iv p1, iv p2, iv p3, iv p4, iv p5] [])) _
        refine XS.iloadN X0.here hx rfl (hb hby d7_10) rfl ?_
        show Steps p.tables e below (s₁.setTop (mkF m 11 #[iv p0, iv p1, iv p2, iv p3, iv p4, iv p5] [(.int p0)])) _
        refine XS.iconst X0.here hx rfl (hb hby d7_11) ?_
        show Steps p.tables e below (s₁.setTop (mkF m 12 #[iv p0, iv p1, iv p2, iv p3, iv p4, iv p5] [(.int (1 : Int32)), (.int p0)])) _
        exact k
      by_cases hc3 : (1 : Int32) < p0
      · skip
        refine own_by (fun t k => XS.icmpNo X0.here hx rfl (hb hby d7_12) rfl (tlt hc3).2.2.2 k) ?_
        show own_Go p e below _ (s₁.setTop (mkF m 15 #[iv p0, iv p1, iv p2, iv p3, iv p4, iv p5] []))
        refine own_by (B := s₁.setTop (mkF m 16 #[iv p0, iv p1, iv p2, iv p3, iv p4, iv p5] [(.int p2)])) (fun t k => ?_) ?_
        · show Steps p.tables e below (s₁.setTop (mkF m 15 #[iv p0, iv p1, iv p2, iv p3, iv p4, iv p5] [])) _
          refine XS.iloadN X0.here hx rfl (hb hby d7_15) rfl ?_
          show Steps p.tables e below (s₁.setTop (mkF m 16 #[iv p0, iv p1, iv p2, iv p3, iv p4, iv p5] [(.int p2)])) _
          exact k
        by_cases hc4 : p2 = (0 : Int32)
        · skip
          refine own_by (fun t k => XS.ifYes X0.here hx rfl (pc0 := 16) (pc' := 21) rfl (hb hby d7_16) rfl ((if0 _ _).trans (teq hc4).1) (by decide) (by decide) k) ?_
          show own_Go p e below _ (s₁.setTop (mkF m 21 #[iv p0, iv p1, iv p2, iv p3, iv p4, iv p5] []))
          refine own_by (B := s₁.setTop (mkF m 23 #[iv p0, iv p1, iv p2, iv p3, iv p4, iv p5] [(.int (2 : Int32)), (.int p0)])) (fun t k => ?_) ?_
          · show Steps p.tables e below (s₁.setTop (mkF m 21 #[iv p0, iv p1, iv p2, iv p3, iv p4, iv p5] [])) _
            refine XS.iloadN X0.here hx rfl (hb hby d7_21) rfl ?_
            show Steps p.tables e below (s₁.setTop (mkF m 22 #[iv p0, iv p1, iv p2, iv p3, iv p4, iv p5] [(.int p0)])) _
            refine XS.iconst X0.here hx rfl (hb hby d7_22) ?_
            show Steps p.tables e below (s₁.setTop (mkF m 23 #[iv p0, iv p1, iv p2, iv p3, iv p4, iv p5] [(.int (2 : Int32)), (.int p0)])) _
            exact k
          by_cases hc5 : (2 : Int32) < p0
          · skip
            refine own_by (fun t k => XS.icmpNo X0.here hx rfl (hb hby d7_23) rfl (tlt hc5).2.2.2 k) ?_
            show own_Go p e below _ (s₁.setTop (mkF m 26 #[iv p0, iv p1, iv p2, iv p3, iv p4, iv p5] []))
            refine own_by (B := s₁.setTop (mkF m 27 #[iv p0, iv p1, iv p2, iv p3, iv p4, iv p5] [(.int p3)])) (fun t k => ?_) ?_
            · show Steps p.tables e below (s₁.setTop (mkF m 26 #[iv p0, iv p1, iv p2, iv p3, iv p4, iv p5] [])) _
              refine XS.iloadN X0.here hx rfl (hb hby d7_26) rfl ?_
              show Steps p.tables e below (s₁.setTop (mkF m 27 #[iv p0, iv p1, iv p2, iv p3, iv p4, iv p5] [(.int p3)])) _
              exact k
            by_cases hc6 : p3 = (0 : Int32)
            · skip
              refine own_by (fun t k => XS.ifYes X0.here hx rfl (pc0 := 27) (pc' := 32) rfl (hb hby d7_27) rfl ((if0 _ _).trans (teq hc6).1) (by decide) (by decide) k) ?_
              show own_Go p e below _ (s₁.setTop (mkF m 32 #[iv p0, iv p1, iv p2, iv p3, iv p4, iv p5] []))
              refine own_by (B := s₁.setTop (mkF m 34 #[iv p0, iv p1, iv p2, iv p3, iv p4, iv p5] [(.int (3 : Int32)), (.int p0)])) (fun t k => ?_) ?_
              · show Steps p.tables e below (s₁.setTop (mkF m 32 #[iv p0, iv p1, iv p2, iv p3, iv p4, iv p5] [])) _
                refine XS.iloadN X0.here hx rfl (hb hby d7_32) rfl ?_
                show Steps p.tables e below (s₁.setTop (mkF m 33 #[iv p0, iv p1, iv p2, iv p3, iv p4, iv p5] [(.int p0)])) _
                refine XS.iconst X0.here hx rfl (hb hby d7_33) ?_
                show Steps p.tables e below (s₁.setTop (mkF m 34 #[iv p0, iv p1, iv p2, iv p3, iv p4, iv p5] [(.int (3 : Int32)), (.int p0)])) _
                exact k
              by_cases hc7 : (3 : Int32) < p0
              · skip
                refine own_by (fun t k => XS.icmpNo X0.here hx rfl (hb hby d7_34) rfl (tlt hc7).2.2.2 k) ?_
                show own_Go p e below _ (s₁.setTop (mkF m 37 #[iv p0, iv p1, iv p2, iv p3, iv p4, iv p5] []))
                refine own_by (B := s₁.setTop (mkF m 39 #[iv p0, iv p1, iv p2, iv p3, iv p4, iv p5] [(.int p4)])) (fun t k => ?_) ?_
                · show Steps p.tables e below (s₁.setTop (mkF m 37 #[iv p0, iv p1, iv p2, iv p3, iv p4, iv p5] [])) _
                  refine XS.iload X0.here hx rfl (hb hby d7_37) rfl ?_
                  show Steps p.tables e below (s₁.setTop (mkF m 39 #[iv p0, iv p1, iv p2, iv p3, iv p4, iv p5] [(.int p4)])) _
                  exact k
                by_cases hc8 : p4 = (0 : Int32)
                · skip
                  refine own_by (fun t k => XS.ifYes X0.here hx rfl (pc0 := 39) (pc' := 44) rfl (hb hby d7_39) rfl ((if0 _ _).trans (teq hc8).1) (by decide) (by decide) k) ?_
                  show own_Go p e below _ (s₁.setTop (mkF m 44 #[iv p0, iv p1, iv p2, iv p3, iv p4, iv p5] []))
                  refine own_by (B := s₁.setTop (mkF m 46 #[iv p0, iv p1, iv p2, iv p3, iv p4, iv p5] [(.int (4 : Int32)), (.int p0)])) (fun t k => ?_) ?_
                  · show Steps p.tables e below (s₁.setTop (mkF m 44 #[iv p0, iv p1, iv p2, iv p3, iv p4, iv p5] [])) _
                    refine XS.iloadN X0.here hx rfl (hb hby d7_44) rfl ?_
                    show Steps p.tables e below (s₁.setTop (mkF m 45 #[iv p0, iv p1, iv p2, iv p3, iv p4, iv p5] [(.int p0)])) _
                    refine XS.iconst X0.here hx rfl (hb hby d7_45) ?_
                    show Steps p.tables e below (s₁.setTop (mkF m 46 #[iv p0, iv p1, iv p2, iv p3, iv p4, iv p5] [(.int (4 : Int32)), (.int p0)])) _
                    exact k
                  by_cases hc9 : (4 : Int32) < p0
                  · skip
                    refine own_by (fun t k => XS.icmpNo X0.here hx rfl (hb hby d7_46) rfl (tlt hc9).2.2.2 k) ?_
                    show own_Go p e below _ (s₁.setTop (mkF m 49 #[iv p0, iv p1, iv p2, iv p3, iv p4, iv p5] []))
                    refine own_by (B := s₁.setTop (mkF m 51 #[iv p0, iv p1, iv p2, iv p3, iv p4, iv p5] [(.int p5)])) (fun t k => ?_) ?_
                    · show Steps p.tables e below (s₁.setTop (mkF m 49 #[iv p0, iv p1, iv p2, iv p3, iv p4, iv p5] [])) _
                      refine XS.iload X0.here hx rfl (hb hby d7_49) rfl ?_
                      show Steps p.tables e below (s₁.setTop (mkF m 51 #[iv p0, iv p1, iv p2, iv p3, iv p4, iv p5] [(.int p5)])) _
                      exact k
                    by_cases hc10 : p5 = (0 : Int32)
                    · skip
                      refine own_by (fun t k => XS.ifYes X0.here hx rfl (pc0 := 51) (pc' := 56) rfl (hb hby d7_51) rfl ((if0 _ _).trans (teq hc10).1) (by decide) (by decide) k) ?_
                      show own_Go p e below _ (s₁.setTop (mkF m 56 #[iv p0, iv p1, iv p2, iv p3, iv p4, iv p5] []))
                      refine own_by (B := s₁.setTop (mkF m 57 #[iv p0, iv p1, iv p2, iv p3, iv p4, iv p5] [(.int (-1 : Int32))])) (fun t k => ?_) ?_
                      · show Steps p.tables e below (s₁.setTop (mkF m 56 #[iv p0, iv p1, iv p2, iv p3, iv p4, iv p5] [])) _
                        refine XS.iconst X0.here hx rfl (hb hby d7_56) ?_
                        show Steps p.tables e below (s₁.setTop (mkF m 57 #[iv p0, iv p1, iv p2, iv p3, iv p4, iv p5] [(.int (-1 : Int32))])) _
                        exact k
                      exact own_retI X0 Bd.notSynchronized hx Bd.returns (hb hby d7_57) (by
                          rw [show s₁.heap = h0 from e0]
                          exact ⟨congrArg (fun z => some (Value.int z)) (show (-1 : Int32) = (fex p0 p1 p2 p3 p4 p5) from (by simp only [fex, if_pos hc1, if_pos hc2, if_pos hc3, if_pos hc4, if_pos hc5, if_pos hc6, if_pos hc7, if_pos hc8, if_pos hc9, if_pos hc10])), N0, rfl⟩) (by decide) (by decide)
                    · skip
                      refine own_by (fun t k => XS.ifNo X0.here hx rfl (hb hby d7_51) rfl ((if0 _ _).trans (feq hc10).1) k) ?_
                      show own_Go p e below _ (s₁.setTop (mkF m 54 #[iv p0, iv p1, iv p2, iv p3, iv p4, iv p5] []))
                      refine own_by (B := s₁.setTop (mkF m 55 #[iv p0, iv p1, iv p2, iv p3, iv p4, iv p5] [(.int (5 : Int32))])) (fun t k => ?_) ?_
                      · show Steps p.tables e below (s₁.setTop (mkF m 54 #[iv p0, iv p1, iv p2, iv p3, iv p4, iv p5] [])) _
                        refine XS.iconst X0.here hx rfl (hb hby d7_54) ?_
                        show Steps p.tables e below (s₁.setTop (mkF m 55 #[iv p0, iv p1, iv p2, iv p3, iv p4, iv p5] [(.int (5 : Int32))])) _
                        exact k
                      exact own_retI X0 Bd.notSynchronized hx Bd.returns (hb hby d7_55) (by
                          rw [show s₁.heap = h0 from e0]
                          exact ⟨congrArg (fun z => some (Value.int z)) (show (5 : Int32) = (fex p0 p1 p2 p3 p4 p5) from (by simp only [fex, if_pos hc1, if_pos hc2, if_pos hc3, if_pos hc4, if_pos hc5, if_pos hc6, if_pos hc7, if_pos hc8, if_pos hc9, if_neg hc10])), N0, rfl⟩) (by decide) (by decide)
                  · skip
                    refine own_by (fun t k => XS.icmpYes X0.here hx rfl (pc0 := 46) (pc' := 56) rfl (hb hby d7_46) rfl (flt hc9).2.2.2 (by decide) (by decide) k) ?_
                    show own_Go p e below _ (s₁.setTop (mkF m 56 #[iv p0, iv p1, iv p2, iv p3, iv p4, iv p5] []))
                    refine own_by (B := s₁.setTop (mkF m 57 #[iv p0, iv p1, iv p2, iv p3, iv p4, iv p5] [(.int (-1 : Int32))])) (fun t k => ?_) ?_
                    · show Steps p.tables e below (s₁.setTop (mkF m 56 #[iv p0, iv p1, iv p2, iv p3, iv p4, iv p5] [])) _
                      refine XS.iconst X0.here hx rfl (hb hby d7_56) ?_
                      show Steps p.tables e below (s₁.setTop (mkF m 57 #[iv p0, iv p1, iv p2, iv p3, iv p4, iv p5] [(.int (-1 : Int32))])) _
                      exact k
                    exact own_retI X0 Bd.notSynchronized hx Bd.returns (hb hby d7_57) (by
                        rw [show s₁.heap = h0 from e0]
                        exact ⟨congrArg (fun z => some (Value.int z)) (show (-1 : Int32) = (fex p0 p1 p2 p3 p4 p5) from (by simp only [fex, if_pos hc1, if_pos hc2, if_pos hc3, if_pos hc4, if_pos hc5, if_pos hc6, if_pos hc7, if_pos hc8, if_neg hc9])), N0, rfl⟩) (by decide) (by decide)
                · skip
                  refine own_by (fun t k => XS.ifNo X0.here hx rfl (hb hby d7_39) rfl ((if0 _ _).trans (feq hc8).1) k) ?_
                  show own_Go p e below _ (s₁.setTop (mkF m 42 #[iv p0, iv p1, iv p2, iv p3, iv p4, iv p5] []))
                  refine own_by (B := s₁.setTop (mkF m 43 #[iv p0, iv p1, iv p2, iv p3, iv p4, iv p5] [(.int (4 : Int32))])) (fun t k => ?_) ?_
                  · show Steps p.tables e below (s₁.setTop (mkF m 42 #[iv p0, iv p1, iv p2, iv p3, iv p4, iv p5] [])) _
                    refine XS.iconst X0.here hx rfl (hb hby d7_42) ?_
                    show Steps p.tables e below (s₁.setTop (mkF m 43 #[iv p0, iv p1, iv p2, iv p3, iv p4, iv p5] [(.int (4 : Int32))])) _
                    exact k
                  exact own_retI X0 Bd.notSynchronized hx Bd.returns (hb hby d7_43) (by
                      rw [show s₁.heap = h0 from e0]
                      exact ⟨congrArg (fun z => some (Value.int z)) (show (4 : Int32) = (fex p0 p1 p2 p3 p4 p5) from (by simp only [fex, if_pos hc1, if_pos hc2, if_pos hc3, if_pos hc4, if_pos hc5, if_pos hc6, if_pos hc7, if_neg hc8])), N0, rfl⟩) (by decide) (by decide)
              · skip
                refine own_by (fun t k => XS.icmpYes X0.here hx rfl (pc0 := 34) (pc' := 44) rfl (hb hby d7_34) rfl (flt hc7).2.2.2 (by decide) (by decide) k) ?_
                show own_Go p e below _ (s₁.setTop (mkF m 44 #[iv p0, iv p1, iv p2, iv p3, iv p4, iv p5] []))
                refine own_by (B := s₁.setTop (mkF m 46 #[iv p0, iv p1, iv p2, iv p3, iv p4, iv p5] [(.int (4 : Int32)), (.int p0)])) (fun t k => ?_) ?_
                · show Steps p.tables e below (s₁.setTop (mkF m 44 #[iv p0, iv p1, iv p2, iv p3, iv p4, iv p5] [])) _
                  refine XS.iloadN X0.here hx rfl (hb hby d7_44) rfl ?_
                  show Steps p.tables e below (s₁.setTop (mkF m 45 #[iv p0, iv p1, iv p2, iv p3, iv p4, iv p5] [(.int p0)])) _
                  refine XS.iconst X0.here hx rfl (hb hby d7_45) ?_
                  show Steps p.tables e below (s₁.setTop (mkF m 46 #[iv p0, iv p1, iv p2, iv p3, iv p4, iv p5] [(.int (4 : Int32)), (.int p0)])) _
                  exact k
                by_cases hc11 : (4 : Int32) < p0
                · skip
                  refine own_by (fun t k => XS.icmpNo X0.here hx rfl (hb hby d7_46) rfl (tlt hc11).2.2.2 k) ?_
                  show own_Go p e below _ (s₁.setTop (mkF m 49 #[iv p0, iv p1, iv p2, iv p3, iv p4, iv p5] []))
                  refine own_by (B := s₁.setTop (mkF m 51 #[iv p0, iv p1, iv p2, iv p3, iv p4, iv p5] [(.int p5)])) (fun t k => ?_) ?_
                  · show Steps p.tables e below (s₁.setTop (mkF m 49 #[iv p0, iv p1, iv p2, iv p3, iv p4, iv p5] [])) _
                    refine XS.iload X0.here hx rfl (hb hby d7_49) rfl ?_
                    show Steps p.tables e below (s₁.setTop (mkF m 51 #[iv p0, iv p1, iv p2, iv p3, iv p4, iv p5] [(.int p5)])) _
                    exact k
                  by_cases hc12 : p5 = (0 : Int32)
                  · skip
                    refine own_by (fun t k => XS.ifYes X0.here hx rfl (pc0 := 51) (pc' := 56) rfl (hb hby d7_51) rfl ((if0 _ _).trans (teq hc12).1) (by decide) (by decide) k) ?_
                    show own_Go p e below _ (s₁.setTop (mkF m 56 #[iv p0, iv p1, iv p2, iv p3, iv p4, iv p5] []))
                    refine own_by (B := s₁.setTop (mkF m 57 #[iv p0, iv p1, iv p2, iv p3, iv p4, iv p5] [(.int (-1 : Int32))])) (fun t k => ?_) ?_
                    · show Steps p.tables e below (s₁.setTop (mkF m 56 #[iv p0, iv p1, iv p2, iv p3, iv p4, iv p5] [])) _
                      refine XS.iconst X0.here hx rfl (hb hby d7_56) ?_
                      show Steps p.tables e below (s₁.setTop (mkF m 57 #[iv p0, iv p1, iv p2, iv p3, iv p4, iv p5] [(.int (-1 : Int32))])) _
                      exact k
                    exact own_retI X0 Bd.notSynchronized hx Bd.returns (hb hby d7_57) (by
                        rw [show s₁.heap = h0 from e0]
                        exact ⟨congrArg (fun z => some (Value.int z)) (show (-1 : Int32) = (fex p0 p1 p2 p3 p4 p5) from (by simp only [fex, if_pos hc1, if_pos hc2, if_pos hc3, if_pos hc4, if_pos hc5, if_pos hc6, if_neg hc7, if_pos hc11, if_pos hc12])), N0, rfl⟩) (by decide) (by decide)
                  · skip
                    refine own_by (fun t k => XS.ifNo X0.here hx rfl (hb hby d7_51) rfl ((if0 _ _).trans (feq hc12).1) k) ?_
                    show own_Go p e below _ (s₁.setTop (mkF m 54 #[iv p0, iv p1, iv p2, iv p3, iv p4, iv p5] []))
                    refine own_by (B := s₁.setTop (mkF m 55 #[iv p0, iv p1, iv p2, iv p3, iv p4, iv p5] [(.int (5 : Int32))])) (fun t k => ?_) ?_
                    · show Steps p.tables e below (s₁.setTop (mkF m 54 #[iv p0, iv p1, iv p2, iv p3, iv p4, iv p5] [])) _
                      refine XS.iconst X0.here hx rfl (hb hby d7_54) ?_
                      show Steps p.tables e below (s₁.setTop (mkF m 55 #[iv p0, iv p1, iv p2, iv p3, iv p4, iv p5] [(.int (5 : Int32))])) _
                      exact k
                    exact own_retI X0 Bd.notSynchronized hx Bd.returns (hb hby d7_55) (by
                        rw [show s₁.heap = h0 from e0]
                        exact ⟨congrArg (fun z => some (Value.int z)) (show (5 : Int32) = (fex p0 p1 p2 p3 p4 p5) from (by simp only [fex, if_pos hc1, if_pos hc2, if_pos hc3, if_pos hc4, if_pos hc5, if_pos hc6, if_neg hc7, if_pos hc11, if_neg hc12])), N0, rfl⟩) (by decide) (by decide)
                · skip
                  refine own_by (fun t k => XS.icmpYes X0.here hx rfl (pc0 := 46) (pc' := 56) rfl (hb hby d7_46) rfl (flt hc11).2.2.2 (by decide) (by decide) k) ?_
                  show own_Go p e below _ (s₁.setTop (mkF m 56 #[iv p0, iv p1, iv p2, iv p3, iv p4, iv p5] []))
                  refine own_by (B := s₁.setTop (mkF m 57 #[iv p0, iv p1, iv p2, iv p3, iv p4, iv p5] [(.int (-1 : Int32))])) (fun t k => ?_) ?_
                  · show Steps p.tables e below (s₁.setTop (mkF m 56 #[iv p0, iv p1, iv p2, iv p3, iv p4, iv p5] [])) _
                    refine XS.iconst X0.here hx rfl (hb hby d7_56) ?_
                    show Steps p.tables e below (s₁.setTop (mkF m 57 #[iv p0, iv p1, iv p2, iv p3, iv p4, iv p5] [(.int (-1 : Int32))])) _
                    exact k
                  exact own_retI X0 Bd.notSynchronized hx Bd.returns (hb hby d7_57) (by
                      rw [show s₁.heap = h0 from e0]
                      exact ⟨congrArg (fun z => some (Value.int z)) (show (-1 : Int32) = (fex p0 p1 p2 p3 p4 p5) from (by simp only [fex, if_pos hc1, if_pos hc2, if_pos hc3, if_pos hc4, if_pos hc5, if_pos hc6, if_neg hc7, if_neg hc11])), N0, rfl⟩) (by decide) (by decide)
            · skip
              refine own_by (fun t k => XS.ifNo X0.here hx rfl (hb hby d7_27) rfl ((if0 _ _).trans (feq hc6).1) k) ?_
              show own_Go p e below _ (s₁.setTop (mkF m 30 #[iv p0, iv p1, iv p2, iv p3, iv p4, iv p5] []))
              refine own_by (B := s₁.setTop (mkF m 31 #[iv p0, iv p1, iv p2, iv p3, iv p4, iv p5] [(.int (3 : Int32))])) (fun t k => ?_) ?_
              · show Steps p.tables e below (s₁.setTop (mkF m 30 #[iv p0, iv p1, iv p2, iv p3, iv p4, iv p5] [])) _
                refine XS.iconst X0.here hx rfl (hb hby d7_30) ?_
                show Steps p.tables e below (s₁.setTop (mkF m 31 #[iv p0, iv p1, iv p2, iv p3, iv p4, iv p5] [(.int (3 : Int32))])) _
                exact k
              exact own_retI X0 Bd.notSynchronized hx Bd.returns (hb hby d7_31) (by
                  rw [show s₁.heap = h0 from e0]
                  exact ⟨congrArg (fun z => some (Value.int z)) (show (3 : Int32) = (fex p0 p1 p2 p3 p4 p5) from (by simp only [fex, if_pos hc1, if_pos hc2, if_pos hc3, if_pos hc4, if_pos hc5, if_neg hc6])), N0, rfl⟩) (by decide) (by decide)
          · skip
            refine own_by (fun t k => XS.icmpYes X0.here hx rfl (pc0 := 23) (pc' := 32) rfl (hb hby d7_23) rfl (flt hc5).2.2.2 (by decide) (by decide) k) ?_
            show own_Go p e below _ (s₁.setTop (mkF m 32 #[iv p0, iv p1, iv p2, iv p3, iv p4, iv p5] []))
            refine own_by (B := s₁.setTop (mkF m 34 #[iv p0, iv p1, iv p2, iv p3, iv p4, iv p5] [(.int (3 : Int32)), (.int p0)])) (fun t k => ?_) ?_
            · show Steps p.tables e below (s₁.setTop (mkF m 32 #[iv p0, iv p1, iv p2, iv p3, iv p4, iv p5] [])) _
              refine XS.iloadN X0.here hx rfl (hb hby d7_32) rfl ?_
              show Steps p.tables e below (s₁.setTop (mkF m 33 #[iv p0, iv p1, iv p2, iv p3, iv p4, iv p5] [(.int p0)])) _
              refine XS.iconst X0.here hx rfl (hb hby d7_33) ?_
              show Steps p.tables e below (s₁.setTop (mkF m 34 #[iv p0, iv p1, iv p2, iv p3, iv p4, iv p5] [(.int (3 : Int32)), (.int p0)])) _
              exact k
            by_cases hc13 : (3 : Int32) < p0
            · skip
              refine own_by (fun t k => XS.icmpNo X0.here hx rfl (hb hby d7_34) rfl (tlt hc13).2.2.2 k) ?_
              show own_Go p e below _ (s₁.setTop (mkF m 37 #[iv p0, iv p1, iv p2, iv p3, iv p4, iv p5] []))
              refine own_by (B := s₁.setTop (mkF m 39 #[iv p0, iv p1, iv p2, iv p3, iv p4, iv p5] [(.int p4)])) (fun t k => ?_) ?_
              · show Steps p.tables e below (s₁.setTop (mkF m 37 #[iv p0, iv p1, iv p2, iv p3, iv p4, iv p5] [])) _
                refine XS.iload X0.here hx rfl (hb hby d7_37) rfl ?_
                show Steps p.tables e below (s₁.setTop (mkF m 39 #[iv p0, iv p1, iv p2, iv p3, iv p4, iv p5] [(.int p4)])) _
                exact k
              by_cases hc14 : p4 = (0 : Int32)
              · skip
                refine own_by (fun t k => XS.ifYes X0.here hx rfl (pc0 := 39) (pc' := 44) rfl (hb hby d7_39) rfl ((if0 _ _).trans (teq hc14).1) (by decide) (by decide) k) ?_
                show own_Go p e below _ (s₁.setTop (mkF m 44 #[iv p0, iv p1, iv p2, iv p3, iv p4, iv p5] []))
                refine own_by (B := s₁.setTop (mkF m 46 #[iv p0, iv p1, iv p2, iv p3, iv p4, iv p5] [(.int (4 : Int32)), (.int p0)])) (fun t k => ?_) ?_
                · show Steps p.tables e below (s₁.setTop (mkF m 44 #[iv p0, iv p1, iv p2, iv p3, iv p4, iv p5] [])) _
                  refine XS.iloadN X0.here hx rfl (hb hby d7_44) rfl ?_
                  show Steps p.tables e below (s₁.setTop (mkF m 45 #[iv p0, iv p1, iv p2, iv p3, iv p4, iv p5] [(.int p0)])) _
                  refine XS.iconst X0.here hx rfl (hb hby d7_45) ?_
                  show Steps p.tables e below (s₁.setTop (mkF m 46 #[iv p0, iv p1, iv p2, iv p3, iv p4, iv p5] [(.int (4 : Int32)), (.int p0)])) _
                  exact k
                by_cases hc15 : (4 : Int32) < p0
                · skip
                  refine own_by (fun t k => XS.icmpNo X0.here hx rfl (hb hby d7_46) rfl (tlt hc15).2.2.2 k) ?_
                  show own_Go p e below _ (s₁.setTop (mkF m 49 #[iv p0, iv p1, iv p2, iv p3, iv p4, iv p5] []))
                  refine own_by (B := s₁.setTop (mkF m 51 #[iv p0, iv p1, iv p2, iv p3, iv p4, iv p5] [(.int p5)])) (fun t k => ?_) ?_
                  · show Steps p.tables e below (s₁.setTop (mkF m 49 #[iv p0, iv p1, iv p2, iv p3, iv p4, iv p5] [])) _
                    refine XS.iload X0.here hx rfl (hb hby d7_49) rfl ?_
                    show Steps p.tables e below (s₁.setTop (mkF m 51 #[iv p0, iv p1, iv p2, iv p3, iv p4, iv p5] [(.int p5)])) _
                    exact k
                  by_cases hc16 : p5 = (0 : Int32)
                  · skip
                    refine own_by (fun t k => XS.ifYes X0.here hx rfl (pc0 := 51) (pc' := 56) rfl (hb hby d7_51) rfl ((if0 _ _).trans (teq hc16).1) (by decide) (by decide) k) ?_
                    show own_Go p e below _ (s₁.setTop (mkF m 56 #[iv p0, iv p1, iv p2, iv p3, iv p4, iv p5] []))
                    refine own_by (B := s₁.setTop (mkF m 57 #[iv p0, iv p1, iv p2, iv p3, iv p4, iv p5] [(.int (-1 : Int32))])) (fun t k => ?_) ?_
                    · show Steps p.tables e below (s₁.setTop (mkF m 56 #[iv p0, iv p1, iv p2, iv p3, iv p4, iv p5] [])) _
                      refine XS.iconst X0.here hx rfl (hb hby d7_56) ?_
                      show Steps p.tables e below (s₁.setTop (mkF m 57 #[iv p0, iv p1, iv p2, iv p3, iv p4, iv p5] [(.int (-1 : Int32))])) _
                      exact k
                    exact own_retI X0 Bd.notSynchronized hx Bd.returns (hb hby d7_57) (by
                        rw [show s₁.heap = h0 from e0]
                        exact ⟨congrArg (fun z => some (Value.int z)) (show (-1 : Int32) = (fex p0 p1 p2 p3 p4 p5) from (by simp only [fex, if_pos hc1, if_pos hc2, if_pos hc3, if_pos hc4, if_neg hc5, if_pos hc13, if_pos hc14, if_pos hc15, if_pos hc16])), N0, rfl⟩) (by decide) (by decide)
                  · skip
                    refine own_by (fun t k => XS.ifNo X0.here hx rfl (hb hby d7_51) rfl ((if0 _ _).trans (feq hc16).1) k) ?_
                    show own_Go p e below _ (s₁.setTop (mkF m 54 #[iv p0, iv p1, iv p2, iv p3, iv p4, iv p5] []))
                    refine own_by (B := s₁.setTop (mkF m 55 #[iv p0, iv p1, iv p2, iv p3, iv p4, iv p5] [(.int (5 : Int32))])) (fun t k => ?_) ?_
                    · show Steps p.tables e below (s₁.setTop (mkF m 54 #[iv p0, iv p1, iv p2, iv p3, iv p4, iv p5] [])) _
                      refine XS.iconst X0.here hx rfl (hb hby d7_54) ?_
                      show Steps p.tables e below (s₁.setTop (mkF m 55 #[iv p0, iv p1, iv p2, iv p3, iv p4, iv p5] [(.int (5 : Int32))])) _
                      exact k
                    exact own_retI X0 Bd.notSynchronized hx Bd.returns (hb hby d7_55) (by
                        rw [show s₁.heap = h0 from e0]
                        exact ⟨congrArg (fun z => some (Value.int z)) (show (5 : Int32) = (fex p0 p1 p2 p3 p4 p5) from (by simp only [fex, if_pos hc1, if_pos hc2, if_pos hc3, if_pos hc4, if_neg hc5, if_pos hc13, if_pos hc14, if_pos hc15, if_neg hc16])), N0, rfl⟩) (by decide) (by decide)
                · skip
                  refine own_by (fun t k => XS.icmpYes X0.here hx rfl (pc0 := 46) (pc' := 56) rfl (hb hby d7_46) rfl (flt hc15).2.2.2 (by decide) (by decide) k) ?_
                  show own_Go p e below _ (s₁.setTop (mkF m 56 #[iv p0, iv p1, iv p2, iv p3, iv p4, iv p5] []))
                  refine own_by (B := s₁.setTop (mkF m 57 #[iv p0, iv p1, iv p2, iv p3, iv p4, iv p5] [(.int (-1 : Int32))])) (fun t k => ?_) ?_
                  · show Steps p.tables e below (s₁.setTop (mkF m 56 #[iv p0, iv p1, iv p2, iv p3, iv p4, iv p5] [])) _
                    refine XS.iconst X0.here hx rfl (hb hby d7_56) ?_
                    show Steps p.tables e below (s₁.setTop (mkF m 57 #[iv p0, iv p1, iv p2, iv p3, iv p4, iv p5] [(.int (-1 : Int32))])) _
                    exact k
                  exact own_retI X0 Bd.notSynchronized hx Bd.returns (hb hby d7_57) (by
                      rw [show s₁.heap = h0 from e0]
                      exact ⟨congrArg (fun z => some (Value.int z)) (show (-1 : Int32) = (fex p0 p1 p2 p3 p4 p5) from (by simp only [fex, if_pos hc1, if_pos hc2, if_pos hc3, if_pos hc4, if_neg hc5, if_pos hc13, if_pos hc14, if_neg hc15])), N0, rfl⟩) (by decide) (by decide)
              · skip
                refine own_by (fun t k => XS.ifNo X0.here hx rfl (hb hby d7_39) rfl ((if0 _ _).trans (feq hc14).1) k) ?_
                show own_Go p e below _ (s₁.setTop (mkF m 42 #[iv p0, iv p1, iv p2, iv p3, iv p4, iv p5] []))
                refine own_by (B := s₁.setTop (mkF m 43 #[iv p0, iv p1, iv p2, iv p3, iv p4, iv p5] [(.int (4 : Int32))])) (fun t k => ?_) ?_
                · show Steps p.tables e below (s₁.setTop (mkF m 42 #[iv p0, iv p1, iv p2, iv p3, iv p4, iv p5] [])) _
                  refine XS.iconst X0.here hx rfl (hb hby d7_42) ?_
                  show Steps p.tables e below (s₁.setTop (mkF m 43 #[iv p0, iv p1, iv p2, iv p3, iv p4, iv p5] [(.int (4 : Int32))])) _
                  exact k
                exact own_retI X0 Bd.notSynchronized hx Bd.returns (hb hby d7_43) (by
                    rw [show s₁.heap = h0 from e0]
                    exact ⟨congrArg (fun z => some (Value.int z)) (show (4 : Int32) = (fex p0 p1 p2 p3 p4 p5) from (by simp only [fex, if_pos hc1, if_pos hc2, if_pos hc3, if_pos hc4, if_neg hc5, if_pos hc13, if_neg hc14])), N0, rfl⟩) (by decide) (by decide)
            · skip
              refine own_by (fun t k => XS.icmpYes X0.here hx rfl (pc0 := 34) (pc' := 44) rfl (hb hby d7_34) rfl (flt hc13).2.2.2 (by decide) (by decide) k) ?_
              show own_Go p e below _ (s₁.setTop (mkF m 44 #[iv p0, iv p1, iv p2, iv p3, iv p4, iv p5] []))
              refine own_by (B := s₁.setTop (mkF m 46 #[iv p0, iv p1, iv p2, iv p3, iv p4, iv p5] [(.int (4 : Int32)), (.int p0)])) (fun t k => ?_) ?_
              · show Steps p.tables e below (s₁.setTop (mkF m 44 #[iv p0, iv p1, iv p2, iv p3, iv p4, iv p5] [])) _
                refine XS.iloadN X0.here hx rfl (hb hby d7_44) rfl ?_
                show Steps p.tables e below (s₁.setTop (mkF m 45 #[iv p0, iv p1, iv p2, iv p3, iv p4, iv p5] [(.int p0)])) _
                refine XS.iconst X0.here hx rfl (hb hby d7_45) ?_
                show Steps p.tables e below (s₁.setTop (mkF m 46 #[iv p0, iv p1, iv p2, iv p3, iv p4, iv p5] [(.int (4 : Int32)), (.int p0)])) _
                exact k
              by_cases hc17 : (4 : Int32) < p0
              · skip
                refine own_by (fun t k => XS.icmpNo X0.here hx rfl (hb hby d7_46) rfl (tlt hc17).2.2.2 k) ?_
                show own_Go p e below _ (s₁.setTop (mkF m 49 #[iv p0, iv p1, iv p2, iv p3, iv p4, iv p5] []))
                refine own_by (B := s₁.setTop (mkF m 51 #[iv p0, iv p1, iv p2, iv p3, iv p4, iv p5] [(.int p5)])) (fun t k => ?_) ?_
                · show Steps p.tables e below (s₁.setTop (mkF m 49 #[iv p0, iv p1, iv p2, iv p3, iv p4, iv p5] [])) _
                  refine XS.iload X0.here hx rfl (hb hby d7_49) rfl ?_
                  show Steps p.tables e below (s₁.setTop (mkF m 51 #[iv p0, iv p1, iv p2, iv p3, iv p4, iv p5] [(.int p5)])) _
                  exact k
                by_cases hc18 : p5 = (0 : Int32)
                · skip
                  refine own_by (fun t k => XS.ifYes X0.here hx rfl (pc0 := 51) (pc' := 56) rfl (hb hby d7_51) rfl ((if0 _ _).trans (teq hc18).1) (by decide) (by decide) k) ?_
                  show own_Go p e below _ (s₁.setTop (mkF m 56 #[iv p0, iv p1, iv p2, iv p3, iv p4, iv p5] []))
                  refine own_by (B := s₁.setTop (mkF m 57 #[iv p0, iv p1, iv p2, iv p3, iv p4, iv p5] [(.int (-1 : Int32))])) (fun t k => ?_) ?_
                  · show Steps p.tables e below (s₁.setTop (mkF m 56 #[iv p0, iv p1, iv p2, iv p3, iv p4, iv p5] [])) _
                    refine XS.iconst X0.here hx rfl (hb hby d7_56) ?_
                    show Steps p.tables e below (s₁.setTop (mkF m 57 #[iv p0, iv p1, iv p2, iv p3, iv p4, iv p5] [(.int (-1 : Int32))])) _
                    exact k
                  exact own_retI X0 Bd.notSynchronized hx Bd.returns (hb hby d7_57) (by
                      rw [show s₁.heap = h0 from e0]
                      exact ⟨congrArg (fun z => some (Value.int z)) (show (-1 : Int32) = (fex p0 p1 p2 p3 p4 p5) from (by simp only [fex, if_pos hc1, if_pos hc2, if_pos hc3, if_pos hc4, if_neg hc5, if_neg hc13, if_pos hc17, if_pos hc18])), N0, rfl⟩) (by decide) (by decide)
                · skip
                  refine own_by (fun t k => XS.ifNo X0.here hx rfl (hb hby d7_51) rfl ((if0 _ _).trans (feq hc18).1) k) ?_
                  show own_Go p e below _ (s₁.setTop (mkF m 54 #[iv p0, iv p1, iv p2, iv p3, iv p4, iv p5] []))
                  refine own_by (B := s₁.setTop (mkF m 55 #[iv p0, iv p1, iv p2, iv p3, iv p4, iv p5] [(.int (5 : Int32))])) (fun t k => ?_) ?_
                  · show Steps p.tables e below (s₁.setTop (mkF m 54 #[iv p0, iv p1, iv p2, iv p3, iv p4, iv p5] [])) _
                    refine XS.iconst X0.here hx rfl (hb hby d7_54) ?_
                    show Steps p.tables e below (s₁.setTop (mkF m 55 #[iv p0, iv p1, iv p2, iv p3, iv p4, iv p5] [(.int (5 : Int32))])) _
                    exact k
                  exact own_retI X0 Bd.notSynchronized hx Bd.returns (hb hby d7_55) (by
                      rw [show s₁.heap = h0 from e0]
                      exact ⟨congrArg (fun z => some (Value.int z)) (show (5 : Int32) = (fex p0 p1 p2 p3 p4 p5) from (by simp only [fex, if_pos hc1, if_pos hc2, if_pos hc3, if_pos hc4, if_neg hc5, if_neg hc13, if_pos hc17, if_neg hc18])), N0, rfl⟩) (by decide) (by decide)
              · skip
                refine own_by (fun t k => XS.icmpYes X0.here hx rfl (pc0 := 46) (pc' := 56) rfl (hb hby d7_46) rfl (flt hc17).2.2.2 (by decide) (by decide) k) ?_
                show own_Go p e below _ (s₁.setTop (mkF m 56 #[iv p0, iv p1, iv p2, iv p3, iv p4, iv p5] []))
                refine own_by (B := s₁.setTop (mkF m 57 #[iv p0, iv p1, iv p2, iv p3, iv p4, iv p5] [(.int (-1 : Int32))])) (fun t k => ?_) ?_
                · show Steps p.tables e below (s₁.setTop (mkF m 56 #[iv p0, iv p1, iv p2, iv p3, iv p4, iv p5] [])) _
                  refine XS.iconst X0.here hx rfl (hb hby d7_56) ?_
                  show Steps p.tables e below (s₁.setTop (mkF m 57 #[iv p0, iv p1, iv p2, iv p3, iv p4, iv p5] [(.int (-1 : Int32))])) _
                  exact k
                exact own_retI X0 Bd.notSynchronized hx Bd.returns (hb hby d7_57) (by
                    rw [show s₁.heap = h0 from e0]
                    exact ⟨congrArg (fun z => some (Value.int z)) (show (-1 : Int32) = (fex p0 p1 p2 p3 p4 p5) from (by simp only [fex, if_pos hc1, if_pos hc2, if_pos hc3, if_pos hc4, if_neg hc5, if_neg hc13, if_neg hc17])), N0, rfl⟩) (by decide) (by decide)
        · skip
          refine own_by (fun t k => XS.ifNo X0.here hx rfl (hb hby d7_16) rfl ((if0 _ _).trans (feq hc4).1) k) ?_
          show own_Go p e below _ (s₁.setTop (mkF m 19 #[iv p0, iv p1, iv p2, iv p3, iv p4, iv p5] []))
          refine own_by (B := s₁.setTop (mkF m 20 #[iv p0, iv p1, iv p2, iv p3, iv p4, iv p5] [(.int (2 : Int32))])) (fun t k => ?_) ?_
          · show Steps p.tables e below (s₁.setTop (mkF m 19 #[iv p0, iv p1, iv p2, iv p3, iv p4, iv p5] [])) _
            refine XS.iconst X0.here hx rfl (hb hby d7_19) ?_
            show Steps p.tables e below (s₁.setTop (mkF m 20 #[iv p0, iv p1, iv p2, iv p3, iv p4, iv p5] [(.int (2 : Int32))])) _
            exact k
          exact own_retI X0 Bd.notSynchronized hx Bd.returns (hb hby d7_20) (by
              rw [show s₁.heap = h0 from e0]
              exact ⟨congrArg (fun z => some (Value.int z)) (show (2 : Int32) = (fex p0 p1 p2 p3 p4 p5) from (by simp only [fex, if_pos hc1, if_pos hc2, if_pos hc3, if_neg hc4])), N0, rfl⟩) (by decide) (by decide)
      · skip
        refine own_by (fun t k => XS.icmpYes X0.here hx rfl (pc0 := 12) (pc' := 21) rfl (hb hby d7_12) rfl (flt hc3).2.2.2 (by decide) (by decide) k) ?_
        show own_Go p e below _ (s₁.setTop (mkF m 21 #[iv p0, iv p1, iv p2, iv p3, iv p4, iv p5] []))
        refine own_by (B := s₁.setTop (mkF m 23 #[iv p0, iv p1, iv p2, iv p3, iv p4, iv p5] [(.int (2 : Int32)), (.int p0)])) (fun t k => ?_) ?_
        · show Steps p.tables e below (s₁.setTop (mkF m 21 #[iv p0, iv p1, iv p2, iv p3, iv p4, iv p5] [])) _
          refine XS.iloadN X0.here hx rfl (hb hby d7_21) rfl ?_
          show Steps p.tables e below (s₁.setTop (mkF m 22 #[iv p0, iv p1, iv p2, iv p3, iv p4, iv p5] [(.int p0)])) _
          refine XS.iconst X0.here hx rfl (hb hby d7_22) ?_
          show Steps p.tables e below (s₁.setTop (mkF m 23 #[iv p0, iv p1, iv p2, iv p3, iv p4, iv p5] [(.int (2 : Int32)), (.int p0)])) _
          exact k
        by_cases hc19 : (2 : Int32) < p0
        · skip
          refine own_by (fun t k => XS.icmpNo X0.here hx rfl (hb hby d7_23) rfl (tlt hc19).2.2.2 k) ?_
          show own_Go p e below _ (s₁.setTop (mkF m 26 #[iv p0, iv p1, iv p2, iv p3, iv p4, iv p5] []))
          refine own_by (B := s₁.setTop (mkF m 27 #[iv p0, iv p1, iv p2, iv p3, iv p4, iv p5] [(.int p3)])) (fun t k => ?_) ?_
          · show Steps p.tables e below (s₁.setTop (mkF m 26 #[iv p0, iv p1, iv p2, iv p3, iv p4, iv p5] [])) _
            refine XS.iloadN X0.here hx rfl (hb hby d7_26) rfl ?_
            show Steps p.tables e below (s₁.setTop (mkF m 27 #[iv p0, iv p1, iv p2, iv p3, iv p4, iv p5] [(.int p3)])) _
            exact k
          by_cases hc20 : p3 = (0 : Int32)
          · skip
            refine own_by (fun t k => XS.ifYes X0.here hx rfl (pc0 := 27) (pc' := 32) rfl (hb hby d7_27) rfl ((if0 _ _).trans (teq hc20).1) (by decide) (by decide) k) ?_
            show own_Go p e below _ (s₁.setTop (mkF m 32 #[iv p0, iv p1, iv p2, iv p3, iv p4, iv p5] []))
            refine own_by (B := s₁.setTop (mkF m 34 #[iv p0, iv p1, iv p2, iv p3, iv p4, iv p5] [(.int (3 : Int32)), (.int p0)])) (fun t k => ?_) ?_
            · show Steps p.tables e below (s₁.setTop (mkF m 32 #[iv p0, iv p1, iv p2, iv p3, iv p4, iv p5] [])) _
              refine XS.iloadN X0.here hx rfl (hb hby d7_32) rfl ?_
              show Steps p.tables e below (s₁.setTop (mkF m 33 #[iv p0, iv p1, iv p2, iv p3, iv p4, iv p5] [(.int p0)])) _
              refine XS.iconst X0.here hx rfl (hb hby d7_33) ?_
              show Steps p.tables e below (s₁.setTop (mkF m 34 #[iv p0, iv p1, iv p2, iv p3, iv p4, iv p5] [(.int (3 : Int32)), (.int p0)])) _
              exact k
            by_cases hc21 : (3 : Int32) < p0
            · skip
              refine own_by (fun t k => XS.icmpNo X0.here hx rfl (hb hby d7_34) rfl (tlt hc21).2.2.2 k) ?_
              show own_Go p e below _ (s₁.setTop (mkF m 37 #[iv p0, iv p1, iv p2, iv p3, iv p4, iv p5] []))
              refine own_by (B := s₁.setTop (mkF m 39 #[iv p0, iv p1, iv p2, iv p3, iv p4, iv p5] [(.int p4)])) (fun t k => ?_) ?_
              · show Steps p.tables e below (s₁.setTop (mkF m 37 #[iv p0, iv p1, iv p2, iv p3, iv p4, iv p5] [])) _
                refine XS.iload X0.here hx rfl (hb hby d7_37) rfl ?_
                show Steps p.tables e below (s₁.setTop (mkF m 39 #[iv p0, iv p1, iv p2, iv p3, iv p4, iv p5] [(.int p4)])) _
                exact k
              by_cases hc22 : p4 = (0 : Int32)
              · skip
                refine own_by (fun t k => XS.ifYes X0.here hx rfl (pc0 := 39) (pc' := 44) rfl (hb hby d7_39) rfl ((if0 _ _).trans (teq hc22).1) (by decide) (by decide) k) ?_
                show own_Go p e below _ (s₁.setTop (mkF m 44 #[iv p0, iv p1, iv p2, iv p3, iv p4, iv p5] []))
                refine own_by (B := s₁.setTop (mkF m 46 #[iv p0, iv p1, iv p2, iv p3, iv p4, iv p5] [(.int (4 : Int32)), (.int p0)])) (fun t k => ?_) ?_
                · show Steps p.tables e below (s₁.setTop (mkF m 44 #[iv p0, iv p1, iv p2, iv p3, iv p4, iv p5] [])) _
                  refine XS.iloadN X0.here hx rfl (hb hby d7_44) rfl ?_
                  show Steps p.tables e below (s₁.setTop (mkF m 45 #[iv p0, iv p1, iv p2, iv p3, iv p4, iv p5] [(.int p0)])) _
                  refine XS.iconst X0.here hx rfl (hb hby d7_45) ?_
                  show Steps p.tables e below (s₁.setTop (mkF m 46 #[iv p0, iv p1, iv p2, iv p3, iv p4, iv p5] [(.int (4 : Int32)), (.int p0)])) _
                  exact k
                by_cases hc23 : (4 : Int32) < p0
                · skip
                  refine own_by (fun t k => XS.icmpNo X0.here hx rfl (hb hby d7_46) rfl (tlt hc23).2.2.2 k) ?_
                  show own_Go p e below _ (s₁.setTop (mkF m 49 #[iv p0, iv p1, iv p2, iv p3, iv p4, iv p5] []))
                  refine own_by (B := s₁.setTop (mkF m 51 #[iv p0, iv p1, iv p2, iv p3, iv p4, iv p5] [(.int p5)])) (fun t k => ?_) ?_
                  · show Steps p.tables e below (s₁.setTop (mkF m 49 #[iv p0, iv p1, iv p2, iv p3, iv p4, iv p5] [])) _
                    refine XS.iload X0.here hx rfl (hb hby d7_49) rfl ?_
                    show Steps p.tables e below (s₁.setTop (mkF m 51 #[iv p0, iv p1, iv p2, iv p3, iv p4, iv p5] [(.int p5)])) _
                    exact k
                  by_cases hc24 : p5 = (0 : Int32)
                  · skip
                    refine own_by (fun t k => XS.ifYes X0.here hx rfl (pc0 := 51) (pc' := 56) rfl (hb hby d7_51) rfl ((if0 _ _).trans (teq hc24).1) (by decide) (by decide) k) ?_
                    show own_Go p e below _ (s₁.setTop (mkF m 56 #[iv p0, iv p1, iv p2, iv p3, iv p4, iv p5] []))
                    refine own_by (B := s₁.setTop (mkF m 57 #[iv p0, iv p1, iv p2, iv p3, iv p4, iv p5] [(.int (-1 : Int32))])) (fun t k => ?_) ?_
                    · show Steps p.tables e below (s₁.setTop (mkF m 56 #[iv p0, iv p1, iv p2, iv p3, iv p4, iv p5] [])) _
                      refine XS.iconst X0.here hx rfl (hb hby d7_56) ?_
                      show Steps p.tables e below (s₁.setTop (mkF m 57 #[iv p0, iv p1, iv p2, iv p3, iv p4, iv p5] [(.int (-1 : Int32))])) _
                      exact k
                    exact own_retI X0 Bd.notSynchronized hx Bd.returns (hb hby d7_57) (by
                        rw [show s₁.heap = h0 from e0]
                        exact ⟨congrArg (fun z => some (Value.int z)) (show (-1 : Int32) = (fex p0 p1 p2 p3 p4 p5) from (by simp only [fex, if_pos hc1, if_pos hc2, if_neg hc3, if_pos hc19, if_pos hc20, if_pos hc21, if_pos hc22, if_pos hc23, if_pos hc24])), N0, rfl⟩) (by decide) (by decide)
                  · skip
                    refine own_by (fun t k => XS.ifNo X0.here hx rfl (hb hby d7_51) rfl ((if0 _ _).trans (feq hc24).1) k) ?_
                    show own_Go p e below _ (s₁.setTop (mkF m 54 #[iv p0, iv p1, iv p2, iv p3, iv p4, iv p5] []))
                    refine own_by (B := s₁.setTop (mkF m 55 #[iv p0, iv p1, iv p2, iv p3, iv p4, iv p5] [(.int (5 : Int32))])) (fun t k => ?_) ?_
                    · show Steps p.tables e below (s₁.setTop (mkF m 54 #[iv p0, iv p1, iv p2, iv p3, iv p4, iv p5] [])) _
                      refine XS.iconst X0.here hx rfl (hb hby d7_54) ?_
                      show Steps p.tables e below (s₁.setTop (mkF m 55 #[iv p0, iv p1, iv p2, iv p3, iv p4, iv p5] [(.int (5 : Int32))])) _
                      exact k
                    exact own_retI X0 Bd.notSynchronized hx Bd.returns (hb hby d7_55) (by
                        rw [show s₁.heap = h0 from e0]
                        exact ⟨congrArg (fun z => some (Value.int z)) (show (5 : Int32) = (fex p0 p1 p2 p3 p4 p5) from (by simp only [fex, if_pos hc1, if_pos hc2, if_neg hc3, if_pos hc19, if_pos hc20, if_pos hc21, if_pos hc22, if_pos hc23, if_neg hc24])), N0, rfl⟩) (by decide) (by decide)
                · skip
                  refine own_by (fun t k => XS.icmpYes X0.here hx rfl (pc0 := 46) (pc' := 56) rfl (hb hby d7_46) rfl (flt hc23).2.2.2 (by decide) (by decide) k) ?_
                  show own_Go p e below _ (s₁.setTop (mkF m 56 #[iv p0, iv p1, iv p2, iv p3, iv p4, iv p5] []))
                  refine own_by (B := s₁.setTop (mkF m 57 #[iv p0, iv p1, iv p2, iv p3, iv p4, iv p5] [(.int (-1 : Int32))])) (fun t k => ?_) ?_
                  · show Steps p.tables e below (s₁.setTop (mkF m 56 #[iv p0, iv p1, iv p2, iv p3, iv p4, iv p5] [])) _
                    refine XS.iconst X0.here hx rfl (hb hby d7_56) ?_
                    show Steps p.tables e below (s₁.setTop (mkF m 57 #[iv p0, iv p1, iv p2, iv p3, iv p4, iv p5] [(.int (-1 : Int32))])) _
                    exact k
                  exact own_retI X0 Bd.notSynchronized hx Bd.returns (hb hby d7_57) (by
                      rw [show s₁.heap = h0 from e0]
                      exact ⟨congrArg (fun z => some (Value.int z)) (show (-1 : Int32) = (fex p0 p1 p2 p3 p4 p5) from (by simp only [fex, if_pos hc1, if_pos hc2, if_neg hc3, if_pos hc19, if_pos hc20, if_pos hc21, if_pos hc22, if_neg hc23])), N0, rfl⟩) (by decide) (by decide)
              · skip
                refine own_by (fun t k => XS.ifNo X0.here hx rfl (hb hby d7_39) rfl ((if0 _ _).trans (feq hc22).1) k) ?_
                show own_Go p e below _ (s₁.setTop (mkF m 42 #[iv p0, iv p1, iv p2, iv p3, iv p4, iv p5] []))
                refine own_by (B := s₁.setTop (mkF m 43 #[iv p0, iv p1, iv p2, iv p3, iv p4, iv p5] [(.int (4 : Int32))])) (fun t k => ?_) ?_
                · show Steps p.tables e below (s₁.setTop (mkF m 42 #[iv p0, iv p1, iv p2, iv p3, iv p4, iv p5] [])) _
                  refine XS.iconst X0.here hx rfl (hb hby d7_42) ?_
                  show Steps p.tables e below (s₁.setTop (mkF m 43 #[iv p0, iv p1, iv p2, iv p3, iv p4, iv p5] [(.int (4 : Int32))])) _
                  exact k
                exact own_retI X0 Bd.notSynchronized hx Bd.returns (hb hby d7_43) (by
                    rw [show s₁.heap = h0 from e0]
                    exact ⟨congrArg (fun z => some (Value.int z)) (show (4 : Int32) = (fex p0 p1 p2 p3 p4 p5) from (by simp only [fex, if_pos hc1, if_pos hc2, if_neg hc3, if_pos hc19, if_pos hc20, if_pos hc21, if_neg hc22])), N0, rfl⟩) (by decide) (by decide)
            · skip
              refine own_by (fun t k => XS.icmpYes X0.here hx rfl (pc0 := 34) (pc' := 44) rfl (hb hby d7_34) rfl (flt hc21).2.2.2 (by decide) (by decide) k) ?_
              show own_Go p e below _ (s₁.setTop (mkF m 44 #[iv p0, iv p1, iv p2, iv p3, iv p4, iv p5] []))
              refine own_by (B := s₁.setTop (mkF m 46 #[iv p0, iv p1, iv p2, iv p3, iv p4, iv p5] [(.int (4 : Int32)), (.int p0)])) (fun t k => ?_) ?_
              · show Steps p.tables e below (s₁.setTop (mkF m 44 #[iv p0, iv p1, iv p2, iv p3, iv p4, iv p5] [])) _
                refine XS.iloadN X0.here hx rfl (hb hby d7_44) rfl ?_
                show Steps p.tables e below (s₁.setTop (mkF m 45 #[iv p0, iv p1, iv p2, iv p3, iv p4, iv p5] [(.int p0)])) _
                refine XS.iconst X0.here hx rfl (hb hby d7_45) ?_
                show Steps p.tables e below (s₁.setTop (mkF m 46 #[iv p0, iv p1, iv p2, iv p3, iv p4, iv p5] [(.int (4 : Int32)), (.int p0)])) _
                exact k
              by_cases hc25 : (4 : Int32) < p0
              · skip
                refine own_by (fun t k => XS.icmpNo X0.here hx rfl (hb hby d7_46) rfl (tlt hc25).2.2.2 k) ?_
                show own_Go p e below _ (s₁.setTop (mkF m 49 #[iv p0, iv p1, iv p2, iv p3, iv p4, iv p5] []))
                refine own_by (B := s₁.setTop (mkF m 51 #[iv p0, iv p1, iv p2, iv p3, iv p4, iv p5] [(.int p5)])) (fun t k => ?_) ?_
                · show Steps p.tables e below (s₁.setTop (mkF m 49 #[iv p0, iv p1, iv p2, iv p3, iv p4, iv p5] [])) _
                  refine XS.iload X0.here hx rfl (hb hby d7_49) rfl ?_
                  show Steps p.tables e below (s₁.setTop (mkF m 51 #[iv p0, iv p1, iv p2, iv p3, iv p4, iv p5] [(.int p5)])) _
                  exact k
                by_cases hc26 : p5 = (0 : Int32)
                · skip
                  refine own_by (fun t k => XS.ifYes X0.here hx rfl (pc0 := 51) (pc' := 56) rfl (hb hby d7_51) rfl ((if0 _ _).trans (teq hc26).1) (by decide) (by decide) k) ?_
                  show own_Go p e below _ (s₁.setTop (mkF m 56 #[iv p0, iv p1, iv p2, iv p3, iv p4, iv p5] []))
                  refine own_by (B := s₁.setTop (mkF m 57 #[iv p0, iv p1, iv p2, iv p3, iv p4, iv p5] [(.int (-1 : Int32))])) (fun t k => ?_) ?_
                  · show Steps p.tables e below (s₁.setTop (mkF m 56 #[iv p0, iv p1, iv p2, iv p3, iv p4, iv p5] [])) _
                    refine XS.iconst X0.here hx rfl (hb hby d7_56) ?_
                    show Steps p.tables e below (s₁.setTop (mkF m 57 #[iv p0, iv p1, iv p2, iv p3, iv p4, iv p5] [(.int (-1 : Int32))])) _
                    exact k
                  exact own_retI X0 Bd.notSynchronized hx Bd.returns (hb hby d7_57) (by
                      rw [show s₁.heap = h0 from e0]
                      exact ⟨congrArg (fun z => some (Value.int z)) (show (-1 : Int32) = (fex p0 p1 p2 p3 p4 p5) from (by simp only [fex, if_pos hc1, if_pos hc2, if_neg hc3, if_pos hc19, if_pos hc20, if_neg hc21, if_pos hc25, if_pos hc26])), N0, rfl⟩) (by decide) (by decide)
                · skip
                  refine own_by (fun t k => XS.ifNo X0.here hx rfl (hb hby d7_51) rfl ((if0 _ _).trans (feq hc26).1) k) ?_
                  show own_Go p e below _ (s₁.setTop (mkF m 54 #[iv p0, iv p1, iv p2, iv p3, iv p4, iv p5] []))
                  refine own_by (B := s₁.setTop (mkF m 55 #[iv p0, iv p1, iv p2, iv p3, iv p4, iv p5] [(.int (5 : Int32))])) (fun t k => ?_) ?_
                  · show Steps p.tables e below (s₁.setTop (mkF m 54 #[iv p0, iv p1, iv p2, iv p3, iv p4, iv p5] [])) _
                    refine XS.iconst X0.here hx rfl (hb hby d7_54) ?_
                    show Steps p.tables e below (s₁.setTop (mkF m 55 #[iv p0, iv p1, iv p2, iv p3, iv p4, iv p5] [(.int (5 : Int32))])) _
                    exact k
                  exact own_retI X0 Bd.notSynchronized hx Bd.returns (hb hby d7_55) (by
                      rw [show s₁.heap = h0 from e0]
                      exact ⟨congrArg (fun z => some (Value.int z)) (show (5 : Int32) = (fex p0 p1 p2 p3 p4 p5) from (by simp only [fex, if_pos hc1, if_pos hc2, if_neg hc3, if_pos hc19, if_pos hc20, if_neg hc21, if_pos hc25, if_neg hc26])), N0, rfl⟩) (by decide) (by decide)
              · skip
                refine own_by (fun t k => XS.icmpYes X0.here hx rfl (pc0 := 46) (pc' := 56) rfl (hb hby d7_46) rfl (flt hc25).2.2.2 (by decide) (by decide) k) ?_
                show own_Go p e below _ (s₁.setTop (mkF m 56 #[iv p0, iv p1, iv p2, iv p3, iv p4, iv p5] []))
                refine own_by (B := s₁.setTop (mkF m 57 #[iv p0, iv p1, iv p2, iv p3, iv p4, iv p5] [(.int (-1 : Int32))])) (fun t k => ?_) ?_
                · show Steps p.tables e below (s₁.setTop (mkF m 56 #[iv p0, iv p1, iv p2, iv p3, iv p4, iv p5] [])) _
                  refine XS.iconst X0.here hx rfl (hb hby d7_56) ?_
                  show Steps p.tables e below (s₁.setTop (mkF m 57 #[iv p0, iv p1, iv p2, iv p3, iv p4, iv p5] [(.int (-1 : Int32))])) _
                  exact k
                exact own_retI X0 Bd.notSynchronized hx Bd.returns (hb hby d7_57) (by
                    rw [show s₁.heap = h0 from e0]
                    exact ⟨congrArg (fun z => some (Value.int z)) (show (-1 : Int32) = (fex p0 p1 p2 p3 p4 p5) from (by simp only [fex, if_pos hc1, if_pos hc2, if_neg hc3, if_pos hc19, if_pos hc20, if_neg hc21, if_neg hc25])), N0, rfl⟩) (by decide) (by decide)
          · skip
            refine own_by (fun t k => XS.ifNo X0.here hx rfl (hb hby d7_27) rfl ((if0 _ _).trans (feq hc20).1) k) ?_
            show own_Go p e below _ (s₁.setTop (mkF m 30 #[iv p0, iv p1, iv p2, iv p3, iv p4, iv p5] []))
            refine own_by (B := s₁.setTop (mkF m 31 #[iv p0, iv p1, iv p2, iv p3, iv p4, iv p5] [(.int (3 : Int32))])) (fun t k => ?_) ?_
            · show Steps p.tables e below (s₁.setTop (mkF m 30 #[iv p0, iv p1, iv p2, iv p3, iv p4, iv p5] [])) _
              refine XS.iconst X0.here hx rfl (hb hby d7_30) ?_
              show Steps p.tables e below (s₁.setTop (mkF m 31 #[iv p0, iv p1, iv p2, iv p3, iv p4, iv p5] [(.int (3 : Int32))])) _
              exact k
            exact own_retI X0 Bd.notSynchronized hx Bd.returns (hb hby d7_31) (by
                rw [show s₁.heap = h0 from e0]
                exact ⟨congrArg (fun z => some (Value.int z)) (show (3 : Int32) = (fex p0 p1 p2 p3 p4 p5) from (by simp only [fex, if_pos hc1, if_pos hc2, if_neg hc3, if_pos hc19, if_neg hc20])), N0, rfl⟩) (by decide) (by decide)
        · skip
          refine own_by (fun t k => XS.icmpYes X0.here hx rfl (pc0 := 23) (pc' := 32) rfl (hb hby d7_23) rfl (flt hc19).2.2.2 (by decide) (by decide) k) ?_
          show own_Go p e below _ (s₁.setTop (mkF m 32 #[iv p0, iv p1, iv p2, iv p3, iv p4, iv p5] []))
          refine own_by (B := s₁.setTop (mkF m 34 #[iv p0, iv p1, iv p2, iv p3, iv p4, iv p5] [(.int (3 : Int32)), (.int p0)])) (fun t k => ?_) ?_
          · show Steps p.tables e below (s₁.setTop (mkF m 32 #[iv p0, iv p1, iv p2, iv p3, iv p4, iv p5] [])) _
            refine XS.iloadN X0.here hx rfl (hb hby d7_32) rfl ?_
            show Steps p.tables e below (s₁.setTop (mkF m 33 #[iv p0, iv p1, iv p2, iv p3, iv p4, iv p5] [(.int p0)])) _
            refine XS.iconst X0.here hx rfl (hb hby d7_33) ?_
            show Steps p.tables e below (s₁.setTop (mkF m 34 #[iv p0, iv p1, iv p2, iv p3, iv p4, iv p5] [(.int (3 : Int32)), (.int p0)])) _
            exact k
          by_cases hc27 : (3 : Int32) < p0
          · skip
            refine own_by (fun t k => XS.icmpNo X0.here hx rfl (hb hby d7_34) rfl (tlt hc27).2.2.2 k) ?_
            show own_Go p e below _ (s₁.setTop (mkF m 37 #[iv p0, iv p1, iv p2, iv p3, iv p4, iv p5] []))
            refine own_by (B := s₁.setTop (mkF m 39 #[iv p0, iv p1, iv p2, iv p3, iv p4, iv p5] [(.int p4)])) (fun t k => ?_) ?_
            · show Steps p.tables e below (s₁.setTop (mkF m 37 #[iv p0, iv p1, iv p2, iv p3, iv p4, iv p5] [])) _
              refine XS.iload X0.here hx rfl (hb hby d7_37) rfl ?_
              show Steps p.tables e below (s₁.setTop (mkF m 39 #[iv p0, iv p1, iv p2, iv p3, iv p4, iv p5] [(.int p4)])) _
              exact k
            by_cases hc28 : p4 = (0 : Int32)
            · skip
              refine own_by (fun t k => XS.ifYes X0.here hx rfl (pc0 := 39) (pc' := 44) rfl (hb hby d7_39) rfl ((if0 _ _).trans (teq hc28).1) (by decide) (by decide) k) ?_
              show own_Go p e below _ (s₁.setTop (mkF m 44 #[iv p0, iv p1, iv p2, iv p3, iv p4, iv p5] []))
              refine own_by (B := s₁.setTop (mkF m 46 #[iv p0, iv p1, iv p2, iv p3, iv p4, iv p5] [(.int (4 : Int32)), (.int p0)])) (fun t k => ?_) ?_
              · show Steps p.tables e below (s₁.setTop (mkF m 44 #[iv p0, iv p1, iv p2, iv p3, iv p4, iv p5] [])) _
                refine XS.iloadN X0.here hx rfl (hb hby d7_44) rfl ?_
                show Steps p.tables e below (s₁.setTop (mkF m 45 #[iv p0, iv p1, iv p2, iv p3, iv p4, iv p5] [(.int p0)])) _
                refine XS.iconst X0.here hx rfl (hb hby d7_45) ?_
                show Steps p.tables e below (s₁.setTop (mkF m 46 #[iv p0, iv p1, iv p2, iv p3, iv p4, iv p5] [(.int (4 : Int32)), (.int p0)])) _
                exact k
              by_cases hc29 : (4 : Int32) < p0
              · skip
                refine own_by (fun t k => XS.icmpNo X0.here hx rfl (hb hby d7_46) rfl (tlt hc29).2.2.2 k) ?_
                show own_Go p e below _ (s₁.setTop (mkF m 49 #[iv p0, iv p1, iv p2, iv p3, iv p4, iv p5] []))
                refine own_by (B := s₁.setTop (mkF m 51 #[iv p0, iv p1, iv p2, iv p3, iv p4, iv p5] [(.int p5)])) (fun t k => ?_) ?_
                · show Steps p.tables e below (s₁.setTop (mkF m 49 #[iv p0, iv p1, iv p2, iv p3, iv p4, iv p5] [])) _
                  refine XS.iload X0.here hx rfl (hb hby d7_49) rfl ?_
                  show Steps p.tables e below (s₁.setTop (mkF m 51 #[iv p0, iv p1, iv p2, iv p3, iv p4, iv p5] [(.int p5)])) _
                  exact k
                by_cases hc30 : p5 = (0 : Int32)
                · skip
                  refine own_by (fun t k => XS.ifYes X0.here hx rfl (pc0 := 51) (pc' := 56) rfl (hb hby d7_51) rfl ((if0 _ _).trans (teq hc30).1) (by decide) (by decide) k) ?_
                  show own_Go p e below _ (s₁.setTop (mkF m 56 #[iv p0, iv p1, iv p2, iv p3, iv p4, iv p5] []))
                  refine own_by (B := s₁.setTop (mkF m 57 #[iv p0, iv p1, iv p2, iv p3, iv p4, iv p5] [(.int (-1 : Int32))])) (fun t k => ?_) ?_
                  · show Steps p.tables e below (s₁.setTop (mkF m 56 #[iv p0, iv p1, iv p2, iv p3, iv p4, iv p5] [])) _
                    refine XS.iconst X0.here hx rfl (hb hby d7_56) ?_
                    show Steps p.tables e below (s₁.setTop (mkF m 57 #[iv p0, iv p1, iv p2, iv p3, iv p4, iv p5] [(.int (-1 : Int32))])) _
                    exact k
                  exact own_retI X0 Bd.notSynchronized hx Bd.returns (hb hby d7_57) (by
                      rw [show s₁.heap = h0 from e0]
                      exact ⟨congrArg (fun z => some (Value.int z)) (show (-1 : Int32) = (fex p0 p1 p2 p3 p4 p5) from (by simp only [fex, if_pos hc1, if_pos hc2, if_neg hc3, if_neg hc19, if_pos hc27, if_pos hc28, if_pos hc29, if_pos hc30])), N0, rfl⟩) (by decide) (by decide)
                · skip
                  refine own_by (fun t k => XS.ifNo X0.here hx rfl (hb hby d7_51) rfl ((if0 _ _).trans (feq hc30).1) k) ?_
                  show own_Go p e below _ (s₁.setTop (mkF m 54 #[iv p0, iv p1, iv p2, iv p3, iv p4, iv p5] []))
                  refine own_by (B := s₁.setTop (mkF m 55 #[iv p0, iv p1, iv p2, iv p3, iv p4, iv p5] [(.int (5 : Int32))])) (fun t k => ?_) ?_
                  · show Steps p.tables e below (s₁.setTop (mkF m 54 #[iv p0, iv p1, iv p2, iv p3, iv p4, iv p5] [])) _
                    refine XS.iconst X0.here hx rfl (hb hby d7_54) ?_
                    show Steps p.tables e below (s₁.setTop (mkF m 55 #[iv p0, iv p1, iv p2, iv p3, iv p4, iv p5] [(.int (5 : Int32))])) _
                    exact k
                  exact own_retI X0 Bd.notSynchronized hx Bd.returns (hb hby d7_55) (by
                      rw [show s₁.heap = h0 from e0]
                      exact ⟨congrArg (fun z => some (Value.int z)) (show (5 : Int32) = (fex p0 p1 p2 p3 p4 p5) from (by simp only [fex, if_pos hc1, if_pos hc2, if_neg hc3, if_neg hc19, if_pos hc27, if_pos hc28, if_pos hc29, if_neg hc30])), N0, rfl⟩) (by decide) (by decide)
              · skip
                refine own_by (fun t k => XS.icmpYes X0.here hx rfl (pc0 := 46) (pc' := 56) rfl (hb hby d7_46) rfl (flt hc29).2.2.2 (by decide) (by decide) k) ?_
                show own_Go p e below _ (s₁.setTop (mkF m 56 #[iv p0, iv p1, iv p2, iv p3, iv p4, iv p5] []))
                refine own_by (B := s₁.setTop (mkF m 57 #[iv p0, iv p1, iv p2, iv p3, iv p4, iv p5] [(.int (-1 : Int32))])) (fun t k => ?_) ?_
                · show Steps p.tables e below (s₁.setTop (mkF m 56 #[iv p0, iv p1, iv p2, iv p3, iv p4, iv p5] [])) _
                  refine XS.iconst X0.here hx rfl (hb hby d7_56) ?_
                  show Steps p.tables e below (s₁.setTop (mkF m 57 #[iv p0, iv p1, iv p2, iv p3, iv p4, iv p5] [(.int (-1 : Int32))])) _
                  exact k
                exact own_retI X0 Bd.notSynchronized hx Bd.returns (hb hby d7_57) (by
                    rw [show s₁.heap = h0 from e0]
                    exact ⟨congrArg (fun z => some (Value.int z)) (show (-1 : Int32) = (fex p0 p1 p2 p3 p4 p5) from (by simp only [fex, if_pos hc1, if_pos hc2, if_neg hc3, if_neg hc19, if_pos hc27, if_pos hc28, if_neg hc29])), N0, rfl⟩) (by decide) (by decide)
            · skip
              refine own_by (fun t k => XS.ifNo X0.here hx rfl (hb hby d7_39) rfl ((if0 _ _).trans (feq hc28).1) k) ?_
              show own_Go p e below _ (s₁.setTop (mkF m 42 #[iv p0, iv p1, iv p2, iv p3, iv p4, iv p5] []))
              refine own_by (B := s₁.setTop (mkF m 43 #[iv p0, iv p1, iv p2, iv p3, iv p4, iv p5] [(.int (4 : Int32))])) (fun t k => ?_) ?_
              · show Steps p.tables e below (s₁.setTop (mkF m 42 #[iv p0, iv p1, iv p2, iv p3, iv p4, iv p5] [])) _
                refine XS.iconst X0.here hx rfl (hb hby d7_42) ?_
                show Steps p.tables e below (s₁.setTop (mkF m 43 #[iv p0, iv p1, iv p2, iv p3, iv p4, iv p5] [(.int (4 : Int32))])) _
                exact k
              exact own_retI X0 Bd.notSynchronized hx Bd.returns (hb hby d7_43) (by
                  rw [show s₁.heap = h0 from e0]
                  exact ⟨congrArg (fun z => some (Value.int z)) (show (4 : Int32) = (fex p0 p1 p2 p3 p4 p5) from (by simp only [fex, if_pos hc1, if_pos hc2, if_neg hc3, if_neg hc19, if_pos hc27, if_neg hc28])), N0, rfl⟩) (by decide) (by decide)
          · skip
            refine own_by (fun t k => XS.icmpYes X0.here hx rfl (pc0 := 34) (pc' := 44) rfl (hb hby d7_34) rfl (flt hc27).2.2.2 (by decide) (by decide) k) ?_
            show own_Go p e below _ (s₁.setTop (mkF m 44 #[iv p0, iv p1, iv p2, iv p3, iv p4, iv p5] []))
            refine own_by (B := s₁.setTop (mkF m 46 #[iv p0, iv p1, iv p2, iv p3, iv p4, iv p5] [(.int (4 : Int32)), (.int p0)])) (fun t k => ?_) ?_
            · show Steps p.tables e below (s₁.setTop (mkF m 44 #[iv p0, iv p1, iv p2, iv p3, iv p4, iv p5] [])) _
              refine XS.iloadN X0.here hx rfl (hb hby d7_44) rfl ?_
              show Steps p.tables e below (s₁.setTop (mkF m 45 #[iv p0, iv p1, iv p2, iv p3, iv p4, iv p5] [(.int p0)])) _
              refine XS.iconst X0.here hx rfl (hb hby d7_45) ?_
              show Steps p.tables e below (s₁.setTop (mkF m 46 #[iv p0, iv p1, iv p2, iv p3, iv p4, iv p5] [(.int (4 : Int32)), (.int p0)])) _
              exact k
            by_cases hc31 : (4 : Int32) < p0
            · skip
              refine own_by (fun t k => XS.icmpNo X0.here hx rfl (hb hby d7_46) rfl (tlt hc31).2.2.2 k) ?_
              show own_Go p e below _ (s₁.setTop (mkF m 49 #[iv p0, iv p1, iv p2, iv p3, iv p4, iv p5] []))
              refine own_by (B := s₁.setTop (mkF m 51 #[iv p0, iv p1, iv p2, iv p3, iv p4, iv p5] [(.int p5)])) (fun t k => ?_) ?_
              · show Steps p.tables e below (s₁.setTop (mkF m 49 #[iv p0, iv p1, iv p2, iv p3, iv p4, iv p5] [])) _
                refine XS.iload X0.here hx rfl (hb hby d7_49) rfl ?_
                show Steps p.tables e below (s₁.setTop (mkF m 51 #[iv p0, iv p1, iv p2, iv p3, iv p4, iv p5] [(.int p5)])) _
                exact k
              by_cases hc32 : p5 = (0 : Int32)
              · skip
                refine own_by (fun t k => XS.ifYes X0.here hx rfl (pc0 := 51) (pc' := 56) rfl (hb hby d7_51) rfl ((if0 _ _).trans (teq hc32).1) (by decide) (by decide) k) ?_
                show own_Go p e below _ (s₁.setTop (mkF m 56 #[iv p0, iv p1, iv p2, iv p3, iv p4, iv p5] []))
                refine own_by (B := s₁.setTop (mkF m 57 #[iv p0, iv p1, iv p2, iv p3, iv p4, iv p5] [(.int (-1 : Int32))])) (fun t k => ?_) ?_
                · show Steps p.tables e below (s₁.setTop (mkF m 56 #[iv p0, iv p1, iv p2, iv p3, iv p4, iv p5] [])) _
                  refine XS.iconst X0.here hx rfl (hb hby d7_56) ?_
                  show Steps p.tables e below (s₁.setTop (mkF m 57 #[iv p0, iv p1, iv p2, iv p3, iv p4, iv p5] [(.int (-1 : Int32))])) _
                  exact k
                exact own_retI X0 Bd.notSynchronized hx Bd.returns (hb hby d7_57) (by
                    rw [show s₁.heap = h0 from e0]
                    exact ⟨congrArg (fun z => some (Value.int z)) (show (-1 : Int32) = (fex p0 p1 p2 p3 p4 p5) from (by simp only [fex, if_pos hc1, if_pos hc2, if_neg hc3, if_neg hc19, if_neg hc27, if_pos hc31, if_pos hc32])), N0, rfl⟩) (by decide) (by decide)
              · skip
                refine own_by (fun t k => XS.ifNo X0.here hx rfl (hb hby d7_51) rfl ((if0 _ _).trans (feq hc32).1) k) ?_
                show own_Go p e below _ (s₁.setTop (mkF m 54 #[iv p0, iv p1, iv p2, iv p3, iv p4, iv p5] []))
                refine own_by (B := s₁.setTop (mkF m 55 #[iv p0, iv p1, iv p2, iv p3, iv p4, iv p5] [(.int (5 : Int32))])) (fun t k => ?_) ?_
                · show Steps p.tables e below (s₁.setTop (mkF m 54 #[iv p0, iv p1, iv p2, iv p3, iv p4, iv p5] [])) _
                  refine XS.iconst X0.here hx rfl (hb hby d7_54) ?_
                  show Steps p.tables e below (s₁.setTop (mkF m 55 #[iv p0, iv p1, iv p2, iv p3, iv p4, iv p5] [(.int (5 : Int32))])) _
                  exact k
                exact own_retI X0 Bd.notSynchronized hx Bd.returns (hb hby d7_55) (by
                    rw [show s₁.heap = h0 from e0]
                    exact ⟨congrArg (fun z => some (Value.int z)) (show (5 : Int32) = (fex p0 p1 p2 p3 p4 p5) from (by simp only [fex, if_pos hc1, if_pos hc2, if_neg hc3, if_neg hc19, if_neg hc27, if_pos hc31, if_neg hc32])), N0, rfl⟩) (by decide) (by decide)
            · skip
              refine own_by (fun t k => XS.icmpYes X0.here hx rfl (pc0 := 46) (pc' := 56) rfl (hb hby d7_46) rfl (flt hc31).2.2.2 (by decide) (by decide) k) ?_
              show own_Go p e below _ (s₁.setTop (mkF m 56 #[iv p0, iv p1, iv p2, iv p3, iv p4, iv p5] []))
              refine own_by (B := s₁.setTop (mkF m 57 #[iv p0, iv p1, iv p2, iv p3, iv p4, iv p5] [(.int (-1 : Int32))])) (fun t k => ?_) ?_
              · show Steps p.tables e below (s₁.setTop (mkF m 56 #[iv p0, iv p1, iv p2, iv p3, iv p4, iv p5] [])) _
                refine XS.iconst X0.here hx rfl (hb hby d7_56) ?_
                show Steps p.tables e below (s₁.setTop (mkF m 57 #[iv p0, iv p1, iv p2, iv p3, iv p4, iv p5] [(.int (-1 : Int32))])) _
                exact k
              exact own_retI X0 Bd.notSynchronized hx Bd.returns (hb hby d7_57) (by
                  rw [show s₁.heap = h0 from e0]
                  exact ⟨congrArg (fun z => some (Value.int z)) (show (-1 : Int32) = (fex p0 p1 p2 p3 p4 p5) from (by simp only [fex, if_pos hc1, if_pos hc2, if_neg hc3, if_neg hc19, if_neg hc27, if_neg hc31])), N0, rfl⟩) (by decide) (by decide)
    · skip
      refine own_by (fun t k => XS.ifNo X0.here hx rfl (hb hby d7_5) rfl ((if0 _ _).trans (feq hc2).1) k) ?_
      show own_Go p e below _ (s₁.setTop (mkF m 8 #[iv p0, iv p1, iv p2, iv p3, iv p4, iv p5] []))
      refine own_by (B := s₁.setTop (mkF m 9 #[iv p0, iv p1, iv p2, iv p3, iv p4, iv p5] [(.int (1 : Int32))])) (fun t k => ?_) ?_
      · show Steps p.tables e below (s₁.setTop (mkF m 8 #[iv p0, iv p1, iv p2, iv p3, iv p4, iv p5] [])) _
        refine XS.iconst X0.here hx rfl (hb hby d7_8) ?_
        show Steps p.tables e below (s₁.setTop (mkF m 9 #[iv p0, iv p1, iv p2, iv p3, iv p4, iv p5] [(.int (1 : Int32))])) _
        exact k
      exact own_retI X0 Bd.notSynchronized hx Bd.returns (hb hby d7_9) (by
          rw [show s₁.heap = h0 from e0]
          exact ⟨congrArg (fun z => some (Value.int z)) (show (1 : Int32) = (fex p0 p1 p2 p3 p4 p5) from (by simp only [fex, if_pos hc1, if_neg hc2])), N0, rfl⟩) (by decide) (by decide)
  · skip
    refine own_by (fun t k => XS.ifYes X0.here hx rfl (pc0 := 1) (pc' := 10) rfl (hb hby d7_1) rfl ((if0 _ _).trans (flt hc1).2.2.2) (by decide) (by decide) k) ?_
    show own_Go p e below _ (s₁.setTop (mkF m 10 #[iv p0, iv p1, iv p2, iv p3, iv p4, iv p5] []))
    refine own_by (B := s₁.setTop (mkF m 12 #[iv p0, iv p1, iv p2, iv p3, iv p4, iv p5] [(.int (1 : Int32)), (.int p0)])) (fun t k => ?_) ?_
    · show Steps p.tables e below (s₁.setTop (mkF m 10 #[iv p0, iv p1, iv p2, iv p3, iv p4, iv p5] [])) _
      refine XS.iloadN X0.here hx rfl (hb hby d7_10) rfl ?_
      show Steps p.tables e below (s₁.setTop (mkF m 11 #[iv p0, iv p1, iv p2, iv p3, iv p4, iv p5] [(.int p0)])) _
      refine XS.iconst X0.here hx rfl (hb hby d7_11) ?_
      show Steps p.tables e below (s₁.setTop (mkF m 12 #[iv p0, iv p1, iv p2, iv p3, iv p4, iv p5] [(.int (1 : Int32)), (.int p0)])) _
      exact k
    by_cases hc33 : (1 : Int32) < p0
    · skip
      refine own_by (fun t k => XS.icmpNo X0.here hx rfl (hb hby d7_12) rfl (tlt hc33).2.2.2 k) ?_
      show own_Go p e below _ (s₁.setTop (mkF m 15 #[iv p0, iv p1, iv p2, iv p3, iv p4, iv p5] []))
      refine own_by (B := s₁.setTop (mkF m 16 #[iv p0, iv p1, iv p2, iv p3, iv p4, iv p5] [(.int p2)])) (fun t k => ?_) ?_
      · show Steps p.tables e below (s₁.setTop (mkF m 15 #[iv p0, iv p1, iv p2, iv p3, iv p4, iv p5] [])) _
        refine XS.iloadN X0.here hx rfl (hb hby d7_15) rfl ?_
        show Steps p.tables e below (s₁.setTop (mkF m 16 #[iv p0, iv p1, iv p2, iv p3, iv p4, iv p5] [(.int p2)])) _
        exact k
      by_cases hc34 : p2 = (0 : Int32)
      · skip
        refine own_by (fun t k => XS.ifYes X0.here hx rfl (pc0 := 16) (pc' := 21) rfl (hb hby d7_16) rfl ((if0 _ _).trans (teq hc34).1) (by decide) (by decide) k) ?_
        show own_Go p e below _ (s₁.setTop (mkF m 21 #[iv p0, iv p1, iv p2, iv p3, iv p4, iv p5] []))
        refine own_by (B := s₁.setTop (mkF m 23 #[iv p0, iv p1, iv p2, iv p3, iv p4, iv p5] [(.int (2 : Int32)), (.int p0)])) (fun t k => ?_) ?_
        · show Steps p.tables e below (s₁.setTop (mkF m 21 #[iv p0, iv p1, iv p2, iv p3, iv p4, iv p5] [])) _
          refine XS.iloadN X0.here hx rfl (hb hby d7_21) rfl ?_
          show Steps p.tables e below (s₁.setTop (mkF m 22 #[iv p0, iv p1, iv p2, iv p3, iv p4, iv p5] [(.int p0)])) _
          refine XS.iconst X0.here hx rfl (hb hby d7_22) ?_
          show Steps p.tables e below (s₁.setTop (mkF m 23 #[iv p0, iv p1, iv p2, iv p3, iv p4, iv p5] [(.int (2 : Int32)), (.int p0)])) _
          exact k
        by_cases hc35 : (2 : Int32) < p0
        · skip
          refine own_by (fun t k => XS.icmpNo X0.here hx rfl (hb hby d7_23) rfl (tlt hc35).2.2.2 k) ?_
          show own_Go p e below _ (s₁.setTop (mkF m 26 #[iv p0, iv p1, iv p2, iv p3, iv p4, iv p5] []))
          refine own_by (B := s₁.setTop (mkF m 27 #[iv p0, iv p1, iv p2, iv p3, iv p4, iv p5] [(.int p3)])) (fun t k => ?_) ?_
          · show Steps p.tables e below (s₁.setTop (mkF m 26 #[iv p0, iv p1, iv p2, iv p3, iv p4, iv p5] [])) _
            refine XS.iloadN X0.here hx rfl (hb hby d7_26) rfl ?_
            show Steps p.tables e below (s₁.setTop (mkF m 27 #[iv p0, iv p1, iv p2, iv p3, iv p4, iv p5] [(.int p3)])) _
            exact k
          by_cases hc36 : p3 = (0 : Int32)
          · skip
            refine own_by (fun t k => XS.ifYes X0.here hx rfl (pc0 := 27) (pc' := 32) rfl (hb hby d7_27) rfl ((if0 _ _).trans (teq hc36).1) (by decide) (by decide) k) ?_
            show own_Go p e below _ (s₁.setTop (mkF m 32 #[iv p0, iv p1, iv p2, iv p3, iv p4, iv p5] []))
            refine own_by (B := s₁.setTop (mkF m 34 #[iv p0, iv p1, iv p2, iv p3, iv p4, iv p5] [(.int (3 : Int32)), (.int p0)])) (fun t k => ?_) ?_
            · show Steps p.tables e below (s₁.setTop (mkF m 32 #[iv p0, iv p1, iv p2, iv p3, iv p4, iv p5] [])) _
              refine XS.iloadN X0.here hx rfl (hb hby d7_32) rfl ?_
              show Steps p.tables e below (s₁.setTop (mkF m 33 #[iv p0, iv p1, iv p2, iv p3, iv p4, iv p5] [(.int p0)])) _
              refine XS.iconst X0.here hx rfl (hb hby d7_33) ?_
              show Steps p.tables e below (s₁.setTop (mkF m 34 #[iv p0, iv p1, iv p2, iv p3, iv p4, iv p5] [(.int (3 : Int32)), (.int p0)])) _
              exact k
            by_cases hc37 : (3 : Int32) < p0
            · skip
              refine own_by (fun t k => XS.icmpNo X0.here hx rfl (hb hby d7_34) rfl (tlt hc37).2.2.2 k) ?_
              show own_Go p e below _ (s₁.setTop (mkF m 37 #[iv p0, iv p1, iv p2, iv p3, iv p4, iv p5] []))
              refine own_by (B := s₁.setTop (mkF m 39 #[iv p0, iv p1, iv p2, iv p3, iv p4, iv p5] [(.int p4)])) (fun t k => ?_) ?_
              · show Steps p.tables e below (s₁.setTop (mkF m 37 #[iv p0, iv p1, iv p2, iv p3, iv p4, iv p5] [])) _
                refine XS.iload X0.here hx rfl (hb hby d7_37) rfl ?_
                show Steps p.tables e below (s₁.setTop (mkF m 39 #[iv p0, iv p1, iv p2, iv p3, iv p4, iv p5] [(.int p4)])) _
                exact k
              by_cases hc38 : p4 = (0 : Int32)
              · skip
                refine own_by (fun t k => XS.ifYes X0.here hx rfl (pc0 := 39) (pc' := 44) rfl (hb hby d7_39) rfl ((if0 _ _).trans (teq hc38).1) (by decide) (by decide) k) ?_
                show own_Go p e below _ (s₁.setTop (mkF m 44 #[iv p0, iv p1, iv p2, iv p3, iv p4, iv p5] []))
                refine own_by (B := s₁.setTop (mkF m 46 #[iv p0, iv p1, iv p2, iv p3, iv p4, iv p5] [(.int (4 : Int32)), (.int p0)])) (fun t k => ?_) ?_
                · show Steps p.tables e below (s₁.setTop (mkF m 44 #[iv p0, iv p1, iv p2, iv p3, iv p4, iv p5] [])) _
                  refine XS.iloadN X0.here hx rfl (hb hby d7_44) rfl ?_
                  show Steps p.tables e below (s₁.setTop (mkF m 45 #[iv p0, iv p1, iv p2, iv p3, iv p4, iv p5] [(.int p0)])) _
                  refine XS.iconst X0.here hx rfl (hb hby d7_45) ?_
                  show Steps p.tables e below (s₁.setTop (mkF m 46 #[iv p0, iv p1, iv p2, iv p3, iv p4, iv p5] [(.int (4 : Int32)), (.int p0)])) _
                  exact k
                by_cases hc39 : (4 : Int32) < p0
                · skip
                  refine own_by (fun t k => XS.icmpNo X0.here hx rfl (hb hby d7_46) rfl (tlt hc39).2.2.2 k) ?_
                  show own_Go p e below _ (s₁.setTop (mkF m 49 #[iv p0, iv p1, iv p2, iv p3, iv p4, iv p5] []))
                  refine own_by (B := s₁.setTop (mkF m 51 #[iv p0, iv p1, iv p2, iv p3, iv p4, iv p5] [(.int p5)])) (fun t k => ?_) ?_
                  · show Steps p.tables e below (s₁.setTop (mkF m 49 #[iv p0, iv p1, iv p2, iv p3, iv p4, iv p5] [])) _
                    refine XS.iload X0.here hx rfl (hb hby d7_49) rfl ?_
                    show Steps p.tables e below (s₁.setTop (mkF m 51 #[iv p0, iv p1, iv p2, iv p3, iv p4, iv p5] [(.int p5)])) _
                    exact k
                  by_cases hc40 : p5 = (0 : Int32)
                  · skip
                    refine own_by (fun t k => XS.ifYes X0.here hx rfl (pc0 := 51) (pc' := 56) rfl (hb hby d7_51) rfl ((if0 _ _).trans (teq hc40).1) (by decide) (by decide) k) ?_
                    show own_Go p e below _ (s₁.setTop (mkF m 56 #[iv p0, iv p1, iv p2, iv p3, iv p4, iv p5] []))
                    refine own_by (B := s₁.setTop (mkF m 57 #[iv p0, iv p1, iv p2, iv p3, iv p4, iv p5] [(.int (-1 : Int32))])) (fun t k => ?_) ?_
                    · show Steps p.tables e below (s₁.setTop (mkF m 56 #[iv p0, iv p1, iv p2, iv p3, iv p4, iv p5] [])) _
                      refine XS.iconst X0.here hx rfl (hb hby d7_56) ?_
                      show Steps p.tables e below (s₁.setTop (mkF m 57 #[iv p0, iv p1, iv p2, iv p3, iv p4, iv p5] [(.int (-1 : Int32))])) _
                      exact k
                    exact own_retI X0 Bd.notSynchronized hx Bd.returns (hb hby d7_57) (by
                        rw [show s₁.heap = h0 from e0]
                        exact ⟨congrArg (fun z => some (Value.int z)) (show (-1 : Int32) = (fex p0 p1 p2 p3 p4 p5) from (by simp only [fex, if_neg hc1, if_pos hc33, if_pos hc34, if_pos hc35, if_pos hc36, if_pos hc37, if_pos hc38, if_pos hc39, if_pos hc40])), N0, rfl⟩) (by decide) (by decide)
                  · skip
                    refine own_by (fun t k => XS.ifNo X0.here hx rfl (hb hby d7_51) rfl ((if0 _ _).trans (feq hc40).1) k) ?_
                    show own_Go p e below _ (s₁.setTop (mkF m 54 #[iv p0, iv p1, iv p2, iv p3, iv p4, iv p5] []))
                    refine own_by (B := s₁.setTop (mkF m 55 #[iv p0, iv p1, iv p2, iv p3, iv p4, iv p5] [(.int (5 : Int32))])) (fun t k => ?_) ?_
                    · show Steps p.tables e below (s₁.setTop (mkF m 54 #[iv p0, iv p1, iv p2, iv p3, iv p4, iv p5] [])) _
                      refine XS.iconst X0.here hx rfl (hb hby d7_54) ?_
                      show Steps p.tables e below (s₁.setTop (mkF m 55 #[iv p0, iv p1, iv p2, iv p3, iv p4, iv p5] [(.int (5 : Int32))])) _
                      exact k
                    exact own_retI X0 Bd.notSynchronized hx Bd.returns (hb hby d7_55) (by
                        rw [show s₁.heap = h0 from e0]
                        exact ⟨congrArg (fun z => some (Value.int z)) (show (5 : Int32) = (fex p0 p1 p2 p3 p4 p5) from (by simp only [fex, if_neg hc1, if_pos hc33, if_pos hc34, if_pos hc35, if_pos hc36, if_pos hc37, if_pos hc38, if_pos hc39, if_neg hc40])), N0, rfl⟩) (by decide) (by decide)
                · skip
                  refine own_by (fun t k => XS.icmpYes X0.here hx rfl (pc0 := 46) (pc' := 56) rfl (hb hby d7_46) rfl (flt hc39).2.2.2 (by decide) (by decide) k) ?_
                  show own_Go p e below _ (s₁.setTop (mkF m 56 #[iv p0, iv p1, iv p2, iv p3, iv p4, iv p5] []))
                  refine own_by (B := s₁.setTop (mkF m 57 #[iv p0, iv p1, iv p2, iv p3, iv p4, iv p5] [(.int (-1 : Int32))])) (fun t k => ?_) ?_
                  · show Steps p.tables e below (s₁.setTop (mkF m 56 #[iv p0, iv p1, iv p2, iv p3, iv p4, iv p5] [])) _
                    refine XS.iconst X0.here hx rfl (hb hby d7_56) ?_
                    show Steps p.tables e below (s₁.setTop (mkF m 57 #[iv p0, iv p1, iv p2, iv p3, iv p4, iv p5] [(.int (-1 : Int32))])) _
                    exact k
                  exact own_retI X0 Bd.notSynchronized hx Bd.returns (hb hby d7_57) (by
                      rw [show s₁.heap = h0 from e0]
                      exact ⟨congrArg (fun z => some (Value.int z)) (show (-1 : Int32) = (fex p0 p1 p2 p3 p4 p5) from (by simp only [fex, if_neg hc1, if_pos hc33, if_pos hc34, if_pos hc35, if_pos hc36, if_pos hc37, if_pos hc38, if_neg hc39])), N0, rfl⟩) (by decide) (by decide)
              · skip
                refine own_by (fun t k => XS.ifNo X0.here hx rfl (hb hby d7_39) rfl ((if0 _ _).trans (feq hc38).1) k) ?_
                show own_Go p e below _ (s₁.setTop (mkF m 42 #[iv p0, iv p1, iv p2, iv p3, iv p4, iv p5] []))
                refine own_by (B := s₁.setTop (mkF m 43 #[iv p0, iv p1, iv p2, iv p3, iv p4, iv p5] [(.int (4 : Int32))])) (fun t k => ?_) ?_
                · show Steps p.tables e below (s₁.setTop (mkF m 42 #[iv p0, iv p1, iv p2, iv p3, iv p4, iv p5] [])) _
                  refine XS.iconst X0.here hx rfl (hb hby d7_42) ?_
                  show Steps p.tables e below (s₁.setTop (mkF m 43 #[iv p0, iv p1, iv p2, iv p3, iv p4, iv p5] [(.int (4 : Int32))])) _
                  exact k
                exact own_retI X0 Bd.notSynchronized hx Bd.returns (hb hby d7_43) (by
                    rw [show s₁.heap = h0 from e0]
                    exact ⟨congrArg (fun z => some (Value.int z)) (show (4 : Int32) = (fex p0 p1 p2 p3 p4 p5) from (by simp only [fex, if_neg hc1, if_pos hc33, if_pos hc34, if_pos hc35, if_pos hc36, if_pos hc37, if_neg hc38])), N0, rfl⟩) (by decide) (by decide)
            · skip
              refine own_by (fun t k => XS.icmpYes X0.here hx rfl (pc0 := 34) (pc' := 44) rfl (hb hby d7_34) rfl (flt hc37).2.2.2 (by decide) (by decide) k) ?_
              show own_Go p e below _ (s₁.setTop (mkF m 44 #[iv p0, iv p1, iv p2, iv p3, iv p4, iv p5] []))
              refine own_by (B := s₁.setTop (mkF m 46 #[iv p0, iv p1, iv p2, iv p3, iv p4, iv p5] [(.int (4 : Int32)), (.int p0)])) (fun t k => ?_) ?_
              · show Steps p.tables e below (s₁.setTop (mkF m 44 #[iv p0, iv p1, iv p2, iv p3, iv p4, iv p5] [])) _
                refine XS.iloadN X0.here hx rfl (hb hby d7_44) rfl ?_
                show Steps p.tables e below (s₁.setTop (mkF m 45 #[iv p0, iv p1, iv p2, iv p3, iv p4, iv p5] [(.int p0)])) _
                refine XS.iconst X0.here hx rfl (hb hby d7_45) ?_
                show Steps p.tables e below (s₁.setTop (mkF m 46 #[iv p0, iv p1, iv p2, iv p3, iv p4, iv p5] [(.int (4 : Int32)), (.int p0)])) _
                exact k
              by_cases hc41 : (4 : Int32) < p0
              · skip
                refine own_by (fun t k => XS.icmpNo X0.here hx rfl (hb hby d7_46) rfl (tlt hc41).2.2.2 k) ?_
                show own_Go p e below _ (s₁.setTop (mkF m 49 #[iv p0, iv p1, iv p2, iv p3, iv p4, iv p5] []))
                refine own_by (B := s₁.setTop (mkF m 51 #[iv p0, iv p1, iv p2, iv p3, iv p4, iv p5] [(.int p5)])) (fun t k => ?_) ?_
                · show Steps p.tables e below (s₁.setTop (mkF m 49 #[iv p0, iv p1, iv p2, iv p3, iv p4, iv p5] [])) _
                  refine XS.iload X0.here hx rfl (hb hby d7_49) rfl ?_
                  show Steps p.tables e below (s₁.setTop (mkF m 51 #[iv p0, iv p1, iv p2, iv p3, iv p4, iv p5] [(.int p5)])) _
                  exact k
                by_cases hc42 : p5 = (0 : Int32)
                · skip
                  refine own_by (fun t k => XS.ifYes X0.here hx rfl (pc0 := 51) (pc' := 56) rfl (hb hby d7_51) rfl ((if0 _ _).trans (teq hc42).1) (by decide) (by decide) k) ?_
                  show own_Go p e below _ (s₁.setTop (mkF m 56 #[iv p0, iv p1, iv p2, iv p3, iv p4, iv p5] []))
                  refine own_by (B := s₁.setTop (mkF m 57 #[iv p0, iv p1, iv p2, iv p3, iv p4, iv p5] [(.int (-1 : Int32))])) (fun t k => ?_) ?_
                  · show Steps p.tables e below (s₁.setTop (mkF m 56 #[iv p0, iv p1, iv p2, iv p3, iv p4, iv p5] [])) _
                    refine XS.iconst X0.here hx rfl (hb hby d7_56) ?_
                    show Steps p.tables e below (s₁.setTop (mkF m 57 #[iv p0, iv p1, iv p2, iv p3, iv p4, iv p5] [(.int (-1 : Int32))])) _
                    exact k
                  exact own_retI X0 Bd.notSynchronized hx Bd.returns (hb hby d7_57) (by
                      rw [show s₁.heap = h0 from e0]
                      exact ⟨congrArg (fun z => some (Value.int z)) (show (-1 : Int32) = (fex p0 p1 p2 p3 p4 p5) from (by simp only [fex, if_neg hc1, if_pos hc33, if_pos hc34, if_pos hc35, if_pos hc36, if_neg hc37, if_pos hc41, if_pos hc42])), N0, rfl⟩) (by decide) (by decide)
                · skip
                  refine own_by (fun t k => XS.ifNo X0.here hx rfl (hb hby d7_51) rfl ((if0 _ _).trans (feq hc42).1) k) ?_
                  show own_Go p e below _ (s₁.setTop (mkF m 54 #[iv p0, iv p1, iv p2, iv p3, iv p4, iv p5] []))
                  refine own_by (B := s₁.setTop (mkF m 55 #[iv p0, iv p1, iv p2, iv p3, iv p4, iv p5] [(.int (5 : Int32))])) (fun t k => ?_) ?_
                  · show Steps p.tables e below (s₁.setTop (mkF m 54 #[iv p0, iv p1, iv p2, iv p3, iv p4, iv p5] [])) _
                    refine XS.iconst X0.here hx rfl (hb hby d7_54) ?_
                    show Steps p.tables e below (s₁.setTop (mkF m 55 #[iv p0, iv p1, iv p2, iv p3, iv p4, iv p5] [(.int (5 : Int32))])) _
                    exact k
                  exact own_retI X0 Bd.notSynchronized hx Bd.returns (hb hby d7_55) (by
                      rw [show s₁.heap = h0 from e0]
                      exact ⟨congrArg (fun z => some (Value.int z)) (show (5 : Int32) = (fex p0 p1 p2 p3 p4 p5) from (by simp only [fex, if_neg hc1, if_pos hc33, if_pos hc34, if_pos hc35, if_pos hc36, if_neg hc37, if_pos hc41, if_neg hc42])), N0, rfl⟩) (by decide) (by decide)
              · skip
                refine own_by (fun t k => XS.icmpYes X0.here hx rfl (pc0 := 46) (pc' := 56) rfl (hb hby d7_46) rfl (flt hc41).2.2.2 (by decide) (by decide) k) ?_
                show own_Go p e below _ (s₁.setTop (mkF m 56 #[iv p0, iv p1, iv p2, iv p3, iv p4, iv p5] []))
                refine own_by (B := s₁.setTop (mkF m 57 #[iv p0, iv p1, iv p2, iv p3, iv p4, iv p5] [(.int (-1 : Int32))])) (fun t k => ?_) ?_
                · show Steps p.tables e below (s₁.setTop (mkF m 56 #[iv p0, iv p1, iv p2, iv p3, iv p4, iv p5] [])) _
                  refine XS.iconst X0.here hx rfl (hb hby d7_56) ?_
                  show Steps p.tables e below (s₁.setTop (mkF m 57 #[iv p0, iv p1, iv p2, iv p3, iv p4, iv p5] [(.int (-1 : Int32))])) _
                  exact k
                exact own_retI X0 Bd.notSynchronized hx Bd.returns (hb hby d7_57) (by
                    rw [show s₁.heap = h0 from e0]
                    exact ⟨congrArg (fun z => some (Value.int z)) (show (-1 : Int32) = (fex p0 p1 p2 p3 p4 p5) from (by simp only [fex, if_neg hc1, if_pos hc33, if_pos hc34, if_pos hc35, if_pos hc36, if_neg hc37, if_neg hc41])), N0, rfl⟩) (by decide) (by decide)
          · skip
            refine own_by (fun t k => XS.ifNo X0.here hx rfl (hb hby d7_27) rfl ((if0 _ _).trans (feq hc36).1) k) ?_
            show own_Go p e below _ (s₁.setTop (mkF m 30 #[iv p0, iv p1, iv p2, iv p3, iv p4, iv p5] []))
            refine own_by (B := s₁.setTop (mkF m 31 #[iv p0, iv p1, iv p2, iv p3, iv p4, iv p5] [(.int (3 : Int32))])) (fun t k => ?_) ?_
            · show Steps p.tables e below (s₁.setTop (mkF m 30 #[iv p0, iv p1, iv p2, iv p3, iv p4, iv p5] [])) _
              refine XS.iconst X0.here hx rfl (hb hby d7_30) ?_
              show Steps p.tables e below (s₁.setTop (mkF m 31 #[iv p0, iv p1, iv p2, iv p3, iv p4, iv p5] [(.int (3 : Int32))])) _
              exact k
            exact own_retI X0 Bd.notSynchronized hx Bd.returns (hb hby d7_31) (by
                rw [show s₁.heap = h0 from e0]
                exact ⟨congrArg (fun z => some (Value.int z)) (show (3 : Int32) = (fex p0 p1 p2 p3 p4 p5) from (by simp only [fex, if_neg hc1, if_pos hc33, if_pos hc34, if_pos hc35, if_neg hc36])), N0, rfl⟩) (by decide) (by decide)
        · skip
          refine own_by (fun t k => XS.icmpYes X0.here hx rfl (pc0 := 23) (pc' := 32) rfl (hb hby d7_23) rfl (flt hc35).2.2.2 (by decide) (by decide) k) ?_
          show own_Go p e below _ (s₁.setTop (mkF m 32 #[iv p0, iv p1, iv p2, iv p3, iv p4, iv p5] []))
          refine own_by (B := s₁.setTop (mkF m 34 #[iv p0, iv p1, iv p2, iv p3, iv p4, iv p5] [(.int (3 : Int32)), (.int p0)])) (fun t k => ?_) ?_
          · show Steps p.tables e below (s₁.setTop (mkF m 32 #[iv p0, iv p1, iv p2, iv p3, iv p4, iv p5] [])) _
            refine XS.iloadN X0.here hx rfl (hb hby d7_32) rfl ?_
            show Steps p.tables e below (s₁.setTop (mkF m 33 #[iv p0, iv p1, iv p2, iv p3, iv p4, iv p5] [(.int p0)])) _
            refine XS.iconst X0.here hx rfl (hb hby d7_33) ?_
            show Steps p.tables e below (s₁.setTop (mkF m 34 #[iv p0, iv p1, iv p2, iv p3, iv p4, iv p5] [(.int (3 : Int32)), (.int p0)])) _
            exact k
          by_cases hc43 : (3 : Int32) < p0
          · skip
            refine own_by (fun t k => XS.icmpNo X0.here hx rfl (hb hby d7_34) rfl (tlt hc43).2.2.2 k) ?_
            show own_Go p e below _ (s₁.setTop (mkF m 37 #[iv p0, iv p1, iv p2, iv p3, iv p4, iv p5] []))
            refine own_by (B := s₁.setTop (mkF m 39 #[iv p0, iv p1, iv p2, iv p3, iv p4, iv p5] [(.int p4)])) (fun t k => ?_) ?_
            · show Steps p.tables e below (s₁.setTop (mkF m 37 #[iv p0, iv p1, iv p2, iv p3, iv p4, iv p5] [])) _
              refine XS.iload X0.here hx rfl (hb hby d7_37) rfl ?_
              show Steps p.tables e below (s₁.setTop (mkF m 39 #[iv p0, iv p1, iv p2, iv p3, iv p4, iv p5] [(.int p4)])) _
              exact k
            by_cases hc44 : p4 = (0 : Int32)
            · skip
              refine own_by (fun t k => XS.ifYes X0.here hx rfl (pc0 := 39) (pc' := 44) rfl (hb hby d7_39) rfl ((if0 _ _).trans (teq hc44).1) (by decide) (by decide) k) ?_
              show own_Go p e below _ (s₁.setTop (mkF m 44 #[iv p0, iv p1, iv p2, iv p3, iv p4, iv p5] []))
              refine own_by (B := s₁.setTop (mkF m 46 #[iv p0, iv p1, iv p2, iv p3, iv p4, iv p5] [(.int (4 : Int32)), (.int p0)])) (fun t k => ?_) ?_
              · show Steps p.tables e below (s₁.setTop (mkF m 44 #[iv p0, iv p1, iv p2, iv p3, iv p4, iv p5] [])) _
                refine XS.iloadN X0.here hx rfl (hb hby d7_44) rfl ?_
                show Steps p.tables e below (s₁.setTop (mkF m 45 #[iv p0, iv p1, iv p2, iv p3, iv p4, iv p5] [(.int p0)])) _
                refine XS.iconst X0.here hx rfl (hb hby d7_45) ?_
                show Steps p.tables e below (s₁.setTop (mkF m 46 #[iv p0, iv p1, iv p2, iv p3, iv p4, iv p5] [(.int (4 : Int32)), (.int p0)])) _
                exact k
              by_cases hc45 : (4 : Int32) < p0
              · skip
                refine own_by (fun t k => XS.icmpNo X0.here hx rfl (hb hby d7_46) rfl (tlt hc45).2.2.2 k) ?_
                show own_Go p e below _ (s₁.setTop (mkF m 49 #[iv p0, iv p1, iv p2, iv p3, iv p4, iv p5] []))
                refine own_by (B := s₁.setTop (mkF m 51 #[iv p0, iv p1, iv p2, iv p3, iv p4, iv p5] [(.int p5)])) (fun t k => ?_) ?_
                · show Steps p.tables e below (s₁.setTop (mkF m 49 #[iv p0, iv p1, iv p2, iv p3, iv p4, iv p5] [])) _
                  refine XS.iload X0.here hx rfl (hb hby d7_49) rfl ?_
                  show Steps p.tables e below (s₁.setTop (mkF m 51 #[iv p0, iv p1, iv p2, iv p3, iv p4, iv p5] [(.int p5)])) _
                  exact k
                by_cases hc46 : p5 = (0 : Int32)
                · skip
                  refine own_by (fun t k => XS.ifYes X0.here hx rfl (pc0 := 51) (pc' := 56) rfl (hb hby d7_51) rfl ((if0 _ _).trans (teq hc46).1) (by decide) (by decide) k) ?_
                  show own_Go p e below _ (s₁.setTop (mkF m 56 #[iv p0, iv p1, iv p2, iv p3, iv p4, iv p5] []))
                  refine own_by (B := s₁.setTop (mkF m 57 #[iv p0, iv p1, iv p2, iv p3, iv p4, iv p5] [(.int (-1 : Int32))])) (fun t k => ?_) ?_
                  · show Steps p.tables e below (s₁.setTop (mkF m 56 #[iv p0, iv p1, iv p2, iv p3, iv p4, iv p5] [])) _
                    refine XS.iconst X0.here hx rfl (hb hby d7_56) ?_
                    show Steps p.tables e below (s₁.setTop (mkF m 57 #[iv p0, iv p1, iv p2, iv p3, iv p4, iv p5] [(.int (-1 : Int32))])) _
                    exact k
                  exact own_retI X0 Bd.notSynchronized hx Bd.returns (hb hby d7_57) (by
                      rw [show s₁.heap = h0 from e0]
                      exact ⟨congrArg (fun z => some (Value.int z)) (show (-1 : Int32) = (fex p0 p1 p2 p3 p4 p5) from (by simp only [fex, if_neg hc1, if_pos hc33, if_pos hc34, if_neg hc35, if_pos hc43, if_pos hc44, if_pos hc45, if_pos hc46])), N0, rfl⟩) (by decide) (by decide)
                · skip
                  refine own_by (fun t k => XS.ifNo X0.here hx rfl (hb hby d7_51) rfl ((if0 _ _).trans (feq hc46).1) k) ?_
                  show own_Go p e below _ (s₁.setTop (mkF m 54 #[iv p0, iv p1, iv p2, iv p3, iv p4, iv p5] []))
                  refine own_by (B := s₁.setTop (mkF m 55 #[iv p0, iv p1, iv p2, iv p3, iv p4, iv p5] [(.int (5 : Int32))])) (fun t k => ?_) ?_
                  · show Steps p.tables e below (s₁.setTop (mkF m 54 #[iv p0, iv p1, iv p2, iv p3, iv p4, iv p5] [])) _
                    refine XS.iconst X0.here hx rfl (hb hby d7_54) ?_
                    show Steps p.tables e below (s₁.setTop (mkF m 55 #[iv p0, iv p1, iv p2, iv p3, iv p4, iv p5] [(.int (5 : Int32))])) _
                    exact k
                  exact own_retI X0 Bd.notSynchronized hx Bd.returns (hb hby d7_55) (by
                      rw [show s₁.heap = h0 from e0]
                      exact ⟨congrArg (fun z => some (Value.int z)) (show (5 : Int32) = (fex p0 p1 p2 p3 p4 p5) from (by simp only [fex, if_neg hc1, if_pos hc33, if_pos hc34, if_neg hc35, if_pos hc43, if_pos hc44, if_pos hc45, if_neg hc46])), N0, rfl⟩) (by decide) (by decide)
              · skip
                refine own_by (fun t k => XS.icmpYes X0.here hx rfl (pc0 := 46) (pc' := 56) rfl (hb hby d7_46) rfl (flt hc45).2.2.2 (by decide) (by decide) k) ?_
                show own_Go p e below _ (s₁.setTop (mkF m 56 #[iv p0, iv p1, iv p2, iv p3, iv p4, iv p5] []))
                refine own_by (B := s₁.setTop (mkF m 57 #[iv p0, iv p1, iv p2, iv p3, iv p4, iv p5] [(.int (-1 : Int32))])) (fun t k => ?_) ?_
                · show Steps p.tables e below (s₁.setTop (mkF m 56 #[iv p0, iv p1, iv p2, iv p3, iv p4, iv p5] [])) _
                  refine XS.iconst X0.here hx rfl (hb hby d7_56) ?_
                  show Steps p.tables e below (s₁.setTop (mkF m 57 #[iv p0, iv p1, iv p2, iv p3, iv p4, iv p5] [(.int (-1 : Int32))])) _
                  exact k
                exact own_retI X0 Bd.notSynchronized hx Bd.returns (hb hby d7_57) (by
                    rw [show s₁.heap = h0 from e0]
                    exact ⟨congrArg (fun z => some (Value.int z)) (show (-1 : Int32) = (fex p0 p1 p2 p3 p4 p5) from (by simp only [fex, if_neg hc1, if_pos hc33, if_pos hc34, if_neg hc35, if_pos hc43, if_pos hc44, if_neg hc45])), N0, rfl⟩) (by decide) (by decide)
            · skip
              refine own_by (fun t k => XS.ifNo X0.here hx rfl (hb hby d7_39) rfl ((if0 _ _).trans (feq hc44).1) k) ?_
              show own_Go p e below _ (s₁.setTop (mkF m 42 #[iv p0, iv p1, iv p2, iv p3, iv p4, iv p5] []))
              refine own_by (B := s₁.setTop (mkF m 43 #[iv p0, iv p1, iv p2, iv p3, iv p4, iv p5] [(.int (4 : Int32))])) (fun t k => ?_) ?_
              · show Steps p.tables e below (s₁.setTop (mkF m 42 #[iv p0, iv p1, iv p2, iv p3, iv p4, iv p5] [])) _
                refine XS.iconst X0.here hx rfl (hb hby d7_42) ?_
                show Steps p.tables e below (s₁.setTop (mkF m 43 #[iv p0, iv p1, iv p2, iv p3, iv p4, iv p5] [(.int (4 : Int32))])) _
                exact k
              exact own_retI X0 Bd.notSynchronized hx Bd.returns (hb hby d7_43) (by
                  rw [show s₁.heap = h0 from e0]
                  exact ⟨congrArg (fun z => some (Value.int z)) (show (4 : Int32) = (fex p0 p1 p2 p3 p4 p5) from (by simp only [fex, if_neg hc1, if_pos hc33, if_pos hc34, if_neg hc35, if_pos hc43, if_neg hc44])), N0, rfl⟩) (by decide) (by decide)
          · skip
            refine own_by (fun t k => XS.icmpYes X0.here hx rfl (pc0 := 34) (pc' := 44) rfl (hb hby d7_34) rfl (flt hc43).2.2.2 (by decide) (by decide) k) ?_
            show own_Go p e below _ (s₁.setTop (mkF m 44 #[iv p0, iv p1, iv p2, iv p3, iv p4, iv p5] []))
            refine own_by (B := s₁.setTop (mkF m 46 #[iv p0, iv p1, iv p2, iv p3, iv p4, iv p5] [(.int (4 : Int32)), (.int p0)])) (fun t k => ?_) ?_
            · show Steps p.tables e below (s₁.setTop (mkF m 44 #[iv p0, iv p1, iv p2, iv p3, iv p4, iv p5] [])) _
              refine XS.iloadN X0.here hx rfl (hb hby d7_44) rfl ?_
              show Steps p.tables e below (s₁.setTop (mkF m 45 #[iv p0, iv p1, iv p2, iv p3, iv p4, iv p5] [(.int p0)])) _
              refine XS.iconst X0.here hx rfl (hb hby d7_45) ?_
              show Steps p.tables e below (s₁.setTop (mkF m 46 #[iv p0, iv p1, iv p2, iv p3, iv p4, iv p5] [(.int (4 : Int32)), (.int p0)])) _
              exact k
            by_cases hc47 : (4 : Int32) < p0
            · skip
              refine own_by (fun t k => XS.icmpNo X0.here hx rfl (hb hby d7_46) rfl (tlt hc47).2.2.2 k) ?_
              show own_Go p e below _ (s₁.setTop (mkF m 49 #[iv p0, iv p1, iv p2, iv p3, iv p4, iv p5] []))
              refine own_by (B := s₁.setTop (mkF m 51 #[iv p0, iv p1, iv p2, iv p3, iv p4, iv p5] [(.int p5)])) (fun t k => ?_) ?_
              · show Steps p.tables e below (s₁.setTop (mkF m 49 #[iv p0, iv p1, iv p2, iv p3, iv p4, iv p5] [])) _
                refine XS.iload X0.here hx rfl (hb hby d7_49) rfl ?_
                show Steps p.tables e below (s₁.setTop (mkF m 51 #[iv p0, iv p1, iv p2, iv p3, iv p4, iv p5] [(.int p5)])) _
                exact k
              by_cases hc48 : p5 = (0 : Int32)
              · skip
                refine own_by (fun t k => XS.ifYes X0.here hx rfl (pc0 := 51) (pc' := 56) rfl (hb hby d7_51) rfl ((if0 _ _).trans (teq hc48).1) (by decide) (by decide) k) ?_
                show own_Go p e below _ (s₁.setTop (mkF m 56 #[iv p0, iv p1, iv p2, iv p3, iv p4, iv p5] []))
                refine own_by (B := s₁.setTop (mkF m 57 #[iv p0, iv p1, iv p2, iv p3, iv p4, iv p5] [(.int (-1 : Int32))])) (fun t k => ?_) ?_
                · show Steps p.tables e below (s₁.setTop (mkF m 56 #[iv p0, iv p1, iv p2, iv p3, iv p4, iv p5] [])) _
                  refine XS.iconst X0.here hx rfl (hb hby d7_56) ?_
                  show Steps p.tables e below (s₁.setTop (mkF m 57 #[iv p0, iv p1, iv p2, iv p3, iv p4, iv p5] [(.int (-1 : Int32))])) _
                  exact k
                exact own_retI X0 Bd.notSynchronized hx Bd.returns (hb hby d7_57) (by
                    rw [show s₁.heap = h0 from e0]
                    exact ⟨congrArg (fun z => some (Value.int z)) (show (-1 : Int32) = (fex p0 p1 p2 p3 p4 p5) from (by simp only [fex, if_neg hc1, if_pos hc33, if_pos hc34, if_neg hc35, if_neg hc43, if_pos hc47, if_pos hc48])), N0, rfl⟩) (by decide) (by decide)
              · skip
                refine own_by (fun t k => XS.ifNo X0.here hx rfl (hb hby d7_51) rfl ((if0 _ _).trans (feq hc48).1) k) ?_
                show own_Go p e below _ (s₁.setTop (mkF m 54 #[iv p0, iv p1, iv p2, iv p3, iv p4, iv p5] []))
                refine own_by (B := s₁.setTop (mkF m 55 #[iv p0, iv p1, iv p2, iv p3, iv p4, iv p5] [(.int (5 : Int32))])) (fun t k => ?_) ?_
                · show Steps p.tables e below (s₁.setTop (mkF m 54 #[iv p0, iv p1, iv p2, iv p3, iv p4, iv p5] [])) _
                  refine XS.iconst X0.here hx rfl (hb hby d7_54) ?_
                  show Steps p.tables e below (s₁.setTop (mkF m 55 #[iv p0, iv p1, iv p2, iv p3, iv p4, iv p5] [(.int (5 : Int32))])) _
                  exact k
                exact own_retI X0 Bd.notSynchronized hx Bd.returns (hb hby d7_55) (by
                    rw [show s₁.heap = h0 from e0]
                    exact ⟨congrArg (fun z => some (Value.int z)) (show (5 : Int32) = (fex p0 p1 p2 p3 p4 p5) from (by simp only [fex, if_neg hc1, if_pos hc33, if_pos hc34, if_neg hc35, if_neg hc43, if_pos hc47, if_neg hc48])), N0, rfl⟩) (by decide) (by decide)
            · skip
              refine own_by (fun t k => XS.icmpYes X0.here hx rfl (pc0 := 46) (pc' := 56) rfl (hb hby d7_46) rfl (flt hc47).2.2.2 (by decide) (by decide) k) ?_
              show own_Go p e below _ (s₁.setTop (mkF m 56 #[iv p0, iv p1, iv p2, iv p3, iv p4, iv p5] []))
              refine own_by (B := s₁.setTop (mkF m 57 #[iv p0, iv p1, iv p2, iv p3, iv p4, iv p5] [(.int (-1 : Int32))])) (fun t k => ?_) ?_
              · show Steps p.tables e below (s₁.setTop (mkF m 56 #[iv p0, iv p1, iv p2, iv p3, iv p4, iv p5] [])) _
                refine XS.iconst X0.here hx rfl (hb hby d7_56) ?_
                show Steps p.tables e below (s₁.setTop (mkF m 57 #[iv p0, iv p1, iv p2, iv p3, iv p4, iv p5] [(.int (-1 : Int32))])) _
                exact k
              exact own_retI X0 Bd.notSynchronized hx Bd.returns (hb hby d7_57) (by
                  rw [show s₁.heap = h0 from e0]
                  exact ⟨congrArg (fun z => some (Value.int z)) (show (-1 : Int32) = (fex p0 p1 p2 p3 p4 p5) from (by simp only [fex, if_neg hc1, if_pos hc33, if_pos hc34, if_neg hc35, if_neg hc43, if_neg hc47])), N0, rfl⟩) (by decide) (by decide)
      · skip
        refine own_by (fun t k => XS.ifNo X0.here hx rfl (hb hby d7_16) rfl ((if0 _ _).trans (feq hc34).1) k) ?_
        show own_Go p e below _ (s₁.setTop (mkF m 19 #[iv p0, iv p1, iv p2, iv p3, iv p4, iv p5] []))
        refine own_by (B := s₁.setTop (mkF m 20 #[iv p0, iv p1, iv p2, iv p3, iv p4, iv p5] [(.int (2 : Int32))])) (fun t k => ?_) ?_
        · show Steps p.tables e below (s₁.setTop (mkF m 19 #[iv p0, iv p1, iv p2, iv p3, iv p4, iv p5] [])) _
          refine XS.iconst X0.here hx rfl (hb hby d7_19) ?_
          show Steps p.tables e below (s₁.setTop (mkF m 20 #[iv p0, iv p1, iv p2, iv p3, iv p4, iv p5] [(.int (2 : Int32))])) _
          exact k
        exact own_retI X0 Bd.notSynchronized hx Bd.returns (hb hby d7_20) (by
            rw [show s₁.heap = h0 from e0]
            exact ⟨congrArg (fun z => some (Value.int z)) (show (2 : Int32) = (fex p0 p1 p2 p3 p4 p5) from (by simp only [fex, if_neg hc1, if_pos hc33, if_neg hc34])), N0, rfl⟩) (by decide) (by decide)
    · skip
      refine own_by (fun t k => XS.icmpYes X0.here hx rfl (pc0 := 12) (pc' := 21) rfl (hb hby d7_12) rfl (flt hc33).2.2.2 (by decide) (by decide) k) ?_
      show own_Go p e below _ (s₁.setTop (mkF m 21 #[iv p0, iv p1, iv p2, iv p3, iv p4, iv p5] []))
      refine own_by (B := s₁.setTop (mkF m 23 #[iv p0, iv p1, iv p2, iv p3, iv p4, iv p5] [(.int (2 : Int32)), (.int p0)])) (fun t k => ?_) ?_
      · show Steps p.tables e below (s₁.setTop (mkF m 21 #[iv p0, iv p1, iv p2, iv p3, iv p4, iv p5] [])) _
        refine XS.iloadN X0.here hx rfl (hb hby d7_21) rfl ?_
        show Steps p.tables e below (s₁.setTop (mkF m 22 #[iv p0, iv p1, iv p2, iv p3, iv p4, iv p5] [(.int p0)])) _
        refine XS.iconst X0.here hx rfl (hb hby d7_22) ?_
        show Steps p.tables e below (s₁.setTop (mkF m 23 #[iv p0, iv p1, iv p2, iv p3, iv p4, iv p5] [(.int (2 : Int32)), (.int p0)])) _
        exact k
      by_cases hc49 : (2 : Int32) < p0
      · skip
        refine own_by (fun t k => XS.icmpNo X0.here hx rfl (hb hby d7_23) rfl (tlt hc49).2.2.2 k) ?_
        show own_Go p e below _ (s₁.setTop (mkF m 26 #[iv p0, iv p1, iv p2, iv p3, iv p4, iv p5] []))
        refine own_by (B := s₁.setTop (mkF m 27 #[iv p0, iv p1, iv p2, iv p3, iv p4, iv p5] [(.int p3)])) (fun t k => ?_) ?_
        · show Steps p.tables e below (s₁.setTop (mkF m 26 #[iv p0, iv p1, iv p2, iv p3, iv p4, iv p5] [])) _
          refine XS.iloadN X0.here hx rfl (hb hby d7_26) rfl ?_
          show Steps p.tables e below (s₁.setTop (mkF m 27 #[iv p0, iv p1, iv p2, iv p3, iv p4, iv p5] [(.int p3)])) _
          exact k
        by_cases hc50 : p3 = (0 : Int32)
        · skip
          refine own_by (fun t k => XS.ifYes X0.here hx rfl (pc0 := 27) (pc' := 32) rfl (hb hby d7_27) rfl ((if0 _ _).trans (teq hc50).1) (by decide) (by decide) k) ?_
          show own_Go p e below _ (s₁.setTop (mkF m 32 #[iv p0, iv p1, iv p2, iv p3, iv p4, iv p5] []))
          refine own_by (B := s₁.setTop (mkF m 34 #[iv p0, iv p1, iv p2, iv p3, iv p4, iv p5] [(.int (3 : Int32)), (.int p0)])) (fun t k => ?_) ?_
          · show Steps p.tables e below (s₁.setTop (mkF m 32 #[iv p0, iv p1, iv p2, iv p3, iv p4, iv p5] [])) _
            refine XS.iloadN X0.here hx rfl (hb hby d7_32) rfl ?_
            show Steps p.tables e below (s₁.setTop (mkF m 33 #[iv p0, iv p1, iv p2, iv p3, iv p4, iv p5] [(.int p0)])) _
            refine XS.iconst X0.here hx rfl (hb hby d7_33) ?_
            show Steps p.tables e below (s₁.setTop (mkF m 34 #[iv p0, iv p1, iv p2, iv p3, iv p4, iv p5] [(.int (3 : Int32)), (.int p0)])) _
            exact k
          by_cases hc51 : (3 : Int32) < p0
          · skip
            refine own_by (fun t k => XS.icmpNo X0.here hx rfl (hb hby d7_34) rfl (tlt hc51).2.2.2 k) ?_
            show own_Go p e below _ (s₁.setTop (mkF m 37 #[iv p0, iv p1, iv p2, iv p3, iv p4, iv p5] []))
            refine own_by (B := s₁.setTop (mkF m 39 #[iv p0, iv p1, iv p2, iv p3, iv p4, iv p5] [(.int p4)])) (fun t k => ?_) ?_
            · show Steps p.tables e below (s₁.setTop (mkF m 37 #[iv p0, iv p1, iv p2, iv p3, iv p4, iv p5] [])) _
              refine XS.iload X0.here hx rfl (hb hby d7_37) rfl ?_
              show Steps p.tables e below (s₁.setTop (mkF m 39 #[iv p0, iv p1, iv p2, iv p3, iv p4, iv p5] [(.int p4)])) _
              exact k
            by_cases hc52 : p4 = (0 : Int32)
            · skip
              refine own_by (fun t k => XS.ifYes X0.here hx rfl (pc0 := 39) (pc' := 44) rfl (hb hby d7_39) rfl ((if0 _ _).trans (teq hc52).1) (by decide) (by decide) k) ?_
              show own_Go p e below _ (s₁.setTop (mkF m 44 #[iv p0, iv p1, iv p2, iv p3, iv p4, iv p5] []))
              refine own_by (B := s₁.setTop (mkF m 46 #[iv p0, iv p1, iv p2, iv p3, iv p4, iv p5] [(.int (4 : Int32)), (.int p0)])) (fun t k => ?_) ?_
              · show Steps p.tables e below (s₁.setTop (mkF m 44 #[iv p0, iv p1, iv p2, iv p3, iv p4, iv p5] [])) _
                refine XS.iloadN X0.here hx rfl (hb hby d7_44) rfl ?_
                show Steps p.tables e below (s₁.setTop (mkF m 45 #[iv p0, iv p1, iv p2, iv p3, iv p4, iv p5] [(.int p0)])) _
                refine XS.iconst X0.here hx rfl (hb hby d7_45) ?_
                show Steps p.tables e below (s₁.setTop (mkF m 46 #[iv p0, iv p1, iv p2, iv p3, iv p4, iv p5] [(.int (4 : Int32)), (.int p0)])) _
                exact k
              by_cases hc53 : (4 : Int32) < p0
              · skip
                refine own_by (fun t k => XS.icmpNo X0.here hx rfl (hb hby d7_46) rfl (tlt hc53).2.2.2 k) ?_
                show own_Go p e below _ (s₁.setTop (mkF m 49 #[iv p0, iv p1, iv p2, iv p3, iv p4, iv p5] []))
                refine own_by (B := s₁.setTop (mkF m 51 #[iv p0, iv p1, iv p2, iv p3, iv p4, iv p5] [(.int p5)])) (fun t k => ?_) ?_
                · show Steps p.tables e below (s₁.setTop (mkF m 49 #[iv p0, iv p1, iv p2, iv p3, iv p4, iv p5] [])) _
                  refine XS.iload X0.here hx rfl (hb hby d7_49) rfl ?_
                  show Steps p.tables e below (s₁.setTop (mkF m 51 #[iv p0, iv p1, iv p2, iv p3, iv p4, iv p5] [(.int p5)])) _
                  exact k
                by_cases hc54 : p5 = (0 : Int32)
                · skip
                  refine own_by (fun t k => XS.ifYes X0.here hx rfl (pc0 := 51) (pc' := 56) rfl (hb hby d7_51) rfl ((if0 _ _).trans (teq hc54).1) (by decide) (by decide) k) ?_
                  show own_Go p e below _ (s₁.setTop (mkF m 56 #[iv p0, iv p1, iv p2, iv p3, iv p4, iv p5] []))
                  refine own_by (B := s₁.setTop (mkF m 57 #[iv p0, iv p1, iv p2, iv p3, iv p4, iv p5] [(.int (-1 : Int32))])) (fun t k => ?_) ?_
                  · show Steps p.tables e below (s₁.setTop (mkF m 56 #[iv p0, iv p1, iv p2, iv p3, iv p4, iv p5] [])) _
                    refine XS.iconst X0.here hx rfl (hb hby d7_56) ?_
                    show Steps p.tables e below (s₁.setTop (mkF m 57 #[iv p0, iv p1, iv p2, iv p3, iv p4, iv p5] [(.int (-1 : Int32))])) _
                    exact k
                  exact own_retI X0 Bd.notSynchronized hx Bd.returns (hb hby d7_57) (by
                      rw [show s₁.heap = h0 from e0]
                      exact ⟨congrArg (fun z => some (Value.int z)) (show (-1 : Int32) = (fex p0 p1 p2 p3 p4 p5) from (by simp only [fex, if_neg hc1, if_neg hc33, if_pos hc49, if_pos hc50, if_pos hc51, if_pos hc52, if_pos hc53, if_pos hc54])), N0, rfl⟩) (by decide) (by decide)
                · skip
                  refine own_by (fun t k => XS.ifNo X0.here hx rfl (hb hby d7_51) rfl ((if0 _ _).trans (feq hc54).1) k) ?_
                  show own_Go p e below _ (s₁.setTop (mkF m 54 #[iv p0, iv p1, iv p2, iv p3, iv p4, iv p5] []))
                  refine own_by (B := s₁.setTop (mkF m 55 #[iv p0, iv p1, iv p2, iv p3, iv p4, iv p5] [(.int (5 : Int32))])) (fun t k => ?_) ?_
                  · show Steps p.tables e below (s₁.setTop (mkF m 54 #[iv p0, iv p1, iv p2, iv p3, iv p4, iv p5] [])) _
                    refine XS.iconst X0.here hx rfl (hb hby d7_54) ?_
                    show Steps p.tables e below (s₁.setTop (mkF m 55 #[iv p0, iv p1, iv p2, iv p3, iv p4, iv p5] [(.int (5 : Int32))])) _
                    exact k
                  exact own_retI X0 Bd.notSynchronized hx Bd.returns (hb hby d7_55) (by
                      rw [show s₁.heap = h0 from e0]
                      exact ⟨congrArg (fun z => some (Value.int z)) (show (5 : Int32) = (fex p0 p1 p2 p3 p4 p5) from (by simp only [fex, if_neg hc1, if_neg hc33, if_pos hc49, if_pos hc50, if_pos hc51, if_pos hc52, if_pos hc53, if_neg hc54])), N0, rfl⟩) (by decide) (by decide)
              · skip
                refine own_by (fun t k => XS.icmpYes X0.here hx rfl (pc0 := 46) (pc' := 56) rfl (hb hby d7_46) rfl (flt hc53).2.2.2 (by decide) (by decide) k) ?_
                show own_Go p e below _ (s₁.setTop (mkF m 56 #[iv p0, iv p1, iv p2, iv p3, iv p4, iv p5] []))
                refine own_by (B := s₁.setTop (mkF m 57 #[iv p0, iv p1, iv p2, iv p3, iv p4, iv p5] [(.int (-1 : Int32))])) (fun t k => ?_) ?_
                · show Steps p.tables e below (s₁.setTop (mkF m 56 #[iv p0, iv p1, iv p2, iv p3, iv p4, iv p5] [])) _
                  refine XS.iconst X0.here hx rfl (hb hby d7_56) ?_
                  show Steps p.tables e below (s₁.setTop (mkF m 57 #[iv p0, iv p1, iv p2, iv p3, iv p4, iv p5] [(.int (-1 : Int32))])) _
                  exact k
                exact own_retI X0 Bd.notSynchronized hx Bd.returns (hb hby d7_57) (by
                    rw [show s₁.heap = h0 from e0]
                    exact ⟨congrArg (fun z => some (Value.int z)) (show (-1 : Int32) = (fex p0 p1 p2 p3 p4 p5) from (by simp only [fex, if_neg hc1, if_neg hc33, if_pos hc49, if_pos hc50, if_pos hc51, if_pos hc52, if_neg hc53])), N0, rfl⟩) (by decide) (by decide)
            · skip
              refine own_by (fun t k => XS.ifNo X0.here hx rfl (hb hby d7_39) rfl ((if0 _ _).trans (feq hc52).1) k) ?_
              show own_Go p e below _ (s₁.setTop (mkF m 42 #[iv p0, iv p1, iv p2, iv p3, iv p4, iv p5] []))
              refine own_by (B := s₁.setTop (mkF m 43 #[iv p0, iv p1, iv p2, iv p3, iv p4, iv p5] [(.int (4 : Int32))])) (fun t k => ?_) ?_
              · show Steps p.tables e below (s₁.setTop (mkF m 42 #[iv p0, iv p1, iv p2, iv p3, iv p4, iv p5] [])) _
                refine XS.iconst X0.here hx rfl (hb hby d7_42) ?_
                show Steps p.tables e below (s₁.setTop (mkF m 43 #[iv p0, iv p1, iv p2, iv p3, iv p4, iv p5] [(.int (4 : Int32))])) _
                exact k
              exact own_retI X0 Bd.notSynchronized hx Bd.returns (hb hby d7_43) (by
                  rw [show s₁.heap = h0 from e0]
                  exact ⟨congrArg (fun z => some (Value.int z)) (show (4 : Int32) = (fex p0 p1 p2 p3 p4 p5) from (by simp only [fex, if_neg hc1, if_neg hc33, if_pos hc49, if_pos hc50, if_pos hc51, if_neg hc52])), N0, rfl⟩) (by decide) (by decide)
          · skip
            refine own_by (fun t k => XS.icmpYes X0.here hx rfl (pc0 := 34) (pc' := 44) rfl (hb hby d7_34) rfl (flt hc51).2.2.2 (by decide) (by decide) k) ?_
            show own_Go p e below _ (s₁.setTop (mkF m 44 #[iv p0, iv p1, iv p2, iv p3, iv p4, iv p5] []))
            refine own_by (B := s₁.setTop (mkF m 46 #[iv p0, iv p1, iv p2, iv p3, iv p4, iv p5] [(.int (4 : Int32)), (.int p0)])) (fun t k => ?_) ?_
            · show Steps p.tables e below (s₁.setTop (mkF m 44 #[iv p0, iv p1, iv p2, iv p3, iv p4, iv p5] [])) _
              refine XS.iloadN X0.here hx rfl (hb hby d7_44) rfl ?_
              show Steps p.tables e below (s₁.setTop (mkF m 45 #[iv p0, iv p1, iv p2, iv p3, iv p4, iv p5] [(.int p0)])) _
              refine XS.iconst X0.here hx rfl (hb hby d7_45) ?_
              show Steps p.tables e below (s₁.setTop (mkF m 46 #[iv p0, iv p1, iv p2, iv p3, iv p4, iv p5] [(.int (4 : Int32)), (.int p0)])) _
              exact k
            by_cases hc55 : (4 : Int32) < p0
            · skip
              refine own_by (fun t k => XS.icmpNo X0.here hx rfl (hb hby d7_46) rfl (tlt hc55).2.2.2 k) ?_
              show own_Go p e below _ (s₁.setTop (mkF m 49 #[iv p0, iv p1, iv p2, iv p3, iv p4, iv p5] []))
              refine own_by (B := s₁.setTop (mkF m 51 #[iv p0, iv p1, iv p2, iv p3, iv p4, iv p5] [(.int p5)])) (fun t k => ?_) ?_
              · show Steps p.tables e below (s₁.setTop (mkF m 49 #[iv p0, iv p1, iv p2, iv p3, iv p4, iv p5] [])) _
                refine XS.iload X0.here hx rfl (hb hby d7_49) rfl ?_
                show Steps p.tables e below (s₁.setTop (mkF m 51 #[iv p0, iv p1, iv p2, iv p3, iv p4, iv p5] [(.int p5)])) _
                exact k
              by_cases hc56 : p5 = (0 : Int32)
              · skip
                refine own_by (fun t k => XS.ifYes X0.here hx rfl (pc0 := 51) (pc' := 56) rfl (hb hby d7_51) rfl ((if0 _ _).trans (teq hc56).1) (by decide) (by decide) k) ?_
                show own_Go p e below _ (s₁.setTop (mkF m 56 #[iv p0, iv p1, iv p2, iv p3, iv p4, iv p5] []))
                refine own_by (B := s₁.setTop (mkF m 57 #[iv p0, iv p1, iv p2, iv p3, iv p4, iv p5] [(.int (-1 : Int32))])) (fun t k => ?_) ?_
                · show Steps p.tables e below (s₁.setTop (mkF m 56 #[iv p0, iv p1, iv p2, iv p3, iv p4, iv p5] [])) _
                  refine XS.iconst X0.here hx rfl (hb hby d7_56) ?_
                  show Steps p.tables e below (s₁.setTop (mkF m 57 #[iv p0, iv p1, iv p2, iv p3, iv p4, iv p5] [(.int (-1 : Int32))])) _
                  exact k
                exact own_retI X0 Bd.notSynchronized hx Bd.returns (hb hby d7_57) (by
                    rw [show s₁.heap = h0 from e0]
                    exact ⟨congrArg (fun z => some (Value.int z)) (show (-1 : Int32) = (fex p0 p1 p2 p3 p4 p5) from (by simp only [fex, if_neg hc1, if_neg hc33, if_pos hc49, if_pos hc50, if_neg hc51, if_pos hc55, if_pos hc56])), N0, rfl⟩) (by decide) (by decide)
              · skip
                refine own_by (fun t k => XS.ifNo X0.here hx rfl (hb hby d7_51) rfl ((if0 _ _).trans (feq hc56).1) k) ?_
                show own_Go p e below _ (s₁.setTop (mkF m 54 #[iv p0, iv p1, iv p2, iv p3, iv p4, iv p5] []))
                refine own_by (B := s₁.setTop (mkF m 55 #[iv p0, iv p1, iv p2, iv p3, iv p4, iv p5] [(.int (5 : Int32))])) (fun t k => ?_) ?_
                · show Steps p.tables e below (s₁.setTop (mkF m 54 #[iv p0, iv p1, iv p2, iv p3, iv p4, iv p5] [])) _
                  refine XS.iconst X0.here hx rfl (hb hby d7_54) ?_
                  show Steps p.tables e below (s₁.setTop (mkF m 55 #[iv p0, iv p1, iv p2, iv p3, iv p4, iv p5] [(.int (5 : Int32))])) _
                  exact k
                exact own_retI X0 Bd.notSynchronized hx Bd.returns (hb hby d7_55) (by
                    rw [show s₁.heap = h0 from e0]
                    exact ⟨congrArg (fun z => some (Value.int z)) (show (5 : Int32) = (fex p0 p1 p2 p3 p4 p5) from (by simp only [fex, if_neg hc1, if_neg hc33, if_pos hc49, if_pos hc50, if_neg hc51, if_pos hc55, if_neg hc56])), N0, rfl⟩) (by decide) (by decide)
            · skip
              refine own_by (fun t k => XS.icmpYes X0.here hx rfl (pc0 := 46) (pc' := 56) rfl (hb hby d7_46) rfl (flt hc55).2.2.2 (by decide) (by decide) k) ?_
              show own_Go p e below _ (s₁.setTop (mkF m 56 #[iv p0, iv p1, iv p2, iv p3, iv p4, iv p5] []))
              refine own_by (B := s₁.setTop (mkF m 57 #[iv p0, iv p1, iv p2, iv p3, iv p4, iv p5] [(.int (-1 : Int32))])) (fun t k => ?_) ?_
              · show Steps p.tables e below (s₁.setTop (mkF m 56 #[iv p0, iv p1, iv p2, iv p3, iv p4, iv p5] [])) _
                refine XS.iconst X0.here hx rfl (hb hby d7_56) ?_
                show Steps p.tables e below (s₁.setTop (mkF m 57 #[iv p0, iv p1, iv p2, iv p3, iv p4, iv p5] [(.int (-1 : Int32))])) _
                exact k
              exact own_retI X0 Bd.notSynchronized hx Bd.returns (hb hby d7_57) (by
                  rw [show s₁.heap = h0 from e0]
                  exact ⟨congrArg (fun z => some (Value.int z)) (show (-1 : Int32) = (fex p0 p1 p2 p3 p4 p5) from (by simp only [fex, if_neg hc1, if_neg hc33, if_pos hc49, if_pos hc50, if_neg hc51, if_neg hc55])), N0, rfl⟩) (by decide) (by decide)
        · skip
          refine own_by (fun t k => XS.ifNo X0.here hx rfl (hb hby d7_27) rfl ((if0 _ _).trans (feq hc50).1) k) ?_
          show own_Go p e below _ (s₁.setTop (mkF m 30 #[iv p0, iv p1, iv p2, iv p3, iv p4, iv p5] []))
          refine own_by (B := s₁.setTop (mkF m 31 #[iv p0, iv p1, iv p2, iv p3, iv p4, iv p5] [(.int (3 : Int32))])) (fun t k => ?_) ?_
          · show Steps p.tables e below (s₁.setTop (mkF m 30 #[iv p0, iv p1, iv p2, iv p3, iv p4, iv p5] [])) _
            refine XS.iconst X0.here hx rfl (hb hby d7_30) ?_
            show Steps p.tables e below (s₁.setTop (mkF m 31 #[iv p0, iv p1, iv p2, iv p3, iv p4, iv p5] [(.int (3 : Int32))])) _
            exact k
          exact own_retI X0 Bd.notSynchronized hx Bd.returns (hb hby d7_31) (by
              rw [show s₁.heap = h0 from e0]
              exact ⟨congrArg (fun z => some (Value.int z)) (show (3 : Int32) = (fex p0 p1 p2 p3 p4 p5) from (by simp only [fex, if_neg hc1, if_neg hc33, if_pos hc49, if_neg hc50])), N0, rfl⟩) (by decide) (by decide)
      · skip
        refine own_by (fun t k => XS.icmpYes X0.here hx rfl (pc0 := 23) (pc' := 32) rfl (hb hby d7_23) rfl (flt hc49).2.2.2 (by decide) (by decide) k) ?_
        show own_Go p e below _ (s₁.setTop (mkF m 32 #[iv p0, iv p1, iv p2, iv p3, iv p4, iv p5] []))
        refine own_by (B := s₁.setTop (mkF m 34 #[iv p0, iv p1, iv p2, iv p3, iv p4, iv p5] [(.int (3 : Int32)), (.int p0)])) (fun t k => ?_) ?_
        · show Steps p.tables e below (s₁.setTop (mkF m 32 #[iv p0, iv p1, iv p2, iv p3, iv p4, iv p5] [])) _
          refine XS.iloadN X0.here hx rfl (hb hby d7_32) rfl ?_
          show Steps p.tables e below (s₁.setTop (mkF m 33 #[iv p0, iv p1, iv p2, iv p3, iv p4, iv p5] [(.int p0)])) _
          refine XS.iconst X0.here hx rfl (hb hby d7_33) ?_
          show Steps p.tables e below (s₁.setTop (mkF m 34 #[iv p0, iv p1, iv p2, iv p3, iv p4, iv p5] [(.int (3 : Int32)), (.int p0)])) _
          exact k
        by_cases hc57 : (3 : Int32) < p0
        · skip
          refine own_by (fun t k => XS.icmpNo X0.here hx rfl (hb hby d7_34) rfl (tlt hc57).2.2.2 k) ?_
          show own_Go p e below _ (s₁.setTop (mkF m 37 #[iv p0, iv p1, iv p2, iv p3, iv p4, iv p5] []))
          refine own_by (B := s₁.setTop (mkF m 39 #[iv p0, iv p1, iv p2, iv p3, iv p4, iv p5] [(.int p4)])) (fun t k => ?_) ?_
          · show Steps p.tables e below (s₁.setTop (mkF m 37 #[iv p0, iv p1, iv p2, iv p3, iv p4, iv p5] [])) _
            refine XS.iload X0.here hx rfl (hb hby d7_37) rfl ?_
            show Steps p.tables e below (s₁.setTop (mkF m 39 #[iv p0, iv p1, iv p2, iv p3, iv p4, iv p5] [(.int p4)])) _
            exact k
          by_cases hc58 : p4 = (0 : Int32)
          · skip
            refine own_by (fun t k => XS.ifYes X0.here hx rfl (pc0 := 39) (pc' := 44) rfl (hb hby d7_39) rfl ((if0 _ _).trans (teq hc58).1) (by decide) (by decide) k) ?_
            show own_Go p e below _ (s₁.setTop (mkF m 44 #[iv p0, iv p1, iv p2, iv p3, iv p4, iv p5] []))
            refine own_by (B := s₁.setTop (mkF m 46 #[iv p0, iv p1, iv p2, iv p3, iv p4, iv p5] [(.int (4 : Int32)), (.int p0)])) (fun t k => ?_) ?_
            · show Steps p.tables e below (s₁.setTop (mkF m 44 #[iv p0, iv p1, iv p2, iv p3, iv p4, iv p5] [])) _
              refine XS.iloadN X0.here hx rfl (hb hby d7_44) rfl ?_
              show Steps p.tables e below (s₁.setTop (mkF m 45 #[iv p0, iv p1, iv p2, iv p3, iv p4, iv p5] [(.int p0)])) _
              refine XS.iconst X0.here hx rfl (hb hby d7_45) ?_
              show Steps p.tables e below (s₁.setTop (mkF m 46 #[iv p0, iv p1, iv p2, iv p3, iv p4, iv p5] [(.int (4 : Int32)), (.int p0)])) _
              exact k
            by_cases hc59 : (4 : Int32) < p0
            · skip
              refine own_by (fun t k => XS.icmpNo X0.here hx rfl (hb hby d7_46) rfl (tlt hc59).2.2.2 k) ?_
              show own_Go p e below _ (s₁.setTop (mkF m 49 #[iv p0, iv p1, iv p2, iv p3, iv p4, iv p5] []))
              refine own_by (B := s₁.setTop (mkF m 51 #[iv p0, iv p1, iv p2, iv p3, iv p4, iv p5] [(.int p5)])) (fun t k => ?_) ?_
              · show Steps p.tables e below (s₁.setTop (mkF m 49 #[iv p0, iv p1, iv p2, iv p3, iv p4, iv p5] [])) _
                refine XS.iload X0.here hx rfl (hb hby d7_49) rfl ?_
                show Steps p.tables e below (s₁.setTop (mkF m 51 #[iv p0, iv p1, iv p2, iv p3, iv p4, iv p5] [(.int p5)])) _
                exact k
              by_cases hc60 : p5 = (0 : Int32)
              · skip
                refine own_by (fun t k => XS.ifYes X0.here hx rfl (pc0 := 51) (pc' := 56) rfl (hb hby d7_51) rfl ((if0 _ _).trans (teq hc60).1) (by decide) (by decide) k) ?_
                show own_Go p e below _ (s₁.setTop (mkF m 56 #[iv p0, iv p1, iv p2, iv p3, iv p4, iv p5] []))
                refine own_by (B := s₁.setTop (mkF m 57 #[iv p0, iv p1, iv p2, iv p3, iv p4, iv p5] [(.int (-1 : Int32))])) (fun t k => ?_) ?_
                · show Steps p.tables e below (s₁.setTop (mkF m 56 #[iv p0, iv p1, iv p2, iv p3, iv p4, iv p5] [])) _
                  refine XS.iconst X0.here hx rfl (hb hby d7_56) ?_
                  show Steps p.tables e below (s₁.setTop (mkF m 57 #[iv p0, iv p1, iv p2, iv p3, iv p4, iv p5] [(.int (-1 : Int32))])) _
                  exact k
                exact own_retI X0 Bd.notSynchronized hx Bd.returns (hb hby d7_57) (by
                    rw [show s₁.heap = h0 from e0]
                    exact ⟨congrArg (fun z => some (Value.int z)) (show (-1 : Int32) = (fex p0 p1 p2 p3 p4 p5) from (by simp only [fex, if_neg hc1, if_neg hc33, if_neg hc49, if_pos hc57, if_pos hc58, if_pos hc59, if_pos hc60])), N0, rfl⟩) (by decide) (by decide)
              · skip
                refine own_by (fun t k => XS.ifNo X0.here hx rfl (hb hby d7_51) rfl ((if0 _ _).trans (feq hc60).1) k) ?_
                show own_Go p e below _ (s₁.setTop (mkF m 54 #[iv p0, iv p1, iv p2, iv p3, iv p4, iv p5] []))
                refine own_by (B := s₁.setTop (mkF m 55 #[iv p0, iv p1, iv p2, iv p3, iv p4, iv p5] [(.int (5 : Int32))])) (fun t k => ?_) ?_
                · show Steps p.tables e below (s₁.setTop (mkF m 54 #[iv p0, iv p1, iv p2, iv p3, iv p4, iv p5] [])) _
                  refine XS.iconst X0.here hx rfl (hb hby d7_54) ?_
                  show Steps p.tables e below (s₁.setTop (mkF m 55 #[iv p0, iv p1, iv p2, iv p3, iv p4, iv p5] [(.int (5 : Int32))])) _
                  exact k
                exact own_retI X0 Bd.notSynchronized hx Bd.returns (hb hby d7_55) (by
                    rw [show s₁.heap = h0 from e0]
                    exact ⟨congrArg (fun z => some (Value.int z)) (show (5 : Int32) = (fex p0 p1 p2 p3 p4 p5) from (by simp only [fex, if_neg hc1, if_neg hc33, if_neg hc49, if_pos hc57, if_pos hc58, if_pos hc59, if_neg hc60])), N0, rfl⟩) (by decide) (by decide)
            · skip
              refine own_by (fun t k => XS.icmpYes X0.here hx rfl (pc0 := 46) (pc' := 56) rfl (hb hby d7_46) rfl (flt hc59).2.2.2 (by decide) (by decide) k) ?_
              show own_Go p e below _ (s₁.setTop (mkF m 56 #[iv p0, iv p1, iv p2, iv p3, iv p4, iv p5] []))
              refine own_by (B := s₁.setTop (mkF m 57 #[iv p0, iv p1, iv p2, iv p3, iv p4, iv p5] [(.int (-1 : Int32))])) (fun t k => ?_) ?_
              · show Steps p.tables e below (s₁.setTop (mkF m 56 #[iv p0, iv p1, iv p2, iv p3, iv p4, iv p5] [])) _
                refine XS.iconst X0.here hx rfl (hb hby d7_56) ?_
                show Steps p.tables e below (s₁.setTop (mkF m 57 #[iv p0, iv p1, iv p2, iv p3, iv p4, iv p5] [(.int (-1 : Int32))])) _
                exact k
              exact own_retI X0 Bd.notSynchronized hx Bd.returns (hb hby d7_57) (by
                  rw [show s₁.heap = h0 from e0]
                  exact ⟨congrArg (fun z => some (Value.int z)) (show (-1 : Int32) = (fex p0 p1 p2 p3 p4 p5) from (by simp only [fex, if_neg hc1, if_neg hc33, if_neg hc49, if_pos hc57, if_pos hc58, if_neg hc59])), N0, rfl⟩) (by decide) (by decide)
          · skip
            refine own_by (fun t k => XS.ifNo X0.here hx rfl (hb hby d7_39) rfl ((if0 _ _).trans (feq hc58).1) k) ?_
            show own_Go p e below _ (s₁.setTop (mkF m 42 #[iv p0, iv p1, iv p2, iv p3, iv p4, iv p5] []))
            refine own_by (B := s₁.setTop (mkF m 43 #[iv p0, iv p1, iv p2, iv p3, iv p4, iv p5] [(.int (4 : Int32))])) (fun t k => ?_) ?_
            · show Steps p.tables e below (s₁.setTop (mkF m 42 #[iv p0, iv p1, iv p2, iv p3, iv p4, iv p5] [])) _
              refine XS.iconst X0.here hx rfl (hb hby d7_42) ?_
              show Steps p.tables e below (s₁.setTop (mkF m 43 #[iv p0, iv p1, iv p2, iv p3, iv p4, iv p5] [(.int (4 : Int32))])) _
              exact k
            exact own_retI X0 Bd.notSynchronized hx Bd.returns (hb hby d7_43) (by
                rw [show s₁.heap = h0 from e0]
                exact ⟨congrArg (fun z => some (Value.int z)) (show (4 : Int32) = (fex p0 p1 p2 p3 p4 p5) from (by simp only [fex, if_neg hc1, if_neg hc33, if_neg hc49, if_pos hc57, if_neg hc58])), N0, rfl⟩) (by decide) (by decide)
        · skip
          refine own_by (fun t k => XS.icmpYes X0.here hx rfl (pc0 := 34) (pc' := 44) rfl (hb hby d7_34) rfl (flt hc57).2.2.2 (by decide) (by decide) k) ?_
          show own_Go p e below _ (s₁.setTop (mkF m 44 #[iv p0, iv p1, iv p2, iv p3, iv p4, iv p5] []))
          refine own_by (B := s₁.setTop (mkF m 46 #[iv p0, iv p1, iv p2, iv p3, iv p4, iv p5] [(.int (4 : Int32)), (.int p0)])) (fun t k => ?_) ?_
          · show Steps p.tables e below (s₁.setTop (mkF m 44 #[iv p0, iv p1, iv p2, iv p3, iv p4, iv p5] [])) _
            refine XS.iloadN X0.here hx rfl (hb hby d7_44) rfl ?_
            show Steps p.tables e below (s₁.setTop (mkF m 45 #[iv p0, iv p1, iv p2, iv p3, iv p4, iv p5] [(.int p0)])) _
            refine XS.iconst X0.here hx rfl (hb hby d7_45) ?_
            show Steps p.tables e below (s₁.setTop (mkF m 46 #[iv p0, iv p1, iv p2, iv p3, iv p4, iv p5] [(.int (4 : Int32)), (.int p0)])) _
            exact k
          by_cases hc61 : (4 : Int32) < p0
          · skip
            refine own_by (fun t k => XS.icmpNo X0.here hx rfl (hb hby d7_46) rfl (tlt hc61).2.2.2 k) ?_
            show own_Go p e below _ (s₁.setTop (mkF m 49 #[iv p0, iv p1, iv p2, iv p3, iv p4, iv p5] []))
            refine own_by (B := s₁.setTop (mkF m 51 #[iv p0, iv p1, iv p2, iv p3, iv p4, iv p5] [(.int p5)])) (fun t k => ?_) ?_
            · show Steps p.tables e below (s₁.setTop (mkF m 49 #[iv p0, iv p1, iv p2, iv p3, iv p4, iv p5] [])) _
              refine XS.iload X0.here hx rfl (hb hby d7_49) rfl ?_
              show Steps p.tables e below (s₁.setTop (mkF m 51 #[iv p0, iv p1, iv p2, iv p3, iv p4, iv p5] [(.int p5)])) _
              exact k
            by_cases hc62 : p5 = (0 : Int32)
            · skip
              refine own_by (fun t k => XS.ifYes X0.here hx rfl (pc0 := 51) (pc' := 56) rfl (hb hby d7_51) rfl ((if0 _ _).trans (teq hc62).1) (by decide) (by decide) k) ?_
              show own_Go p e below _ (s₁.setTop (mkF m 56 #[iv p0, iv p1, iv p2, iv p3, iv p4, iv p5] []))
              refine own_by (B := s₁.setTop (mkF m 57 #[iv p0, iv p1, iv p2, iv p3, iv p4, iv p5] [(.int (-1 : Int32))])) (fun t k => ?_) ?_
              · show Steps p.tables e below (s₁.setTop (mkF m 56 #[iv p0, iv p1, iv p2, iv p3, iv p4, iv p5] [])) _
                refine XS.iconst X0.here hx rfl (hb hby d7_56) ?_
                show Steps p.tables e below (s₁.setTop (mkF m 57 #[iv p0, iv p1, iv p2, iv p3, iv p4, iv p5] [(.int (-1 : Int32))])) _
                exact k
              exact own_retI X0 Bd.notSynchronized hx Bd.returns (hb hby d7_57) (by
                  rw [show s₁.heap = h0 from e0]
                  exact ⟨congrArg (fun z => some (Value.int z)) (show (-1 : Int32) = (fex p0 p1 p2 p3 p4 p5) from (by simp only [fex, if_neg hc1, if_neg hc33, if_neg hc49, if_neg hc57, if_pos hc61, if_pos hc62])), N0, rfl⟩) (by decide) (by decide)
            · skip
              refine own_by (fun t k => XS.ifNo X0.here hx rfl (hb hby d7_51) rfl ((if0 _ _).trans (feq hc62).1) k) ?_
              show own_Go p e below _ (s₁.setTop (mkF m 54 #[iv p0, iv p1, iv p2, iv p3, iv p4, iv p5] []))
              refine own_by (B := s₁.setTop (mkF m 55 #[iv p0, iv p1, iv p2, iv p3, iv p4, iv p5] [(.int (5 : Int32))])) (fun t k => ?_) ?_
              · show Steps p.tables e below (s₁.setTop (mkF m 54 #[iv p0, iv p1, iv p2, iv p3, iv p4, iv p5] [])) _
                refine XS.iconst X0.here hx rfl (hb hby d7_54) ?_
                show Steps p.tables e below (s₁.setTop (mkF m 55 #[iv p0, iv p1, iv p2, iv p3, iv p4, iv p5] [(.int (5 : Int32))])) _
                exact k
              exact own_retI X0 Bd.notSynchronized hx Bd.returns (hb hby d7_55) (by
                  rw [show s₁.heap = h0 from e0]
                  exact ⟨congrArg (fun z => some (Value.int z)) (show (5 : Int32) = (fex p0 p1 p2 p3 p4 p5) from (by simp only [fex, if_neg hc1, if_neg hc33, if_neg hc49, if_neg hc57, if_pos hc61, if_neg hc62])), N0, rfl⟩) (by decide) (by decide)
          · skip
            refine own_by (fun t k => XS.icmpYes X0.here hx rfl (pc0 := 46) (pc' := 56) rfl (hb hby d7_46) rfl (flt hc61).2.2.2 (by decide) (by decide) k) ?_
            show own_Go p e below _ (s₁.setTop (mkF m 56 #[iv p0, iv p1, iv p2, iv p3, iv p4, iv p5] []))
            refine own_by (B := s₁.setTop (mkF m 57 #[iv p0, iv p1, iv p2, iv p3, iv p4, iv p5] [(.int (-1 : Int32))])) (fun t k => ?_) ?_
            · show Steps p.tables e below (s₁.setTop (mkF m 56 #[iv p0, iv p1, iv p2, iv p3, iv p4, iv p5] [])) _
              refine XS.iconst X0.here hx rfl (hb hby d7_56) ?_
              show Steps p.tables e below (s₁.setTop (mkF m 57 #[iv p0, iv p1, iv p2, iv p3, iv p4, iv p5] [(.int (-1 : Int32))])) _
              exact k
            exact own_retI X0 Bd.notSynchronized hx Bd.returns (hb hby d7_57) (by
                rw [show s₁.heap = h0 from e0]
                exact ⟨congrArg (fun z => some (Value.int z)) (show (-1 : Int32) = (fex p0 p1 p2 p3 p4 p5) from (by simp only [fex, if_neg hc1, if_neg hc33, if_neg hc49, if_neg hc57, if_neg hc61])), N0, rfl⟩) (by decide) (by decide)

theorem d4_0 : decode prog_37_method_1_code 0 = .ok (.aload_n 0, 1) := by decide +kernel
theorem d4_1 : decode prog_37_method_1_code 1 = .ok (.invokespecial 1, 3) := by decide +kernel
theorem d4_4 : decode prog_37_method_1_code 4 = .ok (.aload_n 0, 1) := by decide +kernel
theorem d4_5 : decode prog_37_method_1_code 5 = .ok (.iconst 1, 1) := by decide +kernel
theorem d4_6 : decode prog_37_method_1_code 6 = .ok (.putfield 7, 3) := by decide +kernel
theorem d4_9 : decode prog_37_method_1_code 9 = .ok (.aload_n 0, 1) := by decide +kernel
theorem d4_10 : decode prog_37_method_1_code 10 = .ok (.iconst (-1), 1) := by decide +kernel
theorem d4_11 : decode prog_37_method_1_code 11 = .ok (.putfield 13, 3) := by decide +kernel
theorem d4_14 : decode prog_37_method_1_code 14 = .ok (.return_, 1) := by decide +kernel
theorem pn_4 : plainName "com/example/chartwell/chartwell/http/RequestReader$HeadEnd" = true := by first | (simp [plainName, overriddenIn]; done) | decide +kernel
theorem ef_4 (m : MethodId) (x0 : Addr) : entryFrame m #[(.ref x0)] 1 = mkF m 0 #[rv x0] [] := by first | (simp [entryFrame, mkF, argsToLocals, Value.category]; done) | rfl
def Q4 (Z : State) (o0 : Addr) (h0 : Heap) (n0 : Nat) (v : Option Value) (h : Heap) (L : List Loc) : Prop := v = none ∧ Fr n0 L ∧ Keep h0 h [o0] ∧ Exa Z h o0 "com/example/chartwell/chartwell/http/RequestReader$HeadEnd" ∧ Fld Z h o0 "com/example/chartwell/chartwell/http/RequestReader$HeadEnd" "scanned" "I" (.int (0 : Int32)) ∧ Fld Z h o0 "com/example/chartwell/chartwell/http/RequestReader$HeadEnd" "end" "I" (.int (-1 : Int32)) ∧ Fld Z h o0 "com/example/chartwell/chartwell/http/RequestReader$HeadEnd" "lineEmpty" "Z" (.int (1 : Int32)) ∧ Fld Z h o0 "com/example/chartwell/chartwell/http/RequestReader$HeadEnd" "started" "Z" (.int (0 : Int32))
set_option maxRecDepth 65536 in
set_option maxHeartbeats 40000000 in
theorem rm4 (l : Launch) (Z : State) (a0 : Array Value) (hw : ∀ d ∈ tables_1, d.before a0 Z = true) (ws : List Jvm.Cond) (o0 : Addr) (h0 : Heap) (n0 : Nat) (Z0 : n0 ≤ h0.size) (E_o0 : Exa Z h0 o0 "com/example/chartwell/chartwell/http/RequestReader$HeadEnd") (F_scanned_o0 : Fld Z h0 o0 "com/example/chartwell/chartwell/http/RequestReader$HeadEnd" "scanned" "I" (.int (0 : Int32))) (F_end_o0 : Fld Z h0 o0 "com/example/chartwell/chartwell/http/RequestReader$HeadEnd" "end" "I" (.int (0 : Int32))) (F_lineEmpty_o0 : Fld Z h0 o0 "com/example/chartwell/chartwell/http/RequestReader$HeadEnd" "lineEmpty" "Z" (.int (0 : Int32))) (F_started_o0 : Fld Z h0 o0 "com/example/chartwell/chartwell/http/RequestReader$HeadEnd" "started" "Z" (.int (0 : Int32))) (g_o0 : n0 ≤ o0) :
    MetFree l (⟨"com/example/chartwell/chartwell/http/RequestReader$HeadEnd", "<init>", "()V"⟩ : MethodName) (head1 (Jvm.Cond.code (⟨"com/example/chartwell/chartwell/http/RequestReader$HeadEnd", "<init>", "()V"⟩ : MethodName) prog_37_method_1_code 1 none :: ws) ({ frames := 1, cells := 0, slots := 0, locals := 12 } : Room)) (fun a U => a = #[(.ref o0)] ∧ Z.Warmed39 U.vm ∧ U.heap = h0) (fun _ _ _ _ _ => True) (fun _ U o U' => ∃ v L, o = .returned v ∧ Q4 Z o0 h0 n0 v U'.heap L ∧ FrameEnd U o U' L ({ frames := 1, cells := 0, slots := 0, locals := 12 } : Room).cells ({ frames := 1, cells := 0, slots := 0, locals := 12 } : Room).slots) := by
  refine MetFree.of_bodySF (plainFor_of_name pn_4) hisR ?_
  intro p e s m args below meth c s₁ Bd hml0 hP hK
  obtain ⟨rfl, hZ, hh⟩ := hP
  have hx := Bd.exec
  have hby := Bd.bytes
  have hml : c.maxLocals = 1 := hml0
  have hown : s.vm.findClass "com/example/chartwell/chartwell/http/RequestReader$HeadEnd" = some m.cls := findClass_of_methodNamed Bd.named
  have hnm := (name_of_methodNamed Bd.named Bd.method).1
  have X0 : Stand p l e ({ frames := 1, cells := 0, slots := 0, locals := 12 } : Room) s m #[(.ref o0)] below meth c s₁ [] 0 0 := Stand.of_body Bd
  have e0 : s₁.heap = h0 := by rw [← hh, Bd.state]; rfl
  have N0 := Fr.nil n0
  have K0 : Keep h0 h0 [o0] := Keep.refl h0 _
  change own_Go p e below (own_Post s (Q4 Z o0 h0 n0) ({ frames := 1, cells := 0, slots := 0, locals := 12 } : Room).cells ({ frames := 1, cells := 0, slots := 0, locals := 12 } : Room).slots) (s₁.setTop (entryFrame m #[(.ref o0)] 1))
  refine own_by (fun t k => castTop (ef_4 m o0) k) ?_
  show own_Go p e below _ (s₁.setTop (mkF m 0 #[rv o0] []))
  refine own_by (B := s₁.setTop (mkF m 1 #[rv o0] [(.ref o0)])) (fun t k => ?_) ?_
  · show Steps p.tables e below (s₁.setTop (mkF m 0 #[rv o0] [])) _
    refine XS.aloadN X0.here hx rfl (hb hby d4_0) rfl rfl ?_
    show Steps p.tables e below (s₁.setTop (mkF m 1 #[rv o0] [(.ref o0)])) _
    exact k
  refine own_c1 (initO X0 hx hZ hown (hw _ (List.mem_of_getElem? (i := 18) rfl)) (hw _ (List.mem_of_getElem? (i := 19) rfl)) (hw _ (List.mem_of_getElem? (i := 20) rfl)) e0 rfl (by rw [hml]; rfl) rfl (hb hby d4_1) (by decide) (W := 0) (by show 2 * 0 + _ ≤ _; exact Nat.le_of_eq rfl) (by decide)) fun T2 X2 e2 => ?_
  show own_Go p e below _ (T2.setTop (mkF m 4 #[rv o0] []))
  refine own_by (B := T2.setTop (mkF m 6 #[rv o0] [(.int (1 : Int32)), (.ref o0)])) (fun t k => ?_) ?_
  · show Steps p.tables e below (T2.setTop (mkF m 4 #[rv o0] [])) _
    refine XS.aloadN X2.here hx rfl (hb hby d4_4) rfl rfl ?_
    show Steps p.tables e below (T2.setTop (mkF m 5 #[rv o0] [(.ref o0)])) _
    refine XS.iconst X2.here hx rfl (hb hby d4_5) ?_
    show Steps p.tables e below (T2.setTop (mkF m 6 #[rv o0] [(.int (1 : Int32)), (.ref o0)])) _
    exact k
  refine own_c2 (putFN X2 hx hZ hown (hw _ (List.mem_of_getElem? (i := 21) rfl)) Via.refl e2 F_lineEmpty_o0 E_o0 (Or.inl (hw _ (List.mem_of_getElem? (i := 22) rfl))) (hw _ (List.mem_of_getElem? (i := 13) rfl)) (ty := .boolean) (v' := (.int (1 : Int32))) (by decide) rfl rfl rfl rfl (hb hby d4_6)) fun T3 h3 X3 e3 W3 => ?_
  replace F_lineEmpty_o0 := F_lineEmpty_o0.same W3
  replace E_o0 := E_o0.wr W3
  replace F_scanned_o0 := F_scanned_o0.other W3 (Or.inr (sn0 hw))
  replace F_end_o0 := F_end_o0.other W3 (Or.inr (sn1 hw))
  replace F_started_o0 := F_started_o0.other W3 (Or.inr (sn2 hw))
  replace K0 := K0.wr W3 (Or.inl (List.mem_of_getElem? (i := 0) rfl))
  replace Z0 := Nat.le_trans Z0 (Keep.of_wr W3).1
  replace N0 := Fr.snoc X3 N0 g_o0
  show own_Go p e below _ (T3.setTop (mkF m 9 #[rv o0] []))
  refine own_by (B := T3.setTop (mkF m 11 #[rv o0] [(.int (-1 : Int32)), (.ref o0)])) (fun t k => ?_) ?_
  · show Steps p.tables e below (T3.setTop (mkF m 9 #[rv o0] [])) _
    refine XS.aloadN X3.here hx rfl (hb hby d4_9) rfl rfl ?_
    show Steps p.tables e below (T3.setTop (mkF m 10 #[rv o0] [(.ref o0)])) _
    refine XS.iconst X3.here hx rfl (hb hby d4_10) ?_
    show Steps p.tables e below (T3.setTop (mkF m 11 #[rv o0] [(.int (-1 : Int32)), (.ref o0)])) _
    exact k
  refine own_c2 (putF X3 hx hZ hown (host := "") (Or.inl (hw _ (List.mem_of_getElem? (i := 23) rfl))) Via.refl e3 F_end_o0 E_o0 (Or.inl (hw _ (List.mem_of_getElem? (i := 24) rfl))) (hw _ (List.mem_of_getElem? (i := 13) rfl)) (ty := .int) (by decide) rfl rfl rfl rfl (hb hby d4_11)) fun T4 h4 X4 e4 W4 => ?_
  replace F_end_o0 := F_end_o0.same W4
  replace E_o0 := E_o0.wr W4
  replace F_scanned_o0 := F_scanned_o0.other W4 (Or.inr (sn3 hw))
  replace F_lineEmpty_o0 := F_lineEmpty_o0.other W4 (Or.inr (sn4 hw))
  replace F_started_o0 := F_started_o0.other W4 (Or.inr (sn5 hw))
  replace K0 := K0.wr W4 (Or.inl (List.mem_of_getElem? (i := 0) rfl))
  replace Z0 := Nat.le_trans Z0 (Keep.of_wr W4).1
  replace N0 := Fr.snoc X4 N0 g_o0
  show own_Go p e below _ (T4.setTop (mkF m 14 #[rv o0] []))
  exact own_retV X4 Bd.notSynchronized hx Bd.returns (hb hby d4_14) (by
      rw [show T4.heap = h4 from e4]
      exact ⟨rfl, N0, K0, E_o0, F_scanned_o0, F_end_o0, F_lineEmpty_o0, F_started_o0⟩) (by decide) (by decide)

def fnd : List Int32 → Int32 → Int32 → Int32 → Int32 → Int32 → Int32 × Int32 × Int32 × Int32
  | [], s, _, e, le, sd => (e, s, le, sd)
  | v :: vs, s, n, e, le, sd =>
    if e < (0 : Int32) then
      (if s < n then
        (if v = (10 : Int32) then
          (if le = (0 : Int32) then fnd vs (s + 1) n e 1 1
           else if sd = (0 : Int32) then fnd vs (s + 1) n e 1 sd
           else fnd vs (s + 1) n (s + 1) 1 sd)
         else if v = (13 : Int32) then fnd vs (s + 1) n e le sd
         else fnd vs (s + 1) n e 0 sd)
       else (e, s, le, sd))
    else (e, s, le, sd)
def ff (v0 v1 v2 v3 v4 s n e le sd : Int32) : Int32 × Int32 × Int32 × Int32 := fnd (List.drop s.toNatClampNeg [v0, v1, v2, v3, v4]) s n e le sd
def QF (Z : State) (o0 : Addr) (t : Int32 × Int32 × Int32 × Int32) (h0 : Heap) (n0 : Nat) (v : Option Value) (h : Heap) (L : List Loc) : Prop := v = some (.int t.1) ∧ Fr n0 L ∧ Keep h0 h [o0] ∧ Exa Z h o0 "com/example/chartwell/chartwell/http/RequestReader$HeadEnd" ∧ Fld Z h o0 "com/example/chartwell/chartwell/http/RequestReader$HeadEnd" "scanned" "I" (.int t.2.1) ∧ Fld Z h o0 "com/example/chartwell/chartwell/http/RequestReader$HeadEnd" "end" "I" (.int t.1) ∧ Fld Z h o0 "com/example/chartwell/chartwell/http/RequestReader$HeadEnd" "lineEmpty" "Z" (.int t.2.2.1) ∧ Fld Z h o0 "com/example/chartwell/chartwell/http/RequestReader$HeadEnd" "started" "Z" (.int t.2.2.2)
theorem own_os {z0 z1 z2 : Value} {sl : Slot} {v : Int32} (h : One sl) : storeLocals #[.val z0, .val z1, .val z2, sl] 3 (.int v) = some #[.val z0, .val z1, .val z2, .val (.int v)] := by
  rcases h with rfl | ⟨w, rfl, hw⟩
  · rfl
  · cases w <;> first | rfl | (simp [Value.category] at hw)

theorem d6_0 : decode prog_37_method_2_code 0 = .ok (.aload_n 0, 1) := by decide +kernel
theorem d6_1 : decode prog_37_method_2_code 1 = .ok (.getfield 13, 3) := by decide +kernel
theorem d6_4 : decode prog_37_method_2_code 4 = .ok (.ifCond .ge 83, 3) := by decide +kernel
theorem d6_7 : decode prog_37_method_2_code 7 = .ok (.aload_n 0, 1) := by decide +kernel
theorem d6_8 : decode prog_37_method_2_code 8 = .ok (.getfield 17, 3) := by decide +kernel
theorem d6_11 : decode prog_37_method_2_code 11 = .ok (.iload_n 2, 1) := by decide +kernel
theorem d6_12 : decode prog_37_method_2_code 12 = .ok (.if_icmp .ge 75, 3) := by decide +kernel
theorem d6_87 : decode prog_37_method_2_code 87 = .ok (.aload_n 0, 1) := by decide +kernel
theorem d6_88 : decode prog_37_method_2_code 88 = .ok (.getfield 13, 3) := by decide +kernel
theorem d6_91 : decode prog_37_method_2_code 91 = .ok (.ireturn, 1) := by decide +kernel
theorem pn_6 : plainName "com/example/chartwell/chartwell/http/RequestReader$HeadEnd" = true := by first | (simp [plainName, overriddenIn]; done) | decide +kernel
set_option maxRecDepth 65536 in
set_option maxHeartbeats 40000000 in
theorem fl_5 {p : Program} {l : Launch} {e : Env} {s : State} {m : MethodId} {args : Array Value} {below : List Frame} {meth : Method} {c : Code} {s₁ : State} {locs : List Loc} {Z : State} {a0 : Array Value} {h0 h1 : Heap} {n0 : Nat}  (o0 : Addr) (o1 : Addr) (p2 : Int32) (en : Int32) (le : Int32) (sd : Int32) (v0 : Int32) (v1 : Int32) (v2 : Int32) (v3 : Int32) (v4 : Int32) (kb : ClassId) (sl : Slot) (h3 : One sl)
    (X0 : Stand p l e ({ frames := 0, cells := 0, slots := 0, locals := 0 } : Room) s m args below meth c s₁ locs 0 0) (hx : p.tables.exec = Jvm.exec) (hZ : Z.Warmed39 s.vm) (hw : ∀ d ∈ tables_1, d.before a0 Z = true) (hby : c.code = prog_37_method_2_code) (hml : c.maxLocals = 4) (hown : s.vm.findClass "com/example/chartwell/chartwell/http/RequestReader$HeadEnd" = some m.cls) (Bret : meth.sig.returnType = some .int) (Blk : meth.locks = false) (e0 : s₁.heap = h1) (N0 : Fr n0 locs) (Z0 : n0 ≤ h1.size) (K0 : Keep h0 h1 [o0]) (E_o0 : Exa Z h1 o0 "com/example/chartwell/chartwell/http/RequestReader$HeadEnd") (F_scanned_o0 : Fld Z h1 o0 "com/example/chartwell/chartwell/http/RequestReader$HeadEnd" "scanned" "I" (.int (5 : Int32))) (F_end_o0 : Fld Z h1 o0 "com/example/chartwell/chartwell/http/RequestReader$HeadEnd" "end" "I" (.int en)) (F_lineEmpty_o0 : Fld Z h1 o0 "com/example/chartwell/chartwell/http/RequestReader$HeadEnd" "lineEmpty" "Z" (.int le)) (F_started_o0 : Fld Z h1 o0 "com/example/chartwell/chartwell/http/RequestReader$HeadEnd" "started" "Z" (.int sd)) (V_o1 : Arv Z h1 o1 kb .byte (5 : Int32) [(.int v0), (.int v1), (.int v2), (.int v3), (.int v4)] (.int (0 : Int32))) (ne_o1_o0 : o1 ≠ o0) (g_o0 : n0 ≤ o0) (hn5 : ¬ ((5 : Int32) < p2)) :
    own_Go p e below (own_Post s (QF Z o0 (fnd [] (5 : Int32) p2 en le sd) h0 n0) ({ frames := 0, cells := 0, slots := 0, locals := 0 } : Room).cells ({ frames := 0, cells := 0, slots := 0, locals := 0 } : Room).slots) (s₁.setTop (mkF m 0 #[rv o0, rv o1, iv p2, sl] [])) := by
  show own_Go p e below _ (s₁.setTop (mkF m 0 #[rv o0, rv o1, iv p2, sl] []))
  refine own_by (B := s₁.setTop (mkF m 1 #[rv o0, rv o1, iv p2, sl] [(.ref o0)])) (fun t k => ?_) ?_
  · show Steps p.tables e below (s₁.setTop (mkF m 0 #[rv o0, rv o1, iv p2, sl] [])) _
    refine XS.aloadN X0.here hx rfl (hb hby d6_0) rfl rfl ?_
    show Steps p.tables e below (s₁.setTop (mkF m 1 #[rv o0, rv o1, iv p2, sl] [(.ref o0)])) _
    exact k
  refine own_c1 (getF X0 hx hZ hown (host := "") (Or.inl (hw _ (List.mem_of_getElem? (i := 23) rfl))) Via.refl e0 F_end_o0 rfl rfl (hb hby d6_1)) fun T1 X1 e1 => ?_
  show own_Go p e below _ (T1.setTop (mkF m 4 #[rv o0, rv o1, iv p2, sl] [(.int en)]))
  by_cases hc2 : en < (0 : Int32)
  · skip
    refine own_by (fun t k => XS.ifNo X1.here hx rfl (hb hby d6_4) rfl ((if0 _ _).trans (tlt hc2).2.1) k) ?_
    show own_Go p e below _ (T1.setTop (mkF m 7 #[rv o0, rv o1, iv p2, sl] []))
    refine own_by (B := T1.setTop (mkF m 8 #[rv o0, rv o1, iv p2, sl] [(.ref o0)])) (fun t k => ?_) ?_
    · show Steps p.tables e below (T1.setTop (mkF m 7 #[rv o0, rv o1, iv p2, sl] [])) _
      refine XS.aloadN X1.here hx rfl (hb hby d6_7) rfl rfl ?_
      show Steps p.tables e below (T1.setTop (mkF m 8 #[rv o0, rv o1, iv p2, sl] [(.ref o0)])) _
      exact k
    refine own_c1 (getF X1 hx hZ hown (host := "") (Or.inl (hw _ (List.mem_of_getElem? (i := 30) rfl))) Via.refl e1 F_scanned_o0 rfl rfl (hb hby d6_8)) fun T3 X3 e3 => ?_
    show own_Go p e below _ (T3.setTop (mkF m 11 #[rv o0, rv o1, iv p2, sl] [(.int (5 : Int32))]))
    refine own_by (B := T3.setTop (mkF m 88 #[rv o0, rv o1, iv p2, sl] [(.ref o0)])) (fun t k => ?_) ?_
    · show Steps p.tables e below (T3.setTop (mkF m 11 #[rv o0, rv o1, iv p2, sl] [(.int (5 : Int32))])) _
      refine XS.iloadN X3.here hx rfl (hb hby d6_11) rfl ?_
      show Steps p.tables e below (T3.setTop (mkF m 12 #[rv o0, rv o1, iv p2, sl] [(.int p2), (.int (5 : Int32))])) _
      refine XS.icmpYes X3.here hx rfl (pc0 := 12) (pc' := 87) rfl (hb hby d6_12) rfl (flt hn5).2.1 (by decide) (by decide) ?_
      show Steps p.tables e below (T3.setTop (mkF m 87 #[rv o0, rv o1, iv p2, sl] [])) _
      refine XS.aloadN X3.here hx rfl (hb hby d6_87) rfl rfl ?_
      show Steps p.tables e below (T3.setTop (mkF m 88 #[rv o0, rv o1, iv p2, sl] [(.ref o0)])) _
      exact k
    refine own_c1 (getF X3 hx hZ hown (host := "") (Or.inl (hw _ (List.mem_of_getElem? (i := 23) rfl))) Via.refl e3 F_end_o0 rfl rfl (hb hby d6_88)) fun T4 X4 e4 => ?_
    show own_Go p e below _ (T4.setTop (mkF m 91 #[rv o0, rv o1, iv p2, sl] [(.int en)]))
    exact own_retI X4 Blk hx Bret (hb hby d6_91) (by
        rw [show T4.heap = h1 from e4]
        exact (by rw [show fnd [] (5 : Int32) p2 en le sd = (en, (5 : Int32), le, sd) from by simp only [fnd, if_pos hc2]]; exact ⟨rfl, N0, K0, E_o0, F_scanned_o0, F_end_o0, F_lineEmpty_o0, F_started_o0⟩)) (by decide) (by decide)
  · skip
    refine own_by (fun t k => XS.ifYes X1.here hx rfl (pc0 := 4) (pc' := 87) rfl (hb hby d6_4) rfl ((if0 _ _).trans (flt hc2).2.1) (by decide) (by decide) k) ?_
    show own_Go p e below _ (T1.setTop (mkF m 87 #[rv o0, rv o1, iv p2, sl] []))
    refine own_by (B := T1.setTop (mkF m 88 #[rv o0, rv o1, iv p2, sl] [(.ref o0)])) (fun t k => ?_) ?_
    · show Steps p.tables e below (T1.setTop (mkF m 87 #[rv o0, rv o1, iv p2, sl] [])) _
      refine XS.aloadN X1.here hx rfl (hb hby d6_87) rfl rfl ?_
      show Steps p.tables e below (T1.setTop (mkF m 88 #[rv o0, rv o1, iv p2, sl] [(.ref o0)])) _
      exact k
    refine own_c1 (getF X1 hx hZ hown (host := "") (Or.inl (hw _ (List.mem_of_getElem? (i := 23) rfl))) Via.refl e1 F_end_o0 rfl rfl (hb hby d6_88)) fun T5 X5 e5 => ?_
    show own_Go p e below _ (T5.setTop (mkF m 91 #[rv o0, rv o1, iv p2, sl] [(.int en)]))
    exact own_retI X5 Blk hx Bret (hb hby d6_91) (by
        rw [show T5.heap = h1 from e5]
        exact (by rw [show fnd [] (5 : Int32) p2 en le sd = (en, (5 : Int32), le, sd) from by simp only [fnd, if_neg hc2]]; exact ⟨rfl, N0, K0, E_o0, F_scanned_o0, F_end_o0, F_lineEmpty_o0, F_started_o0⟩)) (by decide) (by decide)

theorem d6_15 : decode prog_37_method_2_code 15 = .ok (.aload_n 1, 1) := by decide +kernel
theorem d6_16 : decode prog_37_method_2_code 16 = .ok (.aload_n 0, 1) := by decide +kernel
theorem d6_17 : decode prog_37_method_2_code 17 = .ok (.dup, 1) := by decide +kernel
theorem d6_18 : decode prog_37_method_2_code 18 = .ok (.getfield 17, 3) := by decide +kernel
theorem d6_21 : decode prog_37_method_2_code 21 = .ok (.dup_x1, 1) := by decide +kernel
theorem d6_22 : decode prog_37_method_2_code 22 = .ok (.iconst 1, 1) := by decide +kernel
theorem d6_23 : decode prog_37_method_2_code 23 = .ok (.iadd, 1) := by decide +kernel
theorem d6_24 : decode prog_37_method_2_code 24 = .ok (.putfield 17, 3) := by decide +kernel
theorem d6_27 : decode prog_37_method_2_code 27 = .ok (.baload, 1) := by decide +kernel
theorem d6_28 : decode prog_37_method_2_code 28 = .ok (.istore_n 3, 1) := by decide +kernel
theorem d6_29 : decode prog_37_method_2_code 29 = .ok (.iload_n 3, 1) := by decide +kernel
theorem d6_30 : decode prog_37_method_2_code 30 = .ok (.bipush 10, 2) := by decide +kernel
theorem d6_32 : decode prog_37_method_2_code 32 = .ok (.if_icmp .ne 41, 3) := by decide +kernel
theorem d6_35 : decode prog_37_method_2_code 35 = .ok (.aload_n 0, 1) := by decide +kernel
theorem d6_36 : decode prog_37_method_2_code 36 = .ok (.getfield 7, 3) := by decide +kernel
theorem d6_39 : decode prog_37_method_2_code 39 = .ok (.ifCond .ne 11, 3) := by decide +kernel
theorem d6_42 : decode prog_37_method_2_code 42 = .ok (.aload_n 0, 1) := by decide +kernel
theorem d6_43 : decode prog_37_method_2_code 43 = .ok (.iconst 1, 1) := by decide +kernel
theorem d6_44 : decode prog_37_method_2_code 44 = .ok (.putfield 20, 3) := by decide +kernel
theorem d6_47 : decode prog_37_method_2_code 47 = .ok (.goto 18, 3) := by decide +kernel
theorem d6_50 : decode prog_37_method_2_code 50 = .ok (.aload_n 0, 1) := by decide +kernel
theorem d6_51 : decode prog_37_method_2_code 51 = .ok (.getfield 20, 3) := by decide +kernel
theorem d6_54 : decode prog_37_method_2_code 54 = .ok (.ifCond .eq 11, 3) := by decide +kernel
theorem d6_57 : decode prog_37_method_2_code 57 = .ok (.aload_n 0, 1) := by decide +kernel
theorem d6_58 : decode prog_37_method_2_code 58 = .ok (.aload_n 0, 1) := by decide +kernel
theorem d6_59 : decode prog_37_method_2_code 59 = .ok (.getfield 17, 3) := by decide +kernel
theorem d6_62 : decode prog_37_method_2_code 62 = .ok (.putfield 13, 3) := by decide +kernel
theorem d6_65 : decode prog_37_method_2_code 65 = .ok (.aload_n 0, 1) := by decide +kernel
theorem d6_66 : decode prog_37_method_2_code 66 = .ok (.iconst 1, 1) := by decide +kernel
theorem d6_67 : decode prog_37_method_2_code 67 = .ok (.putfield 7, 3) := by decide +kernel
theorem d6_70 : decode prog_37_method_2_code 70 = .ok (.goto 14, 3) := by decide +kernel
theorem d6_73 : decode prog_37_method_2_code 73 = .ok (.iload_n 3, 1) := by decide +kernel
theorem d6_74 : decode prog_37_method_2_code 74 = .ok (.bipush 13, 2) := by decide +kernel
theorem d6_76 : decode prog_37_method_2_code 76 = .ok (.if_icmp .eq 8, 3) := by decide +kernel
theorem d6_79 : decode prog_37_method_2_code 79 = .ok (.aload_n 0, 1) := by decide +kernel
theorem d6_80 : decode prog_37_method_2_code 80 = .ok (.iconst 0, 1) := by decide +kernel
theorem d6_81 : decode prog_37_method_2_code 81 = .ok (.putfield 7, 3) := by decide +kernel
theorem d6_84 : decode prog_37_method_2_code 84 = .ok (.goto (-84), 3) := by decide +kernel
set_option maxRecDepth 65536 in
set_option maxHeartbeats 40000000 in
theorem fl_4 {p : Program} {l : Launch} {e : Env} {s : State} {m : MethodId} {args : Array Value} {below : List Frame} {meth : Method} {c : Code} {s₁ : State} {locs : List Loc} {Z : State} {a0 : Array Value} {h0 h1 : Heap} {n0 : Nat}  (o0 : Addr) (o1 : Addr) (p2 : Int32) (en : Int32) (le : Int32) (sd : Int32) (v0 : Int32) (v1 : Int32) (v2 : Int32) (v3 : Int32) (v4 : Int32) (kb : ClassId) (sl : Slot) (h3 : One sl)
    (X0 : Stand p l e ({ frames := 0, cells := 0, slots := 0, locals := 0 } : Room) s m args below meth c s₁ locs 0 0) (hx : p.tables.exec = Jvm.exec) (hZ : Z.Warmed39 s.vm) (hw : ∀ d ∈ tables_1, d.before a0 Z = true) (hby : c.code = prog_37_method_2_code) (hml : c.maxLocals = 4) (hown : s.vm.findClass "com/example/chartwell/chartwell/http/RequestReader$HeadEnd" = some m.cls) (Bret : meth.sig.returnType = some .int) (Blk : meth.locks = false) (e0 : s₁.heap = h1) (N0 : Fr n0 locs) (Z0 : n0 ≤ h1.size) (K0 : Keep h0 h1 [o0]) (E_o0 : Exa Z h1 o0 "com/example/chartwell/chartwell/http/RequestReader$HeadEnd") (F_scanned_o0 : Fld Z h1 o0 "com/example/chartwell/chartwell/http/RequestReader$HeadEnd" "scanned" "I" (.int (4 : Int32))) (F_end_o0 : Fld Z h1 o0 "com/example/chartwell/chartwell/http/RequestReader$HeadEnd" "end" "I" (.int en)) (F_lineEmpty_o0 : Fld Z h1 o0 "com/example/chartwell/chartwell/http/RequestReader$HeadEnd" "lineEmpty" "Z" (.int le)) (F_started_o0 : Fld Z h1 o0 "com/example/chartwell/chartwell/http/RequestReader$HeadEnd" "started" "Z" (.int sd)) (V_o1 : Arv Z h1 o1 kb .byte (5 : Int32) [(.int v0), (.int v1), (.int v2), (.int v3), (.int v4)] (.int (0 : Int32))) (ne_o1_o0 : o1 ≠ o0) (g_o0 : n0 ≤ o0) (hn5 : ¬ ((5 : Int32) < p2)) :
    own_Go p e below (own_Post s (QF Z o0 (fnd [v4] (4 : Int32) p2 en le sd) h0 n0) ({ frames := 0, cells := 0, slots := 0, locals := 0 } : Room).cells ({ frames := 0, cells := 0, slots := 0, locals := 0 } : Room).slots) (s₁.setTop (mkF m 0 #[rv o0, rv o1, iv p2, sl] [])) := by
  show own_Go p e below _ (s₁.setTop (mkF m 0 #[rv o0, rv o1, iv p2, sl] []))
  refine own_by (B := s₁.setTop (mkF m 1 #[rv o0, rv o1, iv p2, sl] [(.ref o0)])) (fun t k => ?_) ?_
  · show Steps p.tables e below (s₁.setTop (mkF m 0 #[rv o0, rv o1, iv p2, sl] [])) _
    refine XS.aloadN X0.here hx rfl (hb hby d6_0) rfl rfl ?_
    show Steps p.tables e below (s₁.setTop (mkF m 1 #[rv o0, rv o1, iv p2, sl] [(.ref o0)])) _
    exact k
  refine own_c1 (getF X0 hx hZ hown (host := "") (Or.inl (hw _ (List.mem_of_getElem? (i := 23) rfl))) Via.refl e0 F_end_o0 rfl rfl (hb hby d6_1)) fun T1 X1 e1 => ?_
  show own_Go p e below _ (T1.setTop (mkF m 4 #[rv o0, rv o1, iv p2, sl] [(.int en)]))
  by_cases hc2 : en < (0 : Int32)
  · skip
    refine own_by (fun t k => XS.ifNo X1.here hx rfl (hb hby d6_4) rfl ((if0 _ _).trans (tlt hc2).2.1) k) ?_
    show own_Go p e below _ (T1.setTop (mkF m 7 #[rv o0, rv o1, iv p2, sl] []))
    refine own_by (B := T1.setTop (mkF m 8 #[rv o0, rv o1, iv p2, sl] [(.ref o0)])) (fun t k => ?_) ?_
    · show Steps p.tables e below (T1.setTop (mkF m 7 #[rv o0, rv o1, iv p2, sl] [])) _
      refine XS.aloadN X1.here hx rfl (hb hby d6_7) rfl rfl ?_
      show Steps p.tables e below (T1.setTop (mkF m 8 #[rv o0, rv o1, iv p2, sl] [(.ref o0)])) _
      exact k
    refine own_c1 (getF X1 hx hZ hown (host := "") (Or.inl (hw _ (List.mem_of_getElem? (i := 30) rfl))) Via.refl e1 F_scanned_o0 rfl rfl (hb hby d6_8)) fun T3 X3 e3 => ?_
    show own_Go p e below _ (T3.setTop (mkF m 11 #[rv o0, rv o1, iv p2, sl] [(.int (4 : Int32))]))
    refine own_by (B := T3.setTop (mkF m 12 #[rv o0, rv o1, iv p2, sl] [(.int p2), (.int (4 : Int32))])) (fun t k => ?_) ?_
    · show Steps p.tables e below (T3.setTop (mkF m 11 #[rv o0, rv o1, iv p2, sl] [(.int (4 : Int32))])) _
      refine XS.iloadN X3.here hx rfl (hb hby d6_11) rfl ?_
      show Steps p.tables e below (T3.setTop (mkF m 12 #[rv o0, rv o1, iv p2, sl] [(.int p2), (.int (4 : Int32))])) _
      exact k
    by_cases hc4 : (4 : Int32) < p2
    · skip
      refine own_by (fun t k => XS.icmpNo X3.here hx rfl (hb hby d6_12) rfl (tlt hc4).2.1 k) ?_
      show own_Go p e below _ (T3.setTop (mkF m 15 #[rv o0, rv o1, iv p2, sl] []))
      refine own_by (B := T3.setTop (mkF m 18 #[rv o0, rv o1, iv p2, sl] [(.ref o0), (.ref o0), (.ref o1)])) (fun t k => ?_) ?_
      · show Steps p.tables e below (T3.setTop (mkF m 15 #[rv o0, rv o1, iv p2, sl] [])) _
        refine XS.aloadN X3.here hx rfl (hb hby d6_15) rfl rfl ?_
        show Steps p.tables e below (T3.setTop (mkF m 16 #[rv o0, rv o1, iv p2, sl] [(.ref o1)])) _
        refine XS.aloadN X3.here hx rfl (hb hby d6_16) rfl rfl ?_
        show Steps p.tables e below (T3.setTop (mkF m 17 #[rv o0, rv o1, iv p2, sl] [(.ref o0), (.ref o1)])) _
        refine XS.dup X3.here hx rfl (hb hby d6_17) rfl rfl ?_
        show Steps p.tables e below (T3.setTop (mkF m 18 #[rv o0, rv o1, iv p2, sl] [(.ref o0), (.ref o0), (.ref o1)])) _
        exact k
      refine own_c1 (getF X3 hx hZ hown (host := "") (Or.inl (hw _ (List.mem_of_getElem? (i := 30) rfl))) Via.refl e3 F_scanned_o0 rfl rfl (hb hby d6_18)) fun T5 X5 e5 => ?_
      show own_Go p e below _ (T5.setTop (mkF m 21 #[rv o0, rv o1, iv p2, sl] [(.int (4 : Int32)), (.ref o0), (.ref o1)]))
      refine own_by (B := T5.setTop (mkF m 24 #[rv o0, rv o1, iv p2, sl] [(.int (5 : Int32)), (.ref o0), (.int (4 : Int32)), (.ref o1)])) (fun t k => ?_) ?_
      · show Steps p.tables e below (T5.setTop (mkF m 21 #[rv o0, rv o1, iv p2, sl] [(.int (4 : Int32)), (.ref o0), (.ref o1)])) _
        refine XS.dupX1 X5.here hx rfl (hb hby d6_21) rfl rfl rfl ?_
        show Steps p.tables e below (T5.setTop (mkF m 22 #[rv o0, rv o1, iv p2, sl] [(.int (4 : Int32)), (.ref o0), (.int (4 : Int32)), (.ref o1)])) _
        refine XS.iconst X5.here hx rfl (hb hby d6_22) ?_
        show Steps p.tables e below (T5.setTop (mkF m 23 #[rv o0, rv o1, iv p2, sl] [(.int (1 : Int32)), (.int (4 : Int32)), (.ref o0), (.int (4 : Int32)), (.ref o1)])) _
        refine XS.iadd X5.here hx rfl (hb hby d6_23) rfl ?_
        show Steps p.tables e below (T5.setTop (mkF m 24 #[rv o0, rv o1, iv p2, sl] [(.int (5 : Int32)), (.ref o0), (.int (4 : Int32)), (.ref o1)])) _
        exact k
      refine own_c2 (putF X5 hx hZ hown (host := "") (Or.inl (hw _ (List.mem_of_getElem? (i := 30) rfl))) Via.refl e5 F_scanned_o0 E_o0 (Or.inl (hw _ (List.mem_of_getElem? (i := 31) rfl))) (hw _ (List.mem_of_getElem? (i := 13) rfl)) (ty := .int) (by decide) rfl rfl rfl rfl (hb hby d6_24)) fun T6 h6 X6 e6 W6 => ?_
      replace F_scanned_o0 := F_scanned_o0.same W6
      replace E_o0 := E_o0.wr W6
      replace F_end_o0 := F_end_o0.other W6 (Or.inr (sn6 hw))
      replace F_lineEmpty_o0 := F_lineEmpty_o0.other W6 (Or.inr (sn7 hw))
      replace F_started_o0 := F_started_o0.other W6 (Or.inr (sn8 hw))
      replace V_o1 := V_o1.other W6 ne_o1_o0
      replace K0 := K0.wr W6 (Or.inl (List.mem_of_getElem? (i := 0) rfl))
      replace Z0 := Nat.le_trans Z0 (Keep.of_wr W6).1
      replace N0 := Fr.snoc X6 N0 g_o0
      show own_Go p e below _ (T6.setTop (mkF m 27 #[rv o0, rv o1, iv p2, sl] [(.int (4 : Int32)), (.ref o1)]))
      refine own_by (B := T6.setTop (mkF m 32 #[rv o0, rv o1, iv p2, iv v4] [(.int (10 : Int32)), (.int v4)])) (fun t k => ?_) ?_
      · show Steps p.tables e below (T6.setTop (mkF m 27 #[rv o0, rv o1, iv p2, sl] [(.int (4 : Int32)), (.ref o1)])) _
        obtain ⟨cl7, Ar7, q7, S7, N7, H7, G7⟩ := id V_o1
        have hin7 : ¬ ((4 : Int32) < 0 ∨ cl7.slots.size ≤ ((4 : Int32)).toNatClampNeg) := inb_of S7 ⟨by decide, by decide⟩
        have hat7 : cl7.slots[((4 : Int32)).toNatClampNeg]? = some (.int v4) := H7.at hin7 rfl
        refine X6.baloadBytes hx (j := (4 : Int32)) (v := (.int v4)) (by rw [show T6.heap = h6 from e6]; exact Ar7.1) (State.isArrayOf_alike hZ.alike Ar7.2.1) Ar7.2.2 hin7 hat7 (g := (mkF m 27 #[rv o0, rv o1, iv p2, sl] [(.int (4 : Int32)), (.ref o1)])) rfl rfl (hb hby d6_27) _ ?_
        show Steps p.tables e below (T6.setTop (mkF m 28 #[rv o0, rv o1, iv p2, sl] [(.int v4)])) _
        refine XS.istoreN X6.here hx rfl (hb hby d6_28) rfl (l' := #[rv o0, rv o1, iv p2, iv v4]) (own_os h3) ?_
        show Steps p.tables e below (T6.setTop (mkF m 29 #[rv o0, rv o1, iv p2, iv v4] [])) _
        refine XS.iloadN X6.here hx rfl (hb hby d6_29) rfl ?_
        show Steps p.tables e below (T6.setTop (mkF m 30 #[rv o0, rv o1, iv p2, iv v4] [(.int v4)])) _
        refine XS.bipush X6.here hx rfl (hb hby d6_30) ?_
        show Steps p.tables e below (T6.setTop (mkF m 32 #[rv o0, rv o1, iv p2, iv v4] [(.int (10 : Int32)), (.int v4)])) _
        exact k
      by_cases hc8 : v4 = (10 : Int32)
      · skip
        refine own_by (fun t k => XS.icmpNo X6.here hx rfl (hb hby d6_32) rfl (teq hc8).2 k) ?_
        show own_Go p e below _ (T6.setTop (mkF m 35 #[rv o0, rv o1, iv p2, iv v4] []))
        refine own_by (B := T6.setTop (mkF m 36 #[rv o0, rv o1, iv p2, iv v4] [(.ref o0)])) (fun t k => ?_) ?_
        · show Steps p.tables e below (T6.setTop (mkF m 35 #[rv o0, rv o1, iv p2, iv v4] [])) _
          refine XS.aloadN X6.here hx rfl (hb hby d6_35) rfl rfl ?_
          show Steps p.tables e below (T6.setTop (mkF m 36 #[rv o0, rv o1, iv p2, iv v4] [(.ref o0)])) _
          exact k
        refine own_c1 (getF X6 hx hZ hown (host := "") (Or.inl (hw _ (List.mem_of_getElem? (i := 21) rfl))) Via.refl e6 F_lineEmpty_o0 rfl rfl (hb hby d6_36)) fun T9 X9 e9 => ?_
        show own_Go p e below _ (T9.setTop (mkF m 39 #[rv o0, rv o1, iv p2, iv v4] [(.int le)]))
        by_cases hc10 : le = (0 : Int32)
        · skip
          refine own_by (fun t k => XS.ifNo X9.here hx rfl (hb hby d6_39) rfl ((if0 _ _).trans (teq hc10).2) k) ?_
          show own_Go p e below _ (T9.setTop (mkF m 42 #[rv o0, rv o1, iv p2, iv v4] []))
          refine own_by (B := T9.setTop (mkF m 44 #[rv o0, rv o1, iv p2, iv v4] [(.int (1 : Int32)), (.ref o0)])) (fun t k => ?_) ?_
          · show Steps p.tables e below (T9.setTop (mkF m 42 #[rv o0, rv o1, iv p2, iv v4] [])) _
            refine XS.aloadN X9.here hx rfl (hb hby d6_42) rfl rfl ?_
            show Steps p.tables e below (T9.setTop (mkF m 43 #[rv o0, rv o1, iv p2, iv v4] [(.ref o0)])) _
            refine XS.iconst X9.here hx rfl (hb hby d6_43) ?_
            show Steps p.tables e below (T9.setTop (mkF m 44 #[rv o0, rv o1, iv p2, iv v4] [(.int (1 : Int32)), (.ref o0)])) _
            exact k
          refine own_c2 (putFN X9 hx hZ hown (hw _ (List.mem_of_getElem? (i := 32) rfl)) Via.refl e9 F_started_o0 E_o0 (Or.inl (hw _ (List.mem_of_getElem? (i := 33) rfl))) (hw _ (List.mem_of_getElem? (i := 13) rfl)) (ty := .boolean) (v' := (.int (1 : Int32))) (by decide) rfl rfl rfl rfl (hb hby d6_44)) fun T11 h11 X11 e11 W11 => ?_
          replace F_started_o0 := F_started_o0.same W11
          replace E_o0 := E_o0.wr W11
          replace F_scanned_o0 := F_scanned_o0.other W11 (Or.inr (sn9 hw))
          replace F_end_o0 := F_end_o0.other W11 (Or.inr (sn10 hw))
          replace F_lineEmpty_o0 := F_lineEmpty_o0.other W11 (Or.inr (sn11 hw))
          replace V_o1 := V_o1.other W11 ne_o1_o0
          replace K0 := K0.wr W11 (Or.inl (List.mem_of_getElem? (i := 0) rfl))
          replace Z0 := Nat.le_trans Z0 (Keep.of_wr W11).1
          replace N0 := Fr.snoc X11 N0 g_o0
          show own_Go p e below _ (T11.setTop (mkF m 47 #[rv o0, rv o1, iv p2, iv v4] []))
          refine own_by (B := T11.setTop (mkF m 67 #[rv o0, rv o1, iv p2, iv v4] [(.int (1 : Int32)), (.ref o0)])) (fun t k => ?_) ?_
          · show Steps p.tables e below (T11.setTop (mkF m 47 #[rv o0, rv o1, iv p2, iv v4] [])) _
            refine XS.goto X11.here hx rfl (pc0 := 47) (pc' := 65) rfl (hb hby d6_47) (by decide) (by decide) ?_
            show Steps p.tables e below (T11.setTop (mkF m 65 #[rv o0, rv o1, iv p2, iv v4] [])) _
            refine XS.aloadN X11.here hx rfl (hb hby d6_65) rfl rfl ?_
            show Steps p.tables e below (T11.setTop (mkF m 66 #[rv o0, rv o1, iv p2, iv v4] [(.ref o0)])) _
            refine XS.iconst X11.here hx rfl (hb hby d6_66) ?_
            show Steps p.tables e below (T11.setTop (mkF m 67 #[rv o0, rv o1, iv p2, iv v4] [(.int (1 : Int32)), (.ref o0)])) _
            exact k
          refine own_c2 (putFN X11 hx hZ hown (hw _ (List.mem_of_getElem? (i := 21) rfl)) Via.refl e11 F_lineEmpty_o0 E_o0 (Or.inl (hw _ (List.mem_of_getElem? (i := 22) rfl))) (hw _ (List.mem_of_getElem? (i := 13) rfl)) (ty := .boolean) (v' := (.int (1 : Int32))) (by decide) rfl rfl rfl rfl (hb hby d6_67)) fun T12 h12 X12 e12 W12 => ?_
          replace F_lineEmpty_o0 := F_lineEmpty_o0.same W12
          replace E_o0 := E_o0.wr W12
          replace F_scanned_o0 := F_scanned_o0.other W12 (Or.inr (sn0 hw))
          replace F_end_o0 := F_end_o0.other W12 (Or.inr (sn1 hw))
          replace F_started_o0 := F_started_o0.other W12 (Or.inr (sn2 hw))
          replace V_o1 := V_o1.other W12 ne_o1_o0
          replace K0 := K0.wr W12 (Or.inl (List.mem_of_getElem? (i := 0) rfl))
          replace Z0 := Nat.le_trans Z0 (Keep.of_wr W12).1
          replace N0 := Fr.snoc X12 N0 g_o0
          show own_Go p e below _ (T12.setTop (mkF m 70 #[rv o0, rv o1, iv p2, iv v4] []))
          refine own_by (B := T12.setTop (mkF m 0 #[rv o0, rv o1, iv p2, iv v4] [])) (fun t k => ?_) ?_
          · show Steps p.tables e below (T12.setTop (mkF m 70 #[rv o0, rv o1, iv p2, iv v4] [])) _
            refine XS.goto X12.here hx rfl (pc0 := 70) (pc' := 84) rfl (hb hby d6_70) (by decide) (by decide) ?_
            show Steps p.tables e below (T12.setTop (mkF m 84 #[rv o0, rv o1, iv p2, iv v4] [])) _
            refine XS.goto X12.here hx rfl (pc0 := 84) (pc' := 0) rfl (hb hby d6_84) (by decide) (by decide) ?_
            show Steps p.tables e below (T12.setTop (mkF m 0 #[rv o0, rv o1, iv p2, iv v4] [])) _
            exact k
          rw [show fnd [v4] (4 : Int32) p2 en le sd = fnd [] (5 : Int32) p2 en (1 : Int32) (1 : Int32) from by simp only [fnd, if_pos hc2, if_pos hc4, if_pos hc8, if_pos hc10] <;> rfl]
          exact fl_5 o0 o1 p2 en (1 : Int32) (1 : Int32) v0 v1 v2 v3 v4 kb (iv v4) (One.val rfl) X12 hx hZ hw hby hml hown Bret Blk e12 N0 Z0 K0 E_o0 F_scanned_o0 F_end_o0 F_lineEmpty_o0 F_started_o0 V_o1 ne_o1_o0 g_o0 hn5
        · skip
          refine own_by (fun t k => XS.ifYes X9.here hx rfl (pc0 := 39) (pc' := 50) rfl (hb hby d6_39) rfl ((if0 _ _).trans (feq hc10).2) (by decide) (by decide) k) ?_
          show own_Go p e below _ (T9.setTop (mkF m 50 #[rv o0, rv o1, iv p2, iv v4] []))
          refine own_by (B := T9.setTop (mkF m 51 #[rv o0, rv o1, iv p2, iv v4] [(.ref o0)])) (fun t k => ?_) ?_
          · show Steps p.tables e below (T9.setTop (mkF m 50 #[rv o0, rv o1, iv p2, iv v4] [])) _
            refine XS.aloadN X9.here hx rfl (hb hby d6_50) rfl rfl ?_
            show Steps p.tables e below (T9.setTop (mkF m 51 #[rv o0, rv o1, iv p2, iv v4] [(.ref o0)])) _
            exact k
          refine own_c1 (getF X9 hx hZ hown (host := "") (Or.inl (hw _ (List.mem_of_getElem? (i := 32) rfl))) Via.refl e9 F_started_o0 rfl rfl (hb hby d6_51)) fun T13 X13 e13 => ?_
          show own_Go p e below _ (T13.setTop (mkF m 54 #[rv o0, rv o1, iv p2, iv v4] [(.int sd)]))
          by_cases hc14 : sd = (0 : Int32)
          · skip
            refine own_by (fun t k => XS.ifYes X13.here hx rfl (pc0 := 54) (pc' := 65) rfl (hb hby d6_54) rfl ((if0 _ _).trans (teq hc14).1) (by decide) (by decide) k) ?_
            show own_Go p e below _ (T13.setTop (mkF m 65 #[rv o0, rv o1, iv p2, iv v4] []))
            refine own_by (B := T13.setTop (mkF m 67 #[rv o0, rv o1, iv p2, iv v4] [(.int (1 : Int32)), (.ref o0)])) (fun t k => ?_) ?_
            · show Steps p.tables e below (T13.setTop (mkF m 65 #[rv o0, rv o1, iv p2, iv v4] [])) _
              refine XS.aloadN X13.here hx rfl (hb hby d6_65) rfl rfl ?_
              show Steps p.tables e below (T13.setTop (mkF m 66 #[rv o0, rv o1, iv p2, iv v4] [(.ref o0)])) _
              refine XS.iconst X13.here hx rfl (hb hby d6_66) ?_
              show Steps p.tables e below (T13.setTop (mkF m 67 #[rv o0, rv o1, iv p2, iv v4] [(.int (1 : Int32)), (.ref o0)])) _
              exact k
            refine own_c2 (putFN X13 hx hZ hown (hw _ (List.mem_of_getElem? (i := 21) rfl)) Via.refl e13 F_lineEmpty_o0 E_o0 (Or.inl (hw _ (List.mem_of_getElem? (i := 22) rfl))) (hw _ (List.mem_of_getElem? (i := 13) rfl)) (ty := .boolean) (v' := (.int (1 : Int32))) (by decide) rfl rfl rfl rfl (hb hby d6_67)) fun T15 h15 X15 e15 W15 => ?_
            replace F_lineEmpty_o0 := F_lineEmpty_o0.same W15
            replace E_o0 := E_o0.wr W15
            replace F_scanned_o0 := F_scanned_o0.other W15 (Or.inr (sn0 hw))
            replace F_end_o0 := F_end_o0.other W15 (Or.inr (sn1 hw))
            replace F_started_o0 := F_started_o0.other W15 (Or.inr (sn2 hw))
            replace V_o1 := V_o1.other W15 ne_o1_o0
            replace K0 := K0.wr W15 (Or.inl (List.mem_of_getElem? (i := 0) rfl))
            replace Z0 := Nat.le_trans Z0 (Keep.of_wr W15).1
            replace N0 := Fr.snoc X15 N0 g_o0
            show own_Go p e below _ (T15.setTop (mkF m 70 #[rv o0, rv o1, iv p2, iv v4] []))
            refine own_by (B := T15.setTop (mkF m 0 #[rv o0, rv o1, iv p2, iv v4] [])) (fun t k => ?_) ?_
            · show Steps p.tables e below (T15.setTop (mkF m 70 #[rv o0, rv o1, iv p2, iv v4] [])) _
              refine XS.goto X15.here hx rfl (pc0 := 70) (pc' := 84) rfl (hb hby d6_70) (by decide) (by decide) ?_
              show Steps p.tables e below (T15.setTop (mkF m 84 #[rv o0, rv o1, iv p2, iv v4] [])) _
              refine XS.goto X15.here hx rfl (pc0 := 84) (pc' := 0) rfl (hb hby d6_84) (by decide) (by decide) ?_
              show Steps p.tables e below (T15.setTop (mkF m 0 #[rv o0, rv o1, iv p2, iv v4] [])) _
              exact k
            rw [show fnd [v4] (4 : Int32) p2 en le sd = fnd [] (5 : Int32) p2 en (1 : Int32) sd from by simp only [fnd, if_pos hc2, if_pos hc4, if_pos hc8, if_neg hc10, if_pos hc14] <;> rfl]
            exact fl_5 o0 o1 p2 en (1 : Int32) sd v0 v1 v2 v3 v4 kb (iv v4) (One.val rfl) X15 hx hZ hw hby hml hown Bret Blk e15 N0 Z0 K0 E_o0 F_scanned_o0 F_end_o0 F_lineEmpty_o0 F_started_o0 V_o1 ne_o1_o0 g_o0 hn5
          · skip
            refine own_by (fun t k => XS.ifNo X13.here hx rfl (hb hby d6_54) rfl ((if0 _ _).trans (feq hc14).1) k) ?_
            show own_Go p e below _ (T13.setTop (mkF m 57 #[rv o0, rv o1, iv p2, iv v4] []))
            refine own_by (B := T13.setTop (mkF m 59 #[rv o0, rv o1, iv p2, iv v4] [(.ref o0), (.ref o0)])) (fun t k => ?_) ?_
            · show Steps p.tables e below (T13.setTop (mkF m 57 #[rv o0, rv o1, iv p2, iv v4] [])) _
              refine XS.aloadN X13.here hx rfl (hb hby d6_57) rfl rfl ?_
              show Steps p.tables e below (T13.setTop (mkF m 58 #[rv o0, rv o1, iv p2, iv v4] [(.ref o0)])) _
              refine XS.aloadN X13.here hx rfl (hb hby d6_58) rfl rfl ?_
              show Steps p.tables e below (T13.setTop (mkF m 59 #[rv o0, rv o1, iv p2, iv v4] [(.ref o0), (.ref o0)])) _
              exact k
            refine own_c1 (getF X13 hx hZ hown (host := "") (Or.inl (hw _ (List.mem_of_getElem? (i := 30) rfl))) Via.refl e13 F_scanned_o0 rfl rfl (hb hby d6_59)) fun T16 X16 e16 => ?_
            show own_Go p e below _ (T16.setTop (mkF m 62 #[rv o0, rv o1, iv p2, iv v4] [(.int (5 : Int32)), (.ref o0)]))
            refine own_c2 (putF X16 hx hZ hown (host := "") (Or.inl (hw _ (List.mem_of_getElem? (i := 23) rfl))) Via.refl e16 F_end_o0 E_o0 (Or.inl (hw _ (List.mem_of_getElem? (i := 24) rfl))) (hw _ (List.mem_of_getElem? (i := 13) rfl)) (ty := .int) (by decide) rfl rfl rfl rfl (hb hby d6_62)) fun T17 h17 X17 e17 W17 => ?_
            replace F_end_o0 := F_end_o0.same W17
            replace E_o0 := E_o0.wr W17
            replace F_scanned_o0 := F_scanned_o0.other W17 (Or.inr (sn3 hw))
            replace F_lineEmpty_o0 := F_lineEmpty_o0.other W17 (Or.inr (sn4 hw))
            replace F_started_o0 := F_started_o0.other W17 (Or.inr (sn5 hw))
            replace V_o1 := V_o1.other W17 ne_o1_o0
            replace K0 := K0.wr W17 (Or.inl (List.mem_of_getElem? (i := 0) rfl))
            replace Z0 := Nat.le_trans Z0 (Keep.of_wr W17).1
            replace N0 := Fr.snoc X17 N0 g_o0
            show own_Go p e below _ (T17.setTop (mkF m 65 #[rv o0, rv o1, iv p2, iv v4] []))
            refine own_by (B := T17.setTop (mkF m 67 #[rv o0, rv o1, iv p2, iv v4] [(.int (1 : Int32)), (.ref o0)])) (fun t k => ?_) ?_
            · show Steps p.tables e below (T17.setTop (mkF m 65 #[rv o0, rv o1, iv p2, iv v4] [])) _
              refine XS.aloadN X17.here hx rfl (hb hby d6_65) rfl rfl ?_
              show Steps p.tables e below (T17.setTop (mkF m 66 #[rv o0, rv o1, iv p2, iv v4] [(.ref o0)])) _
              refine XS.iconst X17.here hx rfl (hb hby d6_66) ?_
              show Steps p.tables e below (T17.setTop (mkF m 67 #[rv o0, rv o1, iv p2, iv v4] [(.int (1 : Int32)), (.ref o0)])) _
              exact k
            refine own_c2 (putFN X17 hx hZ hown (hw _ (List.mem_of_getElem? (i := 21) rfl)) Via.refl e17 F_lineEmpty_o0 E_o0 (Or.inl (hw _ (List.mem_of_getElem? (i := 22) rfl))) (hw _ (List.mem_of_getElem? (i := 13) rfl)) (ty := .boolean) (v' := (.int (1 : Int32))) (by decide) rfl rfl rfl rfl (hb hby d6_67)) fun T18 h18 X18 e18 W18 => ?_
            replace F_lineEmpty_o0 := F_lineEmpty_o0.same W18
            replace E_o0 := E_o0.wr W18
            replace F_scanned_o0 := F_scanned_o0.other W18 (Or.inr (sn0 hw))
            replace F_end_o0 := F_end_o0.other W18 (Or.inr (sn1 hw))
            replace F_started_o0 := F_started_o0.other W18 (Or.inr (sn2 hw))
            replace V_o1 := V_o1.other W18 ne_o1_o0
            replace K0 := K0.wr W18 (Or.inl (List.mem_of_getElem? (i := 0) rfl))
            replace Z0 := Nat.le_trans Z0 (Keep.of_wr W18).1
            replace N0 := Fr.snoc X18 N0 g_o0
            show own_Go p e below _ (T18.setTop (mkF m 70 #[rv o0, rv o1, iv p2, iv v4] []))
            refine own_by (B := T18.setTop (mkF m 0 #[rv o0, rv o1, iv p2, iv v4] [])) (fun t k => ?_) ?_
            · show Steps p.tables e below (T18.setTop (mkF m 70 #[rv o0, rv o1, iv p2, iv v4] [])) _
              refine XS.goto X18.here hx rfl (pc0 := 70) (pc' := 84) rfl (hb hby d6_70) (by decide) (by decide) ?_
              show Steps p.tables e below (T18.setTop (mkF m 84 #[rv o0, rv o1, iv p2, iv v4] [])) _
              refine XS.goto X18.here hx rfl (pc0 := 84) (pc' := 0) rfl (hb hby d6_84) (by decide) (by decide) ?_
              show Steps p.tables e below (T18.setTop (mkF m 0 #[rv o0, rv o1, iv p2, iv v4] [])) _
              exact k
            rw [show fnd [v4] (4 : Int32) p2 en le sd = fnd [] (5 : Int32) p2 (5 : Int32) (1 : Int32) sd from by simp only [fnd, if_pos hc2, if_pos hc4, if_pos hc8, if_neg hc10, if_neg hc14] <;> rfl]
            exact fl_5 o0 o1 p2 (5 : Int32) (1 : Int32) sd v0 v1 v2 v3 v4 kb (iv v4) (One.val rfl) X18 hx hZ hw hby hml hown Bret Blk e18 N0 Z0 K0 E_o0 F_scanned_o0 F_end_o0 F_lineEmpty_o0 F_started_o0 V_o1 ne_o1_o0 g_o0 hn5
      · skip
        refine own_by (fun t k => XS.icmpYes X6.here hx rfl (pc0 := 32) (pc' := 73) rfl (hb hby d6_32) rfl (feq hc8).2 (by decide) (by decide) k) ?_
        show own_Go p e below _ (T6.setTop (mkF m 73 #[rv o0, rv o1, iv p2, iv v4] []))
        refine own_by (B := T6.setTop (mkF m 76 #[rv o0, rv o1, iv p2, iv v4] [(.int (13 : Int32)), (.int v4)])) (fun t k => ?_) ?_
        · show Steps p.tables e below (T6.setTop (mkF m 73 #[rv o0, rv o1, iv p2, iv v4] [])) _
          refine XS.iloadN X6.here hx rfl (hb hby d6_73) rfl ?_
          show Steps p.tables e below (T6.setTop (mkF m 74 #[rv o0, rv o1, iv p2, iv v4] [(.int v4)])) _
          refine XS.bipush X6.here hx rfl (hb hby d6_74) ?_
          show Steps p.tables e below (T6.setTop (mkF m 76 #[rv o0, rv o1, iv p2, iv v4] [(.int (13 : Int32)), (.int v4)])) _
          exact k
        by_cases hc19 : v4 = (13 : Int32)
        · skip
          refine own_by (fun t k => XS.icmpYes X6.here hx rfl (pc0 := 76) (pc' := 84) rfl (hb hby d6_76) rfl (teq hc19).1 (by decide) (by decide) k) ?_
          show own_Go p e below _ (T6.setTop (mkF m 84 #[rv o0, rv o1, iv p2, iv v4] []))
          refine own_by (B := T6.setTop (mkF m 0 #[rv o0, rv o1, iv p2, iv v4] [])) (fun t k => ?_) ?_
          · show Steps p.tables e below (T6.setTop (mkF m 84 #[rv o0, rv o1, iv p2, iv v4] [])) _
            refine XS.goto X6.here hx rfl (pc0 := 84) (pc' := 0) rfl (hb hby d6_84) (by decide) (by decide) ?_
            show Steps p.tables e below (T6.setTop (mkF m 0 #[rv o0, rv o1, iv p2, iv v4] [])) _
            exact k
          rw [show fnd [v4] (4 : Int32) p2 en le sd = fnd [] (5 : Int32) p2 en le sd from by simp only [fnd, if_pos hc2, if_pos hc4, if_neg hc8, if_pos hc19] <;> rfl]
          exact fl_5 o0 o1 p2 en le sd v0 v1 v2 v3 v4 kb (iv v4) (One.val rfl) X6 hx hZ hw hby hml hown Bret Blk e6 N0 Z0 K0 E_o0 F_scanned_o0 F_end_o0 F_lineEmpty_o0 F_started_o0 V_o1 ne_o1_o0 g_o0 hn5
        · skip
          refine own_by (fun t k => XS.icmpNo X6.here hx rfl (hb hby d6_76) rfl (feq hc19).1 k) ?_
          show own_Go p e below _ (T6.setTop (mkF m 79 #[rv o0, rv o1, iv p2, iv v4] []))
          refine own_by (B := T6.setTop (mkF m 81 #[rv o0, rv o1, iv p2, iv v4] [(.int (0 : Int32)), (.ref o0)])) (fun t k => ?_) ?_
          · show Steps p.tables e below (T6.setTop (mkF m 79 #[rv o0, rv o1, iv p2, iv v4] [])) _
            refine XS.aloadN X6.here hx rfl (hb hby d6_79) rfl rfl ?_
            show Steps p.tables e below (T6.setTop (mkF m 80 #[rv o0, rv o1, iv p2, iv v4] [(.ref o0)])) _
            refine XS.iconst X6.here hx rfl (hb hby d6_80) ?_
            show Steps p.tables e below (T6.setTop (mkF m 81 #[rv o0, rv o1, iv p2, iv v4] [(.int (0 : Int32)), (.ref o0)])) _
            exact k
          refine own_c2 (putFN X6 hx hZ hown (hw _ (List.mem_of_getElem? (i := 21) rfl)) Via.refl e6 F_lineEmpty_o0 E_o0 (Or.inl (hw _ (List.mem_of_getElem? (i := 22) rfl))) (hw _ (List.mem_of_getElem? (i := 13) rfl)) (ty := .boolean) (v' := (.int (0 : Int32))) (by decide) rfl rfl rfl rfl (hb hby d6_81)) fun T20 h20 X20 e20 W20 => ?_
          replace F_lineEmpty_o0 := F_lineEmpty_o0.same W20
          replace E_o0 := E_o0.wr W20
          replace F_scanned_o0 := F_scanned_o0.other W20 (Or.inr (sn0 hw))
          replace F_end_o0 := F_end_o0.other W20 (Or.inr (sn1 hw))
          replace F_started_o0 := F_started_o0.other W20 (Or.inr (sn2 hw))
          replace V_o1 := V_o1.other W20 ne_o1_o0
          replace K0 := K0.wr W20 (Or.inl (List.mem_of_getElem? (i := 0) rfl))
          replace Z0 := Nat.le_trans Z0 (Keep.of_wr W20).1
          replace N0 := Fr.snoc X20 N0 g_o0
          show own_Go p e below _ (T20.setTop (mkF m 84 #[rv o0, rv o1, iv p2, iv v4] []))
          refine own_by (B := T20.setTop (mkF m 0 #[rv o0, rv o1, iv p2, iv v4] [])) (fun t k => ?_) ?_
          · show Steps p.tables e below (T20.setTop (mkF m 84 #[rv o0, rv o1, iv p2, iv v4] [])) _
            refine XS.goto X20.here hx rfl (pc0 := 84) (pc' := 0) rfl (hb hby d6_84) (by decide) (by decide) ?_
            show Steps p.tables e below (T20.setTop (mkF m 0 #[rv o0, rv o1, iv p2, iv v4] [])) _
            exact k
          rw [show fnd [v4] (4 : Int32) p2 en le sd = fnd [] (5 : Int32) p2 en (0 : Int32) sd from by simp only [fnd, if_pos hc2, if_pos hc4, if_neg hc8, if_neg hc19] <;> rfl]
          exact fl_5 o0 o1 p2 en (0 : Int32) sd v0 v1 v2 v3 v4 kb (iv v4) (One.val rfl) X20 hx hZ hw hby hml hown Bret Blk e20 N0 Z0 K0 E_o0 F_scanned_o0 F_end_o0 F_lineEmpty_o0 F_started_o0 V_o1 ne_o1_o0 g_o0 hn5
    · skip
      refine own_by (fun t k => XS.icmpYes X3.here hx rfl (pc0 := 12) (pc' := 87) rfl (hb hby d6_12) rfl (flt hc4).2.1 (by decide) (by decide) k) ?_
      show own_Go p e below _ (T3.setTop (mkF m 87 #[rv o0, rv o1, iv p2, sl] []))
      refine own_by (B := T3.setTop (mkF m 88 #[rv o0, rv o1, iv p2, sl] [(.ref o0)])) (fun t k => ?_) ?_
      · show Steps p.tables e below (T3.setTop (mkF m 87 #[rv o0, rv o1, iv p2, sl] [])) _
        refine XS.aloadN X3.here hx rfl (hb hby d6_87) rfl rfl ?_
        show Steps p.tables e below (T3.setTop (mkF m 88 #[rv o0, rv o1, iv p2, sl] [(.ref o0)])) _
        exact k
      refine own_c1 (getF X3 hx hZ hown (host := "") (Or.inl (hw _ (List.mem_of_getElem? (i := 23) rfl))) Via.refl e3 F_end_o0 rfl rfl (hb hby d6_88)) fun T21 X21 e21 => ?_
      show own_Go p e below _ (T21.setTop (mkF m 91 #[rv o0, rv o1, iv p2, sl] [(.int en)]))
      exact own_retI X21 Blk hx Bret (hb hby d6_91) (by
          rw [show T21.heap = h1 from e21]
          exact (by rw [show fnd [v4] (4 : Int32) p2 en le sd = (en, (4 : Int32), le, sd) from by simp only [fnd, if_pos hc2, if_neg hc4]]; exact ⟨rfl, N0, K0, E_o0, F_scanned_o0, F_end_o0, F_lineEmpty_o0, F_started_o0⟩)) (by decide) (by decide)
  · skip
    refine own_by (fun t k => XS.ifYes X1.here hx rfl (pc0 := 4) (pc' := 87) rfl (hb hby d6_4) rfl ((if0 _ _).trans (flt hc2).2.1) (by decide) (by decide) k) ?_
    show own_Go p e below _ (T1.setTop (mkF m 87 #[rv o0, rv o1, iv p2, sl] []))
    refine own_by (B := T1.setTop (mkF m 88 #[rv o0, rv o1, iv p2, sl] [(.ref o0)])) (fun t k => ?_) ?_
    · show Steps p.tables e below (T1.setTop (mkF m 87 #[rv o0, rv o1, iv p2, sl] [])) _
      refine XS.aloadN X1.here hx rfl (hb hby d6_87) rfl rfl ?_
      show Steps p.tables e below (T1.setTop (mkF m 88 #[rv o0, rv o1, iv p2, sl] [(.ref o0)])) _
      exact k
    refine own_c1 (getF X1 hx hZ hown (host := "") (Or.inl (hw _ (List.mem_of_getElem? (i := 23) rfl))) Via.refl e1 F_end_o0 rfl rfl (hb hby d6_88)) fun T22 X22 e22 => ?_
    show own_Go p e below _ (T22.setTop (mkF m 91 #[rv o0, rv o1, iv p2, sl] [(.int en)]))
    exact own_retI X22 Blk hx Bret (hb hby d6_91) (by
        rw [show T22.heap = h1 from e22]
        exact (by rw [show fnd [v4] (4 : Int32) p2 en le sd = (en, (4 : Int32), le, sd) from by simp only [fnd, if_neg hc2]]; exact ⟨rfl, N0, K0, E_o0, F_scanned_o0, F_end_o0, F_lineEmpty_o0, F_started_o0⟩)) (by decide) (by decide)

set_option maxRecDepth 65536 in
set_option maxHeartbeats 40000000 in
theorem fl_3 {p : Program} {l : Launch} {e : Env} {s : State} {m : MethodId} {args : Array Value} {below : List Frame} {meth : Method} {c : Code} {s₁ : State} {locs : List Loc} {Z : State} {a0 : Array Value} {h0 h1 : Heap} {n0 : Nat}  (o0 : Addr) (o1 : Addr) (p2 : Int32) (en : Int32) (le : Int32) (sd : Int32) (v0 : Int32) (v1 : Int32) (v2 : Int32) (v3 : Int32) (v4 : Int32) (kb : ClassId) (sl : Slot) (h3 : One sl)
    (X0 : Stand p l e ({ frames := 0, cells := 0, slots := 0, locals := 0 } : Room) s m args below meth c s₁ locs 0 0) (hx : p.tables.exec = Jvm.exec) (hZ : Z.Warmed39 s.vm) (hw : ∀ d ∈ tables_1, d.before a0 Z = true) (hby : c.code = prog_37_method_2_code) (hml : c.maxLocals = 4) (hown : s.vm.findClass "com/example/chartwell/chartwell/http/RequestReader$HeadEnd" = some m.cls) (Bret : meth.sig.returnType = some .int) (Blk : meth.locks = false) (e0 : s₁.heap = h1) (N0 : Fr n0 locs) (Z0 : n0 ≤ h1.size) (K0 : Keep h0 h1 [o0]) (E_o0 : Exa Z h1 o0 "com/example/chartwell/chartwell/http/RequestReader$HeadEnd") (F_scanned_o0 : Fld Z h1 o0 "com/example/chartwell/chartwell/http/RequestReader$HeadEnd" "scanned" "I" (.int (3 : Int32))) (F_end_o0 : Fld Z h1 o0 "com/example/chartwell/chartwell/http/RequestReader$HeadEnd" "end" "I" (.int en)) (F_lineEmpty_o0 : Fld Z h1 o0 "com/example/chartwell/chartwell/http/RequestReader$HeadEnd" "lineEmpty" "Z" (.int le)) (F_started_o0 : Fld Z h1 o0 "com/example/chartwell/chartwell/http/RequestReader$HeadEnd" "started" "Z" (.int sd)) (V_o1 : Arv Z h1 o1 kb .byte (5 : Int32) [(.int v0), (.int v1), (.int v2), (.int v3), (.int v4)] (.int (0 : Int32))) (ne_o1_o0 : o1 ≠ o0) (g_o0 : n0 ≤ o0) (hn5 : ¬ ((5 : Int32) < p2)) :
    own_Go p e below (own_Post s (QF Z o0 (fnd [v3, v4] (3 : Int32) p2 en le sd) h0 n0) ({ frames := 0, cells := 0, slots := 0, locals := 0 } : Room).cells ({ frames := 0, cells := 0, slots := 0, locals := 0 } : Room).slots) (s₁.setTop (mkF m 0 #[rv o0, rv o1, iv p2, sl] [])) := by
  show own_Go p e below _ (s₁.setTop (mkF m 0 #[rv o0, rv o1, iv p2, sl] []))
  refine own_by (B := s₁.setTop (mkF m 1 #[rv o0, rv o1, iv p2, sl] [(.ref o0)])) (fun t k => ?_) ?_
  · show Steps p.tables e below (s₁.setTop (mkF m 0 #[rv o0, rv o1, iv p2, sl] [])) _
    refine XS.aloadN X0.here hx rfl (hb hby d6_0) rfl rfl ?_
    show Steps p.tables e below (s₁.setTop (mkF m 1 #[rv o0, rv o1, iv p2, sl] [(.ref o0)])) _
    exact k
  refine own_c1 (getF X0 hx hZ hown (host := "") (Or.inl (hw _ (List.mem_of_getElem? (i := 23) rfl))) Via.refl e0 F_end_o0 rfl rfl (hb hby d6_1)) fun T1 X1 e1 => ?_
  show own_Go p e below _ (T1.setTop (mkF m 4 #[rv o0, rv o1, iv p2, sl] [(.int en)]))
  by_cases hc2 : en < (0 : Int32)
  · skip
    refine own_by (fun t k => XS.ifNo X1.here hx rfl (hb hby d6_4) rfl ((if0 _ _).trans (tlt hc2).2.1) k) ?_
    show own_Go p e below _ (T1.setTop (mkF m 7 #[rv o0, rv o1, iv p2, sl] []))
    refine own_by (B := T1.setTop (mkF m 8 #[rv o0, rv o1, iv p2, sl] [(.ref o0)])) (fun t k => ?_) ?_
    · show Steps p.tables e below (T1.setTop (mkF m 7 #[rv o0, rv o1, iv p2, sl] [])) _
      refine XS.aloadN X1.here hx rfl (hb hby d6_7) rfl rfl ?_
      show Steps p.tables e below (T1.setTop (mkF m 8 #[rv o0, rv o1, iv p2, sl] [(.ref o0)])) _
      exact k
    refine own_c1 (getF X1 hx hZ hown (host := "") (Or.inl (hw _ (List.mem_of_getElem? (i := 30) rfl))) Via.refl e1 F_scanned_o0 rfl rfl (hb hby d6_8)) fun T3 X3 e3 => ?_
    show own_Go p e below _ (T3.setTop (mkF m 11 #[rv o0, rv o1, iv p2, sl] [(.int (3 : Int32))]))
    refine own_by (B := T3.setTop (mkF m 12 #[rv o0, rv o1, iv p2, sl] [(.int p2), (.int (3 : Int32))])) (fun t k => ?_) ?_
    · show Steps p.tables e below (T3.setTop (mkF m 11 #[rv o0, rv o1, iv p2, sl] [(.int (3 : Int32))])) _
      refine XS.iloadN X3.here hx rfl (hb hby d6_11) rfl ?_
      show Steps p.tables e below (T3.setTop (mkF m 12 #[rv o0, rv o1, iv p2, sl] [(.int p2), (.int (3 : Int32))])) _
      exact k
    by_cases hc4 : (3 : Int32) < p2
    · skip
      refine own_by (fun t k => XS.icmpNo X3.here hx rfl (hb hby d6_12) rfl (tlt hc4).2.1 k) ?_
      show own_Go p e below _ (T3.setTop (mkF m 15 #[rv o0, rv o1, iv p2, sl] []))
      refine own_by (B := T3.setTop (mkF m 18 #[rv o0, rv o1, iv p2, sl] [(.ref o0), (.ref o0), (.ref o1)])) (fun t k => ?_) ?_
      · show Steps p.tables e below (T3.setTop (mkF m 15 #[rv o0, rv o1, iv p2, sl] [])) _
        refine XS.aloadN X3.here hx rfl (hb hby d6_15) rfl rfl ?_
        show Steps p.tables e below (T3.setTop (mkF m 16 #[rv o0, rv o1, iv p2, sl] [(.ref o1)])) _
        refine XS.aloadN X3.here hx rfl (hb hby d6_16) rfl rfl ?_
        show Steps p.tables e below (T3.setTop (mkF m 17 #[rv o0, rv o1, iv p2, sl] [(.ref o0), (.ref o1)])) _
        refine XS.dup X3.here hx rfl (hb hby d6_17) rfl rfl ?_
        show Steps p.tables e below (T3.setTop (mkF m 18 #[rv o0, rv o1, iv p2, sl] [(.ref o0), (.ref o0), (.ref o1)])) _
        exact k
      refine own_c1 (getF X3 hx hZ hown (host := "") (Or.inl (hw _ (List.mem_of_getElem? (i := 30) rfl))) Via.refl e3 F_scanned_o0 rfl rfl (hb hby d6_18)) fun T5 X5 e5 => ?_
      show own_Go p e below _ (T5.setTop (mkF m 21 #[rv o0, rv o1, iv p2, sl] [(.int (3 : Int32)), (.ref o0), (.ref o1)]))
      refine own_by (B := T5.setTop (mkF m 24 #[rv o0, rv o1, iv p2, sl] [(.int (4 : Int32)), (.ref o0), (.int (3 : Int32)), (.ref o1)])) (fun t k => ?_) ?_
      · show Steps p.tables e below (T5.setTop (mkF m 21 #[rv o0, rv o1, iv p2, sl] [(.int (3 : Int32)), (.ref o0), (.ref o1)])) _
        refine XS.dupX1 X5.here hx rfl (hb hby d6_21) rfl rfl rfl ?_
        show Steps p.tables e below (T5.setTop (mkF m 22 #[rv o0, rv o1, iv p2, sl] [(.int (3 : Int32)), (.ref o0), (.int (3 : Int32)), (.ref o1)])) _
        refine XS.iconst X5.here hx rfl (hb hby d6_22) ?_
        show Steps p.tables e below (T5.setTop (mkF m 23 #[rv o0, rv o1, iv p2, sl] [(.int (1 : Int32)), (.int (3 : Int32)), (.ref o0), (.int (3 : Int32)), (.ref o1)])) _
        refine XS.iadd X5.here hx rfl (hb hby d6_23) rfl ?_
        show Steps p.tables e below (T5.setTop (mkF m 24 #[rv o0, rv o1, iv p2, sl] [(.int (4 : Int32)), (.ref o0), (.int (3 : Int32)), (.ref o1)])) _
        exact k
      refine own_c2 (putF X5 hx hZ hown (host := "") (Or.inl (hw _ (List.mem_of_getElem? (i := 30) rfl))) Via.refl e5 F_scanned_o0 E_o0 (Or.inl (hw _ (List.mem_of_getElem? (i := 31) rfl))) (hw _ (List.mem_of_getElem? (i := 13) rfl)) (ty := .int) (by decide) rfl rfl rfl rfl (hb hby d6_24)) fun T6 h6 X6 e6 W6 => ?_
      replace F_scanned_o0 := F_scanned_o0.same W6
      replace E_o0 := E_o0.wr W6
      replace F_end_o0 := F_end_o0.other W6 (Or.inr (sn6 hw))
      replace F_lineEmpty_o0 := F_lineEmpty_o0.other W6 (Or.inr (sn7 hw))
      replace F_started_o0 := F_started_o0.other W6 (Or.inr (sn8 hw))
      replace V_o1 := V_o1.other W6 ne_o1_o0
      replace K0 := K0.wr W6 (Or.inl (List.mem_of_getElem? (i := 0) rfl))
      replace Z0 := Nat.le_trans Z0 (Keep.of_wr W6).1
      replace N0 := Fr.snoc X6 N0 g_o0
      show own_Go p e below _ (T6.setTop (mkF m 27 #[rv o0, rv o1, iv p2, sl] [(.int (3 : Int32)), (.ref o1)]))
      refine own_by (B := T6.setTop (mkF m 32 #[rv o0, rv o1, iv p2, iv v3] [(.int (10 : Int32)), (.int v3)])) (fun t k => ?_) ?_
      · show Steps p.tables e below (T6.setTop (mkF m 27 #[rv o0, rv o1, iv p2, sl] [(.int (3 : Int32)), (.ref o1)])) _
        obtain ⟨cl7, Ar7, q7, S7, N7, H7, G7⟩ := id V_o1
        have hin7 : ¬ ((3 : Int32) < 0 ∨ cl7.slots.size ≤ ((3 : Int32)).toNatClampNeg) := inb_of S7 ⟨by decide, by decide⟩
        have hat7 : cl7.slots[((3 : Int32)).toNatClampNeg]? = some (.int v3) := H7.at hin7 rfl
        refine X6.baloadBytes hx (j := (3 : Int32)) (v := (.int v3)) (by rw [show T6.heap = h6 from e6]; exact Ar7.1) (State.isArrayOf_alike hZ.alike Ar7.2.1) Ar7.2.2 hin7 hat7 (g := (mkF m 27 #[rv o0, rv o1, iv p2, sl] [(.int (3 : Int32)), (.ref o1)])) rfl rfl (hb hby d6_27) _ ?_
        show Steps p.tables e below (T6.setTop (mkF m 28 #[rv o0, rv o1, iv p2, sl] [(.int v3)])) _
        refine XS.istoreN X6.here hx rfl (hb hby d6_28) rfl (l' := #[rv o0, rv o1, iv p2, iv v3]) (own_os h3) ?_
        show Steps p.tables e below (T6.setTop (mkF m 29 #[rv o0, rv o1, iv p2, iv v3] [])) _
        refine XS.iloadN X6.here hx rfl (hb hby d6_29) rfl ?_
        show Steps p.tables e below (T6.setTop (mkF m 30 #[rv o0, rv o1, iv p2, iv v3] [(.int v3)])) _
        refine XS.bipush X6.here hx rfl (hb hby d6_30) ?_
        show Steps p.tables e below (T6.setTop (mkF m 32 #[rv o0, rv o1, iv p2, iv v3] [(.int (10 : Int32)), (.int v3)])) _
        exact k
      by_cases hc8 : v3 = (10 : Int32)
      · skip
        refine own_by (fun t k => XS.icmpNo X6.here hx rfl (hb hby d6_32) rfl (teq hc8).2 k) ?_
        show own_Go p e below _ (T6.setTop (mkF m 35 #[rv o0, rv o1, iv p2, iv v3] []))
        refine own_by (B := T6.setTop (mkF m 36 #[rv o0, rv o1, iv p2, iv v3] [(.ref o0)])) (fun t k => ?_) ?_
        · show Steps p.tables e below (T6.setTop (mkF m 35 #[rv o0, rv o1, iv p2, iv v3] [])) _
          refine XS.aloadN X6.here hx rfl (hb hby d6_35) rfl rfl ?_
          show Steps p.tables e below (T6.setTop (mkF m 36 #[rv o0, rv o1, iv p2, iv v3] [(.ref o0)])) _
          exact k
        refine own_c1 (getF X6 hx hZ hown (host := "") (Or.inl (hw _ (List.mem_of_getElem? (i := 21) rfl))) Via.refl e6 F_lineEmpty_o0 rfl rfl (hb hby d6_36)) fun T9 X9 e9 => ?_
        show own_Go p e below _ (T9.setTop (mkF m 39 #[rv o0, rv o1, iv p2, iv v3] [(.int le)]))
        by_cases hc10 : le = (0 : Int32)
        · skip
          refine own_by (fun t k => XS.ifNo X9.here hx rfl (hb hby d6_39) rfl ((if0 _ _).trans (teq hc10).2) k) ?_
          show own_Go p e below _ (T9.setTop (mkF m 42 #[rv o0, rv o1, iv p2, iv v3] []))
          refine own_by (B := T9.setTop (mkF m 44 #[rv o0, rv o1, iv p2, iv v3] [(.int (1 : Int32)), (.ref o0)])) (fun t k => ?_) ?_
          · show Steps p.tables e below (T9.setTop (mkF m 42 #[rv o0, rv o1, iv p2, iv v3] [])) _
            refine XS.aloadN X9.here hx rfl (hb hby d6_42) rfl rfl ?_
            show Steps p.tables e below (T9.setTop (mkF m 43 #[rv o0, rv o1, iv p2, iv v3] [(.ref o0)])) _
            refine XS.iconst X9.here hx rfl (hb hby d6_43) ?_
            show Steps p.tables e below (T9.setTop (mkF m 44 #[rv o0, rv o1, iv p2, iv v3] [(.int (1 : Int32)), (.ref o0)])) _
            exact k
          refine own_c2 (putFN X9 hx hZ hown (hw _ (List.mem_of_getElem? (i := 32) rfl)) Via.refl e9 F_started_o0 E_o0 (Or.inl (hw _ (List.mem_of_getElem? (i := 33) rfl))) (hw _ (List.mem_of_getElem? (i := 13) rfl)) (ty := .boolean) (v' := (.int (1 : Int32))) (by decide) rfl rfl rfl rfl (hb hby d6_44)) fun T11 h11 X11 e11 W11 => ?_
          replace F_started_o0 := F_started_o0.same W11
          replace E_o0 := E_o0.wr W11
          replace F_scanned_o0 := F_scanned_o0.other W11 (Or.inr (sn9 hw))
          replace F_end_o0 := F_end_o0.other W11 (Or.inr (sn10 hw))
          replace F_lineEmpty_o0 := F_lineEmpty_o0.other W11 (Or.inr (sn11 hw))
          replace V_o1 := V_o1.other W11 ne_o1_o0
          replace K0 := K0.wr W11 (Or.inl (List.mem_of_getElem? (i := 0) rfl))
          replace Z0 := Nat.le_trans Z0 (Keep.of_wr W11).1
          replace N0 := Fr.snoc X11 N0 g_o0
          show own_Go p e below _ (T11.setTop (mkF m 47 #[rv o0, rv o1, iv p2, iv v3] []))
          refine own_by (B := T11.setTop (mkF m 67 #[rv o0, rv o1, iv p2, iv v3] [(.int (1 : Int32)), (.ref o0)])) (fun t k => ?_) ?_
          · show Steps p.tables e below (T11.setTop (mkF m 47 #[rv o0, rv o1, iv p2, iv v3] [])) _
            refine XS.goto X11.here hx rfl (pc0 := 47) (pc' := 65) rfl (hb hby d6_47) (by decide) (by decide) ?_
            show Steps p.tables e below (T11.setTop (mkF m 65 #[rv o0, rv o1, iv p2, iv v3] [])) _
            refine XS.aloadN X11.here hx rfl (hb hby d6_65) rfl rfl ?_
            show Steps p.tables e below (T11.setTop (mkF m 66 #[rv o0, rv o1, iv p2, iv v3] [(.ref o0)])) _
            refine XS.iconst X11.here hx rfl (hb hby d6_66) ?_
            show Steps p.tables e below (T11.setTop (mkF m 67 #[rv o0, rv o1, iv p2, iv v3] [(.int (1 : Int32)), (.ref o0)])) _
            exact k
          refine own_c2 (putFN X11 hx hZ hown (hw _ (List.mem_of_getElem? (i := 21) rfl)) Via.refl e11 F_lineEmpty_o0 E_o0 (Or.inl (hw _ (List.mem_of_getElem? (i := 22) rfl))) (hw _ (List.mem_of_getElem? (i := 13) rfl)) (ty := .boolean) (v' := (.int (1 : Int32))) (by decide) rfl rfl rfl rfl (hb hby d6_67)) fun T12 h12 X12 e12 W12 => ?_
          replace F_lineEmpty_o0 := F_lineEmpty_o0.same W12
          replace E_o0 := E_o0.wr W12
          replace F_scanned_o0 := F_scanned_o0.other W12 (Or.inr (sn0 hw))
          replace F_end_o0 := F_end_o0.other W12 (Or.inr (sn1 hw))
          replace F_started_o0 := F_started_o0.other W12 (Or.inr (sn2 hw))
          replace V_o1 := V_o1.other W12 ne_o1_o0
          replace K0 := K0.wr W12 (Or.inl (List.mem_of_getElem? (i := 0) rfl))
          replace Z0 := Nat.le_trans Z0 (Keep.of_wr W12).1
          replace N0 := Fr.snoc X12 N0 g_o0
          show own_Go p e below _ (T12.setTop (mkF m 70 #[rv o0, rv o1, iv p2, iv v3] []))
          refine own_by (B := T12.setTop (mkF m 0 #[rv o0, rv o1, iv p2, iv v3] [])) (fun t k => ?_) ?_
          · show Steps p.tables e below (T12.setTop (mkF m 70 #[rv o0, rv o1, iv p2, iv v3] [])) _
            refine XS.goto X12.here hx rfl (pc0 := 70) (pc' := 84) rfl (hb hby d6_70) (by decide) (by decide) ?_
            show Steps p.tables e below (T12.setTop (mkF m 84 #[rv o0, rv o1, iv p2, iv v3] [])) _
            refine XS.goto X12.here hx rfl (pc0 := 84) (pc' := 0) rfl (hb hby d6_84) (by decide) (by decide) ?_
            show Steps p.tables e below (T12.setTop (mkF m 0 #[rv o0, rv o1, iv p2, iv v3] [])) _
            exact k
          rw [show fnd [v3, v4] (3 : Int32) p2 en le sd = fnd [v4] (4 : Int32) p2 en (1 : Int32) (1 : Int32) from by simp only [fnd, if_pos hc2, if_pos hc4, if_pos hc8, if_pos hc10] <;> rfl]
          exact fl_4 o0 o1 p2 en (1 : Int32) (1 : Int32) v0 v1 v2 v3 v4 kb (iv v3) (One.val rfl) X12 hx hZ hw hby hml hown Bret Blk e12 N0 Z0 K0 E_o0 F_scanned_o0 F_end_o0 F_lineEmpty_o0 F_started_o0 V_o1 ne_o1_o0 g_o0 hn5
        · skip
          refine own_by (fun t k => XS.ifYes X9.here hx rfl (pc0 := 39) (pc' := 50) rfl (hb hby d6_39) rfl ((if0 _ _).trans (feq hc10).2) (by decide) (by decide) k) ?_
          show own_Go p e below _ (T9.setTop (mkF m 50 #[rv o0, rv o1, iv p2, iv v3] []))
          refine own_by (B := T9.setTop (mkF m 51 #[rv o0, rv o1, iv p2, iv v3] [(.ref o0)])) (fun t k => ?_) ?_
          · show Steps p.tables e below (T9.setTop (mkF m 50 #[rv o0, rv o1, iv p2, iv v3] [])) _
            refine XS.aloadN X9.here hx rfl (hb hby d6_50) rfl rfl ?_
            show Steps p.tables e below (T9.setTop (mkF m 51 #[rv o0, rv o1, iv p2, iv v3] [(.ref o0)])) _
            exact k
          refine own_c1 (getF X9 hx hZ hown (host := "") (Or.inl (hw _ (List.mem_of_getElem? (i := 32) rfl))) Via.refl e9 F_started_o0 rfl rfl (hb hby d6_51)) fun T13 X13 e13 => ?_
          show own_Go p e below _ (T13.setTop (mkF m 54 #[rv o0, rv o1, iv p2, iv v3] [(.int sd)]))
          by_cases hc14 : sd = (0 : Int32)
          · skip
            refine own_by (fun t k => XS.ifYes X13.here hx rfl (pc0 := 54) (pc' := 65) rfl (hb hby d6_54) rfl ((if0 _ _).trans (teq hc14).1) (by decide) (by decide) k) ?_
            show own_Go p e below _ (T13.setTop (mkF m 65 #[rv o0, rv o1, iv p2, iv v3] []))
            refine own_by (B := T13.setTop (mkF m 67 #[rv o0, rv o1, iv p2, iv v3] [(.int (1 : Int32)), (.ref o0)])) (fun t k => ?_) ?_
            · show Steps p.tables e below (T13.setTop (mkF m 65 #[rv o0, rv o1, iv p2, iv v3] [])) _
              refine XS.aloadN X13.here hx rfl (hb hby d6_65) rfl rfl ?_
              show Steps p.tables e below (T13.setTop (mkF m 66 #[rv o0, rv o1, iv p2, iv v3] [(.ref o0)])) _
              refine XS.iconst X13.here hx rfl (hb hby d6_66) ?_
              show Steps p.tables e below (T13.setTop (mkF m 67 #[rv o0, rv o1, iv p2, iv v3] [(.int (1 : Int32)), (.ref o0)])) _
              exact k
            refine own_c2 (putFN X13 hx hZ hown (hw _ (List.mem_of_getElem? (i := 21) rfl)) Via.refl e13 F_lineEmpty_o0 E_o0 (Or.inl (hw _ (List.mem_of_getElem? (i := 22) rfl))) (hw _ (List.mem_of_getElem? (i := 13) rfl)) (ty := .boolean) (v' := (.int (1 : Int32))) (by decide) rfl rfl rfl rfl (hb hby d6_67)) fun T15 h15 X15 e15 W15 => ?_
            replace F_lineEmpty_o0 := F_lineEmpty_o0.same W15
            replace E_o0 := E_o0.wr W15
            replace F_scanned_o0 := F_scanned_o0.other W15 (Or.inr (sn0 hw))
            replace F_end_o0 := F_end_o0.other W15 (Or.inr (sn1 hw))
            replace F_started_o0 := F_started_o0.other W15 (Or.inr (sn2 hw))
            replace V_o1 := V_o1.other W15 ne_o1_o0
            replace K0 := K0.wr W15 (Or.inl (List.mem_of_getElem? (i := 0) rfl))
            replace Z0 := Nat.le_trans Z0 (Keep.of_wr W15).1
            replace N0 := Fr.snoc X15 N0 g_o0
            show own_Go p e below _ (T15.setTop (mkF m 70 #[rv o0, rv o1, iv p2, iv v3] []))
            refine own_by (B := T15.setTop (mkF m 0 #[rv o0, rv o1, iv p2, iv v3] [])) (fun t k => ?_) ?_
            · show Steps p.tables e below (T15.setTop (mkF m 70 #[rv o0, rv o1, iv p2, iv v3] [])) _
              refine XS.goto X15.here hx rfl (pc0 := 70) (pc' := 84) rfl (hb hby d6_70) (by decide) (by decide) ?_
              show Steps p.tables e below (T15.setTop (mkF m 84 #[rv o0, rv o1, iv p2, iv v3] [])) _
              refine XS.goto X15.here hx rfl (pc0 := 84) (pc' := 0) rfl (hb hby d6_84) (by decide) (by decide) ?_
              show Steps p.tables e below (T15.setTop (mkF m 0 #[rv o0, rv o1, iv p2, iv v3] [])) _
              exact k
            rw [show fnd [v3, v4] (3 : Int32) p2 en le sd = fnd [v4] (4 : Int32) p2 en (1 : Int32) sd from by simp only [fnd, if_pos hc2, if_pos hc4, if_pos hc8, if_neg hc10, if_pos hc14] <;> rfl]
            exact fl_4 o0 o1 p2 en (1 : Int32) sd v0 v1 v2 v3 v4 kb (iv v3) (One.val rfl) X15 hx hZ hw hby hml hown Bret Blk e15 N0 Z0 K0 E_o0 F_scanned_o0 F_end_o0 F_lineEmpty_o0 F_started_o0 V_o1 ne_o1_o0 g_o0 hn5
          · skip
            refine own_by (fun t k => XS.ifNo X13.here hx rfl (hb hby d6_54) rfl ((if0 _ _).trans (feq hc14).1) k) ?_
            show own_Go p e below _ (T13.setTop (mkF m 57 #[rv o0, rv o1, iv p2, iv v3] []))
            refine own_by (B := T13.setTop (mkF m 59 #[rv o0, rv o1, iv p2, iv v3] [(.ref o0), (.ref o0)])) (fun t k => ?_) ?_
            · show Steps p.tables e below (T13.setTop (mkF m 57 #[rv o0, rv o1, iv p2, iv v3] [])) _
              refine XS.aloadN X13.here hx rfl (hb hby d6_57) rfl rfl ?_
              show Steps p.tables e below (T13.setTop (mkF m 58 #[rv o0, rv o1, iv p2, iv v3] [(.ref o0)])) _
              refine XS.aloadN X13.here hx rfl (hb hby d6_58) rfl rfl ?_
              show Steps p.tables e below (T13.setTop (mkF m 59 #[rv o0, rv o1, iv p2, iv v3] [(.ref o0), (.ref o0)])) _
              exact k
            refine own_c1 (getF X13 hx hZ hown (host := "") (Or.inl (hw _ (List.mem_of_getElem? (i := 30) rfl))) Via.refl e13 F_scanned_o0 rfl rfl (hb hby d6_59)) fun T16 X16 e16 => ?_
            show own_Go p e below _ (T16.setTop (mkF m 62 #[rv o0, rv o1, iv p2, iv v3] [(.int (4 : Int32)), (.ref o0)]))
            refine own_c2 (putF X16 hx hZ hown (host := "") (Or.inl (hw _ (List.mem_of_getElem? (i := 23) rfl))) Via.refl e16 F_end_o0 E_o0 (Or.inl (hw _ (List.mem_of_getElem? (i := 24) rfl))) (hw _ (List.mem_of_getElem? (i := 13) rfl)) (ty := .int) (by decide) rfl rfl rfl rfl (hb hby d6_62)) fun T17 h17 X17 e17 W17 => ?_
            replace F_end_o0 := F_end_o0.same W17
            replace E_o0 := E_o0.wr W17
            replace F_scanned_o0 := F_scanned_o0.other W17 (Or.inr (sn3 hw))
            replace F_lineEmpty_o0 := F_lineEmpty_o0.other W17 (Or.inr (sn4 hw))
            replace F_started_o0 := F_started_o0.other W17 (Or.inr (sn5 hw))
            replace V_o1 := V_o1.other W17 ne_o1_o0
            replace K0 := K0.wr W17 (Or.inl (List.mem_of_getElem? (i := 0) rfl))
            replace Z0 := Nat.le_trans Z0 (Keep.of_wr W17).1
            replace N0 := Fr.snoc X17 N0 g_o0
            show own_Go p e below _ (T17.setTop (mkF m 65 #[rv o0, rv o1, iv p2, iv v3] []))
            refine own_by (B := T17.setTop (mkF m 67 #[rv o0, rv o1, iv p2, iv v3] [(.int (1 : Int32)), (.ref o0)])) (fun t k => ?_) ?_
            · show Steps p.tables e below (T17.setTop (mkF m 65 #[rv o0, rv o1, iv p2, iv v3] [])) _
              refine XS.aloadN X17.here hx rfl (hb hby d6_65) rfl rfl ?_
              show Steps p.tables e below (T17.setTop (mkF m 66 #[rv o0, rv o1, iv p2, iv v3] [(.ref o0)])) _
              refine XS.iconst X17.here hx rfl (hb hby d6_66) ?_
              show Steps p.tables e below (T17.setTop (mkF m 67 #[rv o0, rv o1, iv p2, iv v3] [(.int (1 : Int32)), (.ref o0)])) _
              exact k
            refine own_c2 (putFN X17 hx hZ hown (hw _ (List.mem_of_getElem? (i := 21) rfl)) Via.refl e17 F_lineEmpty_o0 E_o0 (Or.inl (hw _ (List.mem_of_getElem? (i := 22) rfl))) (hw _ (List.mem_of_getElem? (i := 13) rfl)) (ty := .boolean) (v' := (.int (1 : Int32))) (by decide) rfl rfl rfl rfl (hb hby d6_67)) fun T18 h18 X18 e18 W18 => ?_
            replace F_lineEmpty_o0 := F_lineEmpty_o0.same W18
            replace E_o0 := E_o0.wr W18
            replace F_scanned_o0 := F_scanned_o0.other W18 (Or.inr (sn0 hw))
            replace F_end_o0 := F_end_o0.other W18 (Or.inr (sn1 hw))
            replace F_started_o0 := F_started_o0.other W18 (Or.inr (sn2 hw))
            replace V_o1 := V_o1.other W18 ne_o1_o0
            replace K0 := K0.wr W18 (Or.inl (List.mem_of_getElem? (i := 0) rfl))
            replace Z0 := Nat.le_trans Z0 (Keep.of_wr W18).1
            replace N0 := Fr.snoc X18 N0 g_o0
            show own_Go p e below _ (T18.setTop (mkF m 70 #[rv o0, rv o1, iv p2, iv v3] []))
            refine own_by (B := T18.setTop (mkF m 0 #[rv o0, rv o1, iv p2, iv v3] [])) (fun t k => ?_) ?_
            · show Steps p.tables e below (T18.setTop (mkF m 70 #[rv o0, rv o1, iv p2, iv v3] [])) _
              refine XS.goto X18.here hx rfl (pc0 := 70) (pc' := 84) rfl (hb hby d6_70) (by decide) (by decide) ?_
              show Steps p.tables e below (T18.setTop (mkF m 84 #[rv o0, rv o1, iv p2, iv v3] [])) _
              refine XS.goto X18.here hx rfl (pc0 := 84) (pc' := 0) rfl (hb hby d6_84) (by decide) (by decide) ?_
              show Steps p.tables e below (T18.setTop (mkF m 0 #[rv o0, rv o1, iv p2, iv v3] [])) _
              exact k
            rw [show fnd [v3, v4] (3 : Int32) p2 en le sd = fnd [v4] (4 : Int32) p2 (4 : Int32) (1 : Int32) sd from by simp only [fnd, if_pos hc2, if_pos hc4, if_pos hc8, if_neg hc10, if_neg hc14] <;> rfl]
            exact fl_4 o0 o1 p2 (4 : Int32) (1 : Int32) sd v0 v1 v2 v3 v4 kb (iv v3) (One.val rfl) X18 hx hZ hw hby hml hown Bret Blk e18 N0 Z0 K0 E_o0 F_scanned_o0 F_end_o0 F_lineEmpty_o0 F_started_o0 V_o1 ne_o1_o0 g_o0 hn5
      · skip
        refine own_by (fun t k => XS.icmpYes X6.here hx rfl (pc0 := 32) (pc' := 73) rfl (hb hby d6_32) rfl (feq hc8).2 (by decide) (by decide) k) ?_
        show own_Go p e below _ (T6.setTop (mkF m 73 #[rv o0, rv o1, iv p2, iv v3] []))
        refine own_by (B := T6.setTop (mkF m 76 #[rv o0, rv o1, iv p2, iv v3] [(.int (13 : Int32)), (.int v3)])) (fun t k => ?_) ?_
        · show Steps p.tables e below (T6.setTop (mkF m 73 #[rv o0, rv o1, iv p2, iv v3] [])) _
          refine XS.iloadN X6.here hx rfl (hb hby d6_73) rfl ?_
          show Steps p.tables e below (T6.setTop (mkF m 74 #[rv o0, rv o1, iv p2, iv v3] [(.int v3)])) _
          refine XS.bipush X6.here hx rfl (hb hby d6_74) ?_
          show Steps p.tables e below (T6.setTop (mkF m 76 #[rv o0, rv o1, iv p2, iv v3] [(.int (13 : Int32)), (.int v3)])) _
          exact k
        by_cases hc19 : v3 = (13 : Int32)
        · skip
          refine own_by (fun t k => XS.icmpYes X6.here hx rfl (pc0 := 76) (pc' := 84) rfl (hb hby d6_76) rfl (teq hc19).1 (by decide) (by decide) k) ?_
          show own_Go p e below _ (T6.setTop (mkF m 84 #[rv o0, rv o1, iv p2, iv v3] []))
          refine own_by (B := T6.setTop (mkF m 0 #[rv o0, rv o1, iv p2, iv v3] [])) (fun t k => ?_) ?_
          · show Steps p.tables e below (T6.setTop (mkF m 84 #[rv o0, rv o1, iv p2, iv v3] [])) _
            refine XS.goto X6.here hx rfl (pc0 := 84) (pc' := 0) rfl (hb hby d6_84) (by decide) (by decide) ?_
            show Steps p.tables e below (T6.setTop (mkF m 0 #[rv o0, rv o1, iv p2, iv v3] [])) _
            exact k
          rw [show fnd [v3, v4] (3 : Int32) p2 en le sd = fnd [v4] (4 : Int32) p2 en le sd from by simp only [fnd, if_pos hc2, if_pos hc4, if_neg hc8, if_pos hc19] <;> rfl]
          exact fl_4 o0 o1 p2 en le sd v0 v1 v2 v3 v4 kb (iv v3) (One.val rfl) X6 hx hZ hw hby hml hown Bret Blk e6 N0 Z0 K0 E_o0 F_scanned_o0 F_end_o0 F_lineEmpty_o0 F_started_o0 V_o1 ne_o1_o0 g_o0 hn5
        · skip
          refine own_by (fun t k => XS.icmpNo X6.here hx rfl (hb hby d6_76) rfl (feq hc19).1 k) ?_
          show own_Go p e below _ (T6.setTop (mkF m 79 #[rv o0, rv o1, iv p2, iv v3] []))
          refine own_by (B := T6.setTop (mkF m 81 #[rv o0, rv o1, iv p2, iv v3] [(.int (0 : Int32)), (.ref o0)])) (fun t k => ?_) ?_
          · show Steps p.tables e below (T6.setTop (mkF m 79 #[rv o0, rv o1, iv p2, iv v3] [])) _
            refine XS.aloadN X6.here hx rfl (hb hby d6_79) rfl rfl ?_
            show Steps p.tables e below (T6.setTop (mkF m 80 #[rv o0, rv o1, iv p2, iv v3] [(.ref o0)])) _
            refine XS.iconst X6.here hx rfl (hb hby d6_80) ?_
            show Steps p.tables e below (T6.setTop (mkF m 81 #[rv o0, rv o1, iv p2, iv v3] [(.int (0 : Int32)), (.ref o0)])) _
            exact k
          refine own_c2 (putFN X6 hx hZ hown (hw _ (List.mem_of_getElem? (i := 21) rfl)) Via.refl e6 F_lineEmpty_o0 E_o0 (Or.inl (hw _ (List.mem_of_getElem? (i := 22) rfl))) (hw _ (List.mem_of_getElem? (i := 13) rfl)) (ty := .boolean) (v' := (.int (0 : Int32))) (by decide) rfl rfl rfl rfl (hb hby d6_81)) fun T20 h20 X20 e20 W20 => ?_
          replace F_lineEmpty_o0 := F_lineEmpty_o0.same W20
          replace E_o0 := E_o0.wr W20
          replace F_scanned_o0 := F_scanned_o0.other W20 (Or.inr (sn0 hw))
          replace F_end_o0 := F_end_o0.other W20 (Or.inr (sn1 hw))
          replace F_started_o0 := F_started_o0.other W20 (Or.inr (sn2 hw))
          replace V_o1 := V_o1.other W20 ne_o1_o0
          replace K0 := K0.wr W20 (Or.inl (List.mem_of_getElem? (i := 0) rfl))
          replace Z0 := Nat.le_trans Z0 (Keep.of_wr W20).1
          replace N0 := Fr.snoc X20 N0 g_o0
          show own_Go p e below _ (T20.setTop (mkF m 84 #[rv o0, rv o1, iv p2, iv v3] []))
          refine own_by (B := T20.setTop (mkF m 0 #[rv o0, rv o1, iv p2, iv v3] [])) (fun t k => ?_) ?_
          · show Steps p.tables e below (T20.setTop (mkF m 84 #[rv o0, rv o1, iv p2, iv v3] [])) _
            refine XS.goto X20.here hx rfl (pc0 := 84) (pc' := 0) rfl (hb hby d6_84) (by decide) (by decide) ?_
            show Steps p.tables e below (T20.setTop (mkF m 0 #[rv o0, rv o1, iv p2, iv v3] [])) _
            exact k
          rw [show fnd [v3, v4] (3 : Int32) p2 en le sd = fnd [v4] (4 : Int32) p2 en (0 : Int32) sd from by simp only [fnd, if_pos hc2, if_pos hc4, if_neg hc8, if_neg hc19] <;> rfl]
          exact fl_4 o0 o1 p2 en (0 : Int32) sd v0 v1 v2 v3 v4 kb (iv v3) (One.val rfl) X20 hx hZ hw hby hml hown Bret Blk e20 N0 Z0 K0 E_o0 F_scanned_o0 F_end_o0 F_lineEmpty_o0 F_started_o0 V_o1 ne_o1_o0 g_o0 hn5
    · skip
      refine own_by (fun t k => XS.icmpYes X3.here hx rfl (pc0 := 12) (pc' := 87) rfl (hb hby d6_12) rfl (flt hc4).2.1 (by decide) (by decide) k) ?_
      show own_Go p e below _ (T3.setTop (mkF m 87 #[rv o0, rv o1, iv p2, sl] []))
      refine own_by (B := T3.setTop (mkF m 88 #[rv o0, rv o1, iv p2, sl] [(.ref o0)])) (fun t k => ?_) ?_
      · show Steps p.tables e below (T3.setTop (mkF m 87 #[rv o0, rv o1, iv p2, sl] [])) _
        refine XS.aloadN X3.here hx rfl (hb hby d6_87) rfl rfl ?_
        show Steps p.tables e below (T3.setTop (mkF m 88 #[rv o0, rv o1, iv p2, sl] [(.ref o0)])) _
        exact k
      refine own_c1 (getF X3 hx hZ hown (host := "") (Or.inl (hw _ (List.mem_of_getElem? (i := 23) rfl))) Via.refl e3 F_end_o0 rfl rfl (hb hby d6_88)) fun T21 X21 e21 => ?_
      show own_Go p e below _ (T21.setTop (mkF m 91 #[rv o0, rv o1, iv p2, sl] [(.int en)]))
      exact own_retI X21 Blk hx Bret (hb hby d6_91) (by
          rw [show T21.heap = h1 from e21]
          exact (by rw [show fnd [v3, v4] (3 : Int32) p2 en le sd = (en, (3 : Int32), le, sd) from by simp only [fnd, if_pos hc2, if_neg hc4]]; exact ⟨rfl, N0, K0, E_o0, F_scanned_o0, F_end_o0, F_lineEmpty_o0, F_started_o0⟩)) (by decide) (by decide)
  · skip
    refine own_by (fun t k => XS.ifYes X1.here hx rfl (pc0 := 4) (pc' := 87) rfl (hb hby d6_4) rfl ((if0 _ _).trans (flt hc2).2.1) (by decide) (by decide) k) ?_
    show own_Go p e below _ (T1.setTop (mkF m 87 #[rv o0, rv o1, iv p2, sl] []))
    refine own_by (B := T1.setTop (mkF m 88 #[rv o0, rv o1, iv p2, sl] [(.ref o0)])) (fun t k => ?_) ?_
    · show Steps p.tables e below (T1.setTop (mkF m 87 #[rv o0, rv o1, iv p2, sl] [])) _
      refine XS.aloadN X1.here hx rfl (hb hby d6_87) rfl rfl ?_
      show Steps p.tables e below (T1.setTop (mkF m 88 #[rv o0, rv o1, iv p2, sl] [(.ref o0)])) _
      exact k
    refine own_c1 (getF X1 hx hZ hown (host := "") (Or.inl (hw _ (List.mem_of_getElem? (i := 23) rfl))) Via.refl e1 F_end_o0 rfl rfl (hb hby d6_88)) fun T22 X22 e22 => ?_
    show own_Go p e below _ (T22.setTop (mkF m 91 #[rv o0, rv o1, iv p2, sl] [(.int en)]))
    exact own_retI X22 Blk hx Bret (hb hby d6_91) (by
        rw [show T22.heap = h1 from e22]
        exact (by rw [show fnd [v3, v4] (3 : Int32) p2 en le sd = (en, (3 : Int32), le, sd) from by simp only [fnd, if_neg hc2]]; exact ⟨rfl, N0, K0, E_o0, F_scanned_o0, F_end_o0, F_lineEmpty_o0, F_started_o0⟩)) (by decide) (by decide)

set_option maxRecDepth 65536 in
set_option maxHeartbeats 40000000 in
theorem fl_2 {p : Program} {l : Launch} {e : Env} {s : State} {m : MethodId} {args : Array Value} {below : List Frame} {meth : Method} {c : Code} {s₁ : State} {locs : List Loc} {Z : State} {a0 : Array Value} {h0 h1 : Heap} {n0 : Nat}  (o0 : Addr) (o1 : Addr) (p2 : Int32) (en : Int32) (le : Int32) (sd : Int32) (v0 : Int32) (v1 : Int32) (v2 : Int32) (v3 : Int32) (v4 : Int32) (kb : ClassId) (sl : Slot) (h3 : One sl)
    (X0 : Stand p l e ({ frames := 0, cells := 0, slots := 0, locals := 0 } : Room) s m args below meth c s₁ locs 0 0) (hx : p.tables.exec = Jvm.exec) (hZ : Z.Warmed39 s.vm) (hw : ∀ d ∈ tables_1, d.before a0 Z = true) (hby : c.code = prog_37_method_2_code) (hml : c.maxLocals = 4) (hown : s.vm.findClass "com/example/chartwell/chartwell/http/RequestReader$HeadEnd" = some m.cls) (Bret : meth.sig.returnType = some .int) (Blk : meth.locks = false) (e0 : s₁.heap = h1) (N0 : Fr n0 locs) (Z0 : n0 ≤ h1.size) (K0 : Keep h0 h1 [o0]) (E_o0 : Exa Z h1 o0 "com/example/chartwell/chartwell/http/RequestReader$HeadEnd") (F_scanned_o0 : Fld Z h1 o0 "com/example/chartwell/chartwell/http/RequestReader$HeadEnd" "scanned" "I" (.int (2 : Int32))) (F_end_o0 : Fld Z h1 o0 "com/example/chartwell/chartwell/http/RequestReader$HeadEnd" "end" "I" (.int en)) (F_lineEmpty_o0 : Fld Z h1 o0 "com/example/chartwell/chartwell/http/RequestReader$HeadEnd" "lineEmpty" "Z" (.int le)) (F_started_o0 : Fld Z h1 o0 "com/example/chartwell/chartwell/http/RequestReader$HeadEnd" "started" "Z" (.int sd)) (V_o1 : Arv Z h1 o1 kb .byte (5 : Int32) [(.int v0), (.int v1), (.int v2), (.int v3), (.int v4)] (.int (0 : Int32))) (ne_o1_o0 : o1 ≠ o0) (g_o0 : n0 ≤ o0) (hn5 : ¬ ((5 : Int32) < p2)) :
    own_Go p e below (own_Post s (QF Z o0 (fnd [v2, v3, v4] (2 : Int32) p2 en le sd) h0 n0) ({ frames := 0, cells := 0, slots := 0, locals := 0 } : Room).cells ({ frames := 0, cells := 0, slots := 0, locals := 0 } : Room).slots) (s₁.setTop (mkF m 0 #[rv o0, rv o1, iv p2, sl] [])) := by
  show own_Go p e below _ (s₁.setTop (mkF m 0 #[rv o0, rv o1, iv p2, sl] []))
  refine own_by (B := s₁.setTop (mkF m 1 #[rv o0, rv o1, iv p2, sl] [(.ref o0)])) (fun t k => ?_) ?_
  · show Steps p.tables e below (s₁.setTop (mkF m 0 #[rv o0, rv o1, iv p2, sl] [])) _
    refine XS.aloadN X0.here hx rfl (hb hby d6_0) rfl rfl ?_
    show Steps p.tables e below (s₁.setTop (mkF m 1 #[rv o0, rv o1, iv p2, sl] [(.ref o0)])) _
    exact k
  refine own_c1 (getF X0 hx hZ hown (host := "") (Or.inl (hw _ (List.mem_of_getElem? (i := 23) rfl))) Via.refl e0 F_end_o0 rfl rfl (hb hby d6_1)) fun T1 X1 e1 => ?_
  show own_Go p e below _ (T1.setTop (mkF m 4 #[rv o0, rv o1, iv p2, sl] [(.int en)]))
  by_cases hc2 : en < (0 : Int32)
  · skip
    refine own_by (fun t k => XS.ifNo X1.here hx rfl (hb hby d6_4) rfl ((if0 _ _).trans (tlt hc2).2.1) k) ?_
    show own_Go p e below _ (T1.setTop (mkF m 7 #[rv o0, rv o1, iv p2, sl] []))
    refine own_by (B := T1.setTop (mkF m 8 #[rv o0, rv o1, iv p2, sl] [(.ref o0)])) (fun t k => ?_) ?_
    · show Steps p.tables e below (T1.setTop (mkF m 7 #[rv o0, rv o1, iv p2, sl] [])) _
      refine XS.aloadN X1.here hx rfl (hb hby d6_7) rfl rfl ?_
      show Steps p.tables e below (T1.setTop (mkF m 8 #[rv o0, rv o1, iv p2, sl] [(.ref o0)])) _
      exact k
    refine own_c1 (getF X1 hx hZ hown (host := "") (Or.inl (hw _ (List.mem_of_getElem? (i := 30) rfl))) Via.refl e1 F_scanned_o0 rfl rfl (hb hby d6_8)) fun T3 X3 e3 => ?_
    show own_Go p e below _ (T3.setTop (mkF m 11 #[rv o0, rv o1, iv p2, sl] [(.int (2 : Int32))]))
    refine own_by (B := T3.setTop (mkF m 12 #[rv o0, rv o1, iv p2, sl] [(.int p2), (.int (2 : Int32))])) (fun t k => ?_) ?_
    · show Steps p.tables e below (T3.setTop (mkF m 11 #[rv o0, rv o1, iv p2, sl] [(.int (2 : Int32))])) _
      refine XS.iloadN X3.here hx rfl (hb hby d6_11) rfl ?_
      show Steps p.tables e below (T3.setTop (mkF m 12 #[rv o0, rv o1, iv p2, sl] [(.int p2), (.int (2 : Int32))])) _
      exact k
    by_cases hc4 : (2 : Int32) < p2
    · skip
      refine own_by (fun t k => XS.icmpNo X3.here hx rfl (hb hby d6_12) rfl (tlt hc4).2.1 k) ?_
      show own_Go p e below _ (T3.setTop (mkF m 15 #[rv o0, rv o1, iv p2, sl] []))
      refine own_by (B := T3.setTop (mkF m 18 #[rv o0, rv o1, iv p2, sl] [(.ref o0), (.ref o0), (.ref o1)])) (fun t k => ?_) ?_
      · show Steps p.tables e below (T3.setTop (mkF m 15 #[rv o0, rv o1, iv p2, sl] [])) _
        refine XS.aloadN X3.here hx rfl (hb hby d6_15) rfl rfl ?_
        show Steps p.tables e below (T3.setTop (mkF m 16 #[rv o0, rv o1, iv p2, sl] [(.ref o1)])) _
        refine XS.aloadN X3.here hx rfl (hb hby d6_16) rfl rfl ?_
        show Steps p.tables e below (T3.setTop (mkF m 17 #[rv o0, rv o1, iv p2, sl] [(.ref o0), (.ref o1)])) _
        refine XS.dup X3.here hx rfl (hb hby d6_17) rfl rfl ?_
        show Steps p.tables e below (T3.setTop (mkF m 18 #[rv o0, rv o1, iv p2, sl] [(.ref o0), (.ref o0), (.ref o1)])) _
        exact k
      refine own_c1 (getF X3 hx hZ hown (host := "") (Or.inl (hw _ (List.mem_of_getElem? (i := 30) rfl))) Via.refl e3 F_scanned_o0 rfl rfl (hb hby d6_18)) fun T5 X5 e5 => ?_
      show own_Go p e below _ (T5.setTop (mkF m 21 #[rv o0, rv o1, iv p2, sl] [(.int (2 : Int32)), (.ref o0), (.ref o1)]))
      refine own_by (B := T5.setTop (mkF m 24 #[rv o0, rv o1, iv p2, sl] [(.int (3 : Int32)), (.ref o0), (.int (2 : Int32)), (.ref o1)])) (fun t k => ?_) ?_
      · show Steps p.tables e below (T5.setTop (mkF m 21 #[rv o0, rv o1, iv p2, sl] [(.int (2 : Int32)), (.ref o0), (.ref o1)])) _
        refine XS.dupX1 X5.here hx rfl (hb hby d6_21) rfl rfl rfl ?_
        show Steps p.tables e below (T5.setTop (mkF m 22 #[rv o0, rv o1, iv p2, sl] [(.int (2 : Int32)), (.ref o0), (.int (2 : Int32)), (.ref o1)])) _
        refine XS.iconst X5.here hx rfl (hb hby d6_22) ?_
        show Steps p.tables e below (T5.setTop (mkF m 23 #[rv o0, rv o1, iv p2, sl] [(.int (1 : Int32)), (.int (2 : Int32)), (.ref o0), (.int (2 : Int32)), (.ref o1)])) _
        refine XS.iadd X5.here hx rfl (hb hby d6_23) rfl ?_
        show Steps p.tables e below (T5.setTop (mkF m 24 #[rv o0, rv o1, iv p2, sl] [(.int (3 : Int32)), (.ref o0), (.int (2 : Int32)), (.ref o1)])) _
        exact k
      refine own_c2 (putF X5 hx hZ hown (host := "") (Or.inl (hw _ (List.mem_of_getElem? (i := 30) rfl))) Via.refl e5 F_scanned_o0 E_o0 (Or.inl (hw _ (List.mem_of_getElem? (i := 31) rfl))) (hw _ (List.mem_of_getElem? (i := 13) rfl)) (ty := .int) (by decide) rfl rfl rfl rfl (hb hby d6_24)) fun T6 h6 X6 e6 W6 => ?_
      replace F_scanned_o0 := F_scanned_o0.same W6
      replace E_o0 := E_o0.wr W6
      replace F_end_o0 := F_end_o0.other W6 (Or.inr (sn6 hw))
      replace F_lineEmpty_o0 := F_lineEmpty_o0.other W6 (Or.inr (sn7 hw))
      replace F_started_o0 := F_started_o0.other W6 (Or.inr (sn8 hw))
      replace V_o1 := V_o1.other W6 ne_o1_o0
      replace K0 := K0.wr W6 (Or.inl (List.mem_of_getElem? (i := 0) rfl))
      replace Z0 := Nat.le_trans Z0 (Keep.of_wr W6).1
      replace N0 := Fr.snoc X6 N0 g_o0
      show own_Go p e below _ (T6.setTop (mkF m 27 #[rv o0, rv o1, iv p2, sl] [(.int (2 : Int32)), (.ref o1)]))
      refine own_by (B := T6.setTop (mkF m 32 #[rv o0, rv o1, iv p2, iv v2] [(.int (10 : Int32)), (.int v2)])) (fun t k => ?_) ?_
      · show Steps p.tables e below (T6.setTop (mkF m 27 #[rv o0, rv o1, iv p2, sl] [(.int (2 : Int32)), (.ref o1)])) _
        obtain ⟨cl7, Ar7, q7, S7, N7, H7, G7⟩ := id V_o1
        have hin7 : ¬ ((2 : Int32) < 0 ∨ cl7.slots.size ≤ ((2 : Int32)).toNatClampNeg) := inb_of S7 ⟨by decide, by decide⟩
        have hat7 : cl7.slots[((2 : Int32)).toNatClampNeg]? = some (.int v2) := H7.at hin7 rfl
        refine X6.baloadBytes hx (j := (2 : Int32)) (v := (.int v2)) (by rw [show T6.heap = h6 from e6]; exact Ar7.1) (State.isArrayOf_alike hZ.alike Ar7.2.1) Ar7.2.2 hin7 hat7 (g := (mkF m 27 #[rv o0, rv o1, iv p2, sl] [(.int (2 : Int32)), (.ref o1)])) rfl rfl (hb hby d6_27) _ ?_
        show Steps p.tables e below (T6.setTop (mkF m 28 #[rv o0, rv o1, iv p2, sl] [(.int v2)])) _
        refine XS.istoreN X6.here hx rfl (hb hby d6_28) rfl (l' := #[rv o0, rv o1, iv p2, iv v2]) (own_os h3) ?_
        show Steps p.tables e below (T6.setTop (mkF m 29 #[rv o0, rv o1, iv p2, iv v2] [])) _
        refine XS.iloadN X6.here hx rfl (hb hby d6_29) rfl ?_
        show Steps p.tables e below (T6.setTop (mkF m 30 #[rv o0, rv o1, iv p2, iv v2] [(.int v2)])) _
        refine XS.bipush X6.here hx rfl (hb hby d6_30) ?_
        show Steps p.tables e below (T6.setTop (mkF m 32 #[rv o0, rv o1, iv p2, iv v2] [(.int (10 : Int32)), (.int v2)])) _
        exact k
      by_cases hc8 : v2 = (10 : Int32)
      · skip
        refine own_by (fun t k => XS.icmpNo X6.here hx rfl (hb hby d6_32) rfl (teq hc8).2 k) ?_
        show own_Go p e below _ (T6.setTop (mkF m 35 #[rv o0, rv o1, iv p2, iv v2] []))
        refine own_by (B := T6.setTop (mkF m 36 #[rv o0, rv o1, iv p2, iv v2] [(.ref o0)])) (fun t k => ?_) ?_
        · show Steps p.tables e below (T6.setTop (mkF m 35 #[rv o0, rv o1, iv p2, iv v2] [])) _
          refine XS.aloadN X6.here hx rfl (hb hby d6_35) rfl rfl ?_
          show Steps p.tables e below (T6.setTop (mkF m 36 #[rv o0, rv o1, iv p2, iv v2] [(.ref o0)])) _
          exact k
        refine own_c1 (getF X6 hx hZ hown (host := "") (Or.inl (hw _ (List.mem_of_getElem? (i := 21) rfl))) Via.refl e6 F_lineEmpty_o0 rfl rfl (hb hby d6_36)) fun T9 X9 e9 => ?_
        show own_Go p e below _ (T9.setTop (mkF m 39 #[rv o0, rv o1, iv p2, iv v2] [(.int le)]))
        by_cases hc10 : le = (0 : Int32)
        · skip
          refine own_by (fun t k => XS.ifNo X9.here hx rfl (hb hby d6_39) rfl ((if0 _ _).trans (teq hc10).2) k) ?_
          show own_Go p e below _ (T9.setTop (mkF m 42 #[rv o0, rv o1, iv p2, iv v2] []))
          refine own_by (B := T9.setTop (mkF m 44 #[rv o0, rv o1, iv p2, iv v2] [(.int (1 : Int32)), (.ref o0)])) (fun t k => ?_) ?_
          · show Steps p.tables e below (T9.setTop (mkF m 42 #[rv o0, rv o1, iv p2, iv v2] [])) _
            refine XS.aloadN X9.here hx rfl (hb hby d6_42) rfl rfl ?_
            show Steps p.tables e below (T9.setTop (mkF m 43 #[rv o0, rv o1, iv p2, iv v2] [(.ref o0)])) _
            refine XS.iconst X9.here hx rfl (hb hby d6_43) ?_
            show Steps p.tables e below (T9.setTop (mkF m 44 #[rv o0, rv o1, iv p2, iv v2] [(.int (1 : Int32)), (.ref o0)])) _
            exact k
          refine own_c2 (putFN X9 hx hZ hown (hw _ (List.mem_of_getElem? (i := 32) rfl)) Via.refl e9 F_started_o0 E_o0 (Or.inl (hw _ (List.mem_of_getElem? (i := 33) rfl))) (hw _ (List.mem_of_getElem? (i := 13) rfl)) (ty := .boolean) (v' := (.int (1 : Int32))) (by decide) rfl rfl rfl rfl (hb hby d6_44)) fun T11 h11 X11 e11 W11 => ?_
          replace F_started_o0 := F_started_o0.same W11
          replace E_o0 := E_o0.wr W11
          replace F_scanned_o0 := F_scanned_o0.other W11 (Or.inr (sn9 hw))
          replace F_end_o0 := F_end_o0.other W11 (Or.inr (sn10 hw))
          replace F_lineEmpty_o0 := F_lineEmpty_o0.other W11 (Or.inr (sn11 hw))
          replace V_o1 := V_o1.other W11 ne_o1_o0
          replace K0 := K0.wr W11 (Or.inl (List.mem_of_getElem? (i := 0) rfl))
          replace Z0 := Nat.le_trans Z0 (Keep.of_wr W11).1
          replace N0 := Fr.snoc X11 N0 g_o0
          show own_Go p e below _ (T11.setTop (mkF m 47 #[rv o0, rv o1, iv p2, iv v2] []))
          refine own_by (B := T11.setTop (mkF m 67 #[rv o0, rv o1, iv p2, iv v2] [(.int (1 : Int32)), (.ref o0)])) (fun t k => ?_) ?_
          · show Steps p.tables e below (T11.setTop (mkF m 47 #[rv o0, rv o1, iv p2, iv v2] [])) _
            refine XS.goto X11.here hx rfl (pc0 := 47) (pc' := 65) rfl (hb hby d6_47) (by decide) (by decide) ?_
            show Steps p.tables e below (T11.setTop (mkF m 65 #[rv o0, rv o1, iv p2, iv v2] [])) _
            refine XS.aloadN X11.here hx rfl (hb hby d6_65) rfl rfl ?_
            show Steps p.tables e below (T11.setTop (mkF m 66 #[rv o0, rv o1, iv p2, iv v2] [(.ref o0)])) _
            refine XS.iconst X11.here hx rfl (hb hby d6_66) ?_
            show Steps p.tables e below (T11.setTop (mkF m 67 #[rv o0, rv o1, iv p2, iv v2] [(.int (1 : Int32)), (.ref o0)])) _
            exact k
          refine own_c2 (putFN X11 hx hZ hown (hw _ (List.mem_of_getElem? (i := 21) rfl)) Via.refl e11 F_lineEmpty_o0 E_o0 (Or.inl (hw _ (List.mem_of_getElem? (i := 22) rfl))) (hw _ (List.mem_of_getElem? (i := 13) rfl)) (ty := .boolean) (v' := (.int (1 : Int32))) (by decide) rfl rfl rfl rfl (hb hby d6_67)) fun T12 h12 X12 e12 W12 => ?_
          replace F_lineEmpty_o0 := F_lineEmpty_o0.same W12
          replace E_o0 := E_o0.wr W12
          replace F_scanned_o0 := F_scanned_o0.other W12 (Or.inr (sn0 hw))
          replace F_end_o0 := F_end_o0.other W12 (Or.inr (sn1 hw))
          replace F_started_o0 := F_started_o0.other W12 (Or.inr (sn2 hw))
          replace V_o1 := V_o1.other W12 ne_o1_o0
          replace K0 := K0.wr W12 (Or.inl (List.mem_of_getElem? (i := 0) rfl))
          replace Z0 := Nat.le_trans Z0 (Keep.of_wr W12).1
          replace N0 := Fr.snoc X12 N0 g_o0
          show own_Go p e below _ (T12.setTop (mkF m 70 #[rv o0, rv o1, iv p2, iv v2] []))
          refine own_by (B := T12.setTop (mkF m 0 #[rv o0, rv o1, iv p2, iv v2] [])) (fun t k => ?_) ?_
          · show Steps p.tables e below (T12.setTop (mkF m 70 #[rv o0, rv o1, iv p2, iv v2] [])) _
            refine XS.goto X12.here hx rfl (pc0 := 70) (pc' := 84) rfl (hb hby d6_70) (by decide) (by decide) ?_
            show Steps p.tables e below (T12.setTop (mkF m 84 #[rv o0, rv o1, iv p2, iv v2] [])) _
            refine XS.goto X12.here hx rfl (pc0 := 84) (pc' := 0) rfl (hb hby d6_84) (by decide) (by decide) ?_
            show Steps p.tables e below (T12.setTop (mkF m 0 #[rv o0, rv o1, iv p2, iv v2] [])) _
            exact k
          rw [show fnd [v2, v3, v4] (2 : Int32) p2 en le sd = fnd [v3, v4] (3 : Int32) p2 en (1 : Int32) (1 : Int32) from by simp only [fnd, if_pos hc2, if_pos hc4, if_pos hc8, if_pos hc10] <;> rfl]
          exact fl_3 o0 o1 p2 en (1 : Int32) (1 : Int32) v0 v1 v2 v3 v4 kb (iv v2) (One.val rfl) X12 hx hZ hw hby hml hown Bret Blk e12 N0 Z0 K0 E_o0 F_scanned_o0 F_end_o0 F_lineEmpty_o0 F_started_o0 V_o1 ne_o1_o0 g_o0 hn5
        · skip
          refine own_by (fun t k => XS.ifYes X9.here hx rfl (pc0 := 39) (pc' := 50) rfl (hb hby d6_39) rfl ((if0 _ _).trans (feq hc10).2) (by decide) (by decide) k) ?_
          show own_Go p e below _ (T9.setTop (mkF m 50 #[rv o0, rv o1, iv p2, iv v2] []))
          refine own_by (B := T9.setTop (mkF m 51 #[rv o0, rv o1, iv p2, iv v2] [(.ref o0)])) (fun t k => ?_) ?_
          · show Steps p.tables e below (T9.setTop (mkF m 50 #[rv o0, rv o1, iv p2, iv v2] [])) _
            refine XS.aloadN X9.here hx rfl (hb hby d6_50) rfl rfl ?_
            show Steps p.tables e below (T9.setTop (mkF m 51 #[rv o0, rv o1, iv p2, iv v2] [(.ref o0)])) _
            exact k
          refine own_c1 (getF X9 hx hZ hown (host := "") (Or.inl (hw _ (List.mem_of_getElem? (i := 32) rfl))) Via.refl e9 F_started_o0 rfl rfl (hb hby d6_51)) fun T13 X13 e13 => ?_
          show own_Go p e below _ (T13.setTop (mkF m 54 #[rv o0, rv o1, iv p2, iv v2] [(.int sd)]))
          by_cases hc14 : sd = (0 : Int32)
          · skip
            refine own_by (fun t k => XS.ifYes X13.here hx rfl (pc0 := 54) (pc' := 65) rfl (hb hby d6_54) rfl ((if0 _ _).trans (teq hc14).1) (by decide) (by decide) k) ?_
            show own_Go p e below _ (T13.setTop (mkF m 65 #[rv o0, rv o1, iv p2, iv v2] []))
            refine own_by (B := T13.setTop (mkF m 67 #[rv o0, rv o1, iv p2, iv v2] [(.int (1 : Int32)), (.ref o0)])) (fun t k => ?_) ?_
            · show Steps p.tables e below (T13.setTop (mkF m 65 #[rv o0, rv o1, iv p2, iv v2] [])) _
              refine XS.aloadN X13.here hx rfl (hb hby d6_65) rfl rfl ?_
              show Steps p.tables e below (T13.setTop (mkF m 66 #[rv o0, rv o1, iv p2, iv v2] [(.ref o0)])) _
              refine XS.iconst X13.here hx rfl (hb hby d6_66) ?_
              show Steps p.tables e below (T13.setTop (mkF m 67 #[rv o0, rv o1, iv p2, iv v2] [(.int (1 : Int32)), (.ref o0)])) _
              exact k
            refine own_c2 (putFN X13 hx hZ hown (hw _ (List.mem_of_getElem? (i := 21) rfl)) Via.refl e13 F_lineEmpty_o0 E_o0 (Or.inl (hw _ (List.mem_of_getElem? (i := 22) rfl))) (hw _ (List.mem_of_getElem? (i := 13) rfl)) (ty := .boolean) (v' := (.int (1 : Int32))) (by decide) rfl rfl rfl rfl (hb hby d6_67)) fun T15 h15 X15 e15 W15 => ?_
            replace F_lineEmpty_o0 := F_lineEmpty_o0.same W15
            replace E_o0 := E_o0.wr W15
            replace F_scanned_o0 := F_scanned_o0.other W15 (Or.inr (sn0 hw))
            replace F_end_o0 := F_end_o0.other W15 (Or.inr (sn1 hw))
            replace F_started_o0 := F_started_o0.other W15 (Or.inr (sn2 hw))
            replace V_o1 := V_o1.other W15 ne_o1_o0
            replace K0 := K0.wr W15 (Or.inl (List.mem_of_getElem? (i := 0) rfl))
            replace Z0 := Nat.le_trans Z0 (Keep.of_wr W15).1
            replace N0 := Fr.snoc X15 N0 g_o0
            show own_Go p e below _ (T15.setTop (mkF m 70 #[rv o0, rv o1, iv p2, iv v2] []))
            refine own_by (B := T15.setTop (mkF m 0 #[rv o0, rv o1, iv p2, iv v2] [])) (fun t k => ?_) ?_
            · show Steps p.tables e below (T15.setTop (mkF m 70 #[rv o0, rv o1, iv p2, iv v2] [])) _
              refine XS.goto X15.here hx rfl (pc0 := 70) (pc' := 84) rfl (hb hby d6_70) (by decide) (by decide) ?_
              show Steps p.tables e below (T15.setTop (mkF m 84 #[rv o0, rv o1, iv p2, iv v2] [])) _
              refine XS.goto X15.here hx rfl (pc0 := 84) (pc' := 0) rfl (hb hby d6_84) (by decide) (by decide) ?_
              show Steps p.tables e below (T15.setTop (mkF m 0 #[rv o0, rv o1, iv p2, iv v2] [])) _
              exact k
            rw [show fnd [v2, v3, v4] (2 : Int32) p2 en le sd = fnd [v3, v4] (3 : Int32) p2 en (1 : Int32) sd from by simp only [fnd, if_pos hc2, if_pos hc4, if_pos hc8, if_neg hc10, if_pos hc14] <;> rfl]
            exact fl_3 o0 o1 p2 en (1 : Int32) sd v0 v1 v2 v3 v4 kb (iv v2) (One.val rfl) X15 hx hZ hw hby hml hown Bret Blk e15 N0 Z0 K0 E_o0 F_scanned_o0 F_end_o0 F_lineEmpty_o0 F_started_o0 V_o1 ne_o1_o0 g_o0 hn5
          · skip
            refine own_by (fun t k => XS.ifNo X13.here hx rfl (hb hby d6_54) rfl ((if0 _ _).trans (feq hc14).1) k) ?_
            show own_Go p e below _ (T13.setTop (mkF m 57 #[rv o0, rv o1, iv p2, iv v2] []))
            refine own_by (B := T13.setTop (mkF m 59 #[rv o0, rv o1, iv p2, iv v2] [(.ref o0), (.ref o0)])) (fun t k => ?_) ?_
            · show Steps p.tables e below (T13.setTop (mkF m 57 #[rv o0, rv o1, iv p2, iv v2] [])) _
              refine XS.aloadN X13.here hx rfl (hb hby d6_57) rfl rfl ?_
              show Steps p.tables e below (T13.setTop (mkF m 58 #[rv o0, rv o1, iv p2, iv v2] [(.ref o0)])) _
              refine XS.aloadN X13.here hx rfl (hb hby d6_58) rfl rfl ?_
              show Steps p.tables e below (T13.setTop (mkF m 59 #[rv o0, rv o1, iv p2, iv v2] [(.ref o0), (.ref o0)])) _
              exact k
            refine own_c1 (getF X13 hx hZ hown (host := "") (Or.inl (hw _ (List.mem_of_getElem? (i := 30) rfl))) Via.refl e13 F_scanned_o0 rfl rfl (hb hby d6_59)) fun T16 X16 e16 => ?_
            show own_Go p e below _ (T16.setTop (mkF m 62 #[rv o0, rv o1, iv p2, iv v2] [(.int (3 : Int32)), (.ref o0)]))
            refine own_c2 (putF X16 hx hZ hown (host := "") (Or.inl (hw _ (List.mem_of_getElem? (i := 23) rfl))) Via.refl e16 F_end_o0 E_o0 (Or.inl (hw _ (List.mem_of_getElem? (i := 24) rfl))) (hw _ (List.mem_of_getElem? (i := 13) rfl)) (ty := .int) (by decide) rfl rfl rfl rfl (hb hby d6_62)) fun T17 h17 X17 e17 W17 => ?_
            replace F_end_o0 := F_end_o0.same W17
            replace E_o0 := E_o0.wr W17
            replace F_scanned_o0 := F_scanned_o0.other W17 (Or.inr (sn3 hw))
            replace F_lineEmpty_o0 := F_lineEmpty_o0.other W17 (Or.inr (sn4 hw))
            replace F_started_o0 := F_started_o0.other W17 (Or.inr (sn5 hw))
            replace V_o1 := V_o1.other W17 ne_o1_o0
            replace K0 := K0.wr W17 (Or.inl (List.mem_of_getElem? (i := 0) rfl))
            replace Z0 := Nat.le_trans Z0 (Keep.of_wr W17).1
            replace N0 := Fr.snoc X17 N0 g_o0
            show own_Go p e below _ (T17.setTop (mkF m 65 #[rv o0, rv o1, iv p2, iv v2] []))
            refine own_by (B := T17.setTop (mkF m 67 #[rv o0, rv o1, iv p2, iv v2] [(.int (1 : Int32)), (.ref o0)])) (fun t k => ?_) ?_
            · show Steps p.tables e below (T17.setTop (mkF m 65 #[rv o0, rv o1, iv p2, iv v2] [])) _
              refine XS.aloadN X17.here hx rfl (hb hby d6_65) rfl rfl ?_
              show Steps p.tables e below (T17.setTop (mkF m 66 #[rv o0, rv o1, iv p2, iv v2] [(.ref o0)])) _
              refine XS.iconst X17.here hx rfl (hb hby d6_66) ?_
              show Steps p.tables e below (T17.setTop (mkF m 67 #[rv o0, rv o1, iv p2, iv v2] [(.int (1 : Int32)), (.ref o0)])) _
              exact k
            refine own_c2 (putFN X17 hx hZ hown (hw _ (List.mem_of_getElem? (i := 21) rfl)) Via.refl e17 F_lineEmpty_o0 E_o0 (Or.inl (hw _ (List.mem_of_getElem? (i := 22) rfl))) (hw _ (List.mem_of_getElem? (i := 13) rfl)) (ty := .boolean) (v' := (.int (1 : Int32))) (by decide) rfl rfl rfl rfl (hb hby d6_67)) fun T18 h18 X18 e18 W18 => ?_
            replace F_lineEmpty_o0 := F_lineEmpty_o0.same W18
            replace E_o0 := E_o0.wr W18
            replace F_scanned_o0 := F_scanned_o0.other W18 (Or.inr (sn0 hw))
            replace F_end_o0 := F_end_o0.other W18 (Or.inr (sn1 hw))
            replace F_started_o0 := F_started_o0.other W18 (Or.inr (sn2 hw))
            replace V_o1 := V_o1.other W18 ne_o1_o0
            replace K0 := K0.wr W18 (Or.inl (List.mem_of_getElem? (i := 0) rfl))
            replace Z0 := Nat.le_trans Z0 (Keep.of_wr W18).1
            replace N0 := Fr.snoc X18 N0 g_o0
            show own_Go p e below _ (T18.setTop (mkF m 70 #[rv o0, rv o1, iv p2, iv v2] []))
            refine own_by (B := T18.setTop (mkF m 0 #[rv o0, rv o1, iv p2, iv v2] [])) (fun t k => ?_) ?_
            · show Steps p.tables e below (T18.setTop (mkF m 70 #[rv o0, rv o1, iv p2, iv v2] [])) _
              refine XS.goto X18.here hx rfl (pc0 := 70) (pc' := 84) rfl (hb hby d6_70) (by decide) (by decide) ?_
              show Steps p.tables e below (T18.setTop (mkF m 84 #[rv o0, rv o1, iv p2, iv v2] [])) _
              refine XS.goto X18.here hx rfl (pc0 := 84) (pc' := 0) rfl (hb hby d6_84) (by decide) (by decide) ?_
              show Steps p.tables e below (T18.setTop (mkF m 0 #[rv o0, rv o1, iv p2, iv v2] [])) _
              exact k
            rw [show fnd [v2, v3, v4] (2 : Int32) p2 en le sd = fnd [v3, v4] (3 : Int32) p2 (3 : Int32) (1 : Int32) sd from by simp only [fnd, if_pos hc2, if_pos hc4, if_pos hc8, if_neg hc10, if_neg hc14] <;> rfl]
            exact fl_3 o0 o1 p2 (3 : Int32) (1 : Int32) sd v0 v1 v2 v3 v4 kb (iv v2) (One.val rfl) X18 hx hZ hw hby hml hown Bret Blk e18 N0 Z0 K0 E_o0 F_scanned_o0 F_end_o0 F_lineEmpty_o0 F_started_o0 V_o1 ne_o1_o0 g_o0 hn5
      · skip
        refine own_by (fun t k => XS.icmpYes X6.here hx rfl (pc0 := 32) (pc' := 73) rfl (hb hby d6_32) rfl (feq hc8).2 (by decide) (by decide) k) ?_
        show own_Go p e below _ (T6.setTop (mkF m 73 #[rv o0, rv o1, iv p2, iv v2] []))
        refine own_by (B := T6.setTop (mkF m 76 #[rv o0, rv o1, iv p2, iv v2] [(.int (13 : Int32)), (.int v2)])) (fun t k => ?_) ?_
        · show Steps p.tables e below (T6.setTop (mkF m 73 #[rv o0, rv o1, iv p2, iv v2] [])) _
          refine XS.iloadN X6.here hx rfl (hb hby d6_73) rfl ?_
          show Steps p.tables e below (T6.setTop (mkF m 74 #[rv o0, rv o1, iv p2, iv v2] [(.int v2)])) _
          refine XS.bipush X6.here hx rfl (hb hby d6_74) ?_
          show Steps p.tables e below (T6.setTop (mkF m 76 #[rv o0, rv o1, iv p2, iv v2] [(.int (13 : Int32)), (.int v2)])) _
          exact k
        by_cases hc19 : v2 = (13 : Int32)
        · skip
          refine own_by (fun t k => XS.icmpYes X6.here hx rfl (pc0 := 76) (pc' := 84) rfl (hb hby d6_76) rfl (teq hc19).1 (by decide) (by decide) k) ?_
          show own_Go p e below _ (T6.setTop (mkF m 84 #[rv o0, rv o1, iv p2, iv v2] []))
          refine own_by (B := T6.setTop (mkF m 0 #[rv o0, rv o1, iv p2, iv v2] [])) (fun t k => ?_) ?_
          · show Steps p.tables e below (T6.setTop (mkF m 84 #[rv o0, rv o1, iv p2, iv v2] [])) _
            refine XS.goto X6.here hx rfl (pc0 := 84) (pc' := 0) rfl (hb hby d6_84) (by decide) (by decide) ?_
            show Steps p.tables e below (T6.setTop (mkF m 0 #[rv o0, rv o1, iv p2, iv v2] [])) _
            exact k
          rw [show fnd [v2, v3, v4] (2 : Int32) p2 en le sd = fnd [v3, v4] (3 : Int32) p2 en le sd from by simp only [fnd, if_pos hc2, if_pos hc4, if_neg hc8, if_pos hc19] <;> rfl]
          exact fl_3 o0 o1 p2 en le sd v0 v1 v2 v3 v4 kb (iv v2) (One.val rfl) X6 hx hZ hw hby hml hown Bret Blk e6 N0 Z0 K0 E_o0 F_scanned_o0 F_end_o0 F_lineEmpty_o0 F_started_o0 V_o1 ne_o1_o0 g_o0 hn5
        · skip
          refine own_by (fun t k => XS.icmpNo X6.here hx rfl (hb hby d6_76) rfl (feq hc19).1 k) ?_
          show own_Go p e below _ (T6.setTop (mkF m 79 #[rv o0, rv o1, iv p2, iv v2] []))
          refine own_by (B := T6.setTop (mkF m 81 #[rv o0, rv o1, iv p2, iv v2] [(.int (0 : Int32)), (.ref o0)])) (fun t k => ?_) ?_
          · show Steps p.tables e below (T6.setTop (mkF m 79 #[rv o0, rv o1, iv p2, iv v2] [])) _
            refine XS.aloadN X6.here hx rfl (hb hby d6_79) rfl rfl ?_
            show Steps p.tables e below (T6.setTop (mkF m 80 #[rv o0, rv o1, iv p2, iv v2] [(.ref o0)])) _
            refine XS.iconst X6.here hx rfl (hb hby d6_80) ?_
            show Steps p.tables e below (T6.setTop (mkF m 81 #[rv o0, rv o1, iv p2, iv v2] [(.int (0 : Int32)), (.ref o0)])) _
            exact k
          refine own_c2 (putFN X6 hx hZ hown (hw _ (List.mem_of_getElem? (i := 21) rfl)) Via.refl e6 F_lineEmpty_o0 E_o0 (Or.inl (hw _ (List.mem_of_getElem? (i := 22) rfl))) (hw _ (List.mem_of_getElem? (i := 13) rfl)) (ty := .boolean) (v' := (.int (0 : Int32))) (by decide) rfl rfl rfl rfl (hb hby d6_81)) fun T20 h20 X20 e20 W20 => ?_
          replace F_lineEmpty_o0 := F_lineEmpty_o0.same W20
          replace E_o0 := E_o0.wr W20
          replace F_scanned_o0 := F_scanned_o0.other W20 (Or.inr (sn0 hw))
          replace F_end_o0 := F_end_o0.other W20 (Or.inr (sn1 hw))
          replace F_started_o0 := F_started_o0.other W20 (Or.inr (sn2 hw))
          replace V_o1 := V_o1.other W20 ne_o1_o0
          replace K0 := K0.wr W20 (Or.inl (List.mem_of_getElem? (i := 0) rfl))
          replace Z0 := Nat.le_trans Z0 (Keep.of_wr W20).1
          replace N0 := Fr.snoc X20 N0 g_o0
          show own_Go p e below _ (T20.setTop (mkF m 84 #[rv o0, rv o1, iv p2, iv v2] []))
          refine own_by (B := T20.setTop (mkF m 0 #[rv o0, rv o1, iv p2, iv v2] [])) (fun t k => ?_) ?_
          · show Steps p.tables e below (T20.setTop (mkF m 84 #[rv o0, rv o1, iv p2, iv v2] [])) _
            refine XS.goto X20.here hx rfl (pc0 := 84) (pc' := 0) rfl (hb hby d6_84) (by decide) (by decide) ?_
            show Steps p.tables e below (T20.setTop (mkF m 0 #[rv o0, rv o1, iv p2, iv v2] [])) _
            exact k
          rw [show fnd [v2, v3, v4] (2 : Int32) p2 en le sd = fnd [v3, v4] (3 : Int32) p2 en (0 : Int32) sd from by simp only [fnd, if_pos hc2, if_pos hc4, if_neg hc8, if_neg hc19] <;> rfl]
          exact fl_3 o0 o1 p2 en (0 : Int32) sd v0 v1 v2 v3 v4 kb (iv v2) (One.val rfl) X20 hx hZ hw hby hml hown Bret Blk e20 N0 Z0 K0 E_o0 F_scanned_o0 F_end_o0 F_lineEmpty_o0 F_started_o0 V_o1 ne_o1_o0 g_o0 hn5
    · skip
      refine own_by (fun t k => XS.icmpYes X3.here hx rfl (pc0 := 12) (pc' := 87) rfl (hb hby d6_12) rfl (flt hc4).2.1 (by decide) (by decide) k) ?_
      show own_Go p e below _ (T3.setTop (mkF m 87 #[rv o0, rv o1, iv p2, sl] []))
      refine own_by (B := T3.setTop (mkF m 88 #[rv o0, rv o1, iv p2, sl] [(.ref o0)])) (fun t k => ?_) ?_
      · show Steps p.tables e below (T3.setTop (mkF m 87 #[rv o0, rv o1, iv p2, sl] [])) _
        refine XS.aloadN X3.here hx rfl (hb hby d6_87) rfl rfl ?_
        show Steps p.tables e below (T3.setTop (mkF m 88 #[rv o0, rv o1, iv p2, sl] [(.ref o0)])) _
        exact k
      refine own_c1 (getF X3 hx hZ hown (host := "") (Or.inl (hw _ (List.mem_of_getElem? (i := 23) rfl))) Via.refl e3 F_end_o0 rfl rfl (hb hby d6_88)) fun T21 X21 e21 => ?_
      show own_Go p e below _ (T21.setTop (mkF m 91 #[rv o0, rv o1, iv p2, sl] [(.int en)]))
      exact own_retI X21 Blk hx Bret (hb hby d6_91) (by
          rw [show T21.heap = h1 from e21]
          exact (by rw [show fnd [v2, v3, v4] (2 : Int32) p2 en le sd = (en, (2 : Int32), le, sd) from by simp only [fnd, if_pos hc2, if_neg hc4]]; exact ⟨rfl, N0, K0, E_o0, F_scanned_o0, F_end_o0, F_lineEmpty_o0, F_started_o0⟩)) (by decide) (by decide)
  · skip
    refine own_by (fun t k => XS.ifYes X1.here hx rfl (pc0 := 4) (pc' := 87) rfl (hb hby d6_4) rfl ((if0 _ _).trans (flt hc2).2.1) (by decide) (by decide) k) ?_
    show own_Go p e below _ (T1.setTop (mkF m 87 #[rv o0, rv o1, iv p2, sl] []))
    refine own_by (B := T1.setTop (mkF m 88 #[rv o0, rv o1, iv p2, sl] [(.ref o0)])) (fun t k => ?_) ?_
    · show Steps p.tables e below (T1.setTop (mkF m 87 #[rv o0, rv o1, iv p2, sl] [])) _
      refine XS.aloadN X1.here hx rfl (hb hby d6_87) rfl rfl ?_
      show Steps p.tables e below (T1.setTop (mkF m 88 #[rv o0, rv o1, iv p2, sl] [(.ref o0)])) _
      exact k
    refine own_c1 (getF X1 hx hZ hown (host := "") (Or.inl (hw _ (List.mem_of_getElem? (i := 23) rfl))) Via.refl e1 F_end_o0 rfl rfl (hb hby d6_88)) fun T22 X22 e22 => ?_
    show own_Go p e below _ (T22.setTop (mkF m 91 #[rv o0, rv o1, iv p2, sl] [(.int en)]))
    exact own_retI X22 Blk hx Bret (hb hby d6_91) (by
        rw [show T22.heap = h1 from e22]
        exact (by rw [show fnd [v2, v3, v4] (2 : Int32) p2 en le sd = (en, (2 : Int32), le, sd) from by simp only [fnd, if_neg hc2]]; exact ⟨rfl, N0, K0, E_o0, F_scanned_o0, F_end_o0, F_lineEmpty_o0, F_started_o0⟩)) (by decide) (by decide)

set_option maxRecDepth 65536 in
set_option maxHeartbeats 40000000 in
theorem fl_1 {p : Program} {l : Launch} {e : Env} {s : State} {m : MethodId} {args : Array Value} {below : List Frame} {meth : Method} {c : Code} {s₁ : State} {locs : List Loc} {Z : State} {a0 : Array Value} {h0 h1 : Heap} {n0 : Nat}  (o0 : Addr) (o1 : Addr) (p2 : Int32) (en : Int32) (le : Int32) (sd : Int32) (v0 : Int32) (v1 : Int32) (v2 : Int32) (v3 : Int32) (v4 : Int32) (kb : ClassId) (sl : Slot) (h3 : One sl)
    (X0 : Stand p l e ({ frames := 0, cells := 0, slots := 0, locals := 0 } : Room) s m args below meth c s₁ locs 0 0) (hx : p.tables.exec = Jvm.exec) (hZ : Z.Warmed39 s.vm) (hw : ∀ d ∈ tables_1, d.before a0 Z = true) (hby : c.code = prog_37_method_2_code) (hml : c.maxLocals = 4) (hown : s.vm.findClass "com/example/chartwell/chartwell/http/RequestReader$HeadEnd" = some m.cls) (Bret : meth.sig.returnType = some .int) (Blk : meth.locks = false) (e0 : s₁.heap = h1) (N0 : Fr n0 locs) (Z0 : n0 ≤ h1.size) (K0 : Keep h0 h1 [o0]) (E_o0 : Exa Z h1 o0 "com/example/chartwell/chartwell/http/RequestReader$HeadEnd") (F_scanned_o0 : Fld Z h1 o0 "com/example/chartwell/chartwell/http/RequestReader$HeadEnd" "scanned" "I" (.int (1 : Int32))) (F_end_o0 : Fld Z h1 o0 "com/example/chartwell/chartwell/http/RequestReader$HeadEnd" "end" "I" (.int en)) (F_lineEmpty_o0 : Fld Z h1 o0 "com/example/chartwell/chartwell/http/RequestReader$HeadEnd" "lineEmpty" "Z" (.int le)) (F_started_o0 : Fld Z h1 o0 "com/example/chartwell/chartwell/http/RequestReader$HeadEnd" "started" "Z" (.int sd)) (V_o1 : Arv Z h1 o1 kb .byte (5 : Int32) [(.int v0), (.int v1), (.int v2), (.int v3), (.int v4)] (.int (0 : Int32))) (ne_o1_o0 : o1 ≠ o0) (g_o0 : n0 ≤ o0) (hn5 : ¬ ((5 : Int32) < p2)) :
    own_Go p e below (own_Post s (QF Z o0 (fnd [v1, v2, v3, v4] (1 : Int32) p2 en le sd) h0 n0) ({ frames := 0, cells := 0, slots := 0, locals := 0 } : Room).cells ({ frames := 0, cells := 0, slots := 0, locals := 0 } : Room).slots) (s₁.setTop (mkF m 0 #[rv o0, rv o1, iv p2, sl] [])) := by
  show own_Go p e below _ (s₁.setTop (mkF m 0 #[rv o0, rv o1, iv p2, sl] []))
  refine own_by (B := s₁.setTop (mkF m 1 #[rv o0, rv o1, iv p2, sl] [(.ref o0)])) (fun t k => ?_) ?_
  · show Steps p.tables e below (s₁.setTop (mkF m 0 #[rv o0, rv o1, iv p2, sl] [])) _
    refine XS.aloadN X0.here hx rfl (hb hby d6_0) rfl rfl ?_
    show Steps p.tables e below (s₁.setTop (mkF m 1 #[rv o0, rv o1, iv p2, sl] [(.ref o0)])) _
    exact k
  refine own_c1 (getF X0 hx hZ hown (host := "") (Or.inl (hw _ (List.mem_of_getElem? (i := 23) rfl))) Via.refl e0 F_end_o0 rfl rfl (hb hby d6_1)) fun T1 X1 e1 => ?_
  show own_Go p e below _ (T1.setTop (mkF m 4 #[rv o0, rv o1, iv p2, sl] [(.int en)]))
  by_cases hc2 : en < (0 : Int32)
  · skip
    refine own_by (fun t k => XS.ifNo X1.here hx rfl (hb hby d6_4) rfl ((if0 _ _).trans (tlt hc2).2.1) k) ?_
    show own_Go p e below _ (T1.setTop (mkF m 7 #[rv o0, rv o1, iv p2, sl] []))
    refine own_by (B := T1.setTop (mkF m 8 #[rv o0, rv o1, iv p2, sl] [(.ref o0)])) (fun t k => ?_) ?_
    · show Steps p.tables e below (T1.setTop (mkF m 7 #[rv o0, rv o1, iv p2, sl] [])) _
      refine XS.aloadN X1.here hx rfl (hb hby d6_7) rfl rfl ?_
      show Steps p.tables e below (T1.setTop (mkF m 8 #[rv o0, rv o1, iv p2, sl] [(.ref o0)])) _
      exact k
    refine own_c1 (getF X1 hx hZ hown (host := "") (Or.inl (hw _ (List.mem_of_getElem? (i := 30) rfl))) Via.refl e1 F_scanned_o0 rfl rfl (hb hby d6_8)) fun T3 X3 e3 => ?_
    show own_Go p e below _ (T3.setTop (mkF m 11 #[rv o0, rv o1, iv p2, sl] [(.int (1 : Int32))]))
    refine own_by (B := T3.setTop (mkF m 12 #[rv o0, rv o1, iv p2, sl] [(.int p2), (.int (1 : Int32))])) (fun t k => ?_) ?_
    · show Steps p.tables e below (T3.setTop (mkF m 11 #[rv o0, rv o1, iv p2, sl] [(.int (1 : Int32))])) _
      refine XS.iloadN X3.here hx rfl (hb hby d6_11) rfl ?_
      show Steps p.tables e below (T3.setTop (mkF m 12 #[rv o0, rv o1, iv p2, sl] [(.int p2), (.int (1 : Int32))])) _
      exact k
    by_cases hc4 : (1 : Int32) < p2
    · skip
      refine own_by (fun t k => XS.icmpNo X3.here hx rfl (hb hby d6_12) rfl (tlt hc4).2.1 k) ?_
      show own_Go p e below _ (T3.setTop (mkF m 15 #[rv o0, rv o1, iv p2, sl] []))
      refine own_by (B := T3.setTop (mkF m 18 #[rv o0, rv o1, iv p2, sl] [(.ref o0), (.ref o0), (.ref o1)])) (fun t k => ?_) ?_
      · show Steps p.tables e below (T3.setTop (mkF m 15 #[rv o0, rv o1, iv p2, sl] [])) _
        refine XS.aloadN X3.here hx rfl (hb hby d6_15) rfl rfl ?_
        show Steps p.tables e below (T3.setTop (mkF m 16 #[rv o0, rv o1, iv p2, sl] [(.ref o1)])) _
        refine XS.aloadN X3.here hx rfl (hb hby d6_16) rfl rfl ?_
        show Steps p.tables e below (T3.setTop (mkF m 17 #[rv o0, rv o1, iv p2, sl] [(.ref o0), (.ref o1)])) _
        refine XS.dup X3.here hx rfl (hb hby d6_17) rfl rfl ?_
        show Steps p.tables e below (T3.setTop (mkF m 18 #[rv o0, rv o1, iv p2, sl] [(.ref o0), (.ref o0), (.ref o1)])) _
        exact k
      refine own_c1 (getF X3 hx hZ hown (host := "") (Or.inl (hw _ (List.mem_of_getElem? (i := 30) rfl))) Via.refl e3 F_scanned_o0 rfl rfl (hb hby d6_18)) fun T5 X5 e5 => ?_
      show own_Go p e below _ (T5.setTop (mkF m 21 #[rv o0, rv o1, iv p2, sl] [(.int (1 : Int32)), (.ref o0), (.ref o1)]))
      refine own_by (B := T5.setTop (mkF m 24 #[rv o0, rv o1, iv p2, sl] [(.int (2 : Int32)), (.ref o0), (.int (1 : Int32)), (.ref o1)])) (fun t k => ?_) ?_
      · show Steps p.tables e below (T5.setTop (mkF m 21 #[rv o0, rv o1, iv p2, sl] [(.int (1 : Int32)), (.ref o0), (.ref o1)])) _
        refine XS.dupX1 X5.here hx rfl (hb hby d6_21) rfl rfl rfl ?_
        show Steps p.tables e below (T5.setTop (mkF m 22 #[rv o0, rv o1, iv p2, sl] [(.int (1 : Int32)), (.ref o0), (.int (1 : Int32)), (.ref o1)])) _
        refine XS.iconst X5.here hx rfl (hb hby d6_22) ?_
        show Steps p.tables e below (T5.setTop (mkF m 23 #[rv o0, rv o1, iv p2, sl] [(.int (1 : Int32)), (.int (1 : Int32)), (.ref o0), (.int (1 : Int32)), (.ref o1)])) _
        refine XS.iadd X5.here hx rfl (hb hby d6_23) rfl ?_
        show Steps p.tables e below (T5.setTop (mkF m 24 #[rv o0, rv o1, iv p2, sl] [(.int (2 : Int32)), (.ref o0), (.int (1 : Int32)), (.ref o1)])) _
        exact k
      refine own_c2 (putF X5 hx hZ hown (host := "") (Or.inl (hw _ (List.mem_of_getElem? (i := 30) rfl))) Via.refl e5 F_scanned_o0 E_o0 (Or.inl (hw _ (List.mem_of_getElem? (i := 31) rfl))) (hw _ (List.mem_of_getElem? (i := 13) rfl)) (ty := .int) (by decide) rfl rfl rfl rfl (hb hby d6_24)) fun T6 h6 X6 e6 W6 => ?_
      replace F_scanned_o0 := F_scanned_o0.same W6
      replace E_o0 := E_o0.wr W6
      replace F_end_o0 := F_end_o0.other W6 (Or.inr (sn6 hw))
      replace F_lineEmpty_o0 := F_lineEmpty_o0.other W6 (Or.inr (sn7 hw))
      replace F_started_o0 := F_started_o0.other W6 (Or.inr (sn8 hw))
      replace V_o1 := V_o1.other W6 ne_o1_o0
      replace K0 := K0.wr W6 (Or.inl (List.mem_of_getElem? (i := 0) rfl))
      replace Z0 := Nat.le_trans Z0 (Keep.of_wr W6).1
      replace N0 := Fr.snoc X6 N0 g_o0
      show own_Go p e below _ (T6.setTop (mkF m 27 #[rv o0, rv o1, iv p2, sl] [(.int (1 : Int32)), (.ref o1)]))
      refine own_by (B := T6.setTop (mkF m 32 #[rv o0, rv o1, iv p2, iv v1] [(.int (10 : Int32)), (.int v1)])) (fun t k => ?_) ?_
      · show Steps p.tables e below (T6.setTop (mkF m 27 #[rv o0, rv o1, iv p2, sl] [(.int (1 : Int32)), (.ref o1)])) _
        obtain ⟨cl7, Ar7, q7, S7, N7, H7, G7⟩ := id V_o1
        have hin7 : ¬ ((1 : Int32) < 0 ∨ cl7.slots.size ≤ ((1 : Int32)).toNatClampNeg) := inb_of S7 ⟨by decide, by decide⟩
        have hat7 : cl7.slots[((1 : Int32)).toNatClampNeg]? = some (.int v1) := H7.at hin7 rfl
        refine X6.baloadBytes hx (j := (1 : Int32)) (v := (.int v1)) (by rw [show T6.heap = h6 from e6]; exact Ar7.1) (State.isArrayOf_alike hZ.alike Ar7.2.1) Ar7.2.2 hin7 hat7 (g := (mkF m 27 #[rv o0, rv o1, iv p2, sl] [(.int (1 : Int32)), (.ref o1)])) rfl rfl (hb hby d6_27) _ ?_
        show Steps p.tables e below (T6.setTop (mkF m 28 #[rv o0, rv o1, iv p2, sl] [(.int v1)])) _
        refine XS.istoreN X6.here hx rfl (hb hby d6_28) rfl (l' := #[rv o0, rv o1, iv p2, iv v1]) (own_os h3) ?_
        show Steps p.tables e below (T6.setTop (mkF m 29 #[rv o0, rv o1, iv p2, iv v1] [])) _
        refine XS.iloadN X6.here hx rfl (hb hby d6_29) rfl ?_
        show Steps p.tables e below (T6.setTop (mkF m 30 #[rv o0, rv o1, iv p2, iv v1] [(.int v1)])) _
        refine XS.bipush X6.here hx rfl (hb hby d6_30) ?_
        show Steps p.tables e below (T6.setTop (mkF m 32 #[rv o0, rv o1, iv p2, iv v1] [(.int (10 : Int32)), (.int v1)])) _
        exact k
      by_cases hc8 : v1 = (10 : Int32)
      · skip
        refine own_by (fun t k => XS.icmpNo X6.here hx rfl (hb hby d6_32) rfl (teq hc8).2 k) ?_
        show own_Go p e below _ (T6.setTop (mkF m 35 #[rv o0, rv o1, iv p2, iv v1] []))
        refine own_by (B := T6.setTop (mkF m 36 #[rv o0, rv o1, iv p2, iv v1] [(.ref o0)])) (fun t k => ?_) ?_
        · show Steps p.tables e below (T6.setTop (mkF m 35 #[rv o0, rv o1, iv p2, iv v1] [])) _
          refine XS.aloadN X6.here hx rfl (hb hby d6_35) rfl rfl ?_
          show Steps p.tables e below (T6.setTop (mkF m 36 #[rv o0, rv o1, iv p2, iv v1] [(.ref o0)])) _
          exact k
        refine own_c1 (getF X6 hx hZ hown (host := "") (Or.inl (hw _ (List.mem_of_getElem? (i := 21) rfl))) Via.refl e6 F_lineEmpty_o0 rfl rfl (hb hby d6_36)) fun T9 X9 e9 => ?_
        show own_Go p e below _ (T9.setTop (mkF m 39 #[rv o0, rv o1, iv p2, iv v1] [(.int le)]))
        by_cases hc10 : le = (0 : Int32)
        · skip
          refine own_by (fun t k => XS.ifNo X9.here hx rfl (hb hby d6_39) rfl ((if0 _ _).trans (teq hc10).2) k) ?_
          show own_Go p e below _ (T9.setTop (mkF m 42 #[rv o0, rv o1, iv p2, iv v1] []))
          refine own_by (B := T9.setTop (mkF m 44 #[rv o0, rv o1, iv p2, iv v1] [(.int (1 : Int32)), (.ref o0)])) (fun t k => ?_) ?_
          · show Steps p.tables e below (T9.setTop (mkF m 42 #[rv o0, rv o1, iv p2, iv v1] [])) _
            refine XS.aloadN X9.here hx rfl (hb hby d6_42) rfl rfl ?_
            show Steps p.tables e below (T9.setTop (mkF m 43 #[rv o0, rv o1, iv p2, iv v1] [(.ref o0)])) _
            refine XS.iconst X9.here hx rfl (hb hby d6_43) ?_
            show Steps p.tables e below (T9.setTop (mkF m 44 #[rv o0, rv o1, iv p2, iv v1] [(.int (1 : Int32)), (.ref o0)])) _
            exact k
          refine own_c2 (putFN X9 hx hZ hown (hw _ (List.mem_of_getElem? (i := 32) rfl)) Via.refl e9 F_started_o0 E_o0 (Or.inl (hw _ (List.mem_of_getElem? (i := 33) rfl))) (hw _ (List.mem_of_getElem? (i := 13) rfl)) (ty := .boolean) (v' := (.int (1 : Int32))) (by decide) rfl rfl rfl rfl (hb hby d6_44)) fun T11 h11 X11 e11 W11 => ?_
          replace F_started_o0 := F_started_o0.same W11
          replace E_o0 := E_o0.wr W11
          replace F_scanned_o0 := F_scanned_o0.other W11 (Or.inr (sn9 hw))
          replace F_end_o0 := F_end_o0.other W11 (Or.inr (sn10 hw))
          replace F_lineEmpty_o0 := F_lineEmpty_o0.other W11 (Or.inr (sn11 hw))
          replace V_o1 := V_o1.other W11 ne_o1_o0
          replace K0 := K0.wr W11 (Or.inl (List.mem_of_getElem? (i := 0) rfl))
          replace Z0 := Nat.le_trans Z0 (Keep.of_wr W11).1
          replace N0 := Fr.snoc X11 N0 g_o0
          show own_Go p e below _ (T11.setTop (mkF m 47 #[rv o0, rv o1, iv p2, iv v1] []))
          refine own_by (B := T11.setTop (mkF m 67 #[rv o0, rv o1, iv p2, iv v1] [(.int (1 : Int32)), (.ref o0)])) (fun t k => ?_) ?_
          · show Steps p.tables e below (T11.setTop (mkF m 47 #[rv o0, rv o1, iv p2, iv v1] [])) _
            refine XS.goto X11.here hx rfl (pc0 := 47) (pc' := 65) rfl (hb hby d6_47) (by decide) (by decide) ?_
            show Steps p.tables e below (T11.setTop (mkF m 65 #[rv o0, rv o1, iv p2, iv v1] [])) _
            refine XS.aloadN X11.here hx rfl (hb hby d6_65) rfl rfl ?_
            show Steps p.tables e below (T11.setTop (mkF m 66 #[rv o0, rv o1, iv p2, iv v1] [(.ref o0)])) _
            refine XS.iconst X11.here hx rfl (hb hby d6_66) ?_
            show Steps p.tables e below (T11.setTop (mkF m 67 #[rv o0, rv o1, iv p2, iv v1] [(.int (1 : Int32)), (.ref o0)])) _
            exact k
          refine own_c2 (putFN X11 hx hZ hown (hw _ (List.mem_of_getElem? (i := 21) rfl)) Via.refl e11 F_lineEmpty_o0 E_o0 (Or.inl (hw _ (List.mem_of_getElem? (i := 22) rfl))) (hw _ (List.mem_of_getElem? (i := 13) rfl)) (ty := .boolean) (v' := (.int (1 : Int32))) (by decide) rfl rfl rfl rfl (hb hby d6_67)) fun T12 h12 X12 e12 W12 => ?_
          replace F_lineEmpty_o0 := F_lineEmpty_o0.same W12
          replace E_o0 := E_o0.wr W12
          replace F_scanned_o0 := F_scanned_o0.other W12 (Or.inr (sn0 hw))
          replace F_end_o0 := F_end_o0.other W12 (Or.inr (sn1 hw))
          replace F_started_o0 := F_started_o0.other W12 (Or.inr (sn2 hw))
          replace V_o1 := V_o1.other W12 ne_o1_o0
          replace K0 := K0.wr W12 (Or.inl (List.mem_of_getElem? (i := 0) rfl))
          replace Z0 := Nat.le_trans Z0 (Keep.of_wr W12).1
          replace N0 := Fr.snoc X12 N0 g_o0
          show own_Go p e below _ (T12.setTop (mkF m 70 #[rv o0, rv o1, iv p2, iv v1] []))
          refine own_by (B := T12.setTop (mkF m 0 #[rv o0, rv o1, iv p2, iv v1] [])) (fun t k => ?_) ?_
          · show Steps p.tables e below (T12.setTop (mkF m 70 #[rv o0, rv o1, iv p2, iv v1] [])) _
            refine XS.goto X12.here hx rfl (pc0 := 70) (pc' := 84) rfl (hb hby d6_70) (by decide) (by decide) ?_
            show Steps p.tables e below (T12.setTop (mkF m 84 #[rv o0, rv o1, iv p2, iv v1] [])) _
            refine XS.goto X12.here hx rfl (pc0 := 84) (pc' := 0) rfl (hb hby d6_84) (by decide) (by decide) ?_
            show Steps p.tables e below (T12.setTop (mkF m 0 #[rv o0, rv o1, iv p2, iv v1] [])) _
            exact k
          rw [show fnd [v1, v2, v3, v4] (1 : Int32) p2 en le sd = fnd [v2, v3, v4] (2 : Int32) p2 en (1 : Int32) (1 : Int32) from by simp only [fnd, if_pos hc2, if_pos hc4, if_pos hc8, if_pos hc10] <;> rfl]
          exact fl_2 o0 o1 p2 en (1 : Int32) (1 : Int32) v0 v1 v2 v3 v4 kb (iv v1) (One.val rfl) X12 hx hZ hw hby hml hown Bret Blk e12 N0 Z0 K0 E_o0 F_scanned_o0 F_end_o0 F_lineEmpty_o0 F_started_o0 V_o1 ne_o1_o0 g_o0 hn5
        · skip
          refine own_by (fun t k => XS.ifYes X9.here hx rfl (pc0 := 39) (pc' := 50) rfl (hb hby d6_39) rfl ((if0 _ _).trans (feq hc10).2) (by decide) (by decide) k) ?_
          show own_Go p e below _ (T9.setTop (mkF m 50 #[rv o0, rv o1, iv p2, iv v1] []))
          refine own_by (B := T9.setTop (mkF m 51 #[rv o0, rv o1, iv p2, iv v1] [(.ref o0)])) (fun t k => ?_) ?_
          · show Steps p.tables e below (T9.setTop (mkF m 50 #[rv o0, rv o1, iv p2, iv v1] [])) _
            refine XS.aloadN X9.here hx rfl (hb hby d6_50) rfl rfl ?_
            show Steps p.tables e below (T9.setTop (mkF m 51 #[rv o0, rv o1, iv p2, iv v1] [(.ref o0)])) _
            exact k
          refine own_c1 (getF X9 hx hZ hown (host := "") (Or.inl (hw _ (List.mem_of_getElem? (i := 32) rfl))) Via.refl e9 F_started_o0 rfl rfl (hb hby d6_51)) fun T13 X13 e13 => ?_
          show own_Go p e below _ (T13.setTop (mkF m 54 #[rv o0, rv o1, iv p2, iv v1] [(.int sd)]))
          by_cases hc14 : sd = (0 : Int32)
          · skip
            refine own_by (fun t k => XS.ifYes X13.here hx rfl (pc0 := 54) (pc' := 65) rfl (hb hby d6_54) rfl ((if0 _ _).trans (teq hc14).1) (by decide) (by decide) k) ?_
            show own_Go p e below _ (T13.setTop (mkF m 65 #[rv o0, rv o1, iv p2, iv v1] []))
            refine own_by (B := T13.setTop (mkF m 67 #[rv o0, rv o1, iv p2, iv v1] [(.int (1 : Int32)), (.ref o0)])) (fun t k => ?_) ?_
            · show Steps p.tables e below (T13.setTop (mkF m 65 #[rv o0, rv o1, iv p2, iv v1] [])) _
              refine XS.aloadN X13.here hx rfl (hb hby d6_65) rfl rfl ?_
              show Steps p.tables e below (T13.setTop (mkF m 66 #[rv o0, rv o1, iv p2, iv v1] [(.ref o0)])) _
              refine XS.iconst X13.here hx rfl (hb hby d6_66) ?_
              show Steps p.tables e below (T13.setTop (mkF m 67 #[rv o0, rv o1, iv p2, iv v1] [(.int (1 : Int32)), (.ref o0)])) _
              exact k
            refine own_c2 (putFN X13 hx hZ hown (hw _ (List.mem_of_getElem? (i := 21) rfl)) Via.refl e13 F_lineEmpty_o0 E_o0 (Or.inl (hw _ (List.mem_of_getElem? (i := 22) rfl))) (hw _ (List.mem_of_getElem? (i := 13) rfl)) (ty := .boolean) (v' := (.int (1 : Int32))) (by decide) rfl rfl rfl rfl (hb hby d6_67)) fun T15 h15 X15 e15 W15 => ?_
            replace F_lineEmpty_o0 := F_lineEmpty_o0.same W15
            replace E_o0 := E_o0.wr W15
            replace F_scanned_o0 := F_scanned_o0.other W15 (Or.inr (sn0 hw))
            replace F_end_o0 := F_end_o0.other W15 (Or.inr (sn1 hw))
            replace F_started_o0 := F_started_o0.other W15 (Or.inr (sn2 hw))
            replace V_o1 := V_o1.other W15 ne_o1_o0
            replace K0 := K0.wr W15 (Or.inl (List.mem_of_getElem? (i := 0) rfl))
            replace Z0 := Nat.le_trans Z0 (Keep.of_wr W15).1
            replace N0 := Fr.snoc X15 N0 g_o0
            show own_Go p e below _ (T15.setTop (mkF m 70 #[rv o0, rv o1, iv p2, iv v1] []))
            refine own_by (B := T15.setTop (mkF m 0 #[rv o0, rv o1, iv p2, iv v1] [])) (fun t k => ?_) ?_
            · show Steps p.tables e below (T15.setTop (mkF m 70 #[rv o0, rv o1, iv p2, iv v1] [])) _
              refine XS.goto X15.here hx rfl (pc0 := 70) (pc' := 84) rfl (hb hby d6_70) (by decide) (by decide) ?_
              show Steps p.tables e below (T15.setTop (mkF m 84 #[rv o0, rv o1, iv p2, iv v1] [])) _
              refine XS.goto X15.here hx rfl (pc0 := 84) (pc' := 0) rfl (hb hby d6_84) (by decide) (by decide) ?_
              show Steps p.tables e below (T15.setTop (mkF m 0 #[rv o0, rv o1, iv p2, iv v1] [])) _
              exact k
            rw [show fnd [v1, v2, v3, v4] (1 : Int32) p2 en le sd = fnd [v2, v3, v4] (2 : Int32) p2 en (1 : Int32) sd from by simp only [fnd, if_pos hc2, if_pos hc4, if_pos hc8, if_neg hc10, if_pos hc14] <;> rfl]
            exact fl_2 o0 o1 p2 en (1 : Int32) sd v0 v1 v2 v3 v4 kb (iv v1) (One.val rfl) X15 hx hZ hw hby hml hown Bret Blk e15 N0 Z0 K0 E_o0 F_scanned_o0 F_end_o0 F_lineEmpty_o0 F_started_o0 V_o1 ne_o1_o0 g_o0 hn5
          · skip
            refine own_by (fun t k => XS.ifNo X13.here hx rfl (hb hby d6_54) rfl ((if0 _ _).trans (feq hc14).1) k) ?_
            show own_Go p e below _ (T13.setTop (mkF m 57 #[rv o0, rv o1, iv p2, iv v1] []))
            refine own_by (B := T13.setTop (mkF m 59 #[rv o0, rv o1, iv p2, iv v1] [(.ref o0), (.ref o0)])) (fun t k => ?_) ?_
            · show Steps p.tables e below (T13.setTop (mkF m 57 #[rv o0, rv o1, iv p2, iv v1] [])) _
              refine XS.aloadN X13.here hx rfl (hb hby d6_57) rfl rfl ?_
              show Steps p.tables e below (T13.setTop (mkF m 58 #[rv o0, rv o1, iv p2, iv v1] [(.ref o0)])) _
              refine XS.aloadN X13.here hx rfl (hb hby d6_58) rfl rfl ?_
              show Steps p.tables e below (T13.setTop (mkF m 59 #[rv o0, rv o1, iv p2, iv v1] [(.ref o0), (.ref o0)])) _
              exact k
            refine own_c1 (getF X13 hx hZ hown (host := "") (Or.inl (hw _ (List.mem_of_getElem? (i := 30) rfl))) Via.refl e13 F_scanned_o0 rfl rfl (hb hby d6_59)) fun T16 X16 e16 => ?_
            show own_Go p e below _ (T16.setTop (mkF m 62 #[rv o0, rv o1, iv p2, iv v1] [(.int (2 : Int32)), (.ref o0)]))
            refine own_c2 (putF X16 hx hZ hown (host := "") (Or.inl (hw _ (List.mem_of_getElem? (i := 23) rfl))) Via.refl e16 F_end_o0 E_o0 (Or.inl (hw _ (List.mem_of_getElem? (i := 24) rfl))) (hw _ (List.mem_of_getElem? (i := 13) rfl)) (ty := .int) (by decide) rfl rfl rfl rfl (hb hby d6_62)) fun T17 h17 X17 e17 W17 => ?_
            replace F_end_o0 := F_end_o0.same W17
            replace E_o0 := E_o0.wr W17
            replace F_scanned_o0 := F_scanned_o0.other W17 (Or.inr (sn3 hw))
            replace F_lineEmpty_o0 := F_lineEmpty_o0.other W17 (Or.inr (sn4 hw))
            replace F_started_o0 := F_started_o0.other W17 (Or.inr (sn5 hw))
            replace V_o1 := V_o1.other W17 ne_o1_o0
            replace K0 := K0.wr W17 (Or.inl (List.mem_of_getElem? (i := 0) rfl))
            replace Z0 := Nat.le_trans Z0 (Keep.of_wr W17).1
            replace N0 := Fr.snoc X17 N0 g_o0
            show own_Go p e below _ (T17.setTop (mkF m 65 #[rv o0, rv o1, iv p2, iv v1] []))
            refine own_by (B := T17.setTop (mkF m 67 #[rv o0, rv o1, iv p2, iv v1] [(.int (1 : Int32)), (.ref o0)])) (fun t k => ?_) ?_
            · show Steps p.tables e below (T17.setTop (mkF m 65 #[rv o0, rv o1, iv p2, iv v1] [])) _
              refine XS.aloadN X17.here hx rfl (hb hby d6_65) rfl rfl ?_
              show Steps p.tables e below (T17.setTop (mkF m 66 #[rv o0, rv o1, iv p2, iv v1] [(.ref o0)])) _
              refine XS.iconst X17.here hx rfl (hb hby d6_66) ?_
              show Steps p.tables e below (T17.setTop (mkF m 67 #[rv o0, rv o1, iv p2, iv v1] [(.int (1 : Int32)), (.ref o0)])) _
              exact k
            refine own_c2 (putFN X17 hx hZ hown (hw _ (List.mem_of_getElem? (i := 21) rfl)) Via.refl e17 F_lineEmpty_o0 E_o0 (Or.inl (hw _ (List.mem_of_getElem? (i := 22) rfl))) (hw _ (List.mem_of_getElem? (i := 13) rfl)) (ty := .boolean) (v' := (.int (1 : Int32))) (by decide) rfl rfl rfl rfl (hb hby d6_67)) fun T18 h18 X18 e18 W18 => ?_
            replace F_lineEmpty_o0 := F_lineEmpty_o0.same W18
            replace E_o0 := E_o0.wr W18
            replace F_scanned_o0 := F_scanned_o0.other W18 (Or.inr (sn0 hw))
            replace F_end_o0 := F_end_o0.other W18 (Or.inr (sn1 hw))
            replace F_started_o0 := F_started_o0.other W18 (Or.inr (sn2 hw))
            replace V_o1 := V_o1.other W18 ne_o1_o0
            replace K0 := K0.wr W18 (Or.inl (List.mem_of_getElem? (i := 0) rfl))
            replace Z0 := Nat.le_trans Z0 (Keep.of_wr W18).1
            replace N0 := Fr.snoc X18 N0 g_o0
            show own_Go p e below _ (T18.setTop (mkF m 70 #[rv o0, rv o1, iv p2, iv v1] []))
            refine own_by (B := T18.setTop (mkF m 0 #[rv o0, rv o1, iv p2, iv v1] [])) (fun t k => ?_) ?_
            · show Steps p.tables e below (T18.setTop (mkF m 70 #[rv o0, rv o1, iv p2, iv v1] [])) _
              refine XS.goto X18.here hx rfl (pc0 := 70) (pc' := 84) rfl (hb hby d6_70) (by decide) (by decide) ?_
              show Steps p.tables e below (T18.setTop (mkF m 84 #[rv o0, rv o1, iv p2, iv v1] [])) _
              refine XS.goto X18.here hx rfl (pc0 := 84) (pc' := 0) rfl (hb hby d6_84) (by decide) (by decide) ?_
              show Steps p.tables e below (T18.setTop (mkF m 0 #[rv o0, rv o1, iv p2, iv v1] [])) _
              exact k
            rw [show fnd [v1, v2, v3, v4] (1 : Int32) p2 en le sd = fnd [v2, v3, v4] (2 : Int32) p2 (2 : Int32) (1 : Int32) sd from by simp only [fnd, if_pos hc2, if_pos hc4, if_pos hc8, if_neg hc10, if_neg hc14] <;> rfl]
            exact fl_2 o0 o1 p2 (2 : Int32) (1 : Int32) sd v0 v1 v2 v3 v4 kb (iv v1) (One.val rfl) X18 hx hZ hw hby hml hown Bret Blk e18 N0 Z0 K0 E_o0 F_scanned_o0 F_end_o0 F_lineEmpty_o0 F_started_o0 V_o1 ne_o1_o0 g_o0 hn5
      · skip
        refine own_by (fun t k => XS.icmpYes X6.here hx rfl (pc0 := 32) (pc' := 73) rfl (hb hby d6_32) rfl (feq hc8).2 (by decide) (by decide) k) ?_
        show own_Go p e below _ (T6.setTop (mkF m 73 #[rv o0, rv o1, iv p2, iv v1] []))
        refine own_by (B := T6.setTop (mkF m 76 #[rv o0, rv o1, iv p2, iv v1] [(.int (13 : Int32)), (.int v1)])) (fun t k => ?_) ?_
        · show Steps p.tables e below (T6.setTop (mkF m 73 #[rv o0, rv o1, iv p2, iv v1] [])) _
          refine XS.iloadN X6.here hx rfl (hb hby d6_73) rfl ?_
          show Steps p.tables e below (T6.setTop (mkF m 74 #[rv o0, rv o1, iv p2, iv v1] [(.int v1)])) _
          refine XS.bipush X6.here hx rfl (hb hby d6_74) ?_
          show Steps p.tables e below (T6.setTop (mkF m 76 #[rv o0, rv o1, iv p2, iv v1] [(.int (13 : Int32)), (.int v1)])) _
          exact k
        by_cases hc19 : v1 = (13 : Int32)
        · skip
          refine own_by (fun t k => XS.icmpYes X6.here hx rfl (pc0 := 76) (pc' := 84) rfl (hb hby d6_76) rfl (teq hc19).1 (by decide) (by decide) k) ?_
          show own_Go p e below _ (T6.setTop (mkF m 84 #[rv o0, rv o1, iv p2, iv v1] []))
          refine own_by (B := T6.setTop (mkF m 0 #[rv o0, rv o1, iv p2, iv v1] [])) (fun t k => ?_) ?_
          · show Steps p.tables e below (T6.setTop (mkF m 84 #[rv o0, rv o1, iv p2, iv v1] [])) _
            refine XS.goto X6.here hx rfl (pc0 := 84) (pc' := 0) rfl (hb hby d6_84) (by decide) (by decide) ?_
            show Steps p.tables e below (T6.setTop (mkF m 0 #[rv o0, rv o1, iv p2, iv v1] [])) _
            exact k
          rw [show fnd [v1, v2, v3, v4] (1 : Int32) p2 en le sd = fnd [v2, v3, v4] (2 : Int32) p2 en le sd from by simp only [fnd, if_pos hc2, if_pos hc4, if_neg hc8, if_pos hc19] <;> rfl]
          exact fl_2 o0 o1 p2 en le sd v0 v1 v2 v3 v4 kb (iv v1) (One.val rfl) X6 hx hZ hw hby hml hown Bret Blk e6 N0 Z0 K0 E_o0 F_scanned_o0 F_end_o0 F_lineEmpty_o0 F_started_o0 V_o1 ne_o1_o0 g_o0 hn5
        · skip
          refine own_by (fun t k => XS.icmpNo X6.here hx rfl (hb hby d6_76) rfl (feq hc19).1 k) ?_
          show own_Go p e below _ (T6.setTop (mkF m 79 #[rv o0, rv o1, iv p2, iv v1] []))
          refine own_by (B := T6.setTop (mkF m 81 #[rv o0, rv o1, iv p2, iv v1] [(.int (0 : Int32)), (.ref o0)])) (fun t k => ?_) ?_
          · show Steps p.tables e below (T6.setTop (mkF m 79 #[rv o0, rv o1, iv p2, iv v1] [])) _
            refine XS.aloadN X6.here hx rfl (hb hby d6_79) rfl rfl ?_
            show Steps p.tables e below (T6.setTop (mkF m 80 #[rv o0, rv o1, iv p2, iv v1] [(.ref o0)])) _
            refine XS.iconst X6.here hx rfl (hb hby d6_80) ?_
            show Steps p.tables e below (T6.setTop (mkF m 81 #[rv o0, rv o1, iv p2, iv v1] [(.int (0 : Int32)), (.ref o0)])) _
            exact k
          refine own_c2 (putFN X6 hx hZ hown (hw _ (List.mem_of_getElem? (i := 21) rfl)) Via.refl e6 F_lineEmpty_o0 E_o0 (Or.inl (hw _ (List.mem_of_getElem? (i := 22) rfl))) (hw _ (List.mem_of_getElem? (i := 13) rfl)) (ty := .boolean) (v' := (.int (0 : Int32))) (by decide) rfl rfl rfl rfl (hb hby d6_81)) fun T20 h20 X20 e20 W20 => ?_
          replace F_lineEmpty_o0 := F_lineEmpty_o0.same W20
          replace E_o0 := E_o0.wr W20
          replace F_scanned_o0 := F_scanned_o0.other W20 (Or.inr (sn0 hw))
          replace F_end_o0 := F_end_o0.other W20 (Or.inr (sn1 hw))
          replace F_started_o0 := F_started_o0.other W20 (Or.inr (sn2 hw))
          replace V_o1 := V_o1.other W20 ne_o1_o0
          replace K0 := K0.wr W20 (Or.inl (List.mem_of_getElem? (i := 0) rfl))
          replace Z0 := Nat.le_trans Z0 (Keep.of_wr W20).1
          replace N0 := Fr.snoc X20 N0 g_o0
          show own_Go p e below _ (T20.setTop (mkF m 84 #[rv o0, rv o1, iv p2, iv v1] []))
          refine own_by (B := T20.setTop (mkF m 0 #[rv o0, rv o1, iv p2, iv v1] [])) (fun t k => ?_) ?_
          · show Steps p.tables e below (T20.setTop (mkF m 84 #[rv o0, rv o1, iv p2, iv v1] [])) _
            refine XS.goto X20.here hx rfl (pc0 := 84) (pc' := 0) rfl (hb hby d6_84) (by decide) (by decide) ?_
            show Steps p.tables e below (T20.setTop (mkF m 0 #[rv o0, rv o1, iv p2, iv v1] [])) _
            exact k
          rw [show fnd [v1, v2, v3, v4] (1 : Int32) p2 en le sd = fnd [v2, v3, v4] (2 : Int32) p2 en (0 : Int32) sd from by simp only [fnd, if_pos hc2, if_pos hc4, if_neg hc8, if_neg hc19] <;> rfl]
          exact fl_2 o0 o1 p2 en (0 : Int32) sd v0 v1 v2 v3 v4 kb (iv v1) (One.val rfl) X20 hx hZ hw hby hml hown Bret Blk e20 N0 Z0 K0 E_o0 F_scanned_o0 F_end_o0 F_lineEmpty_o0 F_started_o0 V_o1 ne_o1_o0 g_o0 hn5
    · skip
      refine own_by (fun t k => XS.icmpYes X3.here hx rfl (pc0 := 12) (pc' := 87) rfl (hb hby d6_12) rfl (flt hc4).2.1 (by decide) (by decide) k) ?_
      show own_Go p e below _ (T3.setTop (mkF m 87 #[rv o0, rv o1, iv p2, sl] []))
      refine own_by (B := T3.setTop (mkF m 88 #[rv o0, rv o1, iv p2, sl] [(.ref o0)])) (fun t k => ?_) ?_
      · show Steps p.tables e below (T3.setTop (mkF m 87 #[rv o0, rv o1, iv p2, sl] [])) _
        refine XS.aloadN X3.here hx rfl (hb hby d6_87) rfl rfl ?_
        show Steps p.tables e below (T3.setTop (mkF m 88 #[rv o0, rv o1, iv p2, sl] [(.ref o0)])) _
        exact k
      refine own_c1 (getF X3 hx hZ hown (host := "") (Or.inl (hw _ (List.mem_of_getElem? (i := 23) rfl))) Via.refl e3 F_end_o0 rfl rfl (hb hby d6_88)) fun T21 X21 e21 => ?_
      show own_Go p e below _ (T21.setTop (mkF m 91 #[rv o0, rv o1, iv p2, sl] [(.int en)]))
      exact own_retI X21 Blk hx Bret (hb hby d6_91) (by
          rw [show T21.heap = h1 from e21]
          exact (by rw [show fnd [v1, v2, v3, v4] (1 : Int32) p2 en le sd = (en, (1 : Int32), le, sd) from by simp only [fnd, if_pos hc2, if_neg hc4]]; exact ⟨rfl, N0, K0, E_o0, F_scanned_o0, F_end_o0, F_lineEmpty_o0, F_started_o0⟩)) (by decide) (by decide)
  · skip
    refine own_by (fun t k => XS.ifYes X1.here hx rfl (pc0 := 4) (pc' := 87) rfl (hb hby d6_4) rfl ((if0 _ _).trans (flt hc2).2.1) (by decide) (by decide) k) ?_
    show own_Go p e below _ (T1.setTop (mkF m 87 #[rv o0, rv o1, iv p2, sl] []))
    refine own_by (B := T1.setTop (mkF m 88 #[rv o0, rv o1, iv p2, sl] [(.ref o0)])) (fun t k => ?_) ?_
    · show Steps p.tables e below (T1.setTop (mkF m 87 #[rv o0, rv o1, iv p2, sl] [])) _
      refine XS.aloadN X1.here hx rfl (hb hby d6_87) rfl rfl ?_
      show Steps p.tables e below (T1.setTop (mkF m 88 #[rv o0, rv o1, iv p2, sl] [(.ref o0)])) _
      exact k
    refine own_c1 (getF X1 hx hZ hown (host := "") (Or.inl (hw _ (List.mem_of_getElem? (i := 23) rfl))) Via.refl e1 F_end_o0 rfl rfl (hb hby d6_88)) fun T22 X22 e22 => ?_
    show own_Go p e below _ (T22.setTop (mkF m 91 #[rv o0, rv o1, iv p2, sl] [(.int en)]))
    exact own_retI X22 Blk hx Bret (hb hby d6_91) (by
        rw [show T22.heap = h1 from e22]
        exact (by rw [show fnd [v1, v2, v3, v4] (1 : Int32) p2 en le sd = (en, (1 : Int32), le, sd) from by simp only [fnd, if_neg hc2]]; exact ⟨rfl, N0, K0, E_o0, F_scanned_o0, F_end_o0, F_lineEmpty_o0, F_started_o0⟩)) (by decide) (by decide)

set_option maxRecDepth 65536 in
set_option maxHeartbeats 40000000 in
theorem fl_0 {p : Program} {l : Launch} {e : Env} {s : State} {m : MethodId} {args : Array Value} {below : List Frame} {meth : Method} {c : Code} {s₁ : State} {locs : List Loc} {Z : State} {a0 : Array Value} {h0 h1 : Heap} {n0 : Nat}  (o0 : Addr) (o1 : Addr) (p2 : Int32) (en : Int32) (le : Int32) (sd : Int32) (v0 : Int32) (v1 : Int32) (v2 : Int32) (v3 : Int32) (v4 : Int32) (kb : ClassId) (sl : Slot) (h3 : One sl)
    (X0 : Stand p l e ({ frames := 0, cells := 0, slots := 0, locals := 0 } : Room) s m args below meth c s₁ locs 0 0) (hx : p.tables.exec = Jvm.exec) (hZ : Z.Warmed39 s.vm) (hw : ∀ d ∈ tables_1, d.before a0 Z = true) (hby : c.code = prog_37_method_2_code) (hml : c.maxLocals = 4) (hown : s.vm.findClass "com/example/chartwell/chartwell/http/RequestReader$HeadEnd" = some m.cls) (Bret : meth.sig.returnType = some .int) (Blk : meth.locks = false) (e0 : s₁.heap = h1) (N0 : Fr n0 locs) (Z0 : n0 ≤ h1.size) (K0 : Keep h0 h1 [o0]) (E_o0 : Exa Z h1 o0 "com/example/chartwell/chartwell/http/RequestReader$HeadEnd") (F_scanned_o0 : Fld Z h1 o0 "com/example/chartwell/chartwell/http/RequestReader$HeadEnd" "scanned" "I" (.int (0 : Int32))) (F_end_o0 : Fld Z h1 o0 "com/example/chartwell/chartwell/http/RequestReader$HeadEnd" "end" "I" (.int en)) (F_lineEmpty_o0 : Fld Z h1 o0 "com/example/chartwell/chartwell/http/RequestReader$HeadEnd" "lineEmpty" "Z" (.int le)) (F_started_o0 : Fld Z h1 o0 "com/example/chartwell/chartwell/http/RequestReader$HeadEnd" "started" "Z" (.int sd)) (V_o1 : Arv Z h1 o1 kb .byte (5 : Int32) [(.int v0), (.int v1), (.int v2), (.int v3), (.int v4)] (.int (0 : Int32))) (ne_o1_o0 : o1 ≠ o0) (g_o0 : n0 ≤ o0) (hn5 : ¬ ((5 : Int32) < p2)) :
    own_Go p e below (own_Post s (QF Z o0 (fnd [v0, v1, v2, v3, v4] (0 : Int32) p2 en le sd) h0 n0) ({ frames := 0, cells := 0, slots := 0, locals := 0 } : Room).cells ({ frames := 0, cells := 0, slots := 0, locals := 0 } : Room).slots) (s₁.setTop (mkF m 0 #[rv o0, rv o1, iv p2, sl] [])) := by
  show own_Go p e below _ (s₁.setTop (mkF m 0 #[rv o0, rv o1, iv p2, sl] []))
  refine own_by (B := s₁.setTop (mkF m 1 #[rv o0, rv o1, iv p2, sl] [(.ref o0)])) (fun t k => ?_) ?_
  · show Steps p.tables e below (s₁.setTop (mkF m 0 #[rv o0, rv o1, iv p2, sl] [])) _
    refine XS.aloadN X0.here hx rfl (hb hby d6_0) rfl rfl ?_
    show Steps p.tables e below (s₁.setTop (mkF m 1 #[rv o0, rv o1, iv p2, sl] [(.ref o0)])) _
    exact k
  refine own_c1 (getF X0 hx hZ hown (host := "") (Or.inl (hw _ (List.mem_of_getElem? (i := 23) rfl))) Via.refl e0 F_end_o0 rfl rfl (hb hby d6_1)) fun T1 X1 e1 => ?_
  show own_Go p e below _ (T1.setTop (mkF m 4 #[rv o0, rv o1, iv p2, sl] [(.int en)]))
  by_cases hc2 : en < (0 : Int32)
  · skip
    refine own_by (fun t k => XS.ifNo X1.here hx rfl (hb hby d6_4) rfl ((if0 _ _).trans (tlt hc2).2.1) k) ?_
    show own_Go p e below _ (T1.setTop (mkF m 7 #[rv o0, rv o1, iv p2, sl] []))
    refine own_by (B := T1.setTop (mkF m 8 #[rv o0, rv o1, iv p2, sl] [(.ref o0)])) (fun t k => ?_) ?_
    · show Steps p.tables e below (T1.setTop (mkF m 7 #[rv o0, rv o1, iv p2, sl] [])) _
      refine XS.aloadN X1.here hx rfl (hb hby d6_7) rfl rfl ?_
      show Steps p.tables e below (T1.setTop (mkF m 8 #[rv o0, rv o1, iv p2, sl] [(.ref o0)])) _
      exact k
    refine own_c1 (getF X1 hx hZ hown (host := "") (Or.inl (hw _ (List.mem_of_getElem? (i := 30) rfl))) Via.refl e1 F_scanned_o0 rfl rfl (hb hby d6_8)) fun T3 X3 e3 => ?_
    show own_Go p e below _ (T3.setTop (mkF m 11 #[rv o0, rv o1, iv p2, sl] [(.int (0 : Int32))]))
    refine own_by (B := T3.setTop (mkF m 12 #[rv o0, rv o1, iv p2, sl] [(.int p2), (.int (0 : Int32))])) (fun t k => ?_) ?_
    · show Steps p.tables e below (T3.setTop (mkF m 11 #[rv o0, rv o1, iv p2, sl] [(.int (0 : Int32))])) _
      refine XS.iloadN X3.here hx rfl (hb hby d6_11) rfl ?_
      show Steps p.tables e below (T3.setTop (mkF m 12 #[rv o0, rv o1, iv p2, sl] [(.int p2), (.int (0 : Int32))])) _
      exact k
    by_cases hc4 : (0 : Int32) < p2
    · skip
      refine own_by (fun t k => XS.icmpNo X3.here hx rfl (hb hby d6_12) rfl (tlt hc4).2.1 k) ?_
      show own_Go p e below _ (T3.setTop (mkF m 15 #[rv o0, rv o1, iv p2, sl] []))
      refine own_by (B := T3.setTop (mkF m 18 #[rv o0, rv o1, iv p2, sl] [(.ref o0), (.ref o0), (.ref o1)])) (fun t k => ?_) ?_
      · show Steps p.tables e below (T3.setTop (mkF m 15 #[rv o0, rv o1, iv p2, sl] [])) _
        refine XS.aloadN X3.here hx rfl (hb hby d6_15) rfl rfl ?_
        show Steps p.tables e below (T3.setTop (mkF m 16 #[rv o0, rv o1, iv p2, sl] [(.ref o1)])) _
        refine XS.aloadN X3.here hx rfl (hb hby d6_16) rfl rfl ?_
        show Steps p.tables e below (T3.setTop (mkF m 17 #[rv o0, rv o1, iv p2, sl] [(.ref o0), (.ref o1)])) _
        refine XS.dup X3.here hx rfl (hb hby d6_17) rfl rfl ?_
        show Steps p.tables e below (T3.setTop (mkF m 18 #[rv o0, rv o1, iv p2, sl] [(.ref o0), (.ref o0), (.ref o1)])) _
        exact k
      refine own_c1 (getF X3 hx hZ hown (host := "") (Or.inl (hw _ (List.mem_of_getElem? (i := 30) rfl))) Via.refl e3 F_scanned_o0 rfl rfl (hb hby d6_18)) fun T5 X5 e5 => ?_
      show own_Go p e below _ (T5.setTop (mkF m 21 #[rv o0, rv o1, iv p2, sl] [(.int (0 : Int32)), (.ref o0), (.ref o1)]))
      refine own_by (B := T5.setTop (mkF m 24 #[rv o0, rv o1, iv p2, sl] [(.int (1 : Int32)), (.ref o0), (.int (0 : Int32)), (.ref o1)])) (fun t k => ?_) ?_
      · show Steps p.tables e below (T5.setTop (mkF m 21 #[rv o0, rv o1, iv p2, sl] [(.int (0 : Int32)), (.ref o0), (.ref o1)])) _
        refine XS.dupX1 X5.here hx rfl (hb hby d6_21) rfl rfl rfl ?_
        show Steps p.tables e below (T5.setTop (mkF m 22 #[rv o0, rv o1, iv p2, sl] [(.int (0 : Int32)), (.ref o0), (.int (0 : Int32)), (.ref o1)])) _
        refine XS.iconst X5.here hx rfl (hb hby d6_22) ?_
        show Steps p.tables e below (T5.setTop (mkF m 23 #[rv o0, rv o1, iv p2, sl] [(.int (1 : Int32)), (.int (0 : Int32)), (.ref o0), (.int (0 : Int32)), (.ref o1)])) _
        refine XS.iadd X5.here hx rfl (hb hby d6_23) rfl ?_
        show Steps p.tables e below (T5.setTop (mkF m 24 #[rv o0, rv o1, iv p2, sl] [(.int (1 : Int32)), (.ref o0), (.int (0 : Int32)), (.ref o1)])) _
        exact k
      refine own_c2 (putF X5 hx hZ hown (host := "") (Or.inl (hw _ (List.mem_of_getElem? (i := 30) rfl))) Via.refl e5 F_scanned_o0 E_o0 (Or.inl (hw _ (List.mem_of_getElem? (i := 31) rfl))) (hw _ (List.mem_of_getElem? (i := 13) rfl)) (ty := .int) (by decide) rfl rfl rfl rfl (hb hby d6_24)) fun T6 h6 X6 e6 W6 => ?_
      replace F_scanned_o0 := F_scanned_o0.same W6
      replace E_o0 := E_o0.wr W6
      replace F_end_o0 := F_end_o0.other W6 (Or.inr (sn6 hw))
      replace F_lineEmpty_o0 := F_lineEmpty_o0.other W6 (Or.inr (sn7 hw))
      replace F_started_o0 := F_started_o0.other W6 (Or.inr (sn8 hw))
      replace V_o1 := V_o1.other W6 ne_o1_o0
      replace K0 := K0.wr W6 (Or.inl (List.mem_of_getElem? (i := 0) rfl))
      replace Z0 := Nat.le_trans Z0 (Keep.of_wr W6).1
      replace N0 := Fr.snoc X6 N0 g_o0
      show own_Go p e below _ (T6.setTop (mkF m 27 #[rv o0, rv o1, iv p2, sl] [(.int (0 : Int32)), (.ref o1)]))
      refine own_by (B := T6.setTop (mkF m 32 #[rv o0, rv o1, iv p2, iv v0] [(.int (10 : Int32)), (.int v0)])) (fun t k => ?_) ?_
      · show Steps p.tables e below (T6.setTop (mkF m 27 #[rv o0, rv o1, iv p2, sl] [(.int (0 : Int32)), (.ref o1)])) _
        obtain ⟨cl7, Ar7, q7, S7, N7, H7, G7⟩ := id V_o1
        have hin7 : ¬ ((0 : Int32) < 0 ∨ cl7.slots.size ≤ ((0 : Int32)).toNatClampNeg) := inb_of S7 ⟨by decide, by decide⟩
        have hat7 : cl7.slots[((0 : Int32)).toNatClampNeg]? = some (.int v0) := H7.at hin7 rfl
        refine X6.baloadBytes hx (j := (0 : Int32)) (v := (.int v0)) (by rw [show T6.heap = h6 from e6]; exact Ar7.1) (State.isArrayOf_alike hZ.alike Ar7.2.1) Ar7.2.2 hin7 hat7 (g := (mkF m 27 #[rv o0, rv o1, iv p2, sl] [(.int (0 : Int32)), (.ref o1)])) rfl rfl (hb hby d6_27) _ ?_
        show Steps p.tables e below (T6.setTop (mkF m 28 #[rv o0, rv o1, iv p2, sl] [(.int v0)])) _
        refine XS.istoreN X6.here hx rfl (hb hby d6_28) rfl (l' := #[rv o0, rv o1, iv p2, iv v0]) (own_os h3) ?_
        show Steps p.tables e below (T6.setTop (mkF m 29 #[rv o0, rv o1, iv p2, iv v0] [])) _
        refine XS.iloadN X6.here hx rfl (hb hby d6_29) rfl ?_
        show Steps p.tables e below (T6.setTop (mkF m 30 #[rv o0, rv o1, iv p2, iv v0] [(.int v0)])) _
        refine XS.bipush X6.here hx rfl (hb hby d6_30) ?_
        show Steps p.tables e below (T6.setTop (mkF m 32 #[rv o0, rv o1, iv p2, iv v0] [(.int (10 : Int32)), (.int v0)])) _
        exact k
      by_cases hc8 : v0 = (10 : Int32)
      · skip
        refine own_by (fun t k => XS.icmpNo X6.here hx rfl (hb hby d6_32) rfl (teq hc8).2 k) ?_
        show own_Go p e below _ (T6.setTop (mkF m 35 #[rv o0, rv o1, iv p2, iv v0] []))
        refine own_by (B := T6.setTop (mkF m 36 #[rv o0, rv o1, iv p2, iv v0] [(.ref o0)])) (fun t k => ?_) ?_
        · show Steps p.tables e below (T6.setTop (mkF m 35 #[rv o0, rv o1, iv p2, iv v0] [])) _
          refine XS.aloadN X6.here hx rfl (hb hby d6_35) rfl rfl ?_
          show Steps p.tables e below (T6.setTop (mkF m 36 #[rv o0, rv o1, iv p2, iv v0] [(.ref o0)])) _
          exact k
        refine own_c1 (getF X6 hx hZ hown (host := "") (Or.inl (hw _ (List.mem_of_getElem? (i := 21) rfl))) Via.refl e6 F_lineEmpty_o0 rfl rfl (hb hby d6_36)) fun T9 X9 e9 => ?_
        show own_Go p e below _ (T9.setTop (mkF m 39 #[rv o0, rv o1, iv p2, iv v0] [(.int le)]))
        by_cases hc10 : le = (0 : Int32)
        · skip
          refine own_by (fun t k => XS.ifNo X9.here hx rfl (hb hby d6_39) rfl ((if0 _ _).trans (teq hc10).2) k) ?_
          show own_Go p e below _ (T9.setTop (mkF m 42 #[rv o0, rv o1, iv p2, iv v0] []))
          refine own_by (B := T9.setTop (mkF m 44 #[rv o0, rv o1, iv p2, iv v0] [(.int (1 : Int32)), (.ref o0)])) (fun t k => ?_) ?_
          · show Steps p.tables e below (T9.setTop (mkF m 42 #[rv o0, rv o1, iv p2, iv v0] [])) _
            refine XS.aloadN X9.here hx rfl (hb hby d6_42) rfl rfl ?_
            show Steps p.tables e below (T9.setTop (mkF m 43 #[rv o0, rv o1, iv p2, iv v0] [(.ref o0)])) _
            refine XS.iconst X9.here hx rfl (hb hby d6_43) ?_
            show Steps p.tables e below (T9.setTop (mkF m 44 #[rv o0, rv o1, iv p2, iv v0] [(.int (1 : Int32)), (.ref o0)])) _
            exact k
          refine own_c2 (putFN X9 hx hZ hown (hw _ (List.mem_of_getElem? (i := 32) rfl)) Via.refl e9 F_started_o0 E_o0 (Or.inl (hw _ (List.mem_of_getElem? (i := 33) rfl))) (hw _ (List.mem_of_getElem? (i := 13) rfl)) (ty := .boolean) (v' := (.int (1 : Int32))) (by decide) rfl rfl rfl rfl (hb hby d6_44)) fun T11 h11 X11 e11 W11 => ?_
          replace F_started_o0 := F_started_o0.same W11
          replace E_o0 := E_o0.wr W11
          replace F_scanned_o0 := F_scanned_o0.other W11 (Or.inr (sn9 hw))
          replace F_end_o0 := F_end_o0.other W11 (Or.inr (sn10 hw))
          replace F_lineEmpty_o0 := F_lineEmpty_o0.other W11 (Or.inr (sn11 hw))
          replace V_o1 := V_o1.other W11 ne_o1_o0
          replace K0 := K0.wr W11 (Or.inl (List.mem_of_getElem? (i := 0) rfl))
          replace Z0 := Nat.le_trans Z0 (Keep.of_wr W11).1
          replace N0 := Fr.snoc X11 N0 g_o0
          show own_Go p e below _ (T11.setTop (mkF m 47 #[rv o0, rv o1, iv p2, iv v0] []))
          refine own_by (B := T11.setTop (mkF m 67 #[rv o0, rv o1, iv p2, iv v0] [(.int (1 : Int32)), (.ref o0)])) (fun t k => ?_) ?_
          · show Steps p.tables e below (T11.setTop (mkF m 47 #[rv o0, rv o1, iv p2, iv v0] [])) _
            refine XS.goto X11.here hx rfl (pc0 := 47) (pc' := 65) rfl (hb hby d6_47) (by decide) (by decide) ?_
            show Steps p.tables e below (T11.setTop (mkF m 65 #[rv o0, rv o1, iv p2, iv v0] [])) _
            refine XS.aloadN X11.here hx rfl (hb hby d6_65) rfl rfl ?_
            show Steps p.tables e below (T11.setTop (mkF m 66 #[rv o0, rv o1, iv p2, iv v0] [(.ref o0)])) _
            refine XS.iconst X11.here hx rfl (hb hby d6_66) ?_
            show Steps p.tables e below (T11.setTop (mkF m 67 #[rv o0, rv o1, iv p2, iv v0] [(.int (1 : Int32)), (.ref o0)])) _
            exact k
          refine own_c2 (putFN X11 hx hZ hown (hw _ (List.mem_of_getElem? (i := 21) rfl)) Via.refl e11 F_lineEmpty_o0 E_o0 (Or.inl (hw _ (List.mem_of_getElem? (i := 22) rfl))) (hw _ (List.mem_of_getElem? (i := 13) rfl)) (ty := .boolean) (v' := (.int (1 : Int32))) (by decide) rfl rfl rfl rfl (hb hby d6_67)) fun T12 h12 X12 e12 W12 => ?_
          replace F_lineEmpty_o0 := F_lineEmpty_o0.same W12
          replace E_o0 := E_o0.wr W12
          replace F_scanned_o0 := F_scanned_o0.other W12 (Or.inr (sn0 hw))
          replace F_end_o0 := F_end_o0.other W12 (Or.inr (sn1 hw))
          replace F_started_o0 := F_started_o0.other W12 (Or.inr (sn2 hw))
          replace V_o1 := V_o1.other W12 ne_o1_o0
          replace K0 := K0.wr W12 (Or.inl (List.mem_of_getElem? (i := 0) rfl))
          replace Z0 := Nat.le_trans Z0 (Keep.of_wr W12).1
          replace N0 := Fr.snoc X12 N0 g_o0
          show own_Go p e below _ (T12.setTop (mkF m 70 #[rv o0, rv o1, iv p2, iv v0] []))
          refine own_by (B := T12.setTop (mkF m 0 #[rv o0, rv o1, iv p2, iv v0] [])) (fun t k => ?_) ?_
          · show Steps p.tables e below (T12.setTop (mkF m 70 #[rv o0, rv o1, iv p2, iv v0] [])) _
            refine XS.goto X12.here hx rfl (pc0 := 70) (pc' := 84) rfl (hb hby d6_70) (by decide) (by decide) ?_
            show Steps p.tables e below (T12.setTop (mkF m 84 #[rv o0, rv o1, iv p2, iv v0] [])) _
            refine XS.goto X12.here hx rfl (pc0 := 84) (pc' := 0) rfl (hb hby d6_84) (by decide) (by decide) ?_
            show Steps p.tables e below (T12.setTop (mkF m 0 #[rv o0, rv o1, iv p2, iv v0] [])) _
            exact k
          rw [show fnd [v0, v1, v2, v3, v4] (0 : Int32) p2 en le sd = fnd [v1, v2, v3, v4] (1 : Int32) p2 en (1 : Int32) (1 : Int32) from by simp only [fnd, if_pos hc2, if_pos hc4, if_pos hc8, if_pos hc10] <;> rfl]
          exact fl_1 o0 o1 p2 en (1 : Int32) (1 : Int32) v0 v1 v2 v3 v4 kb (iv v0) (One.val rfl) X12 hx hZ hw hby hml hown Bret Blk e12 N0 Z0 K0 E_o0 F_scanned_o0 F_end_o0 F_lineEmpty_o0 F_started_o0 V_o1 ne_o1_o0 g_o0 hn5
        · skip
          refine own_by (fun t k => XS.ifYes X9.here hx rfl (pc0 := 39) (pc' := 50) rfl (hb hby d6_39) rfl ((if0 _ _).trans (feq hc10).2) (by decide) (by decide) k) ?_
          show own_Go p e below _ (T9.setTop (mkF m 50 #[rv o0, rv o1, iv p2, iv v0] []))
          refine own_by (B := T9.setTop (mkF m 51 #[rv o0, rv o1, iv p2, iv v0] [(.ref o0)])) (fun t k => ?_) ?_
          · show Steps p.tables e below (T9.setTop (mkF m 50 #[rv o0, rv o1, iv p2, iv v0] [])) _
            refine XS.aloadN X9.here hx rfl (hb hby d6_50) rfl rfl ?_
            show Steps p.tables e below (T9.setTop (mkF m 51 #[rv o0, rv o1, iv p2, iv v0] [(.ref o0)])) _
            exact k
          refine own_c1 (getF X9 hx hZ hown (host := "") (Or.inl (hw _ (List.mem_of_getElem? (i := 32) rfl))) Via.refl e9 F_started_o0 rfl rfl (hb hby d6_51)) fun T13 X13 e13 => ?_
          show own_Go p e below _ (T13.setTop (mkF m 54 #[rv o0, rv o1, iv p2, iv v0] [(.int sd)]))
          by_cases hc14 : sd = (0 : Int32)
          · skip
            refine own_by (fun t k => XS.ifYes X13.here hx rfl (pc0 := 54) (pc' := 65) rfl (hb hby d6_54) rfl ((if0 _ _).trans (teq hc14).1) (by decide) (by decide) k) ?_
            show own_Go p e below _ (T13.setTop (mkF m 65 #[rv o0, rv o1, iv p2, iv v0] []))
            refine own_by (B := T13.setTop (mkF m 67 #[rv o0, rv o1, iv p2, iv v0] [(.int (1 : Int32)), (.ref o0)])) (fun t k => ?_) ?_
            · show Steps p.tables e below (T13.setTop (mkF m 65 #[rv o0, rv o1, iv p2, iv v0] [])) _
              refine XS.aloadN X13.here hx rfl (hb hby d6_65) rfl rfl ?_
              show Steps p.tables e below (T13.setTop (mkF m 66 #[rv o0, rv o1, iv p2, iv v0] [(.ref o0)])) _
              refine XS.iconst X13.here hx rfl (hb hby d6_66) ?_
              show Steps p.tables e below (T13.setTop (mkF m 67 #[rv o0, rv o1, iv p2, iv v0] [(.int (1 : Int32)), (.ref o0)])) _
              exact k
            refine own_c2 (putFN X13 hx hZ hown (hw _ (List.mem_of_getElem? (i := 21) rfl)) Via.refl e13 F_lineEmpty_o0 E_o0 (Or.inl (hw _ (List.mem_of_getElem? (i := 22) rfl))) (hw _ (List.mem_of_getElem? (i := 13) rfl)) (ty := .boolean) (v' := (.int (1 : Int32))) (by decide) rfl rfl rfl rfl (hb hby d6_67)) fun T15 h15 X15 e15 W15 => ?_
            replace F_lineEmpty_o0 := F_lineEmpty_o0.same W15
            replace E_o0 := E_o0.wr W15
            replace F_scanned_o0 := F_scanned_o0.other W15 (Or.inr (sn0 hw))
            replace F_end_o0 := F_end_o0.other W15 (Or.inr (sn1 hw))
            replace F_started_o0 := F_started_o0.other W15 (Or.inr (sn2 hw))
            replace V_o1 := V_o1.other W15 ne_o1_o0
            replace K0 := K0.wr W15 (Or.inl (List.mem_of_getElem? (i := 0) rfl))
            replace Z0 := Nat.le_trans Z0 (Keep.of_wr W15).1
            replace N0 := Fr.snoc X15 N0 g_o0
            show own_Go p e below _ (T15.setTop (mkF m 70 #[rv o0, rv o1, iv p2, iv v0] []))
            refine own_by (B := T15.setTop (mkF m 0 #[rv o0, rv o1, iv p2, iv v0] [])) (fun t k => ?_) ?_
            · show Steps p.tables e below (T15.setTop (mkF m 70 #[rv o0, rv o1, iv p2, iv v0] [])) _
              refine XS.goto X15.here hx rfl (pc0 := 70) (pc' := 84) rfl (hb hby d6_70) (by decide) (by decide) ?_
              show Steps p.tables e below (T15.setTop (mkF m 84 #[rv o0, rv o1, iv p2, iv v0] [])) _
              refine XS.goto X15.here hx rfl (pc0 := 84) (pc' := 0) rfl (hb hby d6_84) (by decide) (by decide) ?_
              show Steps p.tables e below (T15.setTop (mkF m 0 #[rv o0, rv o1, iv p2, iv v0] [])) _
              exact k
            rw [show fnd [v0, v1, v2, v3, v4] (0 : Int32) p2 en le sd = fnd [v1, v2, v3, v4] (1 : Int32) p2 en (1 : Int32) sd from by simp only [fnd, if_pos hc2, if_pos hc4, if_pos hc8, if_neg hc10, if_pos hc14] <;> rfl]
            exact fl_1 o0 o1 p2 en (1 : Int32) sd v0 v1 v2 v3 v4 kb (iv v0) (One.val rfl) X15 hx hZ hw hby hml hown Bret Blk e15 N0 Z0 K0 E_o0 F_scanned_o0 F_end_o0 F_lineEmpty_o0 F_started_o0 V_o1 ne_o1_o0 g_o0 hn5
          · skip
            refine own_by (fun t k => XS.ifNo X13.here hx rfl (hb hby d6_54) rfl ((if0 _ _).trans (feq hc14).1) k) ?_
            show own_Go p e below _ (T13.setTop (mkF m 57 #[rv o0, rv o1, iv p2, iv v0] []))
            refine own_by (B := T13.setTop (mkF m 59 #[rv o0, rv o1, iv p2, iv v0] [(.ref o0), (.ref o0)])) (fun t k => ?_) ?_
            · show Steps p.tables e below (T13.setTop (mkF m 57 #[rv o0, rv o1, iv p2, iv v0] [])) _
              refine XS.aloadN X13.here hx rfl (hb hby d6_57) rfl rfl ?_
              show Steps p.tables e below (T13.setTop (mkF m 58 #[rv o0, rv o1, iv p2, iv v0] [(.ref o0)])) _
              refine XS.aloadN X13.here hx rfl (hb hby d6_58) rfl rfl ?_
              show Steps p.tables e below (T13.setTop (mkF m 59 #[rv o0, rv o1, iv p2, iv v0] [(.ref o0), (.ref o0)])) _
              exact k
            refine own_c1 (getF X13 hx hZ hown (host := "") (Or.inl (hw _ (List.mem_of_getElem? (i := 30) rfl))) Via.refl e13 F_scanned_o0 rfl rfl (hb hby d6_59)) fun T16 X16 e16 => ?_
            show own_Go p e below _ (T16.setTop (mkF m 62 #[rv o0, rv o1, iv p2, iv v0] [(.int (1 : Int32)), (.ref o0)]))
            refine own_c2 (putF X16 hx hZ hown (host := "") (Or.inl (hw _ (List.mem_of_getElem? (i := 23) rfl))) Via.refl e16 F_end_o0 E_o0 (Or.inl (hw _ (List.mem_of_getElem? (i := 24) rfl))) (hw _ (List.mem_of_getElem? (i := 13) rfl)) (ty := .int) (by decide) rfl rfl rfl rfl (hb hby d6_62)) fun T17 h17 X17 e17 W17 => ?_
            replace F_end_o0 := F_end_o0.same W17
            replace E_o0 := E_o0.wr W17
            replace F_scanned_o0 := F_scanned_o0.other W17 (Or.inr (sn3 hw))
            replace F_lineEmpty_o0 := F_lineEmpty_o0.other W17 (Or.inr (sn4 hw))
            replace F_started_o0 := F_started_o0.other W17 (Or.inr (sn5 hw))
            replace V_o1 := V_o1.other W17 ne_o1_o0
            replace K0 := K0.wr W17 (Or.inl (List.mem_of_getElem? (i := 0) rfl))
            replace Z0 := Nat.le_trans Z0 (Keep.of_wr W17).1
            replace N0 := Fr.snoc X17 N0 g_o0
            show own_Go p e below _ (T17.setTop (mkF m 65 #[rv o0, rv o1, iv p2, iv v0] []))
            refine own_by (B := T17.setTop (mkF m 67 #[rv o0, rv o1, iv p2, iv v0] [(.int (1 : Int32)), (.ref o0)])) (fun t k => ?_) ?_
            · show Steps p.tables e below (T17.setTop (mkF m 65 #[rv o0, rv o1, iv p2, iv v0] [])) _
              refine XS.aloadN X17.here hx rfl (hb hby d6_65) rfl rfl ?_
              show Steps p.tables e below (T17.setTop (mkF m 66 #[rv o0, rv o1, iv p2, iv v0] [(.ref o0)])) _
              refine XS.iconst X17.here hx rfl (hb hby d6_66) ?_
              show Steps p.tables e below (T17.setTop (mkF m 67 #[rv o0, rv o1, iv p2, iv v0] [(.int (1 : Int32)), (.ref o0)])) _
              exact k
            refine own_c2 (putFN X17 hx hZ hown (hw _ (List.mem_of_getElem? (i := 21) rfl)) Via.refl e17 F_lineEmpty_o0 E_o0 (Or.inl (hw _ (List.mem_of_getElem? (i := 22) rfl))) (hw _ (List.mem_of_getElem? (i := 13) rfl)) (ty := .boolean) (v' := (.int (1 : Int32))) (by decide) rfl rfl rfl rfl (hb hby d6_67)) fun T18 h18 X18 e18 W18 => ?_
            replace F_lineEmpty_o0 := F_lineEmpty_o0.same W18
            replace E_o0 := E_o0.wr W18
            replace F_scanned_o0 := F_scanned_o0.other W18 (Or.inr (sn0 hw))
            replace F_end_o0 := F_end_o0.other W18 (Or.inr (sn1 hw))
            replace F_started_o0 := F_started_o0.other W18 (Or.inr (sn2 hw))
            replace V_o1 := V_o1.other W18 ne_o1_o0
            replace K0 := K0.wr W18 (Or.inl (List.mem_of_getElem? (i := 0) rfl))
            replace Z0 := Nat.le_trans Z0 (Keep.of_wr W18).1
            replace N0 := Fr.snoc X18 N0 g_o0
            show own_Go p e below _ (T18.setTop (mkF m 70 #[rv o0, rv o1, iv p2, iv v0] []))
            refine own_by (B := T18.setTop (mkF m 0 #[rv o0, rv o1, iv p2, iv v0] [])) (fun t k => ?_) ?_
            · show Steps p.tables e below (T18.setTop (mkF m 70 #[rv o0, rv o1, iv p2, iv v0] [])) _
              refine XS.goto X18.here hx rfl (pc0 := 70) (pc' := 84) rfl (hb hby d6_70) (by decide) (by decide) ?_
              show Steps p.tables e below (T18.setTop (mkF m 84 #[rv o0, rv o1, iv p2, iv v0] [])) _
              refine XS.goto X18.here hx rfl (pc0 := 84) (pc' := 0) rfl (hb hby d6_84) (by decide) (by decide) ?_
              show Steps p.tables e below (T18.setTop (mkF m 0 #[rv o0, rv o1, iv p2, iv v0] [])) _
              exact k
            rw [show fnd [v0, v1, v2, v3, v4] (0 : Int32) p2 en le sd = fnd [v1, v2, v3, v4] (1 : Int32) p2 (1 : Int32) (1 : Int32) sd from by simp only [fnd, if_pos hc2, if_pos hc4, if_pos hc8, if_neg hc10, if_neg hc14] <;> rfl]
            exact fl_1 o0 o1 p2 (1 : Int32) (1 : Int32) sd v0 v1 v2 v3 v4 kb (iv v0) (One.val rfl) X18 hx hZ hw hby hml hown Bret Blk e18 N0 Z0 K0 E_o0 F_scanned_o0 F_end_o0 F_lineEmpty_o0 F_started_o0 V_o1 ne_o1_o0 g_o0 hn5
      · skip
        refine own_by (fun t k => XS.icmpYes X6.here hx rfl (pc0 := 32) (pc' := 73) rfl (hb hby d6_32) rfl (feq hc8).2 (by decide) (by decide) k) ?_
        show own_Go p e below _ (T6.setTop (mkF m 73 #[rv o0, rv o1, iv p2, iv v0] []))
        refine own_by (B := T6.setTop (mkF m 76 #[rv o0, rv o1, iv p2, iv v0] [(.int (13 : Int32)), (.int v0)])) (fun t k => ?_) ?_
        · show Steps p.tables e below (T6.setTop (mkF m 73 #[rv o0, rv o1, iv p2, iv v0] [])) _
          refine XS.iloadN X6.here hx rfl (hb hby d6_73) rfl ?_
          show Steps p.tables e below (T6.setTop (mkF m 74 #[rv o0, rv o1, iv p2, iv v0] [(.int v0)])) _
          refine XS.bipush X6.here hx rfl (hb hby d6_74) ?_
          show Steps p.tables e below (T6.setTop (mkF m 76 #[rv o0, rv o1, iv p2, iv v0] [(.int (13 : Int32)), (.int v0)])) _
          exact k
        by_cases hc19 : v0 = (13 : Int32)
        · skip
          refine own_by (fun t k => XS.icmpYes X6.here hx rfl (pc0 := 76) (pc' := 84) rfl (hb hby d6_76) rfl (teq hc19).1 (by decide) (by decide) k) ?_
          show own_Go p e below _ (T6.setTop (mkF m 84 #[rv o0, rv o1, iv p2, iv v0] []))
          refine own_by (B := T6.setTop (mkF m 0 #[rv o0, rv o1, iv p2, iv v0] [])) (fun t k => ?_) ?_
          · show Steps p.tables e below (T6.setTop (mkF m 84 #[rv o0, rv o1, iv p2, iv v0] [])) _
            refine XS.goto X6.here hx rfl (pc0 := 84) (pc' := 0) rfl (hb hby d6_84) (by decide) (by decide) ?_
            show Steps p.tables e below (T6.setTop (mkF m 0 #[rv o0, rv o1, iv p2, iv v0] [])) _
            exact k
          rw [show fnd [v0, v1, v2, v3, v4] (0 : Int32) p2 en le sd = fnd [v1, v2, v3, v4] (1 : Int32) p2 en le sd from by simp only [fnd, if_pos hc2, if_pos hc4, if_neg hc8, if_pos hc19] <;> rfl]
          exact fl_1 o0 o1 p2 en le sd v0 v1 v2 v3 v4 kb (iv v0) (One.val rfl) X6 hx hZ hw hby hml hown Bret Blk e6 N0 Z0 K0 E_o0 F_scanned_o0 F_end_o0 F_lineEmpty_o0 F_started_o0 V_o1 ne_o1_o0 g_o0 hn5
        · skip
          refine own_by (fun t k => XS.icmpNo X6.here hx rfl (hb hby d6_76) rfl (feq hc19).1 k) ?_
          show own_Go p e below _ (T6.setTop (mkF m 79 #[rv o0, rv o1, iv p2, iv v0] []))
          refine own_by (B := T6.setTop (mkF m 81 #[rv o0, rv o1, iv p2, iv v0] [(.int (0 : Int32)), (.ref o0)])) (fun t k => ?_) ?_
          · show Steps p.tables e below (T6.setTop (mkF m 79 #[rv o0, rv o1, iv p2, iv v0] [])) _
            refine XS.aloadN X6.here hx rfl (hb hby d6_79) rfl rfl ?_
            show Steps p.tables e below (T6.setTop (mkF m 80 #[rv o0, rv o1, iv p2, iv v0] [(.ref o0)])) _
            refine XS.iconst X6.here hx rfl (hb hby d6_80) ?_
            show Steps p.tables e below (T6.setTop (mkF m 81 #[rv o0, rv o1, iv p2, iv v0] [(.int (0 : Int32)), (.ref o0)])) _
            exact k
          refine own_c2 (putFN X6 hx hZ hown (hw _ (List.mem_of_getElem? (i := 21) rfl)) Via.refl e6 F_lineEmpty_o0 E_o0 (Or.inl (hw _ (List.mem_of_getElem? (i := 22) rfl))) (hw _ (List.mem_of_getElem? (i := 13) rfl)) (ty := .boolean) (v' := (.int (0 : Int32))) (by decide) rfl rfl rfl rfl (hb hby d6_81)) fun T20 h20 X20 e20 W20 => ?_
          replace F_lineEmpty_o0 := F_lineEmpty_o0.same W20
          replace E_o0 := E_o0.wr W20
          replace F_scanned_o0 := F_scanned_o0.other W20 (Or.inr (sn0 hw))
          replace F_end_o0 := F_end_o0.other W20 (Or.inr (sn1 hw))
          replace F_started_o0 := F_started_o0.other W20 (Or.inr (sn2 hw))
          replace V_o1 := V_o1.other W20 ne_o1_o0
          replace K0 := K0.wr W20 (Or.inl (List.mem_of_getElem? (i := 0) rfl))
          replace Z0 := Nat.le_trans Z0 (Keep.of_wr W20).1
          replace N0 := Fr.snoc X20 N0 g_o0
          show own_Go p e below _ (T20.setTop (mkF m 84 #[rv o0, rv o1, iv p2, iv v0] []))
          refine own_by (B := T20.setTop (mkF m 0 #[rv o0, rv o1, iv p2, iv v0] [])) (fun t k => ?_) ?_
          · show Steps p.tables e below (T20.setTop (mkF m 84 #[rv o0, rv o1, iv p2, iv v0] [])) _
            refine XS.goto X20.here hx rfl (pc0 := 84) (pc' := 0) rfl (hb hby d6_84) (by decide) (by decide) ?_
            show Steps p.tables e below (T20.setTop (mkF m 0 #[rv o0, rv o1, iv p2, iv v0] [])) _
            exact k
          rw [show fnd [v0, v1, v2, v3, v4] (0 : Int32) p2 en le sd = fnd [v1, v2, v3, v4] (1 : Int32) p2 en (0 : Int32) sd from by simp only [fnd, if_pos hc2, if_pos hc4, if_neg hc8, if_neg hc19] <;> rfl]
          exact fl_1 o0 o1 p2 en (0 : Int32) sd v0 v1 v2 v3 v4 kb (iv v0) (One.val rfl) X20 hx hZ hw hby hml hown Bret Blk e20 N0 Z0 K0 E_o0 F_scanned_o0 F_end_o0 F_lineEmpty_o0 F_started_o0 V_o1 ne_o1_o0 g_o0 hn5
    · skip
      refine own_by (fun t k => XS.icmpYes X3.here hx rfl (pc0 := 12) (pc' := 87) rfl (hb hby d6_12) rfl (flt hc4).2.1 (by decide) (by decide) k) ?_
      show own_Go p e below _ (T3.setTop (mkF m 87 #[rv o0, rv o1, iv p2, sl] []))
      refine own_by (B := T3.setTop (mkF m 88 #[rv o0, rv o1, iv p2, sl] [(.ref o0)])) (fun t k => ?_) ?_
      · show Steps p.tables e below (T3.setTop (mkF m 87 #[rv o0, rv o1, iv p2, sl] [])) _
        refine XS.aloadN X3.here hx rfl (hb hby d6_87) rfl rfl ?_
        show Steps p.tables e below (T3.setTop (mkF m 88 #[rv o0, rv o1, iv p2, sl] [(.ref o0)])) _
        exact k
      refine own_c1 (getF X3 hx hZ hown (host := "") (Or.inl (hw _ (List.mem_of_getElem? (i := 23) rfl))) Via.refl e3 F_end_o0 rfl rfl (hb hby d6_88)) fun T21 X21 e21 => ?_
      show own_Go p e below _ (T21.setTop (mkF m 91 #[rv o0, rv o1, iv p2, sl] [(.int en)]))
      exact own_retI X21 Blk hx Bret (hb hby d6_91) (by
          rw [show T21.heap = h1 from e21]
          exact (by rw [show fnd [v0, v1, v2, v3, v4] (0 : Int32) p2 en le sd = (en, (0 : Int32), le, sd) from by simp only [fnd, if_pos hc2, if_neg hc4]]; exact ⟨rfl, N0, K0, E_o0, F_scanned_o0, F_end_o0, F_lineEmpty_o0, F_started_o0⟩)) (by decide) (by decide)
  · skip
    refine own_by (fun t k => XS.ifYes X1.here hx rfl (pc0 := 4) (pc' := 87) rfl (hb hby d6_4) rfl ((if0 _ _).trans (flt hc2).2.1) (by decide) (by decide) k) ?_
    show own_Go p e below _ (T1.setTop (mkF m 87 #[rv o0, rv o1, iv p2, sl] []))
    refine own_by (B := T1.setTop (mkF m 88 #[rv o0, rv o1, iv p2, sl] [(.ref o0)])) (fun t k => ?_) ?_
    · show Steps p.tables e below (T1.setTop (mkF m 87 #[rv o0, rv o1, iv p2, sl] [])) _
      refine XS.aloadN X1.here hx rfl (hb hby d6_87) rfl rfl ?_
      show Steps p.tables e below (T1.setTop (mkF m 88 #[rv o0, rv o1, iv p2, sl] [(.ref o0)])) _
      exact k
    refine own_c1 (getF X1 hx hZ hown (host := "") (Or.inl (hw _ (List.mem_of_getElem? (i := 23) rfl))) Via.refl e1 F_end_o0 rfl rfl (hb hby d6_88)) fun T22 X22 e22 => ?_
    show own_Go p e below _ (T22.setTop (mkF m 91 #[rv o0, rv o1, iv p2, sl] [(.int en)]))
    exact own_retI X22 Blk hx Bret (hb hby d6_91) (by
        rw [show T22.heap = h1 from e22]
        exact (by rw [show fnd [v0, v1, v2, v3, v4] (0 : Int32) p2 en le sd = (en, (0 : Int32), le, sd) from by simp only [fnd, if_neg hc2]]; exact ⟨rfl, N0, K0, E_o0, F_scanned_o0, F_end_o0, F_lineEmpty_o0, F_started_o0⟩)) (by decide) (by decide)

theorem ef_6 (m : MethodId) (x0 : Addr) (x1 : Addr) (x2 : Int32) : entryFrame m #[(.ref x0), (.ref x1), (.int x2)] 4 = mkF m 0 #[rv x0, rv x1, iv x2, oU] [] := by first | (simp [entryFrame, mkF, argsToLocals, Value.category]; done) | rfl
def Q6 (Z : State) (o0 : Addr) (o1 : Addr) (p2 : Int32) (sc : Int32) (en : Int32) (le : Int32) (sd : Int32) (v0 : Int32) (v1 : Int32) (v2 : Int32) (v3 : Int32) (v4 : Int32) (kb : ClassId) (h0 : Heap) (n0 : Nat) (v : Option Value) (h : Heap) (L : List Loc) : Prop := v = some (.int (ff v0 v1 v2 v3 v4 sc p2 en le sd).1) ∧ Fr n0 L ∧ Keep h0 h [o0] ∧ Exa Z h o0 "com/example/chartwell/chartwell/http/RequestReader$HeadEnd" ∧ Fld Z h o0 "com/example/chartwell/chartwell/http/RequestReader$HeadEnd" "scanned" "I" (.int (ff v0 v1 v2 v3 v4 sc p2 en le sd).2.1) ∧ Fld Z h o0 "com/example/chartwell/chartwell/http/RequestReader$HeadEnd" "end" "I" (.int (ff v0 v1 v2 v3 v4 sc p2 en le sd).1) ∧ Fld Z h o0 "com/example/chartwell/chartwell/http/RequestReader$HeadEnd" "lineEmpty" "Z" (.int (ff v0 v1 v2 v3 v4 sc p2 en le sd).2.2.1) ∧ Fld Z h o0 "com/example/chartwell/chartwell/http/RequestReader$HeadEnd" "started" "Z" (.int (ff v0 v1 v2 v3 v4 sc p2 en le sd).2.2.2)
set_option maxRecDepth 65536 in
set_option maxHeartbeats 40000000 in
theorem rm6 (l : Launch) (Z : State) (a0 : Array Value) (hw : ∀ d ∈ tables_1, d.before a0 Z = true) (ws : List Jvm.Cond) (o0 : Addr) (o1 : Addr) (p2 : Int32) (sc : Int32) (en : Int32) (le : Int32) (sd : Int32) (v0 : Int32) (v1 : Int32) (v2 : Int32) (v3 : Int32) (v4 : Int32) (kb : ClassId) (h0 : Heap) (n0 : Nat) (Z0 : n0 ≤ h0.size) (E_o0 : Exa Z h0 o0 "com/example/chartwell/chartwell/http/RequestReader$HeadEnd") (F_scanned_o0 : Fld Z h0 o0 "com/example/chartwell/chartwell/http/RequestReader$HeadEnd" "scanned" "I" (.int sc)) (F_end_o0 : Fld Z h0 o0 "com/example/chartwell/chartwell/http/RequestReader$HeadEnd" "end" "I" (.int en)) (F_lineEmpty_o0 : Fld Z h0 o0 "com/example/chartwell/chartwell/http/RequestReader$HeadEnd" "lineEmpty" "Z" (.int le)) (F_started_o0 : Fld Z h0 o0 "com/example/chartwell/chartwell/http/RequestReader$HeadEnd" "started" "Z" (.int sd)) (V_o1 : Arv Z h0 o1 kb .byte (5 : Int32) [(.int v0), (.int v1), (.int v2), (.int v3), (.int v4)] (.int (0 : Int32))) (ne_o1_o0 : o1 ≠ o0) (g_o0 : n0 ≤ o0) (hn5 : ¬ ((5 : Int32) < p2)) (hs : sc = (0 : Int32) ∨ sc = (1 : Int32) ∨ sc = (2 : Int32) ∨ sc = (3 : Int32) ∨ sc = (4 : Int32) ∨ sc = (5 : Int32)) :
    MetFree l (⟨"com/example/chartwell/chartwell/http/RequestReader$HeadEnd", "find", "([BI)I"⟩ : MethodName) (head1 (Jvm.Cond.code (⟨"com/example/chartwell/chartwell/http/RequestReader$HeadEnd", "find", "([BI)I"⟩ : MethodName) prog_37_method_2_code 4 (some .int) :: ws) ({ frames := 0, cells := 0, slots := 0, locals := 0 } : Room)) (fun a U => a = #[(.ref o0), (.ref o1), (.int p2)] ∧ Z.Warmed39 U.vm ∧ U.heap = h0) (fun _ _ _ _ _ => True) (fun _ U o U' => ∃ v L, o = .returned v ∧ Q6 Z o0 o1 p2 sc en le sd v0 v1 v2 v3 v4 kb h0 n0 v U'.heap L ∧ FrameEnd U o U' L ({ frames := 0, cells := 0, slots := 0, locals := 0 } : Room).cells ({ frames := 0, cells := 0, slots := 0, locals := 0 } : Room).slots) := by
  refine MetFree.of_bodySF (plainFor_of_name pn_6) hisR ?_
  intro p e s m args below meth c s₁ Bd hml0 hP hK
  obtain ⟨rfl, hZ, hh⟩ := hP
  have hx := Bd.exec
  have hby := Bd.bytes
  have hml : c.maxLocals = 4 := hml0
  have hown : s.vm.findClass "com/example/chartwell/chartwell/http/RequestReader$HeadEnd" = some m.cls := findClass_of_methodNamed Bd.named
  have hnm := (name_of_methodNamed Bd.named Bd.method).1
  have X0 : Stand p l e ({ frames := 0, cells := 0, slots := 0, locals := 0 } : Room) s m #[(.ref o0), (.ref o1), (.int p2)] below meth c s₁ [] 0 0 := Stand.of_body Bd
  have e0 : s₁.heap = h0 := by rw [← hh, Bd.state]; rfl
  have N0 := Fr.nil n0
  have K0 : Keep h0 h0 [o0] := Keep.refl h0 _
  change own_Go p e below (own_Post s (Q6 Z o0 o1 p2 sc en le sd v0 v1 v2 v3 v4 kb h0 n0) ({ frames := 0, cells := 0, slots := 0, locals := 0 } : Room).cells ({ frames := 0, cells := 0, slots := 0, locals := 0 } : Room).slots) (s₁.setTop (entryFrame m #[(.ref o0), (.ref o1), (.int p2)] 4))
  refine own_by (fun t k => castTop (ef_6 m o0 o1 p2) k) ?_
  show own_Go p e below _ (s₁.setTop (mkF m 0 #[rv o0, rv o1, iv p2, oU] []))
  rcases hs with rfl | rfl | rfl | rfl | rfl | rfl
  · exact fl_0 o0 o1 p2 en le sd v0 v1 v2 v3 v4 kb oU One.u X0 hx hZ hw hby hml hown Bd.returns Bd.notSynchronized e0 N0 Z0 K0 E_o0 F_scanned_o0 F_end_o0 F_lineEmpty_o0 F_started_o0 V_o1 ne_o1_o0 g_o0 hn5
  · exact fl_1 o0 o1 p2 en le sd v0 v1 v2 v3 v4 kb oU One.u X0 hx hZ hw hby hml hown Bd.returns Bd.notSynchronized e0 N0 Z0 K0 E_o0 F_scanned_o0 F_end_o0 F_lineEmpty_o0 F_started_o0 V_o1 ne_o1_o0 g_o0 hn5
  · exact fl_2 o0 o1 p2 en le sd v0 v1 v2 v3 v4 kb oU One.u X0 hx hZ hw hby hml hown Bd.returns Bd.notSynchronized e0 N0 Z0 K0 E_o0 F_scanned_o0 F_end_o0 F_lineEmpty_o0 F_started_o0 V_o1 ne_o1_o0 g_o0 hn5
  · exact fl_3 o0 o1 p2 en le sd v0 v1 v2 v3 v4 kb oU One.u X0 hx hZ hw hby hml hown Bd.returns Bd.notSynchronized e0 N0 Z0 K0 E_o0 F_scanned_o0 F_end_o0 F_lineEmpty_o0 F_started_o0 V_o1 ne_o1_o0 g_o0 hn5
  · exact fl_4 o0 o1 p2 en le sd v0 v1 v2 v3 v4 kb oU One.u X0 hx hZ hw hby hml hown Bd.returns Bd.notSynchronized e0 N0 Z0 K0 E_o0 F_scanned_o0 F_end_o0 F_lineEmpty_o0 F_started_o0 V_o1 ne_o1_o0 g_o0 hn5
  · exact fl_5 o0 o1 p2 en le sd v0 v1 v2 v3 v4 kb oU One.u X0 hx hZ hw hby hml hown Bd.returns Bd.notSynchronized e0 N0 Z0 K0 E_o0 F_scanned_o0 F_end_o0 F_lineEmpty_o0 F_started_o0 V_o1 ne_o1_o0 g_o0 hn5

theorem own_pp (x : Int32) : ¬ ((x &&& (255 : Int32)) % (6 : Int32) < (0 : Int32)) ∧ ¬ ((5 : Int32) < (x &&& (255 : Int32)) % (6 : Int32)) := by
  have a1 := c_mask x (255 : Int32) 8 (by decide) (by decide)
  have a0 : 0 ≤ (x &&& (255 : Int32)).toInt := by rw [a1]; exact Int.emod_nonneg _ (by decide)
  clear a1
  generalize x &&& (255 : Int32) = u at *
  have b := (c_irem u (6 : Int32) 6 (by decide)).1 a0
  have e0 : (0 : Int32).toInt = 0 := by decide
  have e5 : (5 : Int32).toInt = 5 := by decide
  rw [Int32.lt_iff_toInt_lt, Int32.lt_iff_toInt_lt]
  omega
abbrev own_R (x : Int32) : Prop := x = (0 : Int32) ∨ x = (1 : Int32) ∨ x = (2 : Int32) ∨ x = (3 : Int32) ∨ x = (4 : Int32) ∨ x = (5 : Int32)
theorem own_toR (x : Int32) (h : ¬ (x < (0 : Int32)) ∧ ¬ ((5 : Int32) < x)) : own_R x := by
  obtain ⟨h1, h2⟩ := h
  have e0 : (0 : Int32).toInt = 0 := by decide
  have e1 : (1 : Int32).toInt = 1 := by decide
  have e2 : (2 : Int32).toInt = 2 := by decide
  have e3 : (3 : Int32).toInt = 3 := by decide
  have e4 : (4 : Int32).toInt = 4 := by decide
  have e5 : (5 : Int32).toInt = 5 := by decide
  rw [Int32.lt_iff_toInt_lt] at h1 h2
  unfold own_R
  simp only [← Int32.toInt_inj, e0, e1, e2, e3, e4, e5]
  omega
theorem own_min5 (p q : Int32) (hp : ¬ (p < (0 : Int32)) ∧ ¬ ((5 : Int32) < p)) (hq : ¬ (q < (0 : Int32)) ∧ ¬ ((5 : Int32) < q)) : ¬ (fmin p q < (0 : Int32)) ∧ ¬ ((5 : Int32) < fmin p q) := by
  unfold fmin
  split <;> assumption
theorem own_max5 (p q : Int32) (hp : ¬ (p < (0 : Int32)) ∧ ¬ ((5 : Int32) < p)) (hq : ¬ (q < (0 : Int32)) ∧ ¬ ((5 : Int32) < q)) : ¬ (fmax p q < (0 : Int32)) ∧ ¬ ((5 : Int32) < fmax p q) := by
  unfold fmax
  split <;> assumption
theorem own_n5_1 (p q : Int32) (hp : ¬ (p < (0 : Int32)) ∧ ¬ ((5 : Int32) < p)) (hq : ¬ (q < (0 : Int32)) ∧ ¬ ((5 : Int32) < q)) : ¬ ((5 : Int32) < fmin p q) := (own_min5 p q hp hq).2
theorem own_n5_2 (p q : Int32) (hp : ¬ (p < (0 : Int32)) ∧ ¬ ((5 : Int32) < p)) (hq : ¬ (q < (0 : Int32)) ∧ ¬ ((5 : Int32) < q)) : ¬ ((5 : Int32) < fmax p q) := (own_max5 p q hp hq).2
theorem own_n5_3 (p q : Int32) (hp : ¬ (p < (0 : Int32)) ∧ ¬ ((5 : Int32) < p)) (hq : ¬ (q < (0 : Int32)) ∧ ¬ ((5 : Int32) < q)) : ¬ ((5 : Int32) < (5 : Int32)) := by decide
theorem own_rs (v : Int32) (vs : List Int32) (s n : Int32) (h0 : own_R s) (h : ∀ e le sd, own_R (fnd vs (s + 1) n e le sd).2.1) (e le sd : Int32) : own_R (fnd (v :: vs) s n e le sd).2.1 := by
  rw [fnd]
  repeat' split
  all_goals first | exact h _ _ _ | exact h0
theorem own_hs (v0 v1 v2 v3 v4 sc n e le sd : Int32) (hs : own_R sc) : own_R (ff v0 v1 v2 v3 v4 sc n e le sd).2.1 := by
  have r5 : ∀ e le sd, own_R (fnd [] (4 + 1) n e le sd).2.1 := fun _ _ _ => by show own_R (4 + 1); decide
  have r4 := own_rs v4 [] 4 n (by decide) r5
  have r3 := own_rs v3 [v4] 3 n (by decide) r4
  have r2 := own_rs v2 [v3, v4] 2 n (by decide) r3
  have r1 := own_rs v1 [v2, v3, v4] 1 n (by decide) r2
  have r0 := own_rs v0 [v1, v2, v3, v4] 0 n (by decide) r1
  rcases hs with rfl | rfl | rfl | rfl | rfl | rfl
  · exact r0 e le sd
  · exact r1 e le sd
  · exact r2 e le sd
  · exact r3 e le sd
  · exact r4 e le sd
  · exact r5 e le sd
theorem own_ltlt {a b c : Int32} (h1 : a < b) (h2 : ¬ c < b) : a < c := by rw [Int32.lt_iff_toInt_lt] at *; omega
theorem own_ct (F : Int32 × Int32 × Int32 × Int32 → Int32 × Int32 × Int32 × Int32) (v : Int32) (vs : List Int32) (s m n : Int32) (hmn : ¬ n < m) (hff : ∀ e le sd, F (e, s, le, sd) = fnd (v :: vs) s n e le sd) (ih : ∀ e le sd, F (fnd vs (s + 1) m e le sd) = fnd vs (s + 1) n e le sd) (e le sd : Int32) : F (fnd (v :: vs) s m e le sd) = fnd (v :: vs) s n e le sd := by
  by_cases h1 : e < (0 : Int32)
  · by_cases h2 : s < m
    · have h3 : s < n := own_ltlt h2 hmn
      rw [fnd, fnd, if_pos h1, if_pos h2, if_pos h1, if_pos h3]
      repeat' split
      all_goals exact ih _ _ _
    · rw [show fnd (v :: vs) s m e le sd = (e, s, le, sd) from by rw [fnd, if_pos h1, if_neg h2]]
      exact hff e le sd
  · rw [show fnd (v :: vs) s m e le sd = (e, s, le, sd) from by rw [fnd, if_neg h1]]
    exact hff e le sd
theorem own_cont (v0 v1 v2 v3 v4 m n e le sd : Int32) (hmn : ¬ n < m) : ff v0 v1 v2 v3 v4 (fnd [v0, v1, v2, v3, v4] 0 m e le sd).2.1 n (fnd [v0, v1, v2, v3, v4] 0 m e le sd).1 (fnd [v0, v1, v2, v3, v4] 0 m e le sd).2.2.1 (fnd [v0, v1, v2, v3, v4] 0 m e le sd).2.2.2 = fnd [v0, v1, v2, v3, v4] 0 n e le sd := by
  have c5 : ∀ e le sd, (fun t : Int32 × Int32 × Int32 × Int32 => ff v0 v1 v2 v3 v4 t.2.1 n t.1 t.2.2.1 t.2.2.2) (fnd [] (4 + 1) m e le sd) = fnd [] (4 + 1) n e le sd := fun _ _ _ => rfl
  have c4 := own_ct (fun t => ff v0 v1 v2 v3 v4 t.2.1 n t.1 t.2.2.1 t.2.2.2) v4 [] 4 m n hmn (fun _ _ _ => rfl) c5
  have c3 := own_ct (fun t => ff v0 v1 v2 v3 v4 t.2.1 n t.1 t.2.2.1 t.2.2.2) v3 [v4] 3 m n hmn (fun _ _ _ => rfl) c4
  have c2 := own_ct (fun t => ff v0 v1 v2 v3 v4 t.2.1 n t.1 t.2.2.1 t.2.2.2) v2 [v3, v4] 2 m n hmn (fun _ _ _ => rfl) c3
  have c1 := own_ct (fun t => ff v0 v1 v2 v3 v4 t.2.1 n t.1 t.2.2.1 t.2.2.2) v1 [v2, v3, v4] 1 m n hmn (fun _ _ _ => rfl) c2
  exact own_ct (fun t => ff v0 v1 v2 v3 v4 t.2.1 n t.1 t.2.2.1 t.2.2.2) v0 [v1, v2, v3, v4] 0 m n hmn (fun _ _ _ => rfl) c1 e le sd
def bfnd : List (Bool × Bool) → Int32 → Int32 → Int32 → Int32 → Int32 → Int32 × Int32 × Int32 × Int32
  | [], s, _, e, le, sd => (e, s, le, sd)
  | v :: vs, s, n, e, le, sd =>
    if e < (0 : Int32) then
      (if s < n then
        (if v.1 = true then
          (if le = (0 : Int32) then bfnd vs (s + 1) n e 1 1
           else if sd = (0 : Int32) then bfnd vs (s + 1) n e 1 sd
           else bfnd vs (s + 1) n (s + 1) 1 sd)
         else if v.2 = true then bfnd vs (s + 1) n e le sd
         else bfnd vs (s + 1) n e 0 sd)
       else (e, s, le, sd))
    else (e, s, le, sd)
theorem own_bf (vs : List Int32) : ∀ s n e le sd, fnd vs s n e le sd = bfnd (vs.map fun v => (decide (v = (10 : Int32)), decide (v = (13 : Int32)))) s n e le sd := by
  induction vs with
  | nil => intros; rfl
  | cons v vs ih => intro s n e le sd; simp only [fnd, bfnd, List.map, ih, decide_eq_true_eq]
set_option maxRecDepth 65536 in
set_option maxHeartbeats 4000000 in
theorem own_big : ∀ a0 b0 a1 b1 a2 b2 a3 b3 a4 b4 : Bool, ∀ n ∈ [(0 : Int32), 1, 2, 3, 4, 5], (bfnd [(a0, b0), (a1, b1), (a2, b2), (a3, b3), (a4, b4)] 0 n (-1) 1 0).1 = fex n (0 : Int32) (0 : Int32) (if (if a2 = true then (1 : Int32) else (0 : Int32)) = (0 : Int32) then (0 : Int32) else (if (if (if (if a1 = true then (1 : Int32) else (0 : Int32)) = (0 : Int32) then (if b1 = true then (0 : Int32) else (1 : Int32)) else (0 : Int32)) = (0 : Int32) then (if (if (if a0 = true then (1 : Int32) else (0 : Int32)) = (0 : Int32) then (if b0 = true then (0 : Int32) else (1 : Int32)) else (0 : Int32)) = (0 : Int32) then (1 : Int32) else (if (if a1 = true then (1 : Int32) else (0 : Int32)) = (0 : Int32) then (0 : Int32) else (1 : Int32))) else (0 : Int32)) = (0 : Int32) then (0 : Int32) else (if (if (if a1 = true then (1 : Int32) else (0 : Int32)) = (0 : Int32) then (0 : Int32) else (if (if (if a0 = true then (1 : Int32) else (0 : Int32)) = (0 : Int32) then (if b0 = true then (0 : Int32) else (1 : Int32)) else (0 : Int32)) = (0 : Int32) then (0 : Int32) else (1 : Int32))) = (0 : Int32) then (0 : Int32) else (1 : Int32)))) (if (if a3 = true then (1 : Int32) else (0 : Int32)) = (0 : Int32) then (0 : Int32) else (if (if (if (if a2 = true then (1 : Int32) else (0 : Int32)) = (0 : Int32) then (if b2 = true then (0 : Int32) else (1 : Int32)) else (0 : Int32)) = (0 : Int32) then (if (if (if a1 = true then (1 : Int32) else (0 : Int32)) = (0 : Int32) then (if b1 = true then (0 : Int32) else (1 : Int32)) else (0 : Int32)) = (0 : Int32) then (if (if (if a0 = true then (1 : Int32) else (0 : Int32)) = (0 : Int32) then (if b0 = true then (0 : Int32) else (1 : Int32)) else (0 : Int32)) = (0 : Int32) then (1 : Int32) else (if (if a1 = true then (1 : Int32) else (0 : Int32)) = (0 : Int32) then (if (if a2 = true then (1 : Int32) else (0 : Int32)) = (0 : Int32) then (0 : Int32) else (1 : Int32)) else (1 : Int32))) else (if (if a2 = true then (1 : Int32) else (0 : Int32)) = (0 : Int32) then (0 : Int32) else (1 : Int32))) else (0 : Int32)) = (0 : Int32) then (0 : Int32) else (if (if (if (if a1 = true then (1 : Int32) else (0 : Int32)) = (0 : Int32) then (0 : Int32) else (if (if (if a0 = true then (1 : Int32) else (0 : Int32)) = (0 : Int32) then (if b0 = true then (0 : Int32) else (1 : Int32)) else (0 : Int32)) = (0 : Int32) then (0 : Int32) else (1 : Int32))) = (0 : Int32) then (if (if a2 = true then (1 : Int32) else (0 : Int32)) = (0 : Int32) then (0 : Int32) else (if (if (if a0 = true then (1 : Int32) else (0 : Int32)) = (0 : Int32) then (if b0 = true then (0 : Int32) else (1 : Int32)) else (0 : Int32)) = (0 : Int32) then (if (if (if a1 = true then (1 : Int32) else (0 : Int32)) = (0 : Int32) then (if b1 = true then (0 : Int32) else (1 : Int32)) else (0 : Int32)) = (0 : Int32) then (0 : Int32) else (1 : Int32)) else (1 : Int32))) else (1 : Int32)) = (0 : Int32) then (0 : Int32) else (1 : Int32)))) (if (if a4 = true then (1 : Int32) else (0 : Int32)) = (0 : Int32) then (0 : Int32) else (if (if (if (if a3 = true then (1 : Int32) else (0 : Int32)) = (0 : Int32) then (if b3 = true then (0 : Int32) else (1 : Int32)) else (0 : Int32)) = (0 : Int32) then (if (if (if a2 = true then (1 : Int32) else (0 : Int32)) = (0 : Int32) then (if b2 = true then (0 : Int32) else (1 : Int32)) else (0 : Int32)) = (0 : Int32) then (if (if (if a1 = true then (1 : Int32) else (0 : Int32)) = (0 : Int32) then (if b1 = true then (0 : Int32) else (1 : Int32)) else (0 : Int32)) = (0 : Int32) then (if (if (if a0 = true then (1 : Int32) else (0 : Int32)) = (0 : Int32) then (if b0 = true then (0 : Int32) else (1 : Int32)) else (0 : Int32)) = (0 : Int32) then (1 : Int32) else (if (if a1 = true then (1 : Int32) else (0 : Int32)) = (0 : Int32) then (if (if a2 = true then (1 : Int32) else (0 : Int32)) = (0 : Int32) then (if (if a3 = true then (1 : Int32) else (0 : Int32)) = (0 : Int32) then (0 : Int32) else (1 : Int32)) else (1 : Int32)) else (1 : Int32))) else (if (if a2 = true then (1 : Int32) else (0 : Int32)) = (0 : Int32) then (if (if a3 = true then (1 : Int32) else (0 : Int32)) = (0 : Int32) then (0 : Int32) else (1 : Int32)) else (1 : Int32))) else (if (if a3 = true then (1 : Int32) else (0 : Int32)) = (0 : Int32) then (0 : Int32) else (1 : Int32))) else (0 : Int32)) = (0 : Int32) then (0 : Int32) else (if (if (if (if (if a1 = true then (1 : Int32) else (0 : Int32)) = (0 : Int32) then (0 : Int32) else (if (if (if a0 = true then (1 : Int32) else (0 : Int32)) = (0 : Int32) then (if b0 = true then (0 : Int32) else (1 : Int32)) else (0 : Int32)) = (0 : Int32) then (0 : Int32) else (1 : Int32))) = (0 : Int32) then (if (if a2 = true then (1 : Int32) else (0 : Int32)) = (0 : Int32) then (0 : Int32) else (if (if (if a0 = true then (1 : Int32) else (0 : Int32)) = (0 : Int32) then (if b0 = true then (0 : Int32) else (1 : Int32)) else (0 : Int32)) = (0 : Int32) then (if (if (if a1 = true then (1 : Int32) else (0 : Int32)) = (0 : Int32) then (if b1 = true then (0 : Int32) else (1 : Int32)) else (0 : Int32)) = (0 : Int32) then (0 : Int32) else (1 : Int32)) else (1 : Int32))) else (1 : Int32)) = (0 : Int32) then (if (if a3 = true then (1 : Int32) else (0 : Int32)) = (0 : Int32) then (0 : Int32) else (if (if (if a0 = true then (1 : Int32) else (0 : Int32)) = (0 : Int32) then (if b0 = true then (0 : Int32) else (1 : Int32)) else (0 : Int32)) = (0 : Int32) then (if (if (if a1 = true then (1 : Int32) else (0 : Int32)) = (0 : Int32) then (if b1 = true then (0 : Int32) else (1 : Int32)) else (0 : Int32)) = (0 : Int32) then (if (if (if a2 = true then (1 : Int32) else (0 : Int32)) = (0 : Int32) then (if b2 = true then (0 : Int32) else (1 : Int32)) else (0 : Int32)) = (0 : Int32) then (0 : Int32) else (1 : Int32)) else (1 : Int32)) else (1 : Int32))) else (1 : Int32)) = (0 : Int32) then (0 : Int32) else (1 : Int32)))) := by decide +kernel
theorem own_k (p : Prop) [Decidable p] (x y : Int32) : (if p then x else y) = (if decide p = true then x else y) := by simp only [decide_eq_true_eq]
theorem own_fin (v0 v1 v2 v3 v4 l0 l1 l2 l3 l4 u0 u1 u2 u3 y1 y2 y3 y4 z2 z3 z4 c2 c3 c4 : Int32) (n : Int32) (hn : own_R n) (hl0 : (if v0 = (10 : Int32) then (1 : Int32) else (0 : Int32)) = l0) (hl1 : (if v1 = (10 : Int32) then (1 : Int32) else (0 : Int32)) = l1) (hl2 : (if v2 = (10 : Int32) then (1 : Int32) else (0 : Int32)) = l2) (hl3 : (if v3 = (10 : Int32) then (1 : Int32) else (0 : Int32)) = l3) (hl4 : (if v4 = (10 : Int32) then (1 : Int32) else (0 : Int32)) = l4) (hu0 : (if l0 = (0 : Int32) then (if v0 = (13 : Int32) then (0 : Int32) else (1 : Int32)) else (0 : Int32)) = u0) (hu1 : (if l1 = (0 : Int32) then (if v1 = (13 : Int32) then (0 : Int32) else (1 : Int32)) else (0 : Int32)) = u1) (hu2 : (if l2 = (0 : Int32) then (if v2 = (13 : Int32) then (0 : Int32) else (1 : Int32)) else (0 : Int32)) = u2) (hu3 : (if l3 = (0 : Int32) then (if v3 = (13 : Int32) then (0 : Int32) else (1 : Int32)) else (0 : Int32)) = u3) (hy1 : (if u0 = (0 : Int32) then (1 : Int32) else (0 : Int32)) = y1) (hy2 : (if u1 = (0 : Int32) then (if u0 = (0 : Int32) then (1 : Int32) else (if l1 = (0 : Int32) then (0 : Int32) else (1 : Int32))) else (0 : Int32)) = y2) (hy3 : (if u2 = (0 : Int32) then (if u1 = (0 : Int32) then (if u0 = (0 : Int32) then (1 : Int32) else (if l1 = (0 : Int32) then (if l2 = (0 : Int32) then (0 : Int32) else (1 : Int32)) else (1 : Int32))) else (if l2 = (0 : Int32) then (0 : Int32) else (1 : Int32))) else (0 : Int32)) = y3) (hy4 : (if u3 = (0 : Int32) then (if u2 = (0 : Int32) then (if u1 = (0 : Int32) then (if u0 = (0 : Int32) then (1 : Int32) else (if l1 = (0 : Int32) then (if l2 = (0 : Int32) then (if l3 = (0 : Int32) then (0 : Int32) else (1 : Int32)) else (1 : Int32)) else (1 : Int32))) else (if l2 = (0 : Int32) then (if l3 = (0 : Int32) then (0 : Int32) else (1 : Int32)) else (1 : Int32))) else (if l3 = (0 : Int32) then (0 : Int32) else (1 : Int32))) else (0 : Int32)) = y4) (hz2 : (if l1 = (0 : Int32) then (0 : Int32) else (if u0 = (0 : Int32) then (0 : Int32) else (1 : Int32))) = z2) (hz3 : (if z2 = (0 : Int32) then (if l2 = (0 : Int32) then (0 : Int32) else (if u0 = (0 : Int32) then (if u1 = (0 : Int32) then (0 : Int32) else (1 : Int32)) else (1 : Int32))) else (1 : Int32)) = z3) (hz4 : (if z3 = (0 : Int32) then (if l3 = (0 : Int32) then (0 : Int32) else (if u0 = (0 : Int32) then (if u1 = (0 : Int32) then (if u2 = (0 : Int32) then (0 : Int32) else (1 : Int32)) else (1 : Int32)) else (1 : Int32))) else (1 : Int32)) = z4) (hc2 : (if l2 = (0 : Int32) then (0 : Int32) else (if y2 = (0 : Int32) then (0 : Int32) else (if z2 = (0 : Int32) then (0 : Int32) else (1 : Int32)))) = c2) (hc3 : (if l3 = (0 : Int32) then (0 : Int32) else (if y3 = (0 : Int32) then (0 : Int32) else (if z3 = (0 : Int32) then (0 : Int32) else (1 : Int32)))) = c3) (hc4 : (if l4 = (0 : Int32) then (0 : Int32) else (if y4 = (0 : Int32) then (0 : Int32) else (if z4 = (0 : Int32) then (0 : Int32) else (1 : Int32)))) = c4) : (fnd [v0, v1, v2, v3, v4] 0 n (-1) 1 0).1 = fex n (0 : Int32) (0 : Int32) c2 c3 c4 := by
  rw [own_bf]
  simp only [List.map]
  rw [own_k (v0 = (10 : Int32))] at hl0
  rw [own_k (v1 = (10 : Int32))] at hl1
  rw [own_k (v2 = (10 : Int32))] at hl2
  rw [own_k (v3 = (10 : Int32))] at hl3
  rw [own_k (v4 = (10 : Int32))] at hl4
  rw [own_k (v0 = (13 : Int32))] at hu0
  rw [own_k (v1 = (13 : Int32))] at hu1
  rw [own_k (v2 = (13 : Int32))] at hu2
  rw [own_k (v3 = (13 : Int32))] at hu3
  generalize decide (v0 = (10 : Int32)) = a0 at *
  generalize decide (v0 = (13 : Int32)) = b0 at *
  generalize decide (v1 = (10 : Int32)) = a1 at *
  generalize decide (v1 = (13 : Int32)) = b1 at *
  generalize decide (v2 = (10 : Int32)) = a2 at *
  generalize decide (v2 = (13 : Int32)) = b2 at *
  generalize decide (v3 = (10 : Int32)) = a3 at *
  generalize decide (v3 = (13 : Int32)) = b3 at *
  generalize decide (v4 = (10 : Int32)) = a4 at *
  generalize decide (v4 = (13 : Int32)) = b4 at *
  subst l0 l1 l2 l3 l4 u0 u1 u2 u3 y1 y2 y3 y4 z2 z3 z4 c2 c3 c4
  exact own_big a0 b0 a1 b1 a2 b2 a3 b3 a4 b4 n (by rcases hn with rfl | rfl | rfl | rfl | rfl | rfl <;> simp)
theorem own_fin1 (v0 v1 v2 v3 v4 l0 l1 l2 l3 l4 u0 u1 u2 u3 y1 y2 y3 y4 z2 z3 z4 c2 c3 c4 : Int32) (p q : Int32) (hp : ¬ (p < (0 : Int32)) ∧ ¬ ((5 : Int32) < p)) (hq : ¬ (q < (0 : Int32)) ∧ ¬ ((5 : Int32) < q)) (t1 : Int32 × Int32 × Int32 × Int32) (ht1 : t1 = ff v0 v1 v2 v3 v4 (0 : Int32) (fmin p q) (-1 : Int32) (1 : Int32) (0 : Int32)) (hl0 : (if v0 = (10 : Int32) then (1 : Int32) else (0 : Int32)) = l0) (hl1 : (if v1 = (10 : Int32) then (1 : Int32) else (0 : Int32)) = l1) (hl2 : (if v2 = (10 : Int32) then (1 : Int32) else (0 : Int32)) = l2) (hl3 : (if v3 = (10 : Int32) then (1 : Int32) else (0 : Int32)) = l3) (hl4 : (if v4 = (10 : Int32) then (1 : Int32) else (0 : Int32)) = l4) (hu0 : (if l0 = (0 : Int32) then (if v0 = (13 : Int32) then (0 : Int32) else (1 : Int32)) else (0 : Int32)) = u0) (hu1 : (if l1 = (0 : Int32) then (if v1 = (13 : Int32) then (0 : Int32) else (1 : Int32)) else (0 : Int32)) = u1) (hu2 : (if l2 = (0 : Int32) then (if v2 = (13 : Int32) then (0 : Int32) else (1 : Int32)) else (0 : Int32)) = u2) (hu3 : (if l3 = (0 : Int32) then (if v3 = (13 : Int32) then (0 : Int32) else (1 : Int32)) else (0 : Int32)) = u3) (hy1 : (if u0 = (0 : Int32) then (1 : Int32) else (0 : Int32)) = y1) (hy2 : (if u1 = (0 : Int32) then (if u0 = (0 : Int32) then (1 : Int32) else (if l1 = (0 : Int32) then (0 : Int32) else (1 : Int32))) else (0 : Int32)) = y2) (hy3 : (if u2 = (0 : Int32) then (if u1 = (0 : Int32) then (if u0 = (0 : Int32) then (1 : Int32) else (if l1 = (0 : Int32) then (if l2 = (0 : Int32) then (0 : Int32) else (1 : Int32)) else (1 : Int32))) else (if l2 = (0 : Int32) then (0 : Int32) else (1 : Int32))) else (0 : Int32)) = y3) (hy4 : (if u3 = (0 : Int32) then (if u2 = (0 : Int32) then (if u1 = (0 : Int32) then (if u0 = (0 : Int32) then (1 : Int32) else (if l1 = (0 : Int32) then (if l2 = (0 : Int32) then (if l3 = (0 : Int32) then (0 : Int32) else (1 : Int32)) else (1 : Int32)) else (1 : Int32))) else (if l2 = (0 : Int32) then (if l3 = (0 : Int32) then (0 : Int32) else (1 : Int32)) else (1 : Int32))) else (if l3 = (0 : Int32) then (0 : Int32) else (1 : Int32))) else (0 : Int32)) = y4) (hz2 : (if l1 = (0 : Int32) then (0 : Int32) else (if u0 = (0 : Int32) then (0 : Int32) else (1 : Int32))) = z2) (hz3 : (if z2 = (0 : Int32) then (if l2 = (0 : Int32) then (0 : Int32) else (if u0 = (0 : Int32) then (if u1 = (0 : Int32) then (0 : Int32) else (1 : Int32)) else (1 : Int32))) else (1 : Int32)) = z3) (hz4 : (if z3 = (0 : Int32) then (if l3 = (0 : Int32) then (0 : Int32) else (if u0 = (0 : Int32) then (if u1 = (0 : Int32) then (if u2 = (0 : Int32) then (0 : Int32) else (1 : Int32)) else (1 : Int32)) else (1 : Int32))) else (1 : Int32)) = z4) (hc2 : (if l2 = (0 : Int32) then (0 : Int32) else (if y2 = (0 : Int32) then (0 : Int32) else (if z2 = (0 : Int32) then (0 : Int32) else (1 : Int32)))) = c2) (hc3 : (if l3 = (0 : Int32) then (0 : Int32) else (if y3 = (0 : Int32) then (0 : Int32) else (if z3 = (0 : Int32) then (0 : Int32) else (1 : Int32)))) = c3) (hc4 : (if l4 = (0 : Int32) then (0 : Int32) else (if y4 = (0 : Int32) then (0 : Int32) else (if z4 = (0 : Int32) then (0 : Int32) else (1 : Int32)))) = c4) : t1.1 = fex (fmin p q) (0 : Int32) (0 : Int32) c2 c3 c4 := by
  rw [ht1]
  exact own_fin v0 v1 v2 v3 v4 l0 l1 l2 l3 l4 u0 u1 u2 u3 y1 y2 y3 y4 z2 z3 z4 c2 c3 c4 (fmin p q) (own_toR _ (own_min5 p q hp hq)) hl0 hl1 hl2 hl3 hl4 hu0 hu1 hu2 hu3 hy1 hy2 hy3 hy4 hz2 hz3 hz4 hc2 hc3 hc4
theorem own_mx (p q : Int32) : ¬ (fmax p q < fmin p q) := by
  unfold fmax fmin
  repeat' split
  all_goals (simp only [Int32.lt_iff_toInt_lt] at *; omega)
theorem own_t2 (v0 v1 v2 v3 v4 p q : Int32) (t1 t2 : Int32 × Int32 × Int32 × Int32) (ht1 : t1 = ff v0 v1 v2 v3 v4 (0 : Int32) (fmin p q) (-1 : Int32) (1 : Int32) (0 : Int32)) (ht2 : t2 = ff v0 v1 v2 v3 v4 t1.2.1 (fmax p q) t1.1 t1.2.2.1 t1.2.2.2) : t2 = fnd [v0, v1, v2, v3, v4] 0 (fmax p q) (-1) 1 0 := by
  rw [ht2, ht1]
  exact own_cont v0 v1 v2 v3 v4 (fmin p q) (fmax p q) (-1) 1 0 (own_mx p q)
theorem own_fin2 (v0 v1 v2 v3 v4 l0 l1 l2 l3 l4 u0 u1 u2 u3 y1 y2 y3 y4 z2 z3 z4 c2 c3 c4 : Int32) (p q : Int32) (hp : ¬ (p < (0 : Int32)) ∧ ¬ ((5 : Int32) < p)) (hq : ¬ (q < (0 : Int32)) ∧ ¬ ((5 : Int32) < q)) (t1 t2 : Int32 × Int32 × Int32 × Int32) (ht1 : t1 = ff v0 v1 v2 v3 v4 (0 : Int32) (fmin p q) (-1 : Int32) (1 : Int32) (0 : Int32)) (ht2 : t2 = ff v0 v1 v2 v3 v4 t1.2.1 (fmax p q) t1.1 t1.2.2.1 t1.2.2.2) (hl0 : (if v0 = (10 : Int32) then (1 : Int32) else (0 : Int32)) = l0) (hl1 : (if v1 = (10 : Int32) then (1 : Int32) else (0 : Int32)) = l1) (hl2 : (if v2 = (10 : Int32) then (1 : Int32) else (0 : Int32)) = l2) (hl3 : (if v3 = (10 : Int32) then (1 : Int32) else (0 : Int32)) = l3) (hl4 : (if v4 = (10 : Int32) then (1 : Int32) else (0 : Int32)) = l4) (hu0 : (if l0 = (0 : Int32) then (if v0 = (13 : Int32) then (0 : Int32) else (1 : Int32)) else (0 : Int32)) = u0) (hu1 : (if l1 = (0 : Int32) then (if v1 = (13 : Int32) then (0 : Int32) else (1 : Int32)) else (0 : Int32)) = u1) (hu2 : (if l2 = (0 : Int32) then (if v2 = (13 : Int32) then (0 : Int32) else (1 : Int32)) else (0 : Int32)) = u2) (hu3 : (if l3 = (0 : Int32) then (if v3 = (13 : Int32) then (0 : Int32) else (1 : Int32)) else (0 : Int32)) = u3) (hy1 : (if u0 = (0 : Int32) then (1 : Int32) else (0 : Int32)) = y1) (hy2 : (if u1 = (0 : Int32) then (if u0 = (0 : Int32) then (1 : Int32) else (if l1 = (0 : Int32) then (0 : Int32) else (1 : Int32))) else (0 : Int32)) = y2) (hy3 : (if u2 = (0 : Int32) then (if u1 = (0 : Int32) then (if u0 = (0 : Int32) then (1 : Int32) else (if l1 = (0 : Int32) then (if l2 = (0 : Int32) then (0 : Int32) else (1 : Int32)) else (1 : Int32))) else (if l2 = (0 : Int32) then (0 : Int32) else (1 : Int32))) else (0 : Int32)) = y3) (hy4 : (if u3 = (0 : Int32) then (if u2 = (0 : Int32) then (if u1 = (0 : Int32) then (if u0 = (0 : Int32) then (1 : Int32) else (if l1 = (0 : Int32) then (if l2 = (0 : Int32) then (if l3 = (0 : Int32) then (0 : Int32) else (1 : Int32)) else (1 : Int32)) else (1 : Int32))) else (if l2 = (0 : Int32) then (if l3 = (0 : Int32) then (0 : Int32) else (1 : Int32)) else (1 : Int32))) else (if l3 = (0 : Int32) then (0 : Int32) else (1 : Int32))) else (0 : Int32)) = y4) (hz2 : (if l1 = (0 : Int32) then (0 : Int32) else (if u0 = (0 : Int32) then (0 : Int32) else (1 : Int32))) = z2) (hz3 : (if z2 = (0 : Int32) then (if l2 = (0 : Int32) then (0 : Int32) else (if u0 = (0 : Int32) then (if u1 = (0 : Int32) then (0 : Int32) else (1 : Int32)) else (1 : Int32))) else (1 : Int32)) = z3) (hz4 : (if z3 = (0 : Int32) then (if l3 = (0 : Int32) then (0 : Int32) else (if u0 = (0 : Int32) then (if u1 = (0 : Int32) then (if u2 = (0 : Int32) then (0 : Int32) else (1 : Int32)) else (1 : Int32)) else (1 : Int32))) else (1 : Int32)) = z4) (hc2 : (if l2 = (0 : Int32) then (0 : Int32) else (if y2 = (0 : Int32) then (0 : Int32) else (if z2 = (0 : Int32) then (0 : Int32) else (1 : Int32)))) = c2) (hc3 : (if l3 = (0 : Int32) then (0 : Int32) else (if y3 = (0 : Int32) then (0 : Int32) else (if z3 = (0 : Int32) then (0 : Int32) else (1 : Int32)))) = c3) (hc4 : (if l4 = (0 : Int32) then (0 : Int32) else (if y4 = (0 : Int32) then (0 : Int32) else (if z4 = (0 : Int32) then (0 : Int32) else (1 : Int32)))) = c4) : t2.1 = fex (fmax p q) (0 : Int32) (0 : Int32) c2 c3 c4 := by
  rw [own_t2 v0 v1 v2 v3 v4 p q t1 t2 ht1 ht2]
  exact own_fin v0 v1 v2 v3 v4 l0 l1 l2 l3 l4 u0 u1 u2 u3 y1 y2 y3 y4 z2 z3 z4 c2 c3 c4 (fmax p q) (own_toR _ (own_max5 p q hp hq)) hl0 hl1 hl2 hl3 hl4 hu0 hu1 hu2 hu3 hy1 hy2 hy3 hy4 hz2 hz3 hz4 hc2 hc3 hc4
theorem own_fin3 (v0 v1 v2 v3 v4 l0 l1 l2 l3 l4 u0 u1 u2 u3 y1 y2 y3 y4 z2 z3 z4 c2 c3 c4 : Int32) (p q : Int32) (hp : ¬ (p < (0 : Int32)) ∧ ¬ ((5 : Int32) < p)) (hq : ¬ (q < (0 : Int32)) ∧ ¬ ((5 : Int32) < q)) (t1 t2 t3 : Int32 × Int32 × Int32 × Int32) (ht1 : t1 = ff v0 v1 v2 v3 v4 (0 : Int32) (fmin p q) (-1 : Int32) (1 : Int32) (0 : Int32)) (ht2 : t2 = ff v0 v1 v2 v3 v4 t1.2.1 (fmax p q) t1.1 t1.2.2.1 t1.2.2.2) (ht3 : t3 = ff v0 v1 v2 v3 v4 t2.2.1 (5 : Int32) t2.1 t2.2.2.1 t2.2.2.2) (hl0 : (if v0 = (10 : Int32) then (1 : Int32) else (0 : Int32)) = l0) (hl1 : (if v1 = (10 : Int32) then (1 : Int32) else (0 : Int32)) = l1) (hl2 : (if v2 = (10 : Int32) then (1 : Int32) else (0 : Int32)) = l2) (hl3 : (if v3 = (10 : Int32) then (1 : Int32) else (0 : Int32)) = l3) (hl4 : (if v4 = (10 : Int32) then (1 : Int32) else (0 : Int32)) = l4) (hu0 : (if l0 = (0 : Int32) then (if v0 = (13 : Int32) then (0 : Int32) else (1 : Int32)) else (0 : Int32)) = u0) (hu1 : (if l1 = (0 : Int32) then (if v1 = (13 : Int32) then (0 : Int32) else (1 : Int32)) else (0 : Int32)) = u1) (hu2 : (if l2 = (0 : Int32) then (if v2 = (13 : Int32) then (0 : Int32) else (1 : Int32)) else (0 : Int32)) = u2) (hu3 : (if l3 = (0 : Int32) then (if v3 = (13 : Int32) then (0 : Int32) else (1 : Int32)) else (0 : Int32)) = u3) (hy1 : (if u0 = (0 : Int32) then (1 : Int32) else (0 : Int32)) = y1) (hy2 : (if u1 = (0 : Int32) then (if u0 = (0 : Int32) then (1 : Int32) else (if l1 = (0 : Int32) then (0 : Int32) else (1 : Int32))) else (0 : Int32)) = y2) (hy3 : (if u2 = (0 : Int32) then (if u1 = (0 : Int32) then (if u0 = (0 : Int32) then (1 : Int32) else (if l1 = (0 : Int32) then (if l2 = (0 : Int32) then (0 : Int32) else (1 : Int32)) else (1 : Int32))) else (if l2 = (0 : Int32) then (0 : Int32) else (1 : Int32))) else (0 : Int32)) = y3) (hy4 : (if u3 = (0 : Int32) then (if u2 = (0 : Int32) then (if u1 = (0 : Int32) then (if u0 = (0 : Int32) then (1 : Int32) else (if l1 = (0 : Int32) then (if l2 = (0 : Int32) then (if l3 = (0 : Int32) then (0 : Int32) else (1 : Int32)) else (1 : Int32)) else (1 : Int32))) else (if l2 = (0 : Int32) then (if l3 = (0 : Int32) then (0 : Int32) else (1 : Int32)) else (1 : Int32))) else (if l3 = (0 : Int32) then (0 : Int32) else (1 : Int32))) else (0 : Int32)) = y4) (hz2 : (if l1 = (0 : Int32) then (0 : Int32) else (if u0 = (0 : Int32) then (0 : Int32) else (1 : Int32))) = z2) (hz3 : (if z2 = (0 : Int32) then (if l2 = (0 : Int32) then (0 : Int32) else (if u0 = (0 : Int32) then (if u1 = (0 : Int32) then (0 : Int32) else (1 : Int32)) else (1 : Int32))) else (1 : Int32)) = z3) (hz4 : (if z3 = (0 : Int32) then (if l3 = (0 : Int32) then (0 : Int32) else (if u0 = (0 : Int32) then (if u1 = (0 : Int32) then (if u2 = (0 : Int32) then (0 : Int32) else (1 : Int32)) else (1 : Int32)) else (1 : Int32))) else (1 : Int32)) = z4) (hc2 : (if l2 = (0 : Int32) then (0 : Int32) else (if y2 = (0 : Int32) then (0 : Int32) else (if z2 = (0 : Int32) then (0 : Int32) else (1 : Int32)))) = c2) (hc3 : (if l3 = (0 : Int32) then (0 : Int32) else (if y3 = (0 : Int32) then (0 : Int32) else (if z3 = (0 : Int32) then (0 : Int32) else (1 : Int32)))) = c3) (hc4 : (if l4 = (0 : Int32) then (0 : Int32) else (if y4 = (0 : Int32) then (0 : Int32) else (if z4 = (0 : Int32) then (0 : Int32) else (1 : Int32)))) = c4) : t3.1 = fex (5 : Int32) (0 : Int32) (0 : Int32) c2 c3 c4 := by
  rw [ht3, own_t2 v0 v1 v2 v3 v4 p q t1 t2 ht1 ht2, own_cont v0 v1 v2 v3 v4 (fmax p q) (5 : Int32) (-1) 1 0 (own_max5 p q hp hq).2]
  exact own_fin v0 v1 v2 v3 v4 l0 l1 l2 l3 l4 u0 u1 u2 u3 y1 y2 y3 y4 z2 z3 z4 c2 c3 c4 (5 : Int32) (by decide) hl0 hl1 hl2 hl3 hl4 hu0 hu1 hu2 hu3 hy1 hy2 hy3 hy4 hz2 hz3 hz4 hc2 hc3 hc4

theorem pn_0 : plainName "com/example/chartwell/chartwell/http/HeadEndFindPinLaw" = true := by first | (simp [plainName, overriddenIn]; done) | decide +kernel
theorem pd_0 : parseMethodDescriptor "(IJI)B" = some ⟨[.int, .long, .int], some .byte⟩ := by decide +kernel
theorem pd_1 : parseMethodDescriptor "(II)I" = some ⟨[.int, .int], some .int⟩ := by decide +kernel
theorem pd_2 : parseMethodDescriptor "()V" = some ⟨[], none⟩ := by decide +kernel
theorem pd_3 : parseMethodDescriptor "([BI)I" = some ⟨[(.array .byte), .int], some .int⟩ := by decide +kernel
theorem pd_4 : parseMethodDescriptor "(IZZZZZ)I" = some ⟨[.int, .boolean, .boolean, .boolean, .boolean, .boolean], some .int⟩ := by decide +kernel
theorem ef_0 (m : MethodId) (x0 : Int32) (x1 : Int64) (x2 : Int32) : entryFrame m #[(.int x0), (.long x1), (.int x2)] maxLocals = mkF m 0 #[iv x0, oJ x1, oS, iv x2, oU, oU, oU, oU, oU, oU, oU, oU, oU, oU, oU, oU, oU, oU, oU, oU, oU, oU, oU, oU, oU, oU, oU, oU, oU, oU, oU, oU, oU, oU] [] := by first | (simp [entryFrame, mkF, argsToLocals, Value.category, maxLocals]; done) | rfl
def Q0 (Z : State) (p0 : Int32) (q1 : Int64) (p2 : Int32) (h0 : Heap) (n0 : Nat) (v : Option Value) (h : Heap) (L : List Loc) : Prop := v = some (.int (1 : Int32)) ∧ Fr n0 L
set_option maxRecDepth 65536 in
set_option maxHeartbeats 40000000 in
theorem rm0 (l : Launch) (Z : State) (a0 : Array Value) (hw : ∀ d ∈ tables_1, d.before a0 Z = true) (ws : List Jvm.Cond) (p0 : Int32) (q1 : Int64) (p2 : Int32) (h0 : Heap) (n0 : Nat) (Z0 : n0 ≤ h0.size) :
    MetFree l x (head1 (Jvm.Cond.code x code maxLocals ret :: ws) room_1) (fun a U => a = #[(.int p0), (.long q1), (.int p2)] ∧ Z.Warmed39 U.vm ∧ U.heap = h0) (fun _ _ _ _ _ => True) (fun _ U o U' => ∃ v L, o = .returned v ∧ Q0 Z p0 q1 p2 h0 n0 v U'.heap L ∧ FrameEnd U o U' L room_1.cells room_1.slots) := by
  refine MetFree.of_bodySF (plainFor_of_name pn_0) hisR ?_
  intro p e s m args below meth c s₁ Bd hml0 hP hK
  obtain ⟨rfl, hZ, hh⟩ := hP
  have hx := Bd.exec
  have hby := Bd.bytes
  have hml : c.maxLocals = 34 := hml0
  have hown : s.vm.findClass "com/example/chartwell/chartwell/http/HeadEndFindPinLaw" = some m.cls := findClass_of_methodNamed Bd.named
  have hnm := (name_of_methodNamed Bd.named Bd.method).1
  have X0 : Stand p l e room_1 s m #[(.int p0), (.long q1), (.int p2)] below meth c s₁ [] 0 0 := Stand.of_body Bd
  have e0 : s₁.heap = h0 := by rw [← hh, Bd.state]; rfl
  have N0 := Fr.nil n0
  change own_Go p e below (own_Post s (Q0 Z p0 q1 p2 h0 n0) room_1.cells room_1.slots) (s₁.setTop (entryFrame m #[(.int p0), (.long q1), (.int p2)] maxLocals))
  refine own_by (fun t k => castTop (ef_0 m p0 q1 p2) k) ?_
  show own_Go p e below _ (s₁.setTop (mkF m 0 #[iv p0, oJ q1, oS, iv p2, oU, oU, oU, oU, oU, oU, oU, oU, oU, oU, oU, oU, oU, oU, oU, oU, oU, oU, oU, oU, oU, oU, oU, oU, oU, oU, oU, oU, oU, oU] []))
  refine own_by (B := s₁.setTop (mkF m 1 #[iv p0, oJ q1, oS, iv p2, oU, oU, oU, oU, oU, oU, oU, oU, oU, oU, oU, oU, oU, oU, oU, oU, oU, oU, oU, oU, oU, oU, oU, oU, oU, oU, oU, oU, oU, oU] [(.int (5 : Int32))])) (fun t k => ?_) ?_
  · show Steps p.tables e below (s₁.setTop (mkF m 0 #[iv p0, oJ q1, oS, iv p2, oU, oU, oU, oU, oU, oU, oU, oU, oU, oU, oU, oU, oU, oU, oU, oU, oU, oU, oU, oU, oU, oU, oU, oU, oU, oU, oU, oU, oU, oU] [])) _
    refine XS.iconst X0.here hx rfl (hb hby at_0) ?_
    show Steps p.tables e below (s₁.setTop (mkF m 1 #[iv p0, oJ q1, oS, iv p2, oU, oU, oU, oU, oU, oU, oU, oU, oU, oU, oU, oU, oU, oU, oU, oU, oU, oU, oU, oU, oU, oU, oU, oU, oU, oU, oU, oU, oU, oU] [(.int (5 : Int32))])) _
    exact k
  obtain ⟨T1, h1, k1, X1, e1, E1, A1, st1⟩ := newP X0 hx hZ (hw _ (List.mem_of_getElem? (i := 0) rfl)) e0 (g := (mkF m 1 #[iv p0, oJ q1, oS, iv p2, oU, oU, oU, oU, oU, oU, oU, oU, oU, oU, oU, oU, oU, oU, oU, oU, oU, oU, oU, oU, oU, oU, oU, oU, oU, oU, oU, oU, oU, oU] [(.int (5 : Int32))])) rfl (hb hby at_1) rfl (by decide) (cap := 5) (by decide) (by decide) (by decide) (by decide)
  obtain ⟨b1, g1⟩ : ∃ z, z = h0.size := ⟨_, rfl⟩
  rw [← g1] at A1 st1
  have g_b1 : n0 ≤ b1 := Nat.le_trans Z0 (Nat.le_of_eq g1.symm)
  replace Z0 := Nat.le_trans Z0 E1.1
  have V_b1 : Arv Z h1 b1 k1 .byte (5 : Int32) [] (.int (0 : Int32)) := Arv.new A1 (by decide)
  refine own_by st1 ?_
  show own_Go p e below _ (T1.setTop (mkF m 3 #[iv p0, oJ q1, oS, iv p2, oU, oU, oU, oU, oU, oU, oU, oU, oU, oU, oU, oU, oU, oU, oU, oU, oU, oU, oU, oU, oU, oU, oU, oU, oU, oU, oU, oU, oU, oU] [(.ref b1)]))
  refine own_by (B := T1.setTop (mkF m 11 #[iv p0, oJ q1, oS, iv p2, rv b1, oU, oU, oU, oU, oU, oU, oU, oU, oU, oU, oU, oU, oU, oU, oU, oU, oU, oU, oU, oU, oU, oU, oU, oU, oU, oU, oU, oU, oU] [(.int (0 : Int32)), (.long q1), (.int p0), (.int (0 : Int32)), (.ref b1)])) (fun t k => ?_) ?_
  · show Steps p.tables e below (T1.setTop (mkF m 3 #[iv p0, oJ q1, oS, iv p2, oU, oU, oU, oU, oU, oU, oU, oU, oU, oU, oU, oU, oU, oU, oU, oU, oU, oU, oU, oU, oU, oU, oU, oU, oU, oU, oU, oU, oU, oU] [(.ref b1)])) _
    refine XS.astore X1.here hx rfl (hb hby at_3) rfl rfl (l' := #[iv p0, oJ q1, oS, iv p2, rv b1, oU, oU, oU, oU, oU, oU, oU, oU, oU, oU, oU, oU, oU, oU, oU, oU, oU, oU, oU, oU, oU, oU, oU, oU, oU, oU, oU, oU, oU]) rfl ?_
    show Steps p.tables e below (T1.setTop (mkF m 5 #[iv p0, oJ q1, oS, iv p2, rv b1, oU, oU, oU, oU, oU, oU, oU, oU, oU, oU, oU, oU, oU, oU, oU, oU, oU, oU, oU, oU, oU, oU, oU, oU, oU, oU, oU, oU, oU] [])) _
    refine XS.aload X1.here hx rfl (hb hby at_5) rfl rfl ?_
    show Steps p.tables e below (T1.setTop (mkF m 7 #[iv p0, oJ q1, oS, iv p2, rv b1, oU, oU, oU, oU, oU, oU, oU, oU, oU, oU, oU, oU, oU, oU, oU, oU, oU, oU, oU, oU, oU, oU, oU, oU, oU, oU, oU, oU, oU] [(.ref b1)])) _
    refine XS.iconst X1.here hx rfl (hb hby at_7) ?_
    show Steps p.tables e below (T1.setTop (mkF m 8 #[iv p0, oJ q1, oS, iv p2, rv b1, oU, oU, oU, oU, oU, oU, oU, oU, oU, oU, oU, oU, oU, oU, oU, oU, oU, oU, oU, oU, oU, oU, oU, oU, oU, oU, oU, oU, oU] [(.int (0 : Int32)), (.ref b1)])) _
    refine XS.iloadN X1.here hx rfl (hb hby at_8) rfl ?_
    show Steps p.tables e below (T1.setTop (mkF m 9 #[iv p0, oJ q1, oS, iv p2, rv b1, oU, oU, oU, oU, oU, oU, oU, oU, oU, oU, oU, oU, oU, oU, oU, oU, oU, oU, oU, oU, oU, oU, oU, oU, oU, oU, oU, oU, oU] [(.int p0), (.int (0 : Int32)), (.ref b1)])) _
    refine XS.lloadN X1.here hx rfl (hb hby at_9) rfl ?_
    show Steps p.tables e below (T1.setTop (mkF m 10 #[iv p0, oJ q1, oS, iv p2, rv b1, oU, oU, oU, oU, oU, oU, oU, oU, oU, oU, oU, oU, oU, oU, oU, oU, oU, oU, oU, oU, oU, oU, oU, oU, oU, oU, oU, oU, oU] [(.long q1), (.int p0), (.int (0 : Int32)), (.ref b1)])) _
    refine XS.iconst X1.here hx rfl (hb hby at_10) ?_
    show Steps p.tables e below (T1.setTop (mkF m 11 #[iv p0, oJ q1, oS, iv p2, rv b1, oU, oU, oU, oU, oU, oU, oU, oU, oU, oU, oU, oU, oU, oU, oU, oU, oU, oU, oU, oU, oU, oU, oU, oU, oU, oU, oU, oU, oU] [(.int (0 : Int32)), (.long q1), (.int p0), (.int (0 : Int32)), (.ref b1)])) _
    exact k
  refine own_cc (own_callS X1 hx hZ (y := (⟨"com/example/chartwell/chartwell/http/HeadEndFindPinLaw", "pick", "(IJI)B"⟩ : MethodName)) hown (hw _ (List.mem_of_getElem? (i := 1) rfl)) (hw _ (List.mem_of_getElem? (i := 2) rfl)) (hw _ (List.mem_of_getElem? (i := 3) rfl)) (hw _ (List.mem_of_getElem? (i := 4) rfl)) (by decide) (rm1 l Z a0 hw [] p0 q1 (0 : Int32) h1 n0 Z0 ) e1 2 (by decide) (by decide) (by decide) (by decide) rfl (by rw [hml]; rfl) [(.int p0), (.long q1), (.int (0 : Int32))] [(.int (0 : Int32)), (.ref b1)] rfl (lenOf pd_0 rfl) rfl (by show 2 * 0 + _ ≤ _; exact Nat.le_of_eq rfl) (hb hby at_11)) fun T3 L3 v3 X3 hQ3 => ?_
  obtain ⟨rfl, N3, e3⟩ := hQ3
  replace N0 := Fr.app N0 N3
  show own_Go p e below _ (T3.setTop (mkF m 14 #[iv p0, oJ q1, oS, iv p2, rv b1, oU, oU, oU, oU, oU, oU, oU, oU, oU, oU, oU, oU, oU, oU, oU, oU, oU, oU, oU, oU, oU, oU, oU, oU, oU, oU, oU, oU, oU] [(.int (fpick p0 q1 (0 : Int32))), (.int (0 : Int32)), (.ref b1)]))
  replace V_b1 : Arv Z h1 b1 k1 .byte (5 : Int32) [(.int (0 : Int32))] (.int (0 : Int32)) := V_b1.pad (pad_rep [] (.int (0 : Int32)) 1)
  obtain ⟨cl4, Ar4, q4, S4, N4, H4, G4⟩ := V_b1
  have hin4 : ¬ ((0 : Int32) < 0 ∨ cl4.slots.size ≤ ((0 : Int32)).toNatClampNeg) := inb_of S4 ⟨by decide, by decide⟩
  refine own_c2 (stB X3 hx hZ e3 Ar4 (j := (0 : Int32)) hin4 rfl rfl (hb hby at_14)) fun T4 h4 X4 e4 W4 => ?_
  replace V_b1 : Arv Z h4 b1 k1 .byte (5 : Int32) [(.int (nar .byte (fpick p0 q1 (0 : Int32))))] (.int (0 : Int32)) := Arv.set Ar4 q4 S4 N4 H4 G4 (fits_nar_byte _) W4 0 rfl (Nat.le_of_ble_eq_true rfl)
  replace Z0 := Nat.le_trans Z0 (Keep.of_wr W4).1
  replace N0 := Fr.snoc X4 N0 g_b1
  show own_Go p e below _ (T4.setTop (mkF m 15 #[iv p0, oJ q1, oS, iv p2, rv b1, oU, oU, oU, oU, oU, oU, oU, oU, oU, oU, oU, oU, oU, oU, oU, oU, oU, oU, oU, oU, oU, oU, oU, oU, oU, oU, oU, oU, oU] []))
  refine own_by (B := T4.setTop (mkF m 21 #[iv p0, oJ q1, oS, iv p2, rv b1, oU, oU, oU, oU, oU, oU, oU, oU, oU, oU, oU, oU, oU, oU, oU, oU, oU, oU, oU, oU, oU, oU, oU, oU, oU, oU, oU, oU, oU] [(.int (1 : Int32)), (.long q1), (.int p0), (.int (1 : Int32)), (.ref b1)])) (fun t k => ?_) ?_
  · show Steps p.tables e below (T4.setTop (mkF m 15 #[iv p0, oJ q1, oS, iv p2, rv b1, oU, oU, oU, oU, oU, oU, oU, oU, oU, oU, oU, oU, oU, oU, oU, oU, oU, oU, oU, oU, oU, oU, oU, oU, oU, oU, oU, oU, oU] [])) _
    refine XS.aload X4.here hx rfl (hb hby at_15) rfl rfl ?_
    show Steps p.tables e below (T4.setTop (mkF m 17 #[iv p0, oJ q1, oS, iv p2, rv b1, oU, oU, oU, oU, oU, oU, oU, oU, oU, oU, oU, oU, oU, oU, oU, oU, oU, oU, oU, oU, oU, oU, oU, oU, oU, oU, oU, oU, oU] [(.ref b1)])) _
    refine XS.iconst X4.here hx rfl (hb hby at_17) ?_
    show Steps p.tables e below (T4.setTop (mkF m 18 #[iv p0, oJ q1, oS, iv p2, rv b1, oU, oU, oU, oU, oU, oU, oU, oU, oU, oU, oU, oU, oU, oU, oU, oU, oU, oU, oU, oU, oU, oU, oU, oU, oU, oU, oU, oU, oU] [(.int (1 : Int32)), (.ref b1)])) _
    refine XS.iloadN X4.here hx rfl (hb hby at_18) rfl ?_
    show Steps p.tables e below (T4.setTop (mkF m 19 #[iv p0, oJ q1, oS, iv p2, rv b1, oU, oU, oU, oU, oU, oU, oU, oU, oU, oU, oU, oU, oU, oU, oU, oU, oU, oU, oU, oU, oU, oU, oU, oU, oU, oU, oU, oU, oU] [(.int p0), (.int (1 : Int32)), (.ref b1)])) _
    refine XS.lloadN X4.here hx rfl (hb hby at_19) rfl ?_
    show Steps p.tables e below (T4.setTop (mkF m 20 #[iv p0, oJ q1, oS, iv p2, rv b1, oU, oU, oU, oU, oU, oU, oU, oU, oU, oU, oU, oU, oU, oU, oU, oU, oU, oU, oU, oU, oU, oU, oU, oU, oU, oU, oU, oU, oU] [(.long q1), (.int p0), (.int (1 : Int32)), (.ref b1)])) _
    refine XS.iconst X4.here hx rfl (hb hby at_20) ?_
    show Steps p.tables e below (T4.setTop (mkF m 21 #[iv p0, oJ q1, oS, iv p2, rv b1, oU, oU, oU, oU, oU, oU, oU, oU, oU, oU, oU, oU, oU, oU, oU, oU, oU, oU, oU, oU, oU, oU, oU, oU, oU, oU, oU, oU, oU] [(.int (1 : Int32)), (.long q1), (.int p0), (.int (1 : Int32)), (.ref b1)])) _
    exact k
  refine own_cc (own_callS X4 hx hZ (y := (⟨"com/example/chartwell/chartwell/http/HeadEndFindPinLaw", "pick", "(IJI)B"⟩ : MethodName)) hown (hw _ (List.mem_of_getElem? (i := 1) rfl)) (hw _ (List.mem_of_getElem? (i := 2) rfl)) (hw _ (List.mem_of_getElem? (i := 3) rfl)) (hw _ (List.mem_of_getElem? (i := 4) rfl)) (by decide) (rm1 l Z a0 hw [] p0 q1 (1 : Int32) h4 n0 Z0 ) e4 2 (by decide) (by decide) (by decide) (by decide) rfl (by rw [hml]; rfl) [(.int p0), (.long q1), (.int (1 : Int32))] [(.int (1 : Int32)), (.ref b1)] rfl (lenOf pd_0 rfl) rfl (by show 2 * 0 + _ ≤ _; exact Nat.le_of_eq rfl) (hb hby at_21)) fun T6 L6 v6 X6 hQ6 => ?_
  obtain ⟨rfl, N6, e6⟩ := hQ6
  replace N0 := Fr.app N0 N6
  show own_Go p e below _ (T6.setTop (mkF m 24 #[iv p0, oJ q1, oS, iv p2, rv b1, oU, oU, oU, oU, oU, oU, oU, oU, oU, oU, oU, oU, oU, oU, oU, oU, oU, oU, oU, oU, oU, oU, oU, oU, oU, oU, oU, oU, oU] [(.int (fpick p0 q1 (1 : Int32))), (.int (1 : Int32)), (.ref b1)]))
  replace V_b1 : Arv Z h4 b1 k1 .byte (5 : Int32) [(.int (nar .byte (fpick p0 q1 (0 : Int32)))), (.int (0 : Int32))] (.int (0 : Int32)) := V_b1.pad (pad_rep [(.int (nar .byte (fpick p0 q1 (0 : Int32))))] (.int (0 : Int32)) 1)
  obtain ⟨cl7, Ar7, q7, S7, N7, H7, G7⟩ := V_b1
  have hin7 : ¬ ((1 : Int32) < 0 ∨ cl7.slots.size ≤ ((1 : Int32)).toNatClampNeg) := inb_of S7 ⟨by decide, by decide⟩
  refine own_c2 (stB X6 hx hZ e6 Ar7 (j := (1 : Int32)) hin7 rfl rfl (hb hby at_24)) fun T7 h7 X7 e7 W7 => ?_
  replace V_b1 : Arv Z h7 b1 k1 .byte (5 : Int32) [(.int (nar .byte (fpick p0 q1 (0 : Int32)))), (.int (nar .byte (fpick p0 q1 (1 : Int32))))] (.int (0 : Int32)) := Arv.set Ar7 q7 S7 N7 H7 G7 (fits_nar_byte _) W7 1 rfl (Nat.le_of_ble_eq_true rfl)
  replace Z0 := Nat.le_trans Z0 (Keep.of_wr W7).1
  replace N0 := Fr.snoc X7 N0 g_b1
  show own_Go p e below _ (T7.setTop (mkF m 25 #[iv p0, oJ q1, oS, iv p2, rv b1, oU, oU, oU, oU, oU, oU, oU, oU, oU, oU, oU, oU, oU, oU, oU, oU, oU, oU, oU, oU, oU, oU, oU, oU, oU, oU, oU, oU, oU] []))
  refine own_by (B := T7.setTop (mkF m 31 #[iv p0, oJ q1, oS, iv p2, rv b1, oU, oU, oU, oU, oU, oU, oU, oU, oU, oU, oU, oU, oU, oU, oU, oU, oU, oU, oU, oU, oU, oU, oU, oU, oU, oU, oU, oU, oU] [(.int (2 : Int32)), (.long q1), (.int p0), (.int (2 : Int32)), (.ref b1)])) (fun t k => ?_) ?_
  · show Steps p.tables e below (T7.setTop (mkF m 25 #[iv p0, oJ q1, oS, iv p2, rv b1, oU, oU, oU, oU, oU, oU, oU, oU, oU, oU, oU, oU, oU, oU, oU, oU, oU, oU, oU, oU, oU, oU, oU, oU, oU, oU, oU, oU, oU] [])) _
    refine XS.aload X7.here hx rfl (hb hby at_25) rfl rfl ?_
    show Steps p.tables e below (T7.setTop (mkF m 27 #[iv p0, oJ q1, oS, iv p2, rv b1, oU, oU, oU, oU, oU, oU, oU, oU, oU, oU, oU, oU, oU, oU, oU, oU, oU, oU, oU, oU, oU, oU, oU, oU, oU, oU, oU, oU, oU] [(.ref b1)])) _
    refine XS.iconst X7.here hx rfl (hb hby at_27) ?_
    show Steps p.tables e below (T7.setTop (mkF m 28 #[iv p0, oJ q1, oS, iv p2, rv b1, oU, oU, oU, oU, oU, oU, oU, oU, oU, oU, oU, oU, oU, oU, oU, oU, oU, oU, oU, oU, oU, oU, oU, oU, oU, oU, oU, oU, oU] [(.int (2 : Int32)), (.ref b1)])) _
    refine XS.iloadN X7.here hx rfl (hb hby at_28) rfl ?_
    show Steps p.tables e below (T7.setTop (mkF m 29 #[iv p0, oJ q1, oS, iv p2, rv b1, oU, oU, oU, oU, oU, oU, oU, oU, oU, oU, oU, oU, oU, oU, oU, oU, oU, oU, oU, oU, oU, oU, oU, oU, oU, oU, oU, oU, oU] [(.int p0), (.int (2 : Int32)), (.ref b1)])) _
    refine XS.lloadN X7.here hx rfl (hb hby at_29) rfl ?_
    show Steps p.tables e below (T7.setTop (mkF m 30 #[iv p0, oJ q1, oS, iv p2, rv b1, oU, oU, oU, oU, oU, oU, oU, oU, oU, oU, oU, oU, oU, oU, oU, oU, oU, oU, oU, oU, oU, oU, oU, oU, oU, oU, oU, oU, oU] [(.long q1), (.int p0), (.int (2 : Int32)), (.ref b1)])) _
    refine XS.iconst X7.here hx rfl (hb hby at_30) ?_
    show Steps p.tables e below (T7.setTop (mkF m 31 #[iv p0, oJ q1, oS, iv p2, rv b1, oU, oU, oU, oU, oU, oU, oU, oU, oU, oU, oU, oU, oU, oU, oU, oU, oU, oU, oU, oU, oU, oU, oU, oU, oU, oU, oU, oU, oU] [(.int (2 : Int32)), (.long q1), (.int p0), (.int (2 : Int32)), (.ref b1)])) _
    exact k
  refine own_cc (own_callS X7 hx hZ (y := (⟨"com/example/chartwell/chartwell/http/HeadEndFindPinLaw", "pick", "(IJI)B"⟩ : MethodName)) hown (hw _ (List.mem_of_getElem? (i := 1) rfl)) (hw _ (List.mem_of_getElem? (i := 2) rfl)) (hw _ (List.mem_of_getElem? (i := 3) rfl)) (hw _ (List.mem_of_getElem? (i := 4) rfl)) (by decide) (rm1 l Z a0 hw [] p0 q1 (2 : Int32) h7 n0 Z0 ) e7 2 (by decide) (by decide) (by decide) (by decide) rfl (by rw [hml]; rfl) [(.int p0), (.long q1), (.int (2 : Int32))] [(.int (2 : Int32)), (.ref b1)] rfl (lenOf pd_0 rfl) rfl (by show 2 * 0 + _ ≤ _; exact Nat.le_of_eq rfl) (hb hby at_31)) fun T9 L9 v9 X9 hQ9 => ?_
  obtain ⟨rfl, N9, e9⟩ := hQ9
  replace N0 := Fr.app N0 N9
  show own_Go p e below _ (T9.setTop (mkF m 34 #[iv p0, oJ q1, oS, iv p2, rv b1, oU, oU, oU, oU, oU, oU, oU, oU, oU, oU, oU, oU, oU, oU, oU, oU, oU, oU, oU, oU, oU, oU, oU, oU, oU, oU, oU, oU, oU] [(.int (fpick p0 q1 (2 : Int32))), (.int (2 : Int32)), (.ref b1)]))
  replace V_b1 : Arv Z h7 b1 k1 .byte (5 : Int32) [(.int (nar .byte (fpick p0 q1 (0 : Int32)))), (.int (nar .byte (fpick p0 q1 (1 : Int32)))), (.int (0 : Int32))] (.int (0 : Int32)) := V_b1.pad (pad_rep [(.int (nar .byte (fpick p0 q1 (0 : Int32)))), (.int (nar .byte (fpick p0 q1 (1 : Int32))))] (.int (0 : Int32)) 1)
  obtain ⟨cl10, Ar10, q10, S10, N10, H10, G10⟩ := V_b1
  have hin10 : ¬ ((2 : Int32) < 0 ∨ cl10.slots.size ≤ ((2 : Int32)).toNatClampNeg) := inb_of S10 ⟨by decide, by decide⟩
  refine own_c2 (stB X9 hx hZ e9 Ar10 (j := (2 : Int32)) hin10 rfl rfl (hb hby at_34)) fun T10 h10 X10 e10 W10 => ?_
  replace V_b1 : Arv Z h10 b1 k1 .byte (5 : Int32) [(.int (nar .byte (fpick p0 q1 (0 : Int32)))), (.int (nar .byte (fpick p0 q1 (1 : Int32)))), (.int (nar .byte (fpick p0 q1 (2 : Int32))))] (.int (0 : Int32)) := Arv.set Ar10 q10 S10 N10 H10 G10 (fits_nar_byte _) W10 2 rfl (Nat.le_of_ble_eq_true rfl)
  replace Z0 := Nat.le_trans Z0 (Keep.of_wr W10).1
  replace N0 := Fr.snoc X10 N0 g_b1
  show own_Go p e below _ (T10.setTop (mkF m 35 #[iv p0, oJ q1, oS, iv p2, rv b1, oU, oU, oU, oU, oU, oU, oU, oU, oU, oU, oU, oU, oU, oU, oU, oU, oU, oU, oU, oU, oU, oU, oU, oU, oU, oU, oU, oU, oU] []))
  refine own_by (B := T10.setTop (mkF m 41 #[iv p0, oJ q1, oS, iv p2, rv b1, oU, oU, oU, oU, oU, oU, oU, oU, oU, oU, oU, oU, oU, oU, oU, oU, oU, oU, oU, oU, oU, oU, oU, oU, oU, oU, oU, oU, oU] [(.int (3 : Int32)), (.long q1), (.int p0), (.int (3 : Int32)), (.ref b1)])) (fun t k => ?_) ?_
  · show Steps p.tables e below (T10.setTop (mkF m 35 #[iv p0, oJ q1, oS, iv p2, rv b1, oU, oU, oU, oU, oU, oU, oU, oU, oU, oU, oU, oU, oU, oU, oU, oU, oU, oU, oU, oU, oU, oU, oU, oU, oU, oU, oU, oU, oU] [])) _
    refine XS.aload X10.here hx rfl (hb hby at_35) rfl rfl ?_
    show Steps p.tables e below (T10.setTop (mkF m 37 #[iv p0, oJ q1, oS, iv p2, rv b1, oU, oU, oU, oU, oU, oU, oU, oU, oU, oU, oU, oU, oU, oU, oU, oU, oU, oU, oU, oU, oU, oU, oU, oU, oU, oU, oU, oU, oU] [(.ref b1)])) _
    refine XS.iconst X10.here hx rfl (hb hby at_37) ?_
    show Steps p.tables e below (T10.setTop (mkF m 38 #[iv p0, oJ q1, oS, iv p2, rv b1, oU, oU, oU, oU, oU, oU, oU, oU, oU, oU, oU, oU, oU, oU, oU, oU, oU, oU, oU, oU, oU, oU, oU, oU, oU, oU, oU, oU, oU] [(.int (3 : Int32)), (.ref b1)])) _
    refine XS.iloadN X10.here hx rfl (hb hby at_38) rfl ?_
    show Steps p.tables e below (T10.setTop (mkF m 39 #[iv p0, oJ q1, oS, iv p2, rv b1, oU, oU, oU, oU, oU, oU, oU, oU, oU, oU, oU, oU, oU, oU, oU, oU, oU, oU, oU, oU, oU, oU, oU, oU, oU, oU, oU, oU, oU] [(.int p0), (.int (3 : Int32)), (.ref b1)])) _
    refine XS.lloadN X10.here hx rfl (hb hby at_39) rfl ?_
    show Steps p.tables e below (T10.setTop (mkF m 40 #[iv p0, oJ q1, oS, iv p2, rv b1, oU, oU, oU, oU, oU, oU, oU, oU, oU, oU, oU, oU, oU, oU, oU, oU, oU, oU, oU, oU, oU, oU, oU, oU, oU, oU, oU, oU, oU] [(.long q1), (.int p0), (.int (3 : Int32)), (.ref b1)])) _
    refine XS.iconst X10.here hx rfl (hb hby at_40) ?_
    show Steps p.tables e below (T10.setTop (mkF m 41 #[iv p0, oJ q1, oS, iv p2, rv b1, oU, oU, oU, oU, oU, oU, oU, oU, oU, oU, oU, oU, oU, oU, oU, oU, oU, oU, oU, oU, oU, oU, oU, oU, oU, oU, oU, oU, oU] [(.int (3 : Int32)), (.long q1), (.int p0), (.int (3 : Int32)), (.ref b1)])) _
    exact k
  refine own_cc (own_callS X10 hx hZ (y := (⟨"com/example/chartwell/chartwell/http/HeadEndFindPinLaw", "pick", "(IJI)B"⟩ : MethodName)) hown (hw _ (List.mem_of_getElem? (i := 1) rfl)) (hw _ (List.mem_of_getElem? (i := 2) rfl)) (hw _ (List.mem_of_getElem? (i := 3) rfl)) (hw _ (List.mem_of_getElem? (i := 4) rfl)) (by decide) (rm1 l Z a0 hw [] p0 q1 (3 : Int32) h10 n0 Z0 ) e10 2 (by decide) (by decide) (by decide) (by decide) rfl (by rw [hml]; rfl) [(.int p0), (.long q1), (.int (3 : Int32))] [(.int (3 : Int32)), (.ref b1)] rfl (lenOf pd_0 rfl) rfl (by show 2 * 0 + _ ≤ _; exact Nat.le_of_eq rfl) (hb hby at_41)) fun T12 L12 v12 X12 hQ12 => ?_
  obtain ⟨rfl, N12, e12⟩ := hQ12
  replace N0 := Fr.app N0 N12
  show own_Go p e below _ (T12.setTop (mkF m 44 #[iv p0, oJ q1, oS, iv p2, rv b1, oU, oU, oU, oU, oU, oU, oU, oU, oU, oU, oU, oU, oU, oU, oU, oU, oU, oU, oU, oU, oU, oU, oU, oU, oU, oU, oU, oU, oU] [(.int (fpick p0 q1 (3 : Int32))), (.int (3 : Int32)), (.ref b1)]))
  replace V_b1 : Arv Z h10 b1 k1 .byte (5 : Int32) [(.int (nar .byte (fpick p0 q1 (0 : Int32)))), (.int (nar .byte (fpick p0 q1 (1 : Int32)))), (.int (nar .byte (fpick p0 q1 (2 : Int32)))), (.int (0 : Int32))] (.int (0 : Int32)) := V_b1.pad (pad_rep [(.int (nar .byte (fpick p0 q1 (0 : Int32)))), (.int (nar .byte (fpick p0 q1 (1 : Int32)))), (.int (nar .byte (fpick p0 q1 (2 : Int32))))] (.int (0 : Int32)) 1)
  obtain ⟨cl13, Ar13, q13, S13, N13, H13, G13⟩ := V_b1
  have hin13 : ¬ ((3 : Int32) < 0 ∨ cl13.slots.size ≤ ((3 : Int32)).toNatClampNeg) := inb_of S13 ⟨by decide, by decide⟩
  refine own_c2 (stB X12 hx hZ e12 Ar13 (j := (3 : Int32)) hin13 rfl rfl (hb hby at_44)) fun T13 h13 X13 e13 W13 => ?_
  replace V_b1 : Arv Z h13 b1 k1 .byte (5 : Int32) [(.int (nar .byte (fpick p0 q1 (0 : Int32)))), (.int (nar .byte (fpick p0 q1 (1 : Int32)))), (.int (nar .byte (fpick p0 q1 (2 : Int32)))), (.int (nar .byte (fpick p0 q1 (3 : Int32))))] (.int (0 : Int32)) := Arv.set Ar13 q13 S13 N13 H13 G13 (fits_nar_byte _) W13 3 rfl (Nat.le_of_ble_eq_true rfl)
  replace Z0 := Nat.le_trans Z0 (Keep.of_wr W13).1
  replace N0 := Fr.snoc X13 N0 g_b1
  show own_Go p e below _ (T13.setTop (mkF m 45 #[iv p0, oJ q1, oS, iv p2, rv b1, oU, oU, oU, oU, oU, oU, oU, oU, oU, oU, oU, oU, oU, oU, oU, oU, oU, oU, oU, oU, oU, oU, oU, oU, oU, oU, oU, oU, oU] []))
  refine own_by (B := T13.setTop (mkF m 51 #[iv p0, oJ q1, oS, iv p2, rv b1, oU, oU, oU, oU, oU, oU, oU, oU, oU, oU, oU, oU, oU, oU, oU, oU, oU, oU, oU, oU, oU, oU, oU, oU, oU, oU, oU, oU, oU] [(.int (4 : Int32)), (.long q1), (.int p0), (.int (4 : Int32)), (.ref b1)])) (fun t k => ?_) ?_
  · show Steps p.tables e below (T13.setTop (mkF m 45 #[iv p0, oJ q1, oS, iv p2, rv b1, oU, oU, oU, oU, oU, oU, oU, oU, oU, oU, oU, oU, oU, oU, oU, oU, oU, oU, oU, oU, oU, oU, oU, oU, oU, oU, oU, oU, oU] [])) _
    refine XS.aload X13.here hx rfl (hb hby at_45) rfl rfl ?_
    show Steps p.tables e below (T13.setTop (mkF m 47 #[iv p0, oJ q1, oS, iv p2, rv b1, oU, oU, oU, oU, oU, oU, oU, oU, oU, oU, oU, oU, oU, oU, oU, oU, oU, oU, oU, oU, oU, oU, oU, oU, oU, oU, oU, oU, oU] [(.ref b1)])) _
    refine XS.iconst X13.here hx rfl (hb hby at_47) ?_
    show Steps p.tables e below (T13.setTop (mkF m 48 #[iv p0, oJ q1, oS, iv p2, rv b1, oU, oU, oU, oU, oU, oU, oU, oU, oU, oU, oU, oU, oU, oU, oU, oU, oU, oU, oU, oU, oU, oU, oU, oU, oU, oU, oU, oU, oU] [(.int (4 : Int32)), (.ref b1)])) _
    refine XS.iloadN X13.here hx rfl (hb hby at_48) rfl ?_
    show Steps p.tables e below (T13.setTop (mkF m 49 #[iv p0, oJ q1, oS, iv p2, rv b1, oU, oU, oU, oU, oU, oU, oU, oU, oU, oU, oU, oU, oU, oU, oU, oU, oU, oU, oU, oU, oU, oU, oU, oU, oU, oU, oU, oU, oU] [(.int p0), (.int (4 : Int32)), (.ref b1)])) _
    refine XS.lloadN X13.here hx rfl (hb hby at_49) rfl ?_
    show Steps p.tables e below (T13.setTop (mkF m 50 #[iv p0, oJ q1, oS, iv p2, rv b1, oU, oU, oU, oU, oU, oU, oU, oU, oU, oU, oU, oU, oU, oU, oU, oU, oU, oU, oU, oU, oU, oU, oU, oU, oU, oU, oU, oU, oU] [(.long q1), (.int p0), (.int (4 : Int32)), (.ref b1)])) _
    refine XS.iconst X13.here hx rfl (hb hby at_50) ?_
    show Steps p.tables e below (T13.setTop (mkF m 51 #[iv p0, oJ q1, oS, iv p2, rv b1, oU, oU, oU, oU, oU, oU, oU, oU, oU, oU, oU, oU, oU, oU, oU, oU, oU, oU, oU, oU, oU, oU, oU, oU, oU, oU, oU, oU, oU] [(.int (4 : Int32)), (.long q1), (.int p0), (.int (4 : Int32)), (.ref b1)])) _
    exact k
  refine own_cc (own_callS X13 hx hZ (y := (⟨"com/example/chartwell/chartwell/http/HeadEndFindPinLaw", "pick", "(IJI)B"⟩ : MethodName)) hown (hw _ (List.mem_of_getElem? (i := 1) rfl)) (hw _ (List.mem_of_getElem? (i := 2) rfl)) (hw _ (List.mem_of_getElem? (i := 3) rfl)) (hw _ (List.mem_of_getElem? (i := 4) rfl)) (by decide) (rm1 l Z a0 hw [] p0 q1 (4 : Int32) h13 n0 Z0 ) e13 2 (by decide) (by decide) (by decide) (by decide) rfl (by rw [hml]; rfl) [(.int p0), (.long q1), (.int (4 : Int32))] [(.int (4 : Int32)), (.ref b1)] rfl (lenOf pd_0 rfl) rfl (by show 2 * 0 + _ ≤ _; exact Nat.le_of_eq rfl) (hb hby at_51)) fun T15 L15 v15 X15 hQ15 => ?_
  obtain ⟨rfl, N15, e15⟩ := hQ15
  replace N0 := Fr.app N0 N15
  show own_Go p e below _ (T15.setTop (mkF m 54 #[iv p0, oJ q1, oS, iv p2, rv b1, oU, oU, oU, oU, oU, oU, oU, oU, oU, oU, oU, oU, oU, oU, oU, oU, oU, oU, oU, oU, oU, oU, oU, oU, oU, oU, oU, oU, oU] [(.int (fpick p0 q1 (4 : Int32))), (.int (4 : Int32)), (.ref b1)]))
  replace V_b1 : Arv Z h13 b1 k1 .byte (5 : Int32) [(.int (nar .byte (fpick p0 q1 (0 : Int32)))), (.int (nar .byte (fpick p0 q1 (1 : Int32)))), (.int (nar .byte (fpick p0 q1 (2 : Int32)))), (.int (nar .byte (fpick p0 q1 (3 : Int32)))), (.int (0 : Int32))] (.int (0 : Int32)) := V_b1.pad (pad_rep [(.int (nar .byte (fpick p0 q1 (0 : Int32)))), (.int (nar .byte (fpick p0 q1 (1 : Int32)))), (.int (nar .byte (fpick p0 q1 (2 : Int32)))), (.int (nar .byte (fpick p0 q1 (3 : Int32))))] (.int (0 : Int32)) 1)
  obtain ⟨cl16, Ar16, q16, S16, N16, H16, G16⟩ := V_b1
  have hin16 : ¬ ((4 : Int32) < 0 ∨ cl16.slots.size ≤ ((4 : Int32)).toNatClampNeg) := inb_of S16 ⟨by decide, by decide⟩
  refine own_c2 (stB X15 hx hZ e15 Ar16 (j := (4 : Int32)) hin16 rfl rfl (hb hby at_54)) fun T16 h16 X16 e16 W16 => ?_
  replace V_b1 : Arv Z h16 b1 k1 .byte (5 : Int32) [(.int (nar .byte (fpick p0 q1 (0 : Int32)))), (.int (nar .byte (fpick p0 q1 (1 : Int32)))), (.int (nar .byte (fpick p0 q1 (2 : Int32)))), (.int (nar .byte (fpick p0 q1 (3 : Int32)))), (.int (nar .byte (fpick p0 q1 (4 : Int32))))] (.int (0 : Int32)) := Arv.set Ar16 q16 S16 N16 H16 G16 (fits_nar_byte _) W16 4 rfl (Nat.le_of_ble_eq_true rfl)
  replace Z0 := Nat.le_trans Z0 (Keep.of_wr W16).1
  replace N0 := Fr.snoc X16 N0 g_b1
  show own_Go p e below _ (T16.setTop (mkF m 55 #[iv p0, oJ q1, oS, iv p2, rv b1, oU, oU, oU, oU, oU, oU, oU, oU, oU, oU, oU, oU, oU, oU, oU, oU, oU, oU, oU, oU, oU, oU, oU, oU, oU, oU, oU, oU, oU] []))
  refine own_by (B := T16.setTop (mkF m 71 #[iv p0, oJ q1, oS, iv p2, rv b1, iv (if (nar .byte (fpick p0 q1 (0 : Int32))) = (10 : Int32) then (1 : Int32) else (0 : Int32)), oU, oU, oU, oU, oU, oU, oU, oU, oU, oU, oU, oU, oU, oU, oU, oU, oU, oU, oU, oU, oU, oU, oU, oU, oU, oU, oU, oU] [])) (fun t k => ?_) ?_
  · show Steps p.tables e below (T16.setTop (mkF m 55 #[iv p0, oJ q1, oS, iv p2, rv b1, oU, oU, oU, oU, oU, oU, oU, oU, oU, oU, oU, oU, oU, oU, oU, oU, oU, oU, oU, oU, oU, oU, oU, oU, oU, oU, oU, oU, oU] [])) _
    refine XS.aload X16.here hx rfl (hb hby at_55) rfl rfl ?_
    show Steps p.tables e below (T16.setTop (mkF m 57 #[iv p0, oJ q1, oS, iv p2, rv b1, oU, oU, oU, oU, oU, oU, oU, oU, oU, oU, oU, oU, oU, oU, oU, oU, oU, oU, oU, oU, oU, oU, oU, oU, oU, oU, oU, oU, oU] [(.ref b1)])) _
    refine XS.iconst X16.here hx rfl (hb hby at_57) ?_
    show Steps p.tables e below (T16.setTop (mkF m 58 #[iv p0, oJ q1, oS, iv p2, rv b1, oU, oU, oU, oU, oU, oU, oU, oU, oU, oU, oU, oU, oU, oU, oU, oU, oU, oU, oU, oU, oU, oU, oU, oU, oU, oU, oU, oU, oU] [(.int (0 : Int32)), (.ref b1)])) _
    obtain ⟨cl17, Ar17, q17, S17, N17, H17, G17⟩ := id V_b1
    have hin17 : ¬ ((0 : Int32) < 0 ∨ cl17.slots.size ≤ ((0 : Int32)).toNatClampNeg) := inb_of S17 ⟨by decide, by decide⟩
    have hat17 : cl17.slots[((0 : Int32)).toNatClampNeg]? = some (.int (nar .byte (fpick p0 q1 (0 : Int32)))) := H17.at hin17 rfl
    refine X16.baloadBytes hx (j := (0 : Int32)) (v := (.int (nar .byte (fpick p0 q1 (0 : Int32))))) (by rw [show T16.heap = h16 from e16]; exact Ar17.1) (State.isArrayOf_alike hZ.alike Ar17.2.1) Ar17.2.2 hin17 hat17 (g := (mkF m 58 #[iv p0, oJ q1, oS, iv p2, rv b1, oU, oU, oU, oU, oU, oU, oU, oU, oU, oU, oU, oU, oU, oU, oU, oU, oU, oU, oU, oU, oU, oU, oU, oU, oU, oU, oU, oU, oU] [(.int (0 : Int32)), (.ref b1)])) rfl rfl (hb hby at_58) _ ?_
    show Steps p.tables e below (T16.setTop (mkF m 59 #[iv p0, oJ q1, oS, iv p2, rv b1, oU, oU, oU, oU, oU, oU, oU, oU, oU, oU, oU, oU, oU, oU, oU, oU, oU, oU, oU, oU, oU, oU, oU, oU, oU, oU, oU, oU, oU] [(.int (nar .byte (fpick p0 q1 (0 : Int32))))])) _
    refine XS.bipush X16.here hx rfl (hb hby at_59) ?_
    show Steps p.tables e below (T16.setTop (mkF m 61 #[iv p0, oJ q1, oS, iv p2, rv b1, oU, oU, oU, oU, oU, oU, oU, oU, oU, oU, oU, oU, oU, oU, oU, oU, oU, oU, oU, oU, oU, oU, oU, oU, oU, oU, oU, oU, oU] [(.int (10 : Int32)), (.int (nar .byte (fpick p0 q1 (0 : Int32))))])) _
    refine (fun t (k : Steps p.tables e below (T16.setTop (mkF m 69 #[iv p0, oJ q1, oS, iv p2, rv b1, oU, oU, oU, oU, oU, oU, oU, oU, oU, oU, oU, oU, oU, oU, oU, oU, oU, oU, oU, oU, oU, oU, oU, oU, oU, oU, oU, oU, oU] [(.int (if (nar .byte (fpick p0 q1 (0 : Int32))) = (10 : Int32) then (1 : Int32) else (0 : Int32)))])) t) => (?_ : Steps p.tables e below _ t)) _ ?_
    · by_cases hc18 : (nar .byte (fpick p0 q1 (0 : Int32))) = (10 : Int32)
      · simp only [if_pos hc18] at k
        refine XS.icmpNo X16.here hx rfl (hb hby at_61) rfl (teq hc18).2 ?_
        show Steps p.tables e below (T16.setTop (mkF m 64 #[iv p0, oJ q1, oS, iv p2, rv b1, oU, oU, oU, oU, oU, oU, oU, oU, oU, oU, oU, oU, oU, oU, oU, oU, oU, oU, oU, oU, oU, oU, oU, oU, oU, oU, oU, oU, oU] [])) _
        refine XS.iconst X16.here hx rfl (hb hby at_64) ?_
        show Steps p.tables e below (T16.setTop (mkF m 65 #[iv p0, oJ q1, oS, iv p2, rv b1, oU, oU, oU, oU, oU, oU, oU, oU, oU, oU, oU, oU, oU, oU, oU, oU, oU, oU, oU, oU, oU, oU, oU, oU, oU, oU, oU, oU, oU] [(.int (1 : Int32))])) _
        refine XS.goto X16.here hx rfl (pc0 := 65) (pc' := 69) rfl (hb hby at_65) (by decide) (by decide) ?_
        show Steps p.tables e below (T16.setTop (mkF m 69 #[iv p0, oJ q1, oS, iv p2, rv b1, oU, oU, oU, oU, oU, oU, oU, oU, oU, oU, oU, oU, oU, oU, oU, oU, oU, oU, oU, oU, oU, oU, oU, oU, oU, oU, oU, oU, oU] [(.int (1 : Int32))])) _
        exact k
      · simp only [if_neg hc18] at k
        refine XS.icmpYes X16.here hx rfl (pc0 := 61) (pc' := 68) rfl (hb hby at_61) rfl (feq hc18).2 (by decide) (by decide) ?_
        show Steps p.tables e below (T16.setTop (mkF m 68 #[iv p0, oJ q1, oS, iv p2, rv b1, oU, oU, oU, oU, oU, oU, oU, oU, oU, oU, oU, oU, oU, oU, oU, oU, oU, oU, oU, oU, oU, oU, oU, oU, oU, oU, oU, oU, oU] [])) _
        refine XS.iconst X16.here hx rfl (hb hby at_68) ?_
        show Steps p.tables e below (T16.setTop (mkF m 69 #[iv p0, oJ q1, oS, iv p2, rv b1, oU, oU, oU, oU, oU, oU, oU, oU, oU, oU, oU, oU, oU, oU, oU, oU, oU, oU, oU, oU, oU, oU, oU, oU, oU, oU, oU, oU, oU] [(.int (0 : Int32))])) _
        exact k
    show Steps p.tables e below (T16.setTop (mkF m 69 #[iv p0, oJ q1, oS, iv p2, rv b1, oU, oU, oU, oU, oU, oU, oU, oU, oU, oU, oU, oU, oU, oU, oU, oU, oU, oU, oU, oU, oU, oU, oU, oU, oU, oU, oU, oU, oU] [(.int (if (nar .byte (fpick p0 q1 (0 : Int32))) = (10 : Int32) then (1 : Int32) else (0 : Int32)))])) _
    refine XS.istore X16.here hx rfl (hb hby at_69) rfl (l' := #[iv p0, oJ q1, oS, iv p2, rv b1, iv (if (nar .byte (fpick p0 q1 (0 : Int32))) = (10 : Int32) then (1 : Int32) else (0 : Int32)), oU, oU, oU, oU, oU, oU, oU, oU, oU, oU, oU, oU, oU, oU, oU, oU, oU, oU, oU, oU, oU, oU, oU, oU, oU, oU, oU, oU]) rfl ?_
    show Steps p.tables e below (T16.setTop (mkF m 71 #[iv p0, oJ q1, oS, iv p2, rv b1, iv (if (nar .byte (fpick p0 q1 (0 : Int32))) = (10 : Int32) then (1 : Int32) else (0 : Int32)), oU, oU, oU, oU, oU, oU, oU, oU, oU, oU, oU, oU, oU, oU, oU, oU, oU, oU, oU, oU, oU, oU, oU, oU, oU, oU, oU, oU] [])) _
    exact k
  generalize hl0 : (if (nar .byte (fpick p0 q1 (0 : Int32))) = (10 : Int32) then (1 : Int32) else (0 : Int32)) = l0
  show own_Go p e below _ (T16.setTop (mkF m 71 #[iv p0, oJ q1, oS, iv p2, rv b1, iv l0, oU, oU, oU, oU, oU, oU, oU, oU, oU, oU, oU, oU, oU, oU, oU, oU, oU, oU, oU, oU, oU, oU, oU, oU, oU, oU, oU, oU] []))
  refine own_by (B := T16.setTop (mkF m 87 #[iv p0, oJ q1, oS, iv p2, rv b1, iv l0, iv (if (nar .byte (fpick p0 q1 (1 : Int32))) = (10 : Int32) then (1 : Int32) else (0 : Int32)), oU, oU, oU, oU, oU, oU, oU, oU, oU, oU, oU, oU, oU, oU, oU, oU, oU, oU, oU, oU, oU, oU, oU, oU, oU, oU, oU] [])) (fun t k => ?_) ?_
  · show Steps p.tables e below (T16.setTop (mkF m 71 #[iv p0, oJ q1, oS, iv p2, rv b1, iv l0, oU, oU, oU, oU, oU, oU, oU, oU, oU, oU, oU, oU, oU, oU, oU, oU, oU, oU, oU, oU, oU, oU, oU, oU, oU, oU, oU, oU] [])) _
    refine XS.aload X16.here hx rfl (hb hby at_71) rfl rfl ?_
    show Steps p.tables e below (T16.setTop (mkF m 73 #[iv p0, oJ q1, oS, iv p2, rv b1, iv l0, oU, oU, oU, oU, oU, oU, oU, oU, oU, oU, oU, oU, oU, oU, oU, oU, oU, oU, oU, oU, oU, oU, oU, oU, oU, oU, oU, oU] [(.ref b1)])) _
    refine XS.iconst X16.here hx rfl (hb hby at_73) ?_
    show Steps p.tables e below (T16.setTop (mkF m 74 #[iv p0, oJ q1, oS, iv p2, rv b1, iv l0, oU, oU, oU, oU, oU, oU, oU, oU, oU, oU, oU, oU, oU, oU, oU, oU, oU, oU, oU, oU, oU, oU, oU, oU, oU, oU, oU, oU] [(.int (1 : Int32)), (.ref b1)])) _
    obtain ⟨cl19, Ar19, q19, S19, N19, H19, G19⟩ := id V_b1
    have hin19 : ¬ ((1 : Int32) < 0 ∨ cl19.slots.size ≤ ((1 : Int32)).toNatClampNeg) := inb_of S19 ⟨by decide, by decide⟩
    have hat19 : cl19.slots[((1 : Int32)).toNatClampNeg]? = some (.int (nar .byte (fpick p0 q1 (1 : Int32)))) := H19.at hin19 rfl
    refine X16.baloadBytes hx (j := (1 : Int32)) (v := (.int (nar .byte (fpick p0 q1 (1 : Int32))))) (by rw [show T16.heap = h16 from e16]; exact Ar19.1) (State.isArrayOf_alike hZ.alike Ar19.2.1) Ar19.2.2 hin19 hat19 (g := (mkF m 74 #[iv p0, oJ q1, oS, iv p2, rv b1, iv l0, oU, oU, oU, oU, oU, oU, oU, oU, oU, oU, oU, oU, oU, oU, oU, oU, oU, oU, oU, oU, oU, oU, oU, oU, oU, oU, oU, oU] [(.int (1 : Int32)), (.ref b1)])) rfl rfl (hb hby at_74) _ ?_
    show Steps p.tables e below (T16.setTop (mkF m 75 #[iv p0, oJ q1, oS, iv p2, rv b1, iv l0, oU, oU, oU, oU, oU, oU, oU, oU, oU, oU, oU, oU, oU, oU, oU, oU, oU, oU, oU, oU, oU, oU, oU, oU, oU, oU, oU, oU] [(.int (nar .byte (fpick p0 q1 (1 : Int32))))])) _
    refine XS.bipush X16.here hx rfl (hb hby at_75) ?_
    show Steps p.tables e below (T16.setTop (mkF m 77 #[iv p0, oJ q1, oS, iv p2, rv b1, iv l0, oU, oU, oU, oU, oU, oU, oU, oU, oU, oU, oU, oU, oU, oU, oU, oU, oU, oU, oU, oU, oU, oU, oU, oU, oU, oU, oU, oU] [(.int (10 : Int32)), (.int (nar .byte (fpick p0 q1 (1 : Int32))))])) _
    refine (fun t (k : Steps p.tables e below (T16.setTop (mkF m 85 #[iv p0, oJ q1, oS, iv p2, rv b1, iv l0, oU, oU, oU, oU, oU, oU, oU, oU, oU, oU, oU, oU, oU, oU, oU, oU, oU, oU, oU, oU, oU, oU, oU, oU, oU, oU, oU, oU] [(.int (if (nar .byte (fpick p0 q1 (1 : Int32))) = (10 : Int32) then (1 : Int32) else (0 : Int32)))])) t) => (?_ : Steps p.tables e below _ t)) _ ?_
    · by_cases hc20 : (nar .byte (fpick p0 q1 (1 : Int32))) = (10 : Int32)
      · simp only [if_pos hc20] at k
        refine XS.icmpNo X16.here hx rfl (hb hby at_77) rfl (teq hc20).2 ?_
        show Steps p.tables e below (T16.setTop (mkF m 80 #[iv p0, oJ q1, oS, iv p2, rv b1, iv l0, oU, oU, oU, oU, oU, oU, oU, oU, oU, oU, oU, oU, oU, oU, oU, oU, oU, oU, oU, oU, oU, oU, oU, oU, oU, oU, oU, oU] [])) _
        refine XS.iconst X16.here hx rfl (hb hby at_80) ?_
        show Steps p.tables e below (T16.setTop (mkF m 81 #[iv p0, oJ q1, oS, iv p2, rv b1, iv l0, oU, oU, oU, oU, oU, oU, oU, oU, oU, oU, oU, oU, oU, oU, oU, oU, oU, oU, oU, oU, oU, oU, oU, oU, oU, oU, oU, oU] [(.int (1 : Int32))])) _
        refine XS.goto X16.here hx rfl (pc0 := 81) (pc' := 85) rfl (hb hby at_81) (by decide) (by decide) ?_
        show Steps p.tables e below (T16.setTop (mkF m 85 #[iv p0, oJ q1, oS, iv p2, rv b1, iv l0, oU, oU, oU, oU, oU, oU, oU, oU, oU, oU, oU, oU, oU, oU, oU, oU, oU, oU, oU, oU, oU, oU, oU, oU, oU, oU, oU, oU] [(.int (1 : Int32))])) _
        exact k
      · simp only [if_neg hc20] at k
        refine XS.icmpYes X16.here hx rfl (pc0 := 77) (pc' := 84) rfl (hb hby at_77) rfl (feq hc20).2 (by decide) (by decide) ?_
        show Steps p.tables e below (T16.setTop (mkF m 84 #[iv p0, oJ q1, oS, iv p2, rv b1, iv l0, oU, oU, oU, oU, oU, oU, oU, oU, oU, oU, oU, oU, oU, oU, oU, oU, oU, oU, oU, oU, oU, oU, oU, oU, oU, oU, oU, oU] [])) _
        refine XS.iconst X16.here hx rfl (hb hby at_84) ?_
        show Steps p.tables e below (T16.setTop (mkF m 85 #[iv p0, oJ q1, oS, iv p2, rv b1, iv l0, oU, oU, oU, oU, oU, oU, oU, oU, oU, oU, oU, oU, oU, oU, oU, oU, oU, oU, oU, oU, oU, oU, oU, oU, oU, oU, oU, oU] [(.int (0 : Int32))])) _
        exact k
    show Steps p.tables e below (T16.setTop (mkF m 85 #[iv p0, oJ q1, oS, iv p2, rv b1, iv l0, oU, oU, oU, oU, oU, oU, oU, oU, oU, oU, oU, oU, oU, oU, oU, oU, oU, oU, oU, oU, oU, oU, oU, oU, oU, oU, oU, oU] [(.int (if (nar .byte (fpick p0 q1 (1 : Int32))) = (10 : Int32) then (1 : Int32) else (0 : Int32)))])) _
    refine XS.istore X16.here hx rfl (hb hby at_85) rfl (l' := #[iv p0, oJ q1, oS, iv p2, rv b1, iv l0, iv (if (nar .byte (fpick p0 q1 (1 : Int32))) = (10 : Int32) then (1 : Int32) else (0 : Int32)), oU, oU, oU, oU, oU, oU, oU, oU, oU, oU, oU, oU, oU, oU, oU, oU, oU, oU, oU, oU, oU, oU, oU, oU, oU, oU, oU]) rfl ?_
    show Steps p.tables e below (T16.setTop (mkF m 87 #[iv p0, oJ q1, oS, iv p2, rv b1, iv l0, iv (if (nar .byte (fpick p0 q1 (1 : Int32))) = (10 : Int32) then (1 : Int32) else (0 : Int32)), oU, oU, oU, oU, oU, oU, oU, oU, oU, oU, oU, oU, oU, oU, oU, oU, oU, oU, oU, oU, oU, oU, oU, oU, oU, oU, oU] [])) _
    exact k
  generalize hl1 : (if (nar .byte (fpick p0 q1 (1 : Int32))) = (10 : Int32) then (1 : Int32) else (0 : Int32)) = l1
  show own_Go p e below _ (T16.setTop (mkF m 87 #[iv p0, oJ q1, oS, iv p2, rv b1, iv l0, iv l1, oU, oU, oU, oU, oU, oU, oU, oU, oU, oU, oU, oU, oU, oU, oU, oU, oU, oU, oU, oU, oU, oU, oU, oU, oU, oU, oU] []))
  refine own_by (B := T16.setTop (mkF m 103 #[iv p0, oJ q1, oS, iv p2, rv b1, iv l0, iv l1, iv (if (nar .byte (fpick p0 q1 (2 : Int32))) = (10 : Int32) then (1 : Int32) else (0 : Int32)), oU, oU, oU, oU, oU, oU, oU, oU, oU, oU, oU, oU, oU, oU, oU, oU, oU, oU, oU, oU, oU, oU, oU, oU, oU, oU] [])) (fun t k => ?_) ?_
  · show Steps p.tables e below (T16.setTop (mkF m 87 #[iv p0, oJ q1, oS, iv p2, rv b1, iv l0, iv l1, oU, oU, oU, oU, oU, oU, oU, oU, oU, oU, oU, oU, oU, oU, oU, oU, oU, oU, oU, oU, oU, oU, oU, oU, oU, oU, oU] [])) _
    refine XS.aload X16.here hx rfl (hb hby at_87) rfl rfl ?_
    show Steps p.tables e below (T16.setTop (mkF m 89 #[iv p0, oJ q1, oS, iv p2, rv b1, iv l0, iv l1, oU, oU, oU, oU, oU, oU, oU, oU, oU, oU, oU, oU, oU, oU, oU, oU, oU, oU, oU, oU, oU, oU, oU, oU, oU, oU, oU] [(.ref b1)])) _
    refine XS.iconst X16.here hx rfl (hb hby at_89) ?_
    show Steps p.tables e below (T16.setTop (mkF m 90 #[iv p0, oJ q1, oS, iv p2, rv b1, iv l0, iv l1, oU, oU, oU, oU, oU, oU, oU, oU, oU, oU, oU, oU, oU, oU, oU, oU, oU, oU, oU, oU, oU, oU, oU, oU, oU, oU, oU] [(.int (2 : Int32)), (.ref b1)])) _
    obtain ⟨cl21, Ar21, q21, S21, N21, H21, G21⟩ := id V_b1
    have hin21 : ¬ ((2 : Int32) < 0 ∨ cl21.slots.size ≤ ((2 : Int32)).toNatClampNeg) := inb_of S21 ⟨by decide, by decide⟩
    have hat21 : cl21.slots[((2 : Int32)).toNatClampNeg]? = some (.int (nar .byte (fpick p0 q1 (2 : Int32)))) := H21.at hin21 rfl
    refine X16.baloadBytes hx (j := (2 : Int32)) (v := (.int (nar .byte (fpick p0 q1 (2 : Int32))))) (by rw [show T16.heap = h16 from e16]; exact Ar21.1) (State.isArrayOf_alike hZ.alike Ar21.2.1) Ar21.2.2 hin21 hat21 (g := (mkF m 90 #[iv p0, oJ q1, oS, iv p2, rv b1, iv l0, iv l1, oU, oU, oU, oU, oU, oU, oU, oU, oU, oU, oU, oU, oU, oU, oU, oU, oU, oU, oU, oU, oU, oU, oU, oU, oU, oU, oU] [(.int (2 : Int32)), (.ref b1)])) rfl rfl (hb hby at_90) _ ?_
    show Steps p.tables e below (T16.setTop (mkF m 91 #[iv p0, oJ q1, oS, iv p2, rv b1, iv l0, iv l1, oU, oU, oU, oU, oU, oU, oU, oU, oU, oU, oU, oU, oU, oU, oU, oU, oU, oU, oU, oU, oU, oU, oU, oU, oU, oU, oU] [(.int (nar .byte (fpick p0 q1 (2 : Int32))))])) _
    refine XS.bipush X16.here hx rfl (hb hby at_91) ?_
    show Steps p.tables e below (T16.setTop (mkF m 93 #[iv p0, oJ q1, oS, iv p2, rv b1, iv l0, iv l1, oU, oU, oU, oU, oU, oU, oU, oU, oU, oU, oU, oU, oU, oU, oU, oU, oU, oU, oU, oU, oU, oU, oU, oU, oU, oU, oU] [(.int (10 : Int32)), (.int (nar .byte (fpick p0 q1 (2 : Int32))))])) _
    refine (fun t (k : Steps p.tables e below (T16.setTop (mkF m 101 #[iv p0, oJ q1, oS, iv p2, rv b1, iv l0, iv l1, oU, oU, oU, oU, oU, oU, oU, oU, oU, oU, oU, oU, oU, oU, oU, oU, oU, oU, oU, oU, oU, oU, oU, oU, oU, oU, oU] [(.int (if (nar .byte (fpick p0 q1 (2 : Int32))) = (10 : Int32) then (1 : Int32) else (0 : Int32)))])) t) => (?_ : Steps p.tables e below _ t)) _ ?_
    · by_cases hc22 : (nar .byte (fpick p0 q1 (2 : Int32))) = (10 : Int32)
      · simp only [if_pos hc22] at k
        refine XS.icmpNo X16.here hx rfl (hb hby at_93) rfl (teq hc22).2 ?_
        show Steps p.tables e below (T16.setTop (mkF m 96 #[iv p0, oJ q1, oS, iv p2, rv b1, iv l0, iv l1, oU, oU, oU, oU, oU, oU, oU, oU, oU, oU, oU, oU, oU, oU, oU, oU, oU, oU, oU, oU, oU, oU, oU, oU, oU, oU, oU] [])) _
        refine XS.iconst X16.here hx rfl (hb hby at_96) ?_
        show Steps p.tables e below (T16.setTop (mkF m 97 #[iv p0, oJ q1, oS, iv p2, rv b1, iv l0, iv l1, oU, oU, oU, oU, oU, oU, oU, oU, oU, oU, oU, oU, oU, oU, oU, oU, oU, oU, oU, oU, oU, oU, oU, oU, oU, oU, oU] [(.int (1 : Int32))])) _
        refine XS.goto X16.here hx rfl (pc0 := 97) (pc' := 101) rfl (hb hby at_97) (by decide) (by decide) ?_
        show Steps p.tables e below (T16.setTop (mkF m 101 #[iv p0, oJ q1, oS, iv p2, rv b1, iv l0, iv l1, oU, oU, oU, oU, oU, oU, oU, oU, oU, oU, oU, oU, oU, oU, oU, oU, oU, oU, oU, oU, oU, oU, oU, oU, oU, oU, oU] [(.int (1 : Int32))])) _
        exact k
      · simp only [if_neg hc22] at k
        refine XS.icmpYes X16.here hx rfl (pc0 := 93) (pc' := 100) rfl (hb hby at_93) rfl (feq hc22).2 (by decide) (by decide) ?_
        show Steps p.tables e below (T16.setTop (mkF m 100 #[iv p0, oJ q1, oS, iv p2, rv b1, iv l0, iv l1, oU, oU, oU, oU, oU, oU, oU, oU, oU, oU, oU, oU, oU, oU, oU, oU, oU, oU, oU, oU, oU, oU, oU, oU, oU, oU, oU] [])) _
        refine XS.iconst X16.here hx rfl (hb hby at_100) ?_
        show Steps p.tables e below (T16.setTop (mkF m 101 #[iv p0, oJ q1, oS, iv p2, rv b1, iv l0, iv l1, oU, oU, oU, oU, oU, oU, oU, oU, oU, oU, oU, oU, oU, oU, oU, oU, oU, oU, oU, oU, oU, oU, oU, oU, oU, oU, oU] [(.int (0 : Int32))])) _
        exact k
    show Steps p.tables e below (T16.setTop (mkF m 101 #[iv p0, oJ q1, oS, iv p2, rv b1, iv l0, iv l1, oU, oU, oU, oU, oU, oU, oU, oU, oU, oU, oU, oU, oU, oU, oU, oU, oU, oU, oU, oU, oU, oU, oU, oU, oU, oU, oU] [(.int (if (nar .byte (fpick p0 q1 (2 : Int32))) = (10 : Int32) then (1 : Int32) else (0 : Int32)))])) _
    refine XS.istore X16.here hx rfl (hb hby at_101) rfl (l' := #[iv p0, oJ q1, oS, iv p2, rv b1, iv l0, iv l1, iv (if (nar .byte (fpick p0 q1 (2 : Int32))) = (10 : Int32) then (1 : Int32) else (0 : Int32)), oU, oU, oU, oU, oU, oU, oU, oU, oU, oU, oU, oU, oU, oU, oU, oU, oU, oU, oU, oU, oU, oU, oU, oU, oU, oU]) rfl ?_
    show Steps p.tables e below (T16.setTop (mkF m 103 #[iv p0, oJ q1, oS, iv p2, rv b1, iv l0, iv l1, iv (if (nar .byte (fpick p0 q1 (2 : Int32))) = (10 : Int32) then (1 : Int32) else (0 : Int32)), oU, oU, oU, oU, oU, oU, oU, oU, oU, oU, oU, oU, oU, oU, oU, oU, oU, oU, oU, oU, oU, oU, oU, oU, oU, oU] [])) _
    exact k
  generalize hl2 : (if (nar .byte (fpick p0 q1 (2 : Int32))) = (10 : Int32) then (1 : Int32) else (0 : Int32)) = l2
  show own_Go p e below _ (T16.setTop (mkF m 103 #[iv p0, oJ q1, oS, iv p2, rv b1, iv l0, iv l1, iv l2, oU, oU, oU, oU, oU, oU, oU, oU, oU, oU, oU, oU, oU, oU, oU, oU, oU, oU, oU, oU, oU, oU, oU, oU, oU, oU] []))
  refine own_by (B := T16.setTop (mkF m 119 #[iv p0, oJ q1, oS, iv p2, rv b1, iv l0, iv l1, iv l2, iv (if (nar .byte (fpick p0 q1 (3 : Int32))) = (10 : Int32) then (1 : Int32) else (0 : Int32)), oU, oU, oU, oU, oU, oU, oU, oU, oU, oU, oU, oU, oU, oU, oU, oU, oU, oU, oU, oU, oU, oU, oU, oU, oU] [])) (fun t k => ?_) ?_
  · show Steps p.tables e below (T16.setTop (mkF m 103 #[iv p0, oJ q1, oS, iv p2, rv b1, iv l0, iv l1, iv l2, oU, oU, oU, oU, oU, oU, oU, oU, oU, oU, oU, oU, oU, oU, oU, oU, oU, oU, oU, oU, oU, oU, oU, oU, oU, oU] [])) _
    refine XS.aload X16.here hx rfl (hb hby at_103) rfl rfl ?_
    show Steps p.tables e below (T16.setTop (mkF m 105 #[iv p0, oJ q1, oS, iv p2, rv b1, iv l0, iv l1, iv l2, oU, oU, oU, oU, oU, oU, oU, oU, oU, oU, oU, oU, oU, oU, oU, oU, oU, oU, oU, oU, oU, oU, oU, oU, oU, oU] [(.ref b1)])) _
    refine XS.iconst X16.here hx rfl (hb hby at_105) ?_
    show Steps p.tables e below (T16.setTop (mkF m 106 #[iv p0, oJ q1, oS, iv p2, rv b1, iv l0, iv l1, iv l2, oU, oU, oU, oU, oU, oU, oU, oU, oU, oU, oU, oU, oU, oU, oU, oU, oU, oU, oU, oU, oU, oU, oU, oU, oU, oU] [(.int (3 : Int32)), (.ref b1)])) _
    obtain ⟨cl23, Ar23, q23, S23, N23, H23, G23⟩ := id V_b1
    have hin23 : ¬ ((3 : Int32) < 0 ∨ cl23.slots.size ≤ ((3 : Int32)).toNatClampNeg) := inb_of S23 ⟨by decide, by decide⟩
    have hat23 : cl23.slots[((3 : Int32)).toNatClampNeg]? = some (.int (nar .byte (fpick p0 q1 (3 : Int32)))) := H23.at hin23 rfl
    refine X16.baloadBytes hx (j := (3 : Int32)) (v := (.int (nar .byte (fpick p0 q1 (3 : Int32))))) (by rw [show T16.heap = h16 from e16]; exact Ar23.1) (State.isArrayOf_alike hZ.alike Ar23.2.1) Ar23.2.2 hin23 hat23 (g := (mkF m 106 #[iv p0, oJ q1, oS, iv p2, rv b1, iv l0, iv l1, iv l2, oU, oU, oU, oU, oU, oU, oU, oU, oU, oU, oU, oU, oU, oU, oU, oU, oU, oU, oU, oU, oU, oU, oU, oU, oU, oU] [(.int (3 : Int32)), (.ref b1)])) rfl rfl (hb hby at_106) _ ?_
    show Steps p.tables e below (T16.setTop (mkF m 107 #[iv p0, oJ q1, oS, iv p2, rv b1, iv l0, iv l1, iv l2, oU, oU, oU, oU, oU, oU, oU, oU, oU, oU, oU, oU, oU, oU, oU, oU, oU, oU, oU, oU, oU, oU, oU, oU, oU, oU] [(.int (nar .byte (fpick p0 q1 (3 : Int32))))])) _
    refine XS.bipush X16.here hx rfl (hb hby at_107) ?_
    show Steps p.tables e below (T16.setTop (mkF m 109 #[iv p0, oJ q1, oS, iv p2, rv b1, iv l0, iv l1, iv l2, oU, oU, oU, oU, oU, oU, oU, oU, oU, oU, oU, oU, oU, oU, oU, oU, oU, oU, oU, oU, oU, oU, oU, oU, oU, oU] [(.int (10 : Int32)), (.int (nar .byte (fpick p0 q1 (3 : Int32))))])) _
    refine (fun t (k : Steps p.tables e below (T16.setTop (mkF m 117 #[iv p0, oJ q1, oS, iv p2, rv b1, iv l0, iv l1, iv l2, oU, oU, oU, oU, oU, oU, oU, oU, oU, oU, oU, oU, oU, oU, oU, oU, oU, oU, oU, oU, oU, oU, oU, oU, oU, oU] [(.int (if (nar .byte (fpick p0 q1 (3 : Int32))) = (10 : Int32) then (1 : Int32) else (0 : Int32)))])) t) => (?_ : Steps p.tables e below _ t)) _ ?_
    · by_cases hc24 : (nar .byte (fpick p0 q1 (3 : Int32))) = (10 : Int32)
      · simp only [if_pos hc24] at k
        refine XS.icmpNo X16.here hx rfl (hb hby at_109) rfl (teq hc24).2 ?_
        show Steps p.tables e below (T16.setTop (mkF m 112 #[iv p0, oJ q1, oS, iv p2, rv b1, iv l0, iv l1, iv l2, oU, oU, oU, oU, oU, oU, oU, oU, oU, oU, oU, oU, oU, oU, oU, oU, oU, oU, oU, oU, oU, oU, oU, oU, oU, oU] [])) _
        refine XS.iconst X16.here hx rfl (hb hby at_112) ?_
        show Steps p.tables e below (T16.setTop (mkF m 113 #[iv p0, oJ q1, oS, iv p2, rv b1, iv l0, iv l1, iv l2, oU, oU, oU, oU, oU, oU, oU, oU, oU, oU, oU, oU, oU, oU, oU, oU, oU, oU, oU, oU, oU, oU, oU, oU, oU, oU] [(.int (1 : Int32))])) _
        refine XS.goto X16.here hx rfl (pc0 := 113) (pc' := 117) rfl (hb hby at_113) (by decide) (by decide) ?_
        show Steps p.tables e below (T16.setTop (mkF m 117 #[iv p0, oJ q1, oS, iv p2, rv b1, iv l0, iv l1, iv l2, oU, oU, oU, oU, oU, oU, oU, oU, oU, oU, oU, oU, oU, oU, oU, oU, oU, oU, oU, oU, oU, oU, oU, oU, oU, oU] [(.int (1 : Int32))])) _
        exact k
      · simp only [if_neg hc24] at k
        refine XS.icmpYes X16.here hx rfl (pc0 := 109) (pc' := 116) rfl (hb hby at_109) rfl (feq hc24).2 (by decide) (by decide) ?_
        show Steps p.tables e below (T16.setTop (mkF m 116 #[iv p0, oJ q1, oS, iv p2, rv b1, iv l0, iv l1, iv l2, oU, oU, oU, oU, oU, oU, oU, oU, oU, oU, oU, oU, oU, oU, oU, oU, oU, oU, oU, oU, oU, oU, oU, oU, oU, oU] [])) _
        refine XS.iconst X16.here hx rfl (hb hby at_116) ?_
        show Steps p.tables e below (T16.setTop (mkF m 117 #[iv p0, oJ q1, oS, iv p2, rv b1, iv l0, iv l1, iv l2, oU, oU, oU, oU, oU, oU, oU, oU, oU, oU, oU, oU, oU, oU, oU, oU, oU, oU, oU, oU, oU, oU, oU, oU, oU, oU] [(.int (0 : Int32))])) _
        exact k
    show Steps p.tables e below (T16.setTop (mkF m 117 #[iv p0, oJ q1, oS, iv p2, rv b1, iv l0, iv l1, iv l2, oU, oU, oU, oU, oU, oU, oU, oU, oU, oU, oU, oU, oU, oU, oU, oU, oU, oU, oU, oU, oU, oU, oU, oU, oU, oU] [(.int (if (nar .byte (fpick p0 q1 (3 : Int32))) = (10 : Int32) then (1 : Int32) else (0 : Int32)))])) _
    refine XS.istore X16.here hx rfl (hb hby at_117) rfl (l' := #[iv p0, oJ q1, oS, iv p2, rv b1, iv l0, iv l1, iv l2, iv (if (nar .byte (fpick p0 q1 (3 : Int32))) = (10 : Int32) then (1 : Int32) else (0 : Int32)), oU, oU, oU, oU, oU, oU, oU, oU, oU, oU, oU, oU, oU, oU, oU, oU, oU, oU, oU, oU, oU, oU, oU, oU, oU]) rfl ?_
    show Steps p.tables e below (T16.setTop (mkF m 119 #[iv p0, oJ q1, oS, iv p2, rv b1, iv l0, iv l1, iv l2, iv (if (nar .byte (fpick p0 q1 (3 : Int32))) = (10 : Int32) then (1 : Int32) else (0 : Int32)), oU, oU, oU, oU, oU, oU, oU, oU, oU, oU, oU, oU, oU, oU, oU, oU, oU, oU, oU, oU, oU, oU, oU, oU, oU] [])) _
    exact k
  generalize hl3 : (if (nar .byte (fpick p0 q1 (3 : Int32))) = (10 : Int32) then (1 : Int32) else (0 : Int32)) = l3
  show own_Go p e below _ (T16.setTop (mkF m 119 #[iv p0, oJ q1, oS, iv p2, rv b1, iv l0, iv l1, iv l2, iv l3, oU, oU, oU, oU, oU, oU, oU, oU, oU, oU, oU, oU, oU, oU, oU, oU, oU, oU, oU, oU, oU, oU, oU, oU, oU] []))
  refine own_by (B := T16.setTop (mkF m 135 #[iv p0, oJ q1, oS, iv p2, rv b1, iv l0, iv l1, iv l2, iv l3, iv (if (nar .byte (fpick p0 q1 (4 : Int32))) = (10 : Int32) then (1 : Int32) else (0 : Int32)), oU, oU, oU, oU, oU, oU, oU, oU, oU, oU, oU, oU, oU, oU, oU, oU, oU, oU, oU, oU, oU, oU, oU, oU] [])) (fun t k => ?_) ?_
  · show Steps p.tables e below (T16.setTop (mkF m 119 #[iv p0, oJ q1, oS, iv p2, rv b1, iv l0, iv l1, iv l2, iv l3, oU, oU, oU, oU, oU, oU, oU, oU, oU, oU, oU, oU, oU, oU, oU, oU, oU, oU, oU, oU, oU, oU, oU, oU, oU] [])) _
    refine XS.aload X16.here hx rfl (hb hby at_119) rfl rfl ?_
    show Steps p.tables e below (T16.setTop (mkF m 121 #[iv p0, oJ q1, oS, iv p2, rv b1, iv l0, iv l1, iv l2, iv l3, oU, oU, oU, oU, oU, oU, oU, oU, oU, oU, oU, oU, oU, oU, oU, oU, oU, oU, oU, oU, oU, oU, oU, oU, oU] [(.ref b1)])) _
    refine XS.iconst X16.here hx rfl (hb hby at_121) ?_
    show Steps p.tables e below (T16.setTop (mkF m 122 #[iv p0, oJ q1, oS, iv p2, rv b1, iv l0, iv l1, iv l2, iv l3, oU, oU, oU, oU, oU, oU, oU, oU, oU, oU, oU, oU, oU, oU, oU, oU, oU, oU, oU, oU, oU, oU, oU, oU, oU] [(.int (4 : Int32)), (.ref b1)])) _
    obtain ⟨cl25, Ar25, q25, S25, N25, H25, G25⟩ := id V_b1
    have hin25 : ¬ ((4 : Int32) < 0 ∨ cl25.slots.size ≤ ((4 : Int32)).toNatClampNeg) := inb_of S25 ⟨by decide, by decide⟩
    have hat25 : cl25.slots[((4 : Int32)).toNatClampNeg]? = some (.int (nar .byte (fpick p0 q1 (4 : Int32)))) := H25.at hin25 rfl
    refine X16.baloadBytes hx (j := (4 : Int32)) (v := (.int (nar .byte (fpick p0 q1 (4 : Int32))))) (by rw [show T16.heap = h16 from e16]; exact Ar25.1) (State.isArrayOf_alike hZ.alike Ar25.2.1) Ar25.2.2 hin25 hat25 (g := (mkF m 122 #[iv p0, oJ q1, oS, iv p2, rv b1, iv l0, iv l1, iv l2, iv l3, oU, oU, oU, oU, oU, oU, oU, oU, oU, oU, oU, oU, oU, oU, oU, oU, oU, oU, oU, oU, oU, oU, oU, oU, oU] [(.int (4 : Int32)), (.ref b1)])) rfl rfl (hb hby at_122) _ ?_
    show Steps p.tables e below (T16.setTop (mkF m 123 #[iv p0, oJ q1, oS, iv p2, rv b1, iv l0, iv l1, iv l2, iv l3, oU, oU, oU, oU, oU, oU, oU, oU, oU, oU, oU, oU, oU, oU, oU, oU, oU, oU, oU, oU, oU, oU, oU, oU, oU] [(.int (nar .byte (fpick p0 q1 (4 : Int32))))])) _
    refine XS.bipush X16.here hx rfl (hb hby at_123) ?_
    show Steps p.tables e below (T16.setTop (mkF m 125 #[iv p0, oJ q1, oS, iv p2, rv b1, iv l0, iv l1, iv l2, iv l3, oU, oU, oU, oU, oU, oU, oU, oU, oU, oU, oU, oU, oU, oU, oU, oU, oU, oU, oU, oU, oU, oU, oU, oU, oU] [(.int (10 : Int32)), (.int (nar .byte (fpick p0 q1 (4 : Int32))))])) _
    refine (fun t (k : Steps p.tables e below (T16.setTop (mkF m 133 #[iv p0, oJ q1, oS, iv p2, rv b1, iv l0, iv l1, iv l2, iv l3, oU, oU, oU, oU, oU, oU, oU, oU, oU, oU, oU, oU, oU, oU, oU, oU, oU, oU, oU, oU, oU, oU, oU, oU, oU] [(.int (if (nar .byte (fpick p0 q1 (4 : Int32))) = (10 : Int32) then (1 : Int32) else (0 : Int32)))])) t) => (?_ : Steps p.tables e below _ t)) _ ?_
    · by_cases hc26 : (nar .byte (fpick p0 q1 (4 : Int32))) = (10 : Int32)
      · simp only [if_pos hc26] at k
        refine XS.icmpNo X16.here hx rfl (hb hby at_125) rfl (teq hc26).2 ?_
        show Steps p.tables e below (T16.setTop (mkF m 128 #[iv p0, oJ q1, oS, iv p2, rv b1, iv l0, iv l1, iv l2, iv l3, oU, oU, oU, oU, oU, oU, oU, oU, oU, oU, oU, oU, oU, oU, oU, oU, oU, oU, oU, oU, oU, oU, oU, oU, oU] [])) _
        refine XS.iconst X16.here hx rfl (hb hby at_128) ?_
        show Steps p.tables e below (T16.setTop (mkF m 129 #[iv p0, oJ q1, oS, iv p2, rv b1, iv l0, iv l1, iv l2, iv l3, oU, oU, oU, oU, oU, oU, oU, oU, oU, oU, oU, oU, oU, oU, oU, oU, oU, oU, oU, oU, oU, oU, oU, oU, oU] [(.int (1 : Int32))])) _
        refine XS.goto X16.here hx rfl (pc0 := 129) (pc' := 133) rfl (hb hby at_129) (by decide) (by decide) ?_
        show Steps p.tables e below (T16.setTop (mkF m 133 #[iv p0, oJ q1, oS, iv p2, rv b1, iv l0, iv l1, iv l2, iv l3, oU, oU, oU, oU, oU, oU, oU, oU, oU, oU, oU, oU, oU, oU, oU, oU, oU, oU, oU, oU, oU, oU, oU, oU, oU] [(.int (1 : Int32))])) _
        exact k
      · simp only [if_neg hc26] at k
        refine XS.icmpYes X16.here hx rfl (pc0 := 125) (pc' := 132) rfl (hb hby at_125) rfl (feq hc26).2 (by decide) (by decide) ?_
        show Steps p.tables e below (T16.setTop (mkF m 132 #[iv p0, oJ q1, oS, iv p2, rv b1, iv l0, iv l1, iv l2, iv l3, oU, oU, oU, oU, oU, oU, oU, oU, oU, oU, oU, oU, oU, oU, oU, oU, oU, oU, oU, oU, oU, oU, oU, oU, oU] [])) _
        refine XS.iconst X16.here hx rfl (hb hby at_132) ?_
        show Steps p.tables e below (T16.setTop (mkF m 133 #[iv p0, oJ q1, oS, iv p2, rv b1, iv l0, iv l1, iv l2, iv l3, oU, oU, oU, oU, oU, oU, oU, oU, oU, oU, oU, oU, oU, oU, oU, oU, oU, oU, oU, oU, oU, oU, oU, oU, oU] [(.int (0 : Int32))])) _
        exact k
    show Steps p.tables e below (T16.setTop (mkF m 133 #[iv p0, oJ q1, oS, iv p2, rv b1, iv l0, iv l1, iv l2, iv l3, oU, oU, oU, oU, oU, oU, oU, oU, oU, oU, oU, oU, oU, oU, oU, oU, oU, oU, oU, oU, oU, oU, oU, oU, oU] [(.int (if (nar .byte (fpick p0 q1 (4 : Int32))) = (10 : Int32) then (1 : Int32) else (0 : Int32)))])) _
    refine XS.istore X16.here hx rfl (hb hby at_133) rfl (l' := #[iv p0, oJ q1, oS, iv p2, rv b1, iv l0, iv l1, iv l2, iv l3, iv (if (nar .byte (fpick p0 q1 (4 : Int32))) = (10 : Int32) then (1 : Int32) else (0 : Int32)), oU, oU, oU, oU, oU, oU, oU, oU, oU, oU, oU, oU, oU, oU, oU, oU, oU, oU, oU, oU, oU, oU, oU, oU]) rfl ?_
    show Steps p.tables e below (T16.setTop (mkF m 135 #[iv p0, oJ q1, oS, iv p2, rv b1, iv l0, iv l1, iv l2, iv l3, iv (if (nar .byte (fpick p0 q1 (4 : Int32))) = (10 : Int32) then (1 : Int32) else (0 : Int32)), oU, oU, oU, oU, oU, oU, oU, oU, oU, oU, oU, oU, oU, oU, oU, oU, oU, oU, oU, oU, oU, oU, oU, oU] [])) _
    exact k
  generalize hl4 : (if (nar .byte (fpick p0 q1 (4 : Int32))) = (10 : Int32) then (1 : Int32) else (0 : Int32)) = l4
  show own_Go p e below _ (T16.setTop (mkF m 135 #[iv p0, oJ q1, oS, iv p2, rv b1, iv l0, iv l1, iv l2, iv l3, iv l4, oU, oU, oU, oU, oU, oU, oU, oU, oU, oU, oU, oU, oU, oU, oU, oU, oU, oU, oU, oU, oU, oU, oU, oU] []))
  refine own_by (B := T16.setTop (mkF m 156 #[iv p0, oJ q1, oS, iv p2, rv b1, iv l0, iv l1, iv l2, iv l3, iv l4, iv (if l0 = (0 : Int32) then (if (nar .byte (fpick p0 q1 (0 : Int32))) = (13 : Int32) then (0 : Int32) else (1 : Int32)) else (0 : Int32)), oU, oU, oU, oU, oU, oU, oU, oU, oU, oU, oU, oU, oU, oU, oU, oU, oU, oU, oU, oU, oU, oU, oU] [])) (fun t k => ?_) ?_
  · show Steps p.tables e below (T16.setTop (mkF m 135 #[iv p0, oJ q1, oS, iv p2, rv b1, iv l0, iv l1, iv l2, iv l3, iv l4, oU, oU, oU, oU, oU, oU, oU, oU, oU, oU, oU, oU, oU, oU, oU, oU, oU, oU, oU, oU, oU, oU, oU, oU] [])) _
    refine XS.iload X16.here hx rfl (hb hby at_135) rfl ?_
    show Steps p.tables e below (T16.setTop (mkF m 137 #[iv p0, oJ q1, oS, iv p2, rv b1, iv l0, iv l1, iv l2, iv l3, iv l4, oU, oU, oU, oU, oU, oU, oU, oU, oU, oU, oU, oU, oU, oU, oU, oU, oU, oU, oU, oU, oU, oU, oU, oU] [(.int l0)])) _
    refine (fun t (k : Steps p.tables e below (T16.setTop (mkF m 154 #[iv p0, oJ q1, oS, iv p2, rv b1, iv l0, iv l1, iv l2, iv l3, iv l4, oU, oU, oU, oU, oU, oU, oU, oU, oU, oU, oU, oU, oU, oU, oU, oU, oU, oU, oU, oU, oU, oU, oU, oU] [(.int (if l0 = (0 : Int32) then (if (nar .byte (fpick p0 q1 (0 : Int32))) = (13 : Int32) then (0 : Int32) else (1 : Int32)) else (0 : Int32)))])) t) => (?_ : Steps p.tables e below _ t)) _ ?_
    · by_cases hc27 : l0 = (0 : Int32)
      · simp only [if_pos hc27] at k
        refine XS.ifNo X16.here hx rfl (hb hby at_137) rfl ((if0 _ _).trans (teq hc27).2) ?_
        show Steps p.tables e below (T16.setTop (mkF m 140 #[iv p0, oJ q1, oS, iv p2, rv b1, iv l0, iv l1, iv l2, iv l3, iv l4, oU, oU, oU, oU, oU, oU, oU, oU, oU, oU, oU, oU, oU, oU, oU, oU, oU, oU, oU, oU, oU, oU, oU, oU] [])) _
        refine XS.aload X16.here hx rfl (hb hby at_140) rfl rfl ?_
        show Steps p.tables e below (T16.setTop (mkF m 142 #[iv p0, oJ q1, oS, iv p2, rv b1, iv l0, iv l1, iv l2, iv l3, iv l4, oU, oU, oU, oU, oU, oU, oU, oU, oU, oU, oU, oU, oU, oU, oU, oU, oU, oU, oU, oU, oU, oU, oU, oU] [(.ref b1)])) _
        refine XS.iconst X16.here hx rfl (hb hby at_142) ?_
        show Steps p.tables e below (T16.setTop (mkF m 143 #[iv p0, oJ q1, oS, iv p2, rv b1, iv l0, iv l1, iv l2, iv l3, iv l4, oU, oU, oU, oU, oU, oU, oU, oU, oU, oU, oU, oU, oU, oU, oU, oU, oU, oU, oU, oU, oU, oU, oU, oU] [(.int (0 : Int32)), (.ref b1)])) _
        obtain ⟨cl28, Ar28, q28, S28, N28, H28, G28⟩ := id V_b1
        have hin28 : ¬ ((0 : Int32) < 0 ∨ cl28.slots.size ≤ ((0 : Int32)).toNatClampNeg) := inb_of S28 ⟨by decide, by decide⟩
        have hat28 : cl28.slots[((0 : Int32)).toNatClampNeg]? = some (.int (nar .byte (fpick p0 q1 (0 : Int32)))) := H28.at hin28 rfl
        refine X16.baloadBytes hx (j := (0 : Int32)) (v := (.int (nar .byte (fpick p0 q1 (0 : Int32))))) (by rw [show T16.heap = h16 from e16]; exact Ar28.1) (State.isArrayOf_alike hZ.alike Ar28.2.1) Ar28.2.2 hin28 hat28 (g := (mkF m 143 #[iv p0, oJ q1, oS, iv p2, rv b1, iv l0, iv l1, iv l2, iv l3, iv l4, oU, oU, oU, oU, oU, oU, oU, oU, oU, oU, oU, oU, oU, oU, oU, oU, oU, oU, oU, oU, oU, oU, oU, oU] [(.int (0 : Int32)), (.ref b1)])) rfl rfl (hb hby at_143) _ ?_
        show Steps p.tables e below (T16.setTop (mkF m 144 #[iv p0, oJ q1, oS, iv p2, rv b1, iv l0, iv l1, iv l2, iv l3, iv l4, oU, oU, oU, oU, oU, oU, oU, oU, oU, oU, oU, oU, oU, oU, oU, oU, oU, oU, oU, oU, oU, oU, oU, oU] [(.int (nar .byte (fpick p0 q1 (0 : Int32))))])) _
        refine XS.bipush X16.here hx rfl (hb hby at_144) ?_
        show Steps p.tables e below (T16.setTop (mkF m 146 #[iv p0, oJ q1, oS, iv p2, rv b1, iv l0, iv l1, iv l2, iv l3, iv l4, oU, oU, oU, oU, oU, oU, oU, oU, oU, oU, oU, oU, oU, oU, oU, oU, oU, oU, oU, oU, oU, oU, oU, oU] [(.int (13 : Int32)), (.int (nar .byte (fpick p0 q1 (0 : Int32))))])) _
        refine (fun t (k : Steps p.tables e below (T16.setTop (mkF m 154 #[iv p0, oJ q1, oS, iv p2, rv b1, iv l0, iv l1, iv l2, iv l3, iv l4, oU, oU, oU, oU, oU, oU, oU, oU, oU, oU, oU, oU, oU, oU, oU, oU, oU, oU, oU, oU, oU, oU, oU, oU] [(.int (if (nar .byte (fpick p0 q1 (0 : Int32))) = (13 : Int32) then (0 : Int32) else (1 : Int32)))])) t) => (?_ : Steps p.tables e below _ t)) _ ?_
        · by_cases hc29 : (nar .byte (fpick p0 q1 (0 : Int32))) = (13 : Int32)
          · simp only [if_pos hc29] at k
            refine XS.icmpYes X16.here hx rfl (pc0 := 146) (pc' := 153) rfl (hb hby at_146) rfl (teq hc29).1 (by decide) (by decide) ?_
            show Steps p.tables e below (T16.setTop (mkF m 153 #[iv p0, oJ q1, oS, iv p2, rv b1, iv l0, iv l1, iv l2, iv l3, iv l4, oU, oU, oU, oU, oU, oU, oU, oU, oU, oU, oU, oU, oU, oU, oU, oU, oU, oU, oU, oU, oU, oU, oU, oU] [])) _
            refine XS.iconst X16.here hx rfl (hb hby at_153) ?_
            show Steps p.tables e below (T16.setTop (mkF m 154 #[iv p0, oJ q1, oS, iv p2, rv b1, iv l0, iv l1, iv l2, iv l3, iv l4, oU, oU, oU, oU, oU, oU, oU, oU, oU, oU, oU, oU, oU, oU, oU, oU, oU, oU, oU, oU, oU, oU, oU, oU] [(.int (0 : Int32))])) _
            exact k
          · simp only [if_neg hc29] at k
            refine XS.icmpNo X16.here hx rfl (hb hby at_146) rfl (feq hc29).1 ?_
            show Steps p.tables e below (T16.setTop (mkF m 149 #[iv p0, oJ q1, oS, iv p2, rv b1, iv l0, iv l1, iv l2, iv l3, iv l4, oU, oU, oU, oU, oU, oU, oU, oU, oU, oU, oU, oU, oU, oU, oU, oU, oU, oU, oU, oU, oU, oU, oU, oU] [])) _
            refine XS.iconst X16.here hx rfl (hb hby at_149) ?_
            show Steps p.tables e below (T16.setTop (mkF m 150 #[iv p0, oJ q1, oS, iv p2, rv b1, iv l0, iv l1, iv l2, iv l3, iv l4, oU, oU, oU, oU, oU, oU, oU, oU, oU, oU, oU, oU, oU, oU, oU, oU, oU, oU, oU, oU, oU, oU, oU, oU] [(.int (1 : Int32))])) _
            refine XS.goto X16.here hx rfl (pc0 := 150) (pc' := 154) rfl (hb hby at_150) (by decide) (by decide) ?_
            show Steps p.tables e below (T16.setTop (mkF m 154 #[iv p0, oJ q1, oS, iv p2, rv b1, iv l0, iv l1, iv l2, iv l3, iv l4, oU, oU, oU, oU, oU, oU, oU, oU, oU, oU, oU, oU, oU, oU, oU, oU, oU, oU, oU, oU, oU, oU, oU, oU] [(.int (1 : Int32))])) _
            exact k
        show Steps p.tables e below (T16.setTop (mkF m 154 #[iv p0, oJ q1, oS, iv p2, rv b1, iv l0, iv l1, iv l2, iv l3, iv l4, oU, oU, oU, oU, oU, oU, oU, oU, oU, oU, oU, oU, oU, oU, oU, oU, oU, oU, oU, oU, oU, oU, oU, oU] [(.int (if (nar .byte (fpick p0 q1 (0 : Int32))) = (13 : Int32) then (0 : Int32) else (1 : Int32)))])) _
        exact k
      · simp only [if_neg hc27] at k
        refine XS.ifYes X16.here hx rfl (pc0 := 137) (pc' := 153) rfl (hb hby at_137) rfl ((if0 _ _).trans (feq hc27).2) (by decide) (by decide) ?_
        show Steps p.tables e below (T16.setTop (mkF m 153 #[iv p0, oJ q1, oS, iv p2, rv b1, iv l0, iv l1, iv l2, iv l3, iv l4, oU, oU, oU, oU, oU, oU, oU, oU, oU, oU, oU, oU, oU, oU, oU, oU, oU, oU, oU, oU, oU, oU, oU, oU] [])) _
        refine XS.iconst X16.here hx rfl (hb hby at_153) ?_
        show Steps p.tables e below (T16.setTop (mkF m 154 #[iv p0, oJ q1, oS, iv p2, rv b1, iv l0, iv l1, iv l2, iv l3, iv l4, oU, oU, oU, oU, oU, oU, oU, oU, oU, oU, oU, oU, oU, oU, oU, oU, oU, oU, oU, oU, oU, oU, oU, oU] [(.int (0 : Int32))])) _
        exact k
    show Steps p.tables e below (T16.setTop (mkF m 154 #[iv p0, oJ q1, oS, iv p2, rv b1, iv l0, iv l1, iv l2, iv l3, iv l4, oU, oU, oU, oU, oU, oU, oU, oU, oU, oU, oU, oU, oU, oU, oU, oU, oU, oU, oU, oU, oU, oU, oU, oU] [(.int (if l0 = (0 : Int32) then (if (nar .byte (fpick p0 q1 (0 : Int32))) = (13 : Int32) then (0 : Int32) else (1 : Int32)) else (0 : Int32)))])) _
    refine XS.istore X16.here hx rfl (hb hby at_154) rfl (l' := #[iv p0, oJ q1, oS, iv p2, rv b1, iv l0, iv l1, iv l2, iv l3, iv l4, iv (if l0 = (0 : Int32) then (if (nar .byte (fpick p0 q1 (0 : Int32))) = (13 : Int32) then (0 : Int32) else (1 : Int32)) else (0 : Int32)), oU, oU, oU, oU, oU, oU, oU, oU, oU, oU, oU, oU, oU, oU, oU, oU, oU, oU, oU, oU, oU, oU, oU]) rfl ?_
    show Steps p.tables e below (T16.setTop (mkF m 156 #[iv p0, oJ q1, oS, iv p2, rv b1, iv l0, iv l1, iv l2, iv l3, iv l4, iv (if l0 = (0 : Int32) then (if (nar .byte (fpick p0 q1 (0 : Int32))) = (13 : Int32) then (0 : Int32) else (1 : Int32)) else (0 : Int32)), oU, oU, oU, oU, oU, oU, oU, oU, oU, oU, oU, oU, oU, oU, oU, oU, oU, oU, oU, oU, oU, oU, oU] [])) _
    exact k
  generalize hu0 : (if l0 = (0 : Int32) then (if (nar .byte (fpick p0 q1 (0 : Int32))) = (13 : Int32) then (0 : Int32) else (1 : Int32)) else (0 : Int32)) = u0
  show own_Go p e below _ (T16.setTop (mkF m 156 #[iv p0, oJ q1, oS, iv p2, rv b1, iv l0, iv l1, iv l2, iv l3, iv l4, iv u0, oU, oU, oU, oU, oU, oU, oU, oU, oU, oU, oU, oU, oU, oU, oU, oU, oU, oU, oU, oU, oU, oU, oU] []))
  refine own_by (B := T16.setTop (mkF m 177 #[iv p0, oJ q1, oS, iv p2, rv b1, iv l0, iv l1, iv l2, iv l3, iv l4, iv u0, iv (if l1 = (0 : Int32) then (if (nar .byte (fpick p0 q1 (1 : Int32))) = (13 : Int32) then (0 : Int32) else (1 : Int32)) else (0 : Int32)), oU, oU, oU, oU, oU, oU, oU, oU, oU, oU, oU, oU, oU, oU, oU, oU, oU, oU, oU, oU, oU, oU] [])) (fun t k => ?_) ?_
  · show Steps p.tables e below (T16.setTop (mkF m 156 #[iv p0, oJ q1, oS, iv p2, rv b1, iv l0, iv l1, iv l2, iv l3, iv l4, iv u0, oU, oU, oU, oU, oU, oU, oU, oU, oU, oU, oU, oU, oU, oU, oU, oU, oU, oU, oU, oU, oU, oU, oU] [])) _
    refine XS.iload X16.here hx rfl (hb hby at_156) rfl ?_
    show Steps p.tables e below (T16.setTop (mkF m 158 #[iv p0, oJ q1, oS, iv p2, rv b1, iv l0, iv l1, iv l2, iv l3, iv l4, iv u0, oU, oU, oU, oU, oU, oU, oU, oU, oU, oU, oU, oU, oU, oU, oU, oU, oU, oU, oU, oU, oU, oU, oU] [(.int l1)])) _
    refine (fun t (k : Steps p.tables e below (T16.setTop (mkF m 175 #[iv p0, oJ q1, oS, iv p2, rv b1, iv l0, iv l1, iv l2, iv l3, iv l4, iv u0, oU, oU, oU, oU, oU, oU, oU, oU, oU, oU, oU, oU, oU, oU, oU, oU, oU, oU, oU, oU, oU, oU, oU] [(.int (if l1 = (0 : Int32) then (if (nar .byte (fpick p0 q1 (1 : Int32))) = (13 : Int32) then (0 : Int32) else (1 : Int32)) else (0 : Int32)))])) t) => (?_ : Steps p.tables e below _ t)) _ ?_
    · by_cases hc30 : l1 = (0 : Int32)
      · simp only [if_pos hc30] at k
        refine XS.ifNo X16.here hx rfl (hb hby at_158) rfl ((if0 _ _).trans (teq hc30).2) ?_
        show Steps p.tables e below (T16.setTop (mkF m 161 #[iv p0, oJ q1, oS, iv p2, rv b1, iv l0, iv l1, iv l2, iv l3, iv l4, iv u0, oU, oU, oU, oU, oU, oU, oU, oU, oU, oU, oU, oU, oU, oU, oU, oU, oU, oU, oU, oU, oU, oU, oU] [])) _
        refine XS.aload X16.here hx rfl (hb hby at_161) rfl rfl ?_
        show Steps p.tables e below (T16.setTop (mkF m 163 #[iv p0, oJ q1, oS, iv p2, rv b1, iv l0, iv l1, iv l2, iv l3, iv l4, iv u0, oU, oU, oU, oU, oU, oU, oU, oU, oU, oU, oU, oU, oU, oU, oU, oU, oU, oU, oU, oU, oU, oU, oU] [(.ref b1)])) _
        refine XS.iconst X16.here hx rfl (hb hby at_163) ?_
        show Steps p.tables e below (T16.setTop (mkF m 164 #[iv p0, oJ q1, oS, iv p2, rv b1, iv l0, iv l1, iv l2, iv l3, iv l4, iv u0, oU, oU, oU, oU, oU, oU, oU, oU, oU, oU, oU, oU, oU, oU, oU, oU, oU, oU, oU, oU, oU, oU, oU] [(.int (1 : Int32)), (.ref b1)])) _
        obtain ⟨cl31, Ar31, q31, S31, N31, H31, G31⟩ := id V_b1
        have hin31 : ¬ ((1 : Int32) < 0 ∨ cl31.slots.size ≤ ((1 : Int32)).toNatClampNeg) := inb_of S31 ⟨by decide, by decide⟩
        have hat31 : cl31.slots[((1 : Int32)).toNatClampNeg]? = some (.int (nar .byte (fpick p0 q1 (1 : Int32)))) := H31.at hin31 rfl
        refine X16.baloadBytes hx (j := (1 : Int32)) (v := (.int (nar .byte (fpick p0 q1 (1 : Int32))))) (by rw [show T16.heap = h16 from e16]; exact Ar31.1) (State.isArrayOf_alike hZ.alike Ar31.2.1) Ar31.2.2 hin31 hat31 (g := (mkF m 164 #[iv p0, oJ q1, oS, iv p2, rv b1, iv l0, iv l1, iv l2, iv l3, iv l4, iv u0, oU, oU, oU, oU, oU, oU, oU, oU, oU, oU, oU, oU, oU, oU, oU, oU, oU, oU, oU, oU, oU, oU, oU] [(.int (1 : Int32)), (.ref b1)])) rfl rfl (hb hby at_164) _ ?_
        show Steps p.tables e below (T16.setTop (mkF m 165 #[iv p0, oJ q1, oS, iv p2, rv b1, iv l0, iv l1, iv l2, iv l3, iv l4, iv u0, oU, oU, oU, oU, oU, oU, oU, oU, oU, oU, oU, oU, oU, oU, oU, oU, oU, oU, oU, oU, oU, oU, oU] [(.int (nar .byte (fpick p0 q1 (1 : Int32))))])) _
        refine XS.bipush X16.here hx rfl (hb hby at_165) ?_
        show Steps p.tables e below (T16.setTop (mkF m 167 #[iv p0, oJ q1, oS, iv p2, rv b1, iv l0, iv l1, iv l2, iv l3, iv l4, iv u0, oU, oU, oU, oU, oU, oU, oU, oU, oU, oU, oU, oU, oU, oU, oU, oU, oU, oU, oU, oU, oU, oU, oU] [(.int (13 : Int32)), (.int (nar .byte (fpick p0 q1 (1 : Int32))))])) _
        refine (fun t (k : Steps p.tables e below (T16.setTop (mkF m 175 #[iv p0, oJ q1, oS, iv p2, rv b1, iv l0, iv l1, iv l2, iv l3, iv l4, iv u0, oU, oU, oU, oU, oU, oU, oU, oU, oU, oU, oU, oU, oU, oU, oU, oU, oU, oU, oU, oU, oU, oU, oU] [(.int (if (nar .byte (fpick p0 q1 (1 : Int32))) = (13 : Int32) then (0 : Int32) else (1 : Int32)))])) t) => (?_ : Steps p.tables e below _ t)) _ ?_
        · by_cases hc32 : (nar .byte (fpick p0 q1 (1 : Int32))) = (13 : Int32)
          · simp only [if_pos hc32] at k
            refine XS.icmpYes X16.here hx rfl (pc0 := 167) (pc' := 174) rfl (hb hby at_167) rfl (teq hc32).1 (by decide) (by decide) ?_
            show Steps p.tables e below (T16.setTop (mkF m 174 #[iv p0, oJ q1, oS, iv p2, rv b1, iv l0, iv l1, iv l2, iv l3, iv l4, iv u0, oU, oU, oU, oU, oU, oU, oU, oU, oU, oU, oU, oU, oU, oU, oU, oU, oU, oU, oU, oU, oU, oU, oU] [])) _
            refine XS.iconst X16.here hx rfl (hb hby at_174) ?_
            show Steps p.tables e below (T16.setTop (mkF m 175 #[iv p0, oJ q1, oS, iv p2, rv b1, iv l0, iv l1, iv l2, iv l3, iv l4, iv u0, oU, oU, oU, oU, oU, oU, oU, oU, oU, oU, oU, oU, oU, oU, oU, oU, oU, oU, oU, oU, oU, oU, oU] [(.int (0 : Int32))])) _
            exact k
          · simp only [if_neg hc32] at k
            refine XS.icmpNo X16.here hx rfl (hb hby at_167) rfl (feq hc32).1 ?_
            show Steps p.tables e below (T16.setTop (mkF m 170 #[iv p0, oJ q1, oS, iv p2, rv b1, iv l0, iv l1, iv l2, iv l3, iv l4, iv u0, oU, oU, oU, oU, oU, oU, oU, oU, oU, oU, oU, oU, oU, oU, oU, oU, oU, oU, oU, oU, oU, oU, oU] [])) _
            refine XS.iconst X16.here hx rfl (hb hby at_170) ?_
            show Steps p.tables e below (T16.setTop (mkF m 171 #[iv p0, oJ q1, oS, iv p2, rv b1, iv l0, iv l1, iv l2, iv l3, iv l4, iv u0, oU, oU, oU, oU, oU, oU, oU, oU, oU, oU, oU, oU, oU, oU, oU, oU, oU, oU, oU, oU, oU, oU, oU] [(.int (1 : Int32))])) _
            refine XS.goto X16.here hx rfl (pc0 := 171) (pc' := 175) rfl (hb hby at_171) (by decide) (by decide) ?_
            show Steps p.tables e below (T16.setTop (mkF m 175 #[iv p0, oJ q1, oS, iv p2, rv b1, iv l0, iv l1, iv l2, iv l3, iv l4, iv u0, oU, oU, oU, oU, oU, oU, oU, oU, oU, oU, oU, oU, oU, oU, oU, oU, oU, oU, oU, oU, oU, oU, oU] [(.int (1 : Int32))])) _
            exact k
        show Steps p.tables e below (T16.setTop (mkF m 175 #[iv p0, oJ q1, oS, iv p2, rv b1, iv l0, iv l1, iv l2, iv l3, iv l4, iv u0, oU, oU, oU, oU, oU, oU, oU, oU, oU, oU, oU, oU, oU, oU, oU, oU, oU, oU, oU, oU, oU, oU, oU] [(.int (if (nar .byte (fpick p0 q1 (1 : Int32))) = (13 : Int32) then (0 : Int32) else (1 : Int32)))])) _
        exact k
      · simp only [if_neg hc30] at k
        refine XS.ifYes X16.here hx rfl (pc0 := 158) (pc' := 174) rfl (hb hby at_158) rfl ((if0 _ _).trans (feq hc30).2) (by decide) (by decide) ?_
        show Steps p.tables e below (T16.setTop (mkF m 174 #[iv p0, oJ q1, oS, iv p2, rv b1, iv l0, iv l1, iv l2, iv l3, iv l4, iv u0, oU, oU, oU, oU, oU, oU, oU, oU, oU, oU, oU, oU, oU, oU, oU, oU, oU, oU, oU, oU, oU, oU, oU] [])) _
        refine XS.iconst X16.here hx rfl (hb hby at_174) ?_
        show Steps p.tables e below (T16.setTop (mkF m 175 #[iv p0, oJ q1, oS, iv p2, rv b1, iv l0, iv l1, iv l2, iv l3, iv l4, iv u0, oU, oU, oU, oU, oU, oU, oU, oU, oU, oU, oU, oU, oU, oU, oU, oU, oU, oU, oU, oU, oU, oU, oU] [(.int (0 : Int32))])) _
        exact k
    show Steps p.tables e below (T16.setTop (mkF m 175 #[iv p0, oJ q1, oS, iv p2, rv b1, iv l0, iv l1, iv l2, iv l3, iv l4, iv u0, oU, oU, oU, oU, oU, oU, oU, oU, oU, oU, oU, oU, oU, oU, oU, oU, oU, oU, oU, oU, oU, oU, oU] [(.int (if l1 = (0 : Int32) then (if (nar .byte (fpick p0 q1 (1 : Int32))) = (13 : Int32) then (0 : Int32) else (1 : Int32)) else (0 : Int32)))])) _
    refine XS.istore X16.here hx rfl (hb hby at_175) rfl (l' := #[iv p0, oJ q1, oS, iv p2, rv b1, iv l0, iv l1, iv l2, iv l3, iv l4, iv u0, iv (if l1 = (0 : Int32) then (if (nar .byte (fpick p0 q1 (1 : Int32))) = (13 : Int32) then (0 : Int32) else (1 : Int32)) else (0 : Int32)), oU, oU, oU, oU, oU, oU, oU, oU, oU, oU, oU, oU, oU, oU, oU, oU, oU, oU, oU, oU, oU, oU]) rfl ?_
    show Steps p.tables e below (T16.setTop (mkF m 177 #[iv p0, oJ q1, oS, iv p2, rv b1, iv l0, iv l1, iv l2, iv l3, iv l4, iv u0, iv (if l1 = (0 : Int32) then (if (nar .byte (fpick p0 q1 (1 : Int32))) = (13 : Int32) then (0 : Int32) else (1 : Int32)) else (0 : Int32)), oU, oU, oU, oU, oU, oU, oU, oU, oU, oU, oU, oU, oU, oU, oU, oU, oU, oU, oU, oU, oU, oU] [])) _
    exact k
  generalize hu1 : (if l1 = (0 : Int32) then (if (nar .byte (fpick p0 q1 (1 : Int32))) = (13 : Int32) then (0 : Int32) else (1 : Int32)) else (0 : Int32)) = u1
  show own_Go p e below _ (T16.setTop (mkF m 177 #[iv p0, oJ q1, oS, iv p2, rv b1, iv l0, iv l1, iv l2, iv l3, iv l4, iv u0, iv u1, oU, oU, oU, oU, oU, oU, oU, oU, oU, oU, oU, oU, oU, oU, oU, oU, oU, oU, oU, oU, oU, oU] []))
  refine own_by (B := T16.setTop (mkF m 198 #[iv p0, oJ q1, oS, iv p2, rv b1, iv l0, iv l1, iv l2, iv l3, iv l4, iv u0, iv u1, iv (if l2 = (0 : Int32) then (if (nar .byte (fpick p0 q1 (2 : Int32))) = (13 : Int32) then (0 : Int32) else (1 : Int32)) else (0 : Int32)), oU, oU, oU, oU, oU, oU, oU, oU, oU, oU, oU, oU, oU, oU, oU, oU, oU, oU, oU, oU, oU] [])) (fun t k => ?_) ?_
  · show Steps p.tables e below (T16.setTop (mkF m 177 #[iv p0, oJ q1, oS, iv p2, rv b1, iv l0, iv l1, iv l2, iv l3, iv l4, iv u0, iv u1, oU, oU, oU, oU, oU, oU, oU, oU, oU, oU, oU, oU, oU, oU, oU, oU, oU, oU, oU, oU, oU, oU] [])) _
    refine XS.iload X16.here hx rfl (hb hby at_177) rfl ?_
    show Steps p.tables e below (T16.setTop (mkF m 179 #[iv p0, oJ q1, oS, iv p2, rv b1, iv l0, iv l1, iv l2, iv l3, iv l4, iv u0, iv u1, oU, oU, oU, oU, oU, oU, oU, oU, oU, oU, oU, oU, oU, oU, oU, oU, oU, oU, oU, oU, oU, oU] [(.int l2)])) _
    refine (fun t (k : Steps p.tables e below (T16.setTop (mkF m 196 #[iv p0, oJ q1, oS, iv p2, rv b1, iv l0, iv l1, iv l2, iv l3, iv l4, iv u0, iv u1, oU, oU, oU, oU, oU, oU, oU, oU, oU, oU, oU, oU, oU, oU, oU, oU, oU, oU, oU, oU, oU, oU] [(.int (if l2 = (0 : Int32) then (if (nar .byte (fpick p0 q1 (2 : Int32))) = (13 : Int32) then (0 : Int32) else (1 : Int32)) else (0 : Int32)))])) t) => (?_ : Steps p.tables e below _ t)) _ ?_
    · by_cases hc33 : l2 = (0 : Int32)
      · simp only [if_pos hc33] at k
        refine XS.ifNo X16.here hx rfl (hb hby at_179) rfl ((if0 _ _).trans (teq hc33).2) ?_
        show Steps p.tables e below (T16.setTop (mkF m 182 #[iv p0, oJ q1, oS, iv p2, rv b1, iv l0, iv l1, iv l2, iv l3, iv l4, iv u0, iv u1, oU, oU, oU, oU, oU, oU, oU, oU, oU, oU, oU, oU, oU, oU, oU, oU, oU, oU, oU, oU, oU, oU] [])) _
        refine XS.aload X16.here hx rfl (hb hby at_182) rfl rfl ?_
        show Steps p.tables e below (T16.setTop (mkF m 184 #[iv p0, oJ q1, oS, iv p2, rv b1, iv l0, iv l1, iv l2, iv l3, iv l4, iv u0, iv u1, oU, oU, oU, oU, oU, oU, oU, oU, oU, oU, oU, oU, oU, oU, oU, oU, oU, oU, oU, oU, oU, oU] [(.ref b1)])) _
        refine XS.iconst X16.here hx rfl (hb hby at_184) ?_
        show Steps p.tables e below (T16.setTop (mkF m 185 #[iv p0, oJ q1, oS, iv p2, rv b1, iv l0, iv l1, iv l2, iv l3, iv l4, iv u0, iv u1, oU, oU, oU, oU, oU, oU, oU, oU, oU, oU, oU, oU, oU, oU, oU, oU, oU, oU, oU, oU, oU, oU] [(.int (2 : Int32)), (.ref b1)])) _
        obtain ⟨cl34, Ar34, q34, S34, N34, H34, G34⟩ := id V_b1
        have hin34 : ¬ ((2 : Int32) < 0 ∨ cl34.slots.size ≤ ((2 : Int32)).toNatClampNeg) := inb_of S34 ⟨by decide, by decide⟩
        have hat34 : cl34.slots[((2 : Int32)).toNatClampNeg]? = some (.int (nar .byte (fpick p0 q1 (2 : Int32)))) := H34.at hin34 rfl
        refine X16.baloadBytes hx (j := (2 : Int32)) (v := (.int (nar .byte (fpick p0 q1 (2 : Int32))))) (by rw [show T16.heap = h16 from e16]; exact Ar34.1) (State.isArrayOf_alike hZ.alike Ar34.2.1) Ar34.2.2 hin34 hat34 (g := (mkF m 185 #[iv p0, oJ q1, oS, iv p2, rv b1, iv l0, iv l1, iv l2, iv l3, iv l4, iv u0, iv u1, oU, oU, oU, oU, oU, oU, oU, oU, oU, oU, oU, oU, oU, oU, oU, oU, oU, oU, oU, oU, oU, oU] [(.int (2 : Int32)), (.ref b1)])) rfl rfl (hb hby at_185) _ ?_
        show Steps p.tables e below (T16.setTop (mkF m 186 #[iv p0, oJ q1, oS, iv p2, rv b1, iv l0, iv l1, iv l2, iv l3, iv l4, iv u0, iv u1, oU, oU, oU, oU, oU, oU, oU, oU, oU, oU, oU, oU, oU, oU, oU, oU, oU, oU, oU, oU, oU, oU] [(.int (nar .byte (fpick p0 q1 (2 : Int32))))])) _
        refine XS.bipush X16.here hx rfl (hb hby at_186) ?_
        show Steps p.tables e below (T16.setTop (mkF m 188 #[iv p0, oJ q1, oS, iv p2, rv b1, iv l0, iv l1, iv l2, iv l3, iv l4, iv u0, iv u1, oU, oU, oU, oU, oU, oU, oU, oU, oU, oU, oU, oU, oU, oU, oU, oU, oU, oU, oU, oU, oU, oU] [(.int (13 : Int32)), (.int (nar .byte (fpick p0 q1 (2 : Int32))))])) _
        refine (fun t (k : Steps p.tables e below (T16.setTop (mkF m 196 #[iv p0, oJ q1, oS, iv p2, rv b1, iv l0, iv l1, iv l2, iv l3, iv l4, iv u0, iv u1, oU, oU, oU, oU, oU, oU, oU, oU, oU, oU, oU, oU, oU, oU, oU, oU, oU, oU, oU, oU, oU, oU] [(.int (if (nar .byte (fpick p0 q1 (2 : Int32))) = (13 : Int32) then (0 : Int32) else (1 : Int32)))])) t) => (?_ : Steps p.tables e below _ t)) _ ?_
        · by_cases hc35 : (nar .byte (fpick p0 q1 (2 : Int32))) = (13 : Int32)
          · simp only [if_pos hc35] at k
            refine XS.icmpYes X16.here hx rfl (pc0 := 188) (pc' := 195) rfl (hb hby at_188) rfl (teq hc35).1 (by decide) (by decide) ?_
            show Steps p.tables e below (T16.setTop (mkF m 195 #[iv p0, oJ q1, oS, iv p2, rv b1, iv l0, iv l1, iv l2, iv l3, iv l4, iv u0, iv u1, oU, oU, oU, oU, oU, oU, oU, oU, oU, oU, oU, oU, oU, oU, oU, oU, oU, oU, oU, oU, oU, oU] [])) _
            refine XS.iconst X16.here hx rfl (hb hby at_195) ?_
            show Steps p.tables e below (T16.setTop (mkF m 196 #[iv p0, oJ q1, oS, iv p2, rv b1, iv l0, iv l1, iv l2, iv l3, iv l4, iv u0, iv u1, oU, oU, oU, oU, oU, oU, oU, oU, oU, oU, oU, oU, oU, oU, oU, oU, oU, oU, oU, oU, oU, oU] [(.int (0 : Int32))])) _
            exact k
          · simp only [if_neg hc35] at k
            refine XS.icmpNo X16.here hx rfl (hb hby at_188) rfl (feq hc35).1 ?_
            show Steps p.tables e below (T16.setTop (mkF m 191 #[iv p0, oJ q1, oS, iv p2, rv b1, iv l0, iv l1, iv l2, iv l3, iv l4, iv u0, iv u1, oU, oU, oU, oU, oU, oU, oU, oU, oU, oU, oU, oU, oU, oU, oU, oU, oU, oU, oU, oU, oU, oU] [])) _
            refine XS.iconst X16.here hx rfl (hb hby at_191) ?_
            show Steps p.tables e below (T16.setTop (mkF m 192 #[iv p0, oJ q1, oS, iv p2, rv b1, iv l0, iv l1, iv l2, iv l3, iv l4, iv u0, iv u1, oU, oU, oU, oU, oU, oU, oU, oU, oU, oU, oU, oU, oU, oU, oU, oU, oU, oU, oU, oU, oU, oU] [(.int (1 : Int32))])) _
            refine XS.goto X16.here hx rfl (pc0 := 192) (pc' := 196) rfl (hb hby at_192) (by decide) (by decide) ?_
            show Steps p.tables e below (T16.setTop (mkF m 196 #[iv p0, oJ q1, oS, iv p2, rv b1, iv l0, iv l1, iv l2, iv l3, iv l4, iv u0, iv u1, oU, oU, oU, oU, oU, oU, oU, oU, oU, oU, oU, oU, oU, oU, oU, oU, oU, oU, oU, oU, oU, oU] [(.int (1 : Int32))])) _
            exact k
        show Steps p.tables e below (T16.setTop (mkF m 196 #[iv p0, oJ q1, oS, iv p2, rv b1, iv l0, iv l1, iv l2, iv l3, iv l4, iv u0, iv u1, oU, oU, oU, oU, oU, oU, oU, oU, oU, oU, oU, oU, oU, oU, oU, oU, oU, oU, oU, oU, oU, oU] [(.int (if (nar .byte (fpick p0 q1 (2 : Int32))) = (13 : Int32) then (0 : Int32) else (1 : Int32)))])) _
        exact k
      · simp only [if_neg hc33] at k
        refine XS.ifYes X16.here hx rfl (pc0 := 179) (pc' := 195) rfl (hb hby at_179) rfl ((if0 _ _).trans (feq hc33).2) (by decide) (by decide) ?_
        show Steps p.tables e below (T16.setTop (mkF m 195 #[iv p0, oJ q1, oS, iv p2, rv b1, iv l0, iv l1, iv l2, iv l3, iv l4, iv u0, iv u1, oU, oU, oU, oU, oU, oU, oU, oU, oU, oU, oU, oU, oU, oU, oU, oU, oU, oU, oU, oU, oU, oU] [])) _
        refine XS.iconst X16.here hx rfl (hb hby at_195) ?_
        show Steps p.tables e below (T16.setTop (mkF m 196 #[iv p0, oJ q1, oS, iv p2, rv b1, iv l0, iv l1, iv l2, iv l3, iv l4, iv u0, iv u1, oU, oU, oU, oU, oU, oU, oU, oU, oU, oU, oU, oU, oU, oU, oU, oU, oU, oU, oU, oU, oU, oU] [(.int (0 : Int32))])) _
        exact k
    show Steps p.tables e below (T16.setTop (mkF m 196 #[iv p0, oJ q1, oS, iv p2, rv b1, iv l0, iv l1, iv l2, iv l3, iv l4, iv u0, iv u1, oU, oU, oU, oU, oU, oU, oU, oU, oU, oU, oU, oU, oU, oU, oU, oU, oU, oU, oU, oU, oU, oU] [(.int (if l2 = (0 : Int32) then (if (nar .byte (fpick p0 q1 (2 : Int32))) = (13 : Int32) then (0 : Int32) else (1 : Int32)) else (0 : Int32)))])) _
    refine XS.istore X16.here hx rfl (hb hby at_196) rfl (l' := #[iv p0, oJ q1, oS, iv p2, rv b1, iv l0, iv l1, iv l2, iv l3, iv l4, iv u0, iv u1, iv (if l2 = (0 : Int32) then (if (nar .byte (fpick p0 q1 (2 : Int32))) = (13 : Int32) then (0 : Int32) else (1 : Int32)) else (0 : Int32)), oU, oU, oU, oU, oU, oU, oU, oU, oU, oU, oU, oU, oU, oU, oU, oU, oU, oU, oU, oU, oU]) rfl ?_
    show Steps p.tables e below (T16.setTop (mkF m 198 #[iv p0, oJ q1, oS, iv p2, rv b1, iv l0, iv l1, iv l2, iv l3, iv l4, iv u0, iv u1, iv (if l2 = (0 : Int32) then (if (nar .byte (fpick p0 q1 (2 : Int32))) = (13 : Int32) then (0 : Int32) else (1 : Int32)) else (0 : Int32)), oU, oU, oU, oU, oU, oU, oU, oU, oU, oU, oU, oU, oU, oU, oU, oU, oU, oU, oU, oU, oU] [])) _
    exact k
  generalize hu2 : (if l2 = (0 : Int32) then (if (nar .byte (fpick p0 q1 (2 : Int32))) = (13 : Int32) then (0 : Int32) else (1 : Int32)) else (0 : Int32)) = u2
  show own_Go p e below _ (T16.setTop (mkF m 198 #[iv p0, oJ q1, oS, iv p2, rv b1, iv l0, iv l1, iv l2, iv l3, iv l4, iv u0, iv u1, iv u2, oU, oU, oU, oU, oU, oU, oU, oU, oU, oU, oU, oU, oU, oU, oU, oU, oU, oU, oU, oU, oU] []))
  refine own_by (B := T16.setTop (mkF m 219 #[iv p0, oJ q1, oS, iv p2, rv b1, iv l0, iv l1, iv l2, iv l3, iv l4, iv u0, iv u1, iv u2, iv (if l3 = (0 : Int32) then (if (nar .byte (fpick p0 q1 (3 : Int32))) = (13 : Int32) then (0 : Int32) else (1 : Int32)) else (0 : Int32)), oU, oU, oU, oU, oU, oU, oU, oU, oU, oU, oU, oU, oU, oU, oU, oU, oU, oU, oU, oU] [])) (fun t k => ?_) ?_
  · show Steps p.tables e below (T16.setTop (mkF m 198 #[iv p0, oJ q1, oS, iv p2, rv b1, iv l0, iv l1, iv l2, iv l3, iv l4, iv u0, iv u1, iv u2, oU, oU, oU, oU, oU, oU, oU, oU, oU, oU, oU, oU, oU, oU, oU, oU, oU, oU, oU, oU, oU] [])) _
    refine XS.iload X16.here hx rfl (hb hby at_198) rfl ?_
    show Steps p.tables e below (T16.setTop (mkF m 200 #[iv p0, oJ q1, oS, iv p2, rv b1, iv l0, iv l1, iv l2, iv l3, iv l4, iv u0, iv u1, iv u2, oU, oU, oU, oU, oU, oU, oU, oU, oU, oU, oU, oU, oU, oU, oU, oU, oU, oU, oU, oU, oU] [(.int l3)])) _
    refine (fun t (k : Steps p.tables e below (T16.setTop (mkF m 217 #[iv p0, oJ q1, oS, iv p2, rv b1, iv l0, iv l1, iv l2, iv l3, iv l4, iv u0, iv u1, iv u2, oU, oU, oU, oU, oU, oU, oU, oU, oU, oU, oU, oU, oU, oU, oU, oU, oU, oU, oU, oU, oU] [(.int (if l3 = (0 : Int32) then (if (nar .byte (fpick p0 q1 (3 : Int32))) = (13 : Int32) then (0 : Int32) else (1 : Int32)) else (0 : Int32)))])) t) => (?_ : Steps p.tables e below _ t)) _ ?_
    · by_cases hc36 : l3 = (0 : Int32)
      · simp only [if_pos hc36] at k
        refine XS.ifNo X16.here hx rfl (hb hby at_200) rfl ((if0 _ _).trans (teq hc36).2) ?_
        show Steps p.tables e below (T16.setTop (mkF m 203 #[iv p0, oJ q1, oS, iv p2, rv b1, iv l0, iv l1, iv l2, iv l3, iv l4, iv u0, iv u1, iv u2, oU, oU, oU, oU, oU, oU, oU, oU, oU, oU, oU, oU, oU, oU, oU, oU, oU, oU, oU, oU, oU] [])) _
        refine XS.aload X16.here hx rfl (hb hby at_203) rfl rfl ?_
        show Steps p.tables e below (T16.setTop (mkF m 205 #[iv p0, oJ q1, oS, iv p2, rv b1, iv l0, iv l1, iv l2, iv l3, iv l4, iv u0, iv u1, iv u2, oU, oU, oU, oU, oU, oU, oU, oU, oU, oU, oU, oU, oU, oU, oU, oU, oU, oU, oU, oU, oU] [(.ref b1)])) _
        refine XS.iconst X16.here hx rfl (hb hby at_205) ?_
        show Steps p.tables e below (T16.setTop (mkF m 206 #[iv p0, oJ q1, oS, iv p2, rv b1, iv l0, iv l1, iv l2, iv l3, iv l4, iv u0, iv u1, iv u2, oU, oU, oU, oU, oU, oU, oU, oU, oU, oU, oU, oU, oU, oU, oU, oU, oU, oU, oU, oU, oU] [(.int (3 : Int32)), (.ref b1)])) _
        obtain ⟨cl37, Ar37, q37, S37, N37, H37, G37⟩ := id V_b1
        have hin37 : ¬ ((3 : Int32) < 0 ∨ cl37.slots.size ≤ ((3 : Int32)).toNatClampNeg) := inb_of S37 ⟨by decide, by decide⟩
        have hat37 : cl37.slots[((3 : Int32)).toNatClampNeg]? = some (.int (nar .byte (fpick p0 q1 (3 : Int32)))) := H37.at hin37 rfl
        refine X16.baloadBytes hx (j := (3 : Int32)) (v := (.int (nar .byte (fpick p0 q1 (3 : Int32))))) (by rw [show T16.heap = h16 from e16]; exact Ar37.1) (State.isArrayOf_alike hZ.alike Ar37.2.1) Ar37.2.2 hin37 hat37 (g := (mkF m 206 #[iv p0, oJ q1, oS, iv p2, rv b1, iv l0, iv l1, iv l2, iv l3, iv l4, iv u0, iv u1, iv u2, oU, oU, oU, oU, oU, oU, oU, oU, oU, oU, oU, oU, oU, oU, oU, oU, oU, oU, oU, oU, oU] [(.int (3 : Int32)), (.ref b1)])) rfl rfl (hb hby at_206) _ ?_
        show Steps p.tables e below (T16.setTop (mkF m 207 #[iv p0, oJ q1, oS, iv p2, rv b1, iv l0, iv l1, iv l2, iv l3, iv l4, iv u0, iv u1, iv u2, oU, oU, oU, oU, oU, oU, oU, oU, oU, oU, oU, oU, oU, oU, oU, oU, oU, oU, oU, oU, oU] [(.int (nar .byte (fpick p0 q1 (3 : Int32))))])) _
        refine XS.bipush X16.here hx rfl (hb hby at_207) ?_
        show Steps p.tables e below (T16.setTop (mkF m 209 #[iv p0, oJ q1, oS, iv p2, rv b1, iv l0, iv l1, iv l2, iv l3, iv l4, iv u0, iv u1, iv u2, oU, oU, oU, oU, oU, oU, oU, oU, oU, oU, oU, oU, oU, oU, oU, oU, oU, oU, oU, oU, oU] [(.int (13 : Int32)), (.int (nar .byte (fpick p0 q1 (3 : Int32))))])) _
        refine (fun t (k : Steps p.tables e below (T16.setTop (mkF m 217 #[iv p0, oJ q1, oS, iv p2, rv b1, iv l0, iv l1, iv l2, iv l3, iv l4, iv u0, iv u1, iv u2, oU, oU, oU, oU, oU, oU, oU, oU, oU, oU, oU, oU, oU, oU, oU, oU, oU, oU, oU, oU, oU] [(.int (if (nar .byte (fpick p0 q1 (3 : Int32))) = (13 : Int32) then (0 : Int32) else (1 : Int32)))])) t) => (?_ : Steps p.tables e below _ t)) _ ?_
        · by_cases hc38 : (nar .byte (fpick p0 q1 (3 : Int32))) = (13 : Int32)
          · simp only [if_pos hc38] at k
            refine XS.icmpYes X16.here hx rfl (pc0 := 209) (pc' := 216) rfl (hb hby at_209) rfl (teq hc38).1 (by decide) (by decide) ?_
            show Steps p.tables e below (T16.setTop (mkF m 216 #[iv p0, oJ q1, oS, iv p2, rv b1, iv l0, iv l1, iv l2, iv l3, iv l4, iv u0, iv u1, iv u2, oU, oU, oU, oU, oU, oU, oU, oU, oU, oU, oU, oU, oU, oU, oU, oU, oU, oU, oU, oU, oU] [])) _
            refine XS.iconst X16.here hx rfl (hb hby at_216) ?_
            show Steps p.tables e below (T16.setTop (mkF m 217 #[iv p0, oJ q1, oS, iv p2, rv b1, iv l0, iv l1, iv l2, iv l3, iv l4, iv u0, iv u1, iv u2, oU, oU, oU, oU, oU, oU, oU, oU, oU, oU, oU, oU, oU, oU, oU, oU, oU, oU, oU, oU, oU] [(.int (0 : Int32))])) _
            exact k
          · simp only [if_neg hc38] at k
            refine XS.icmpNo X16.here hx rfl (hb hby at_209) rfl (feq hc38).1 ?_
            show Steps p.tables e below (T16.setTop (mkF m 212 #[iv p0, oJ q1, oS, iv p2, rv b1, iv l0, iv l1, iv l2, iv l3, iv l4, iv u0, iv u1, iv u2, oU, oU, oU, oU, oU, oU, oU, oU, oU, oU, oU, oU, oU, oU, oU, oU, oU, oU, oU, oU, oU] [])) _
            refine XS.iconst X16.here hx rfl (hb hby at_212) ?_
            show Steps p.tables e below (T16.setTop (mkF m 213 #[iv p0, oJ q1, oS, iv p2, rv b1, iv l0, iv l1, iv l2, iv l3, iv l4, iv u0, iv u1, iv u2, oU, oU, oU, oU, oU, oU, oU, oU, oU, oU, oU, oU, oU, oU, oU, oU, oU, oU, oU, oU, oU] [(.int (1 : Int32))])) _
            refine XS.goto X16.here hx rfl (pc0 := 213) (pc' := 217) rfl (hb hby at_213) (by decide) (by decide) ?_
            show Steps p.tables e below (T16.setTop (mkF m 217 #[iv p0, oJ q1, oS, iv p2, rv b1, iv l0, iv l1, iv l2, iv l3, iv l4, iv u0, iv u1, iv u2, oU, oU, oU, oU, oU, oU, oU, oU, oU, oU, oU, oU, oU, oU, oU, oU, oU, oU, oU, oU, oU] [(.int (1 : Int32))])) _
            exact k
        show Steps p.tables e below (T16.setTop (mkF m 217 #[iv p0, oJ q1, oS, iv p2, rv b1, iv l0, iv l1, iv l2, iv l3, iv l4, iv u0, iv u1, iv u2, oU, oU, oU, oU, oU, oU, oU, oU, oU, oU, oU, oU, oU, oU, oU, oU, oU, oU, oU, oU, oU] [(.int (if (nar .byte (fpick p0 q1 (3 : Int32))) = (13 : Int32) then (0 : Int32) else (1 : Int32)))])) _
        exact k
      · simp only [if_neg hc36] at k
        refine XS.ifYes X16.here hx rfl (pc0 := 200) (pc' := 216) rfl (hb hby at_200) rfl ((if0 _ _).trans (feq hc36).2) (by decide) (by decide) ?_
        show Steps p.tables e below (T16.setTop (mkF m 216 #[iv p0, oJ q1, oS, iv p2, rv b1, iv l0, iv l1, iv l2, iv l3, iv l4, iv u0, iv u1, iv u2, oU, oU, oU, oU, oU, oU, oU, oU, oU, oU, oU, oU, oU, oU, oU, oU, oU, oU, oU, oU, oU] [])) _
        refine XS.iconst X16.here hx rfl (hb hby at_216) ?_
        show Steps p.tables e below (T16.setTop (mkF m 217 #[iv p0, oJ q1, oS, iv p2, rv b1, iv l0, iv l1, iv l2, iv l3, iv l4, iv u0, iv u1, iv u2, oU, oU, oU, oU, oU, oU, oU, oU, oU, oU, oU, oU, oU, oU, oU, oU, oU, oU, oU, oU, oU] [(.int (0 : Int32))])) _
        exact k
    show Steps p.tables e below (T16.setTop (mkF m 217 #[iv p0, oJ q1, oS, iv p2, rv b1, iv l0, iv l1, iv l2, iv l3, iv l4, iv u0, iv u1, iv u2, oU, oU, oU, oU, oU, oU, oU, oU, oU, oU, oU, oU, oU, oU, oU, oU, oU, oU, oU, oU, oU] [(.int (if l3 = (0 : Int32) then (if (nar .byte (fpick p0 q1 (3 : Int32))) = (13 : Int32) then (0 : Int32) else (1 : Int32)) else (0 : Int32)))])) _
    refine XS.istore X16.here hx rfl (hb hby at_217) rfl (l' := #[iv p0, oJ q1, oS, iv p2, rv b1, iv l0, iv l1, iv l2, iv l3, iv l4, iv u0, iv u1, iv u2, iv (if l3 = (0 : Int32) then (if (nar .byte (fpick p0 q1 (3 : Int32))) = (13 : Int32) then (0 : Int32) else (1 : Int32)) else (0 : Int32)), oU, oU, oU, oU, oU, oU, oU, oU, oU, oU, oU, oU, oU, oU, oU, oU, oU, oU, oU, oU]) rfl ?_
    show Steps p.tables e below (T16.setTop (mkF m 219 #[iv p0, oJ q1, oS, iv p2, rv b1, iv l0, iv l1, iv l2, iv l3, iv l4, iv u0, iv u1, iv u2, iv (if l3 = (0 : Int32) then (if (nar .byte (fpick p0 q1 (3 : Int32))) = (13 : Int32) then (0 : Int32) else (1 : Int32)) else (0 : Int32)), oU, oU, oU, oU, oU, oU, oU, oU, oU, oU, oU, oU, oU, oU, oU, oU, oU, oU, oU, oU] [])) _
    exact k
  generalize hu3 : (if l3 = (0 : Int32) then (if (nar .byte (fpick p0 q1 (3 : Int32))) = (13 : Int32) then (0 : Int32) else (1 : Int32)) else (0 : Int32)) = u3
  show own_Go p e below _ (T16.setTop (mkF m 219 #[iv p0, oJ q1, oS, iv p2, rv b1, iv l0, iv l1, iv l2, iv l3, iv l4, iv u0, iv u1, iv u2, iv u3, oU, oU, oU, oU, oU, oU, oU, oU, oU, oU, oU, oU, oU, oU, oU, oU, oU, oU, oU, oU] []))
  refine own_by (B := T16.setTop (mkF m 231 #[iv p0, oJ q1, oS, iv p2, rv b1, iv l0, iv l1, iv l2, iv l3, iv l4, iv u0, iv u1, iv u2, iv u3, iv (if u0 = (0 : Int32) then (1 : Int32) else (0 : Int32)), oU, oU, oU, oU, oU, oU, oU, oU, oU, oU, oU, oU, oU, oU, oU, oU, oU, oU, oU] [])) (fun t k => ?_) ?_
  · show Steps p.tables e below (T16.setTop (mkF m 219 #[iv p0, oJ q1, oS, iv p2, rv b1, iv l0, iv l1, iv l2, iv l3, iv l4, iv u0, iv u1, iv u2, iv u3, oU, oU, oU, oU, oU, oU, oU, oU, oU, oU, oU, oU, oU, oU, oU, oU, oU, oU, oU, oU] [])) _
    refine XS.iload X16.here hx rfl (hb hby at_219) rfl ?_
    show Steps p.tables e below (T16.setTop (mkF m 221 #[iv p0, oJ q1, oS, iv p2, rv b1, iv l0, iv l1, iv l2, iv l3, iv l4, iv u0, iv u1, iv u2, iv u3, oU, oU, oU, oU, oU, oU, oU, oU, oU, oU, oU, oU, oU, oU, oU, oU, oU, oU, oU, oU] [(.int u0)])) _
    refine (fun t (k : Steps p.tables e below (T16.setTop (mkF m 229 #[iv p0, oJ q1, oS, iv p2, rv b1, iv l0, iv l1, iv l2, iv l3, iv l4, iv u0, iv u1, iv u2, iv u3, oU, oU, oU, oU, oU, oU, oU, oU, oU, oU, oU, oU, oU, oU, oU, oU, oU, oU, oU, oU] [(.int (if u0 = (0 : Int32) then (1 : Int32) else (0 : Int32)))])) t) => (?_ : Steps p.tables e below _ t)) _ ?_
    · by_cases hc39 : u0 = (0 : Int32)
      · simp only [if_pos hc39] at k
        refine XS.ifNo X16.here hx rfl (hb hby at_221) rfl ((if0 _ _).trans (teq hc39).2) ?_
        show Steps p.tables e below (T16.setTop (mkF m 224 #[iv p0, oJ q1, oS, iv p2, rv b1, iv l0, iv l1, iv l2, iv l3, iv l4, iv u0, iv u1, iv u2, iv u3, oU, oU, oU, oU, oU, oU, oU, oU, oU, oU, oU, oU, oU, oU, oU, oU, oU, oU, oU, oU] [])) _
        refine XS.iconst X16.here hx rfl (hb hby at_224) ?_
        show Steps p.tables e below (T16.setTop (mkF m 225 #[iv p0, oJ q1, oS, iv p2, rv b1, iv l0, iv l1, iv l2, iv l3, iv l4, iv u0, iv u1, iv u2, iv u3, oU, oU, oU, oU, oU, oU, oU, oU, oU, oU, oU, oU, oU, oU, oU, oU, oU, oU, oU, oU] [(.int (1 : Int32))])) _
        refine XS.goto X16.here hx rfl (pc0 := 225) (pc' := 229) rfl (hb hby at_225) (by decide) (by decide) ?_
        show Steps p.tables e below (T16.setTop (mkF m 229 #[iv p0, oJ q1, oS, iv p2, rv b1, iv l0, iv l1, iv l2, iv l3, iv l4, iv u0, iv u1, iv u2, iv u3, oU, oU, oU, oU, oU, oU, oU, oU, oU, oU, oU, oU, oU, oU, oU, oU, oU, oU, oU, oU] [(.int (1 : Int32))])) _
        exact k
      · simp only [if_neg hc39] at k
        refine XS.ifYes X16.here hx rfl (pc0 := 221) (pc' := 228) rfl (hb hby at_221) rfl ((if0 _ _).trans (feq hc39).2) (by decide) (by decide) ?_
        show Steps p.tables e below (T16.setTop (mkF m 228 #[iv p0, oJ q1, oS, iv p2, rv b1, iv l0, iv l1, iv l2, iv l3, iv l4, iv u0, iv u1, iv u2, iv u3, oU, oU, oU, oU, oU, oU, oU, oU, oU, oU, oU, oU, oU, oU, oU, oU, oU, oU, oU, oU] [])) _
        refine XS.iconst X16.here hx rfl (hb hby at_228) ?_
        show Steps p.tables e below (T16.setTop (mkF m 229 #[iv p0, oJ q1, oS, iv p2, rv b1, iv l0, iv l1, iv l2, iv l3, iv l4, iv u0, iv u1, iv u2, iv u3, oU, oU, oU, oU, oU, oU, oU, oU, oU, oU, oU, oU, oU, oU, oU, oU, oU, oU, oU, oU] [(.int (0 : Int32))])) _
        exact k
    show Steps p.tables e below (T16.setTop (mkF m 229 #[iv p0, oJ q1, oS, iv p2, rv b1, iv l0, iv l1, iv l2, iv l3, iv l4, iv u0, iv u1, iv u2, iv u3, oU, oU, oU, oU, oU, oU, oU, oU, oU, oU, oU, oU, oU, oU, oU, oU, oU, oU, oU, oU] [(.int (if u0 = (0 : Int32) then (1 : Int32) else (0 : Int32)))])) _
    refine XS.istore X16.here hx rfl (hb hby at_229) rfl (l' := #[iv p0, oJ q1, oS, iv p2, rv b1, iv l0, iv l1, iv l2, iv l3, iv l4, iv u0, iv u1, iv u2, iv u3, iv (if u0 = (0 : Int32) then (1 : Int32) else (0 : Int32)), oU, oU, oU, oU, oU, oU, oU, oU, oU, oU, oU, oU, oU, oU, oU, oU, oU, oU, oU]) rfl ?_
    show Steps p.tables e below (T16.setTop (mkF m 231 #[iv p0, oJ q1, oS, iv p2, rv b1, iv l0, iv l1, iv l2, iv l3, iv l4, iv u0, iv u1, iv u2, iv u3, iv (if u0 = (0 : Int32) then (1 : Int32) else (0 : Int32)), oU, oU, oU, oU, oU, oU, oU, oU, oU, oU, oU, oU, oU, oU, oU, oU, oU, oU, oU] [])) _
    exact k
  generalize hy1 : (if u0 = (0 : Int32) then (1 : Int32) else (0 : Int32)) = y1
  show own_Go p e below _ (T16.setTop (mkF m 231 #[iv p0, oJ q1, oS, iv p2, rv b1, iv l0, iv l1, iv l2, iv l3, iv l4, iv u0, iv u1, iv u2, iv u3, iv y1, oU, oU, oU, oU, oU, oU, oU, oU, oU, oU, oU, oU, oU, oU, oU, oU, oU, oU, oU] []))
  refine own_by (B := T16.setTop (mkF m 253 #[iv p0, oJ q1, oS, iv p2, rv b1, iv l0, iv l1, iv l2, iv l3, iv l4, iv u0, iv u1, iv u2, iv u3, iv y1, iv (if u1 = (0 : Int32) then (if u0 = (0 : Int32) then (1 : Int32) else (if l1 = (0 : Int32) then (0 : Int32) else (1 : Int32))) else (0 : Int32)), oU, oU, oU, oU, oU, oU, oU, oU, oU, oU, oU, oU, oU, oU, oU, oU, oU, oU] [])) (fun t k => ?_) ?_
  · show Steps p.tables e below (T16.setTop (mkF m 231 #[iv p0, oJ q1, oS, iv p2, rv b1, iv l0, iv l1, iv l2, iv l3, iv l4, iv u0, iv u1, iv u2, iv u3, iv y1, oU, oU, oU, oU, oU, oU, oU, oU, oU, oU, oU, oU, oU, oU, oU, oU, oU, oU, oU] [])) _
    refine XS.iload X16.here hx rfl (hb hby at_231) rfl ?_
    show Steps p.tables e below (T16.setTop (mkF m 233 #[iv p0, oJ q1, oS, iv p2, rv b1, iv l0, iv l1, iv l2, iv l3, iv l4, iv u0, iv u1, iv u2, iv u3, iv y1, oU, oU, oU, oU, oU, oU, oU, oU, oU, oU, oU, oU, oU, oU, oU, oU, oU, oU, oU] [(.int u1)])) _
    refine (fun t (k : Steps p.tables e below (T16.setTop (mkF m 251 #[iv p0, oJ q1, oS, iv p2, rv b1, iv l0, iv l1, iv l2, iv l3, iv l4, iv u0, iv u1, iv u2, iv u3, iv y1, oU, oU, oU, oU, oU, oU, oU, oU, oU, oU, oU, oU, oU, oU, oU, oU, oU, oU, oU] [(.int (if u1 = (0 : Int32) then (if u0 = (0 : Int32) then (1 : Int32) else (if l1 = (0 : Int32) then (0 : Int32) else (1 : Int32))) else (0 : Int32)))])) t) => (?_ : Steps p.tables e below _ t)) _ ?_
    · by_cases hc40 : u1 = (0 : Int32)
      · simp only [if_pos hc40] at k
        refine XS.ifNo X16.here hx rfl (hb hby at_233) rfl ((if0 _ _).trans (teq hc40).2) ?_
        show Steps p.tables e below (T16.setTop (mkF m 236 #[iv p0, oJ q1, oS, iv p2, rv b1, iv l0, iv l1, iv l2, iv l3, iv l4, iv u0, iv u1, iv u2, iv u3, iv y1, oU, oU, oU, oU, oU, oU, oU, oU, oU, oU, oU, oU, oU, oU, oU, oU, oU, oU, oU] [])) _
        refine XS.iload X16.here hx rfl (hb hby at_236) rfl ?_
        show Steps p.tables e below (T16.setTop (mkF m 238 #[iv p0, oJ q1, oS, iv p2, rv b1, iv l0, iv l1, iv l2, iv l3, iv l4, iv u0, iv u1, iv u2, iv u3, iv y1, oU, oU, oU, oU, oU, oU, oU, oU, oU, oU, oU, oU, oU, oU, oU, oU, oU, oU, oU] [(.int u0)])) _
        refine (fun t (k : Steps p.tables e below (T16.setTop (mkF m 251 #[iv p0, oJ q1, oS, iv p2, rv b1, iv l0, iv l1, iv l2, iv l3, iv l4, iv u0, iv u1, iv u2, iv u3, iv y1, oU, oU, oU, oU, oU, oU, oU, oU, oU, oU, oU, oU, oU, oU, oU, oU, oU, oU, oU] [(.int (if u0 = (0 : Int32) then (1 : Int32) else (if l1 = (0 : Int32) then (0 : Int32) else (1 : Int32))))])) t) => (?_ : Steps p.tables e below _ t)) _ ?_
        · by_cases hc41 : u0 = (0 : Int32)
          · simp only [if_pos hc41] at k
            refine XS.ifYes X16.here hx rfl (pc0 := 238) (pc' := 246) rfl (hb hby at_238) rfl ((if0 _ _).trans (teq hc41).1) (by decide) (by decide) ?_
            show Steps p.tables e below (T16.setTop (mkF m 246 #[iv p0, oJ q1, oS, iv p2, rv b1, iv l0, iv l1, iv l2, iv l3, iv l4, iv u0, iv u1, iv u2, iv u3, iv y1, oU, oU, oU, oU, oU, oU, oU, oU, oU, oU, oU, oU, oU, oU, oU, oU, oU, oU, oU] [])) _
            refine XS.iconst X16.here hx rfl (hb hby at_246) ?_
            show Steps p.tables e below (T16.setTop (mkF m 247 #[iv p0, oJ q1, oS, iv p2, rv b1, iv l0, iv l1, iv l2, iv l3, iv l4, iv u0, iv u1, iv u2, iv u3, iv y1, oU, oU, oU, oU, oU, oU, oU, oU, oU, oU, oU, oU, oU, oU, oU, oU, oU, oU, oU] [(.int (1 : Int32))])) _
            refine XS.goto X16.here hx rfl (pc0 := 247) (pc' := 251) rfl (hb hby at_247) (by decide) (by decide) ?_
            show Steps p.tables e below (T16.setTop (mkF m 251 #[iv p0, oJ q1, oS, iv p2, rv b1, iv l0, iv l1, iv l2, iv l3, iv l4, iv u0, iv u1, iv u2, iv u3, iv y1, oU, oU, oU, oU, oU, oU, oU, oU, oU, oU, oU, oU, oU, oU, oU, oU, oU, oU, oU] [(.int (1 : Int32))])) _
            exact k
          · simp only [if_neg hc41] at k
            refine XS.ifNo X16.here hx rfl (hb hby at_238) rfl ((if0 _ _).trans (feq hc41).1) ?_
            show Steps p.tables e below (T16.setTop (mkF m 241 #[iv p0, oJ q1, oS, iv p2, rv b1, iv l0, iv l1, iv l2, iv l3, iv l4, iv u0, iv u1, iv u2, iv u3, iv y1, oU, oU, oU, oU, oU, oU, oU, oU, oU, oU, oU, oU, oU, oU, oU, oU, oU, oU, oU] [])) _
            refine XS.iload X16.here hx rfl (hb hby at_241) rfl ?_
            show Steps p.tables e below (T16.setTop (mkF m 243 #[iv p0, oJ q1, oS, iv p2, rv b1, iv l0, iv l1, iv l2, iv l3, iv l4, iv u0, iv u1, iv u2, iv u3, iv y1, oU, oU, oU, oU, oU, oU, oU, oU, oU, oU, oU, oU, oU, oU, oU, oU, oU, oU, oU] [(.int l1)])) _
            refine (fun t (k : Steps p.tables e below (T16.setTop (mkF m 251 #[iv p0, oJ q1, oS, iv p2, rv b1, iv l0, iv l1, iv l2, iv l3, iv l4, iv u0, iv u1, iv u2, iv u3, iv y1, oU, oU, oU, oU, oU, oU, oU, oU, oU, oU, oU, oU, oU, oU, oU, oU, oU, oU, oU] [(.int (if l1 = (0 : Int32) then (0 : Int32) else (1 : Int32)))])) t) => (?_ : Steps p.tables e below _ t)) _ ?_
            · by_cases hc42 : l1 = (0 : Int32)
              · simp only [if_pos hc42] at k
                refine XS.ifYes X16.here hx rfl (pc0 := 243) (pc' := 250) rfl (hb hby at_243) rfl ((if0 _ _).trans (teq hc42).1) (by decide) (by decide) ?_
                show Steps p.tables e below (T16.setTop (mkF m 250 #[iv p0, oJ q1, oS, iv p2, rv b1, iv l0, iv l1, iv l2, iv l3, iv l4, iv u0, iv u1, iv u2, iv u3, iv y1, oU, oU, oU, oU, oU, oU, oU, oU, oU, oU, oU, oU, oU, oU, oU, oU, oU, oU, oU] [])) _
                refine XS.iconst X16.here hx rfl (hb hby at_250) ?_
                show Steps p.tables e below (T16.setTop (mkF m 251 #[iv p0, oJ q1, oS, iv p2, rv b1, iv l0, iv l1, iv l2, iv l3, iv l4, iv u0, iv u1, iv u2, iv u3, iv y1, oU, oU, oU, oU, oU, oU, oU, oU, oU, oU, oU, oU, oU, oU, oU, oU, oU, oU, oU] [(.int (0 : Int32))])) _
                exact k
              · simp only [if_neg hc42] at k
                refine XS.ifNo X16.here hx rfl (hb hby at_243) rfl ((if0 _ _).trans (feq hc42).1) ?_
                show Steps p.tables e below (T16.setTop (mkF m 246 #[iv p0, oJ q1, oS, iv p2, rv b1, iv l0, iv l1, iv l2, iv l3, iv l4, iv u0, iv u1, iv u2, iv u3, iv y1, oU, oU, oU, oU, oU, oU, oU, oU, oU, oU, oU, oU, oU, oU, oU, oU, oU, oU, oU] [])) _
                refine XS.iconst X16.here hx rfl (hb hby at_246) ?_
                show Steps p.tables e below (T16.setTop (mkF m 247 #[iv p0, oJ q1, oS, iv p2, rv b1, iv l0, iv l1, iv l2, iv l3, iv l4, iv u0, iv u1, iv u2, iv u3, iv y1, oU, oU, oU, oU, oU, oU, oU, oU, oU, oU, oU, oU, oU, oU, oU, oU, oU, oU, oU] [(.int (1 : Int32))])) _
                refine XS.goto X16.here hx rfl (pc0 := 247) (pc' := 251) rfl (hb hby at_247) (by decide) (by decide) ?_
                show Steps p.tables e below (T16.setTop (mkF m 251 #[iv p0, oJ q1, oS, iv p2, rv b1, iv l0, iv l1, iv l2, iv l3, iv l4, iv u0, iv u1, iv u2, iv u3, iv y1, oU, oU, oU, oU, oU, oU, oU, oU, oU, oU, oU, oU, oU, oU, oU, oU, oU, oU, oU] [(.int (1 : Int32))])) _
                exact k
            show Steps p.tables e below (T16.setTop (mkF m 251 #[iv p0, oJ q1, oS, iv p2, rv b1, iv l0, iv l1, iv l2, iv l3, iv l4, iv u0, iv u1, iv u2, iv u3, iv y1, oU, oU, oU, oU, oU, oU, oU, oU, oU, oU, oU, oU, oU, oU, oU, oU, oU, oU, oU] [(.int (if l1 = (0 : Int32) then (0 : Int32) else (1 : Int32)))])) _
            exact k
        show Steps p.tables e below (T16.setTop (mkF m 251 #[iv p0, oJ q1, oS, iv p2, rv b1, iv l0, iv l1, iv l2, iv l3, iv l4, iv u0, iv u1, iv u2, iv u3, iv y1, oU, oU, oU, oU, oU, oU, oU, oU, oU, oU, oU, oU, oU, oU, oU, oU, oU, oU, oU] [(.int (if u0 = (0 : Int32) then (1 : Int32) else (if l1 = (0 : Int32) then (0 : Int32) else (1 : Int32))))])) _
        exact k
      · simp only [if_neg hc40] at k
        refine XS.ifYes X16.here hx rfl (pc0 := 233) (pc' := 250) rfl (hb hby at_233) rfl ((if0 _ _).trans (feq hc40).2) (by decide) (by decide) ?_
        show Steps p.tables e below (T16.setTop (mkF m 250 #[iv p0, oJ q1, oS, iv p2, rv b1, iv l0, iv l1, iv l2, iv l3, iv l4, iv u0, iv u1, iv u2, iv u3, iv y1, oU, oU, oU, oU, oU, oU, oU, oU, oU, oU, oU, oU, oU, oU, oU, oU, oU, oU, oU] [])) _
        refine XS.iconst X16.here hx rfl (hb hby at_250) ?_
        show Steps p.tables e below (T16.setTop (mkF m 251 #[iv p0, oJ q1, oS, iv p2, rv b1, iv l0, iv l1, iv l2, iv l3, iv l4, iv u0, iv u1, iv u2, iv u3, iv y1, oU, oU, oU, oU, oU, oU, oU, oU, oU, oU, oU, oU, oU, oU, oU, oU, oU, oU, oU] [(.int (0 : Int32))])) _
        exact k
    show Steps p.tables e below (T16.setTop (mkF m 251 #[iv p0, oJ q1, oS, iv p2, rv b1, iv l0, iv l1, iv l2, iv l3, iv l4, iv u0, iv u1, iv u2, iv u3, iv y1, oU, oU, oU, oU, oU, oU, oU, oU, oU, oU, oU, oU, oU, oU, oU, oU, oU, oU, oU] [(.int (if u1 = (0 : Int32) then (if u0 = (0 : Int32) then (1 : Int32) else (if l1 = (0 : Int32) then (0 : Int32) else (1 : Int32))) else (0 : Int32)))])) _
    refine XS.istore X16.here hx rfl (hb hby at_251) rfl (l' := #[iv p0, oJ q1, oS, iv p2, rv b1, iv l0, iv l1, iv l2, iv l3, iv l4, iv u0, iv u1, iv u2, iv u3, iv y1, iv (if u1 = (0 : Int32) then (if u0 = (0 : Int32) then (1 : Int32) else (if l1 = (0 : Int32) then (0 : Int32) else (1 : Int32))) else (0 : Int32)), oU, oU, oU, oU, oU, oU, oU, oU, oU, oU, oU, oU, oU, oU, oU, oU, oU, oU]) rfl ?_
    show Steps p.tables e below (T16.setTop (mkF m 253 #[iv p0, oJ q1, oS, iv p2, rv b1, iv l0, iv l1, iv l2, iv l3, iv l4, iv u0, iv u1, iv u2, iv u3, iv y1, iv (if u1 = (0 : Int32) then (if u0 = (0 : Int32) then (1 : Int32) else (if l1 = (0 : Int32) then (0 : Int32) else (1 : Int32))) else (0 : Int32)), oU, oU, oU, oU, oU, oU, oU, oU, oU, oU, oU, oU, oU, oU, oU, oU, oU, oU] [])) _
    exact k
  generalize hy2 : (if u1 = (0 : Int32) then (if u0 = (0 : Int32) then (1 : Int32) else (if l1 = (0 : Int32) then (0 : Int32) else (1 : Int32))) else (0 : Int32)) = y2
  show own_Go p e below _ (T16.setTop (mkF m 253 #[iv p0, oJ q1, oS, iv p2, rv b1, iv l0, iv l1, iv l2, iv l3, iv l4, iv u0, iv u1, iv u2, iv u3, iv y1, iv y2, oU, oU, oU, oU, oU, oU, oU, oU, oU, oU, oU, oU, oU, oU, oU, oU, oU, oU] []))
  refine own_by (B := T16.setTop (mkF m 290 #[iv p0, oJ q1, oS, iv p2, rv b1, iv l0, iv l1, iv l2, iv l3, iv l4, iv u0, iv u1, iv u2, iv u3, iv y1, iv y2, iv (if u2 = (0 : Int32) then (if u1 = (0 : Int32) then (if u0 = (0 : Int32) then (1 : Int32) else (if l1 = (0 : Int32) then (if l2 = (0 : Int32) then (0 : Int32) else (1 : Int32)) else (1 : Int32))) else (if l2 = (0 : Int32) then (0 : Int32) else (1 : Int32))) else (0 : Int32)), oU, oU, oU, oU, oU, oU, oU, oU, oU, oU, oU, oU, oU, oU, oU, oU, oU] [])) (fun t k => ?_) ?_
  · show Steps p.tables e below (T16.setTop (mkF m 253 #[iv p0, oJ q1, oS, iv p2, rv b1, iv l0, iv l1, iv l2, iv l3, iv l4, iv u0, iv u1, iv u2, iv u3, iv y1, iv y2, oU, oU, oU, oU, oU, oU, oU, oU, oU, oU, oU, oU, oU, oU, oU, oU, oU, oU] [])) _
    refine XS.iload X16.here hx rfl (hb hby at_253) rfl ?_
    show Steps p.tables e below (T16.setTop (mkF m 255 #[iv p0, oJ q1, oS, iv p2, rv b1, iv l0, iv l1, iv l2, iv l3, iv l4, iv u0, iv u1, iv u2, iv u3, iv y1, iv y2, oU, oU, oU, oU, oU, oU, oU, oU, oU, oU, oU, oU, oU, oU, oU, oU, oU, oU] [(.int u2)])) _
    refine (fun t (k : Steps p.tables e below (T16.setTop (mkF m 288 #[iv p0, oJ q1, oS, iv p2, rv b1, iv l0, iv l1, iv l2, iv l3, iv l4, iv u0, iv u1, iv u2, iv u3, iv y1, iv y2, oU, oU, oU, oU, oU, oU, oU, oU, oU, oU, oU, oU, oU, oU, oU, oU, oU, oU] [(.int (if u2 = (0 : Int32) then (if u1 = (0 : Int32) then (if u0 = (0 : Int32) then (1 : Int32) else (if l1 = (0 : Int32) then (if l2 = (0 : Int32) then (0 : Int32) else (1 : Int32)) else (1 : Int32))) else (if l2 = (0 : Int32) then (0 : Int32) else (1 : Int32))) else (0 : Int32)))])) t) => (?_ : Steps p.tables e below _ t)) _ ?_
    · by_cases hc43 : u2 = (0 : Int32)
      · simp only [if_pos hc43] at k
        refine XS.ifNo X16.here hx rfl (hb hby at_255) rfl ((if0 _ _).trans (teq hc43).2) ?_
        show Steps p.tables e below (T16.setTop (mkF m 258 #[iv p0, oJ q1, oS, iv p2, rv b1, iv l0, iv l1, iv l2, iv l3, iv l4, iv u0, iv u1, iv u2, iv u3, iv y1, iv y2, oU, oU, oU, oU, oU, oU, oU, oU, oU, oU, oU, oU, oU, oU, oU, oU, oU, oU] [])) _
        refine XS.iload X16.here hx rfl (hb hby at_258) rfl ?_
        show Steps p.tables e below (T16.setTop (mkF m 260 #[iv p0, oJ q1, oS, iv p2, rv b1, iv l0, iv l1, iv l2, iv l3, iv l4, iv u0, iv u1, iv u2, iv u3, iv y1, iv y2, oU, oU, oU, oU, oU, oU, oU, oU, oU, oU, oU, oU, oU, oU, oU, oU, oU, oU] [(.int u1)])) _
        refine (fun t (k : Steps p.tables e below (T16.setTop (mkF m 288 #[iv p0, oJ q1, oS, iv p2, rv b1, iv l0, iv l1, iv l2, iv l3, iv l4, iv u0, iv u1, iv u2, iv u3, iv y1, iv y2, oU, oU, oU, oU, oU, oU, oU, oU, oU, oU, oU, oU, oU, oU, oU, oU, oU, oU] [(.int (if u1 = (0 : Int32) then (if u0 = (0 : Int32) then (1 : Int32) else (if l1 = (0 : Int32) then (if l2 = (0 : Int32) then (0 : Int32) else (1 : Int32)) else (1 : Int32))) else (if l2 = (0 : Int32) then (0 : Int32) else (1 : Int32))))])) t) => (?_ : Steps p.tables e below _ t)) _ ?_
        · by_cases hc44 : u1 = (0 : Int32)
          · simp only [if_pos hc44] at k
            refine XS.ifYes X16.here hx rfl (pc0 := 260) (pc' := 268) rfl (hb hby at_260) rfl ((if0 _ _).trans (teq hc44).1) (by decide) (by decide) ?_
            show Steps p.tables e below (T16.setTop (mkF m 268 #[iv p0, oJ q1, oS, iv p2, rv b1, iv l0, iv l1, iv l2, iv l3, iv l4, iv u0, iv u1, iv u2, iv u3, iv y1, iv y2, oU, oU, oU, oU, oU, oU, oU, oU, oU, oU, oU, oU, oU, oU, oU, oU, oU, oU] [])) _
            refine XS.iload X16.here hx rfl (hb hby at_268) rfl ?_
            show Steps p.tables e below (T16.setTop (mkF m 270 #[iv p0, oJ q1, oS, iv p2, rv b1, iv l0, iv l1, iv l2, iv l3, iv l4, iv u0, iv u1, iv u2, iv u3, iv y1, iv y2, oU, oU, oU, oU, oU, oU, oU, oU, oU, oU, oU, oU, oU, oU, oU, oU, oU, oU] [(.int u0)])) _
            refine (fun t (k : Steps p.tables e below (T16.setTop (mkF m 288 #[iv p0, oJ q1, oS, iv p2, rv b1, iv l0, iv l1, iv l2, iv l3, iv l4, iv u0, iv u1, iv u2, iv u3, iv y1, iv y2, oU, oU, oU, oU, oU, oU, oU, oU, oU, oU, oU, oU, oU, oU, oU, oU, oU, oU] [(.int (if u0 = (0 : Int32) then (1 : Int32) else (if l1 = (0 : Int32) then (if l2 = (0 : Int32) then (0 : Int32) else (1 : Int32)) else (1 : Int32))))])) t) => (?_ : Steps p.tables e below _ t)) _ ?_
            · by_cases hc45 : u0 = (0 : Int32)
              · simp only [if_pos hc45] at k
                refine XS.ifYes X16.here hx rfl (pc0 := 270) (pc' := 283) rfl (hb hby at_270) rfl ((if0 _ _).trans (teq hc45).1) (by decide) (by decide) ?_
                show Steps p.tables e below (T16.setTop (mkF m 283 #[iv p0, oJ q1, oS, iv p2, rv b1, iv l0, iv l1, iv l2, iv l3, iv l4, iv u0, iv u1, iv u2, iv u3, iv y1, iv y2, oU, oU, oU, oU, oU, oU, oU, oU, oU, oU, oU, oU, oU, oU, oU, oU, oU, oU] [])) _
                refine XS.iconst X16.here hx rfl (hb hby at_283) ?_
                show Steps p.tables e below (T16.setTop (mkF m 284 #[iv p0, oJ q1, oS, iv p2, rv b1, iv l0, iv l1, iv l2, iv l3, iv l4, iv u0, iv u1, iv u2, iv u3, iv y1, iv y2, oU, oU, oU, oU, oU, oU, oU, oU, oU, oU, oU, oU, oU, oU, oU, oU, oU, oU] [(.int (1 : Int32))])) _
                refine XS.goto X16.here hx rfl (pc0 := 284) (pc' := 288) rfl (hb hby at_284) (by decide) (by decide) ?_
                show Steps p.tables e below (T16.setTop (mkF m 288 #[iv p0, oJ q1, oS, iv p2, rv b1, iv l0, iv l1, iv l2, iv l3, iv l4, iv u0, iv u1, iv u2, iv u3, iv y1, iv y2, oU, oU, oU, oU, oU, oU, oU, oU, oU, oU, oU, oU, oU, oU, oU, oU, oU, oU] [(.int (1 : Int32))])) _
                exact k
              · simp only [if_neg hc45] at k
                refine XS.ifNo X16.here hx rfl (hb hby at_270) rfl ((if0 _ _).trans (feq hc45).1) ?_
                show Steps p.tables e below (T16.setTop (mkF m 273 #[iv p0, oJ q1, oS, iv p2, rv b1, iv l0, iv l1, iv l2, iv l3, iv l4, iv u0, iv u1, iv u2, iv u3, iv y1, iv y2, oU, oU, oU, oU, oU, oU, oU, oU, oU, oU, oU, oU, oU, oU, oU, oU, oU, oU] [])) _
                refine XS.iload X16.here hx rfl (hb hby at_273) rfl ?_
                show Steps p.tables e below (T16.setTop (mkF m 275 #[iv p0, oJ q1, oS, iv p2, rv b1, iv l0, iv l1, iv l2, iv l3, iv l4, iv u0, iv u1, iv u2, iv u3, iv y1, iv y2, oU, oU, oU, oU, oU, oU, oU, oU, oU, oU, oU, oU, oU, oU, oU, oU, oU, oU] [(.int l1)])) _
                refine (fun t (k : Steps p.tables e below (T16.setTop (mkF m 288 #[iv p0, oJ q1, oS, iv p2, rv b1, iv l0, iv l1, iv l2, iv l3, iv l4, iv u0, iv u1, iv u2, iv u3, iv y1, iv y2, oU, oU, oU, oU, oU, oU, oU, oU, oU, oU, oU, oU, oU, oU, oU, oU, oU, oU] [(.int (if l1 = (0 : Int32) then (if l2 = (0 : Int32) then (0 : Int32) else (1 : Int32)) else (1 : Int32)))])) t) => (?_ : Steps p.tables e below _ t)) _ ?_
                · by_cases hc46 : l1 = (0 : Int32)
                  · simp only [if_pos hc46] at k
                    refine XS.ifNo X16.here hx rfl (hb hby at_275) rfl ((if0 _ _).trans (teq hc46).2) ?_
                    show Steps p.tables e below (T16.setTop (mkF m 278 #[iv p0, oJ q1, oS, iv p2, rv b1, iv l0, iv l1, iv l2, iv l3, iv l4, iv u0, iv u1, iv u2, iv u3, iv y1, iv y2, oU, oU, oU, oU, oU, oU, oU, oU, oU, oU, oU, oU, oU, oU, oU, oU, oU, oU] [])) _
                    refine XS.iload X16.here hx rfl (hb hby at_278) rfl ?_
                    show Steps p.tables e below (T16.setTop (mkF m 280 #[iv p0, oJ q1, oS, iv p2, rv b1, iv l0, iv l1, iv l2, iv l3, iv l4, iv u0, iv u1, iv u2, iv u3, iv y1, iv y2, oU, oU, oU, oU, oU, oU, oU, oU, oU, oU, oU, oU, oU, oU, oU, oU, oU, oU] [(.int l2)])) _
                    refine (fun t (k : Steps p.tables e below (T16.setTop (mkF m 288 #[iv p0, oJ q1, oS, iv p2, rv b1, iv l0, iv l1, iv l2, iv l3, iv l4, iv u0, iv u1, iv u2, iv u3, iv y1, iv y2, oU, oU, oU, oU, oU, oU, oU, oU, oU, oU, oU, oU, oU, oU, oU, oU, oU, oU] [(.int (if l2 = (0 : Int32) then (0 : Int32) else (1 : Int32)))])) t) => (?_ : Steps p.tables e below _ t)) _ ?_
                    · by_cases hc47 : l2 = (0 : Int32)
                      · simp only [if_pos hc47] at k
                        refine XS.ifYes X16.here hx rfl (pc0 := 280) (pc' := 287) rfl (hb hby at_280) rfl ((if0 _ _).trans (teq hc47).1) (by decide) (by decide) ?_
                        show Steps p.tables e below (T16.setTop (mkF m 287 #[iv p0, oJ q1, oS, iv p2, rv b1, iv l0, iv l1, iv l2, iv l3, iv l4, iv u0, iv u1, iv u2, iv u3, iv y1, iv y2, oU, oU, oU, oU, oU, oU, oU, oU, oU, oU, oU, oU, oU, oU, oU, oU, oU, oU] [])) _
                        refine XS.iconst X16.here hx rfl (hb hby at_287) ?_
                        show Steps p.tables e below (T16.setTop (mkF m 288 #[iv p0, oJ q1, oS, iv p2, rv b1, iv l0, iv l1, iv l2, iv l3, iv l4, iv u0, iv u1, iv u2, iv u3, iv y1, iv y2, oU, oU, oU, oU, oU, oU, oU, oU, oU, oU, oU, oU, oU, oU, oU, oU, oU, oU] [(.int (0 : Int32))])) _
                        exact k
                      · simp only [if_neg hc47] at k
                        refine XS.ifNo X16.here hx rfl (hb hby at_280) rfl ((if0 _ _).trans (feq hc47).1) ?_
                        show Steps p.tables e below (T16.setTop (mkF m 283 #[iv p0, oJ q1, oS, iv p2, rv b1, iv l0, iv l1, iv l2, iv l3, iv l4, iv u0, iv u1, iv u2, iv u3, iv y1, iv y2, oU, oU, oU, oU, oU, oU, oU, oU, oU, oU, oU, oU, oU, oU, oU, oU, oU, oU] [])) _
                        refine XS.iconst X16.here hx rfl (hb hby at_283) ?_
                        show Steps p.tables e below (T16.setTop (mkF m 284 #[iv p0, oJ q1, oS, iv p2, rv b1, iv l0, iv l1, iv l2, iv l3, iv l4, iv u0, iv u1, iv u2, iv u3, iv y1, iv y2, oU, oU, oU, oU, oU, oU, oU, oU, oU, oU, oU, oU, oU, oU, oU, oU, oU, oU] [(.int (1 : Int32))])) _
                        refine XS.goto X16.here hx rfl (pc0 := 284) (pc' := 288) rfl (hb hby at_284) (by decide) (by decide) ?_
                        show Steps p.tables e below (T16.setTop (mkF m 288 #[iv p0, oJ q1, oS, iv p2, rv b1, iv l0, iv l1, iv l2, iv l3, iv l4, iv u0, iv u1, iv u2, iv u3, iv y1, iv y2, oU, oU, oU, oU, oU, oU, oU, oU, oU, oU, oU, oU, oU, oU, oU, oU, oU, oU] [(.int (1 : Int32))])) _
                        exact k
                    show Steps p.tables e below (T16.setTop (mkF m 288 #[iv p0, oJ q1, oS, iv p2, rv b1, iv l0, iv l1, iv l2, iv l3, iv l4, iv u0, iv u1, iv u2, iv u3, iv y1, iv y2, oU, oU, oU, oU, oU, oU, oU, oU, oU, oU, oU, oU, oU, oU, oU, oU, oU, oU] [(.int (if l2 = (0 : Int32) then (0 : Int32) else (1 : Int32)))])) _
                    exact k
                  · simp only [if_neg hc46] at k
                    refine XS.ifYes X16.here hx rfl (pc0 := 275) (pc' := 283) rfl (hb hby at_275) rfl ((if0 _ _).trans (feq hc46).2) (by decide) (by decide) ?_
                    show Steps p.tables e below (T16.setTop (mkF m 283 #[iv p0, oJ q1, oS, iv p2, rv b1, iv l0, iv l1, iv l2, iv l3, iv l4, iv u0, iv u1, iv u2, iv u3, iv y1, iv y2, oU, oU, oU, oU, oU, oU, oU, oU, oU, oU, oU, oU, oU, oU, oU, oU, oU, oU] [])) _
                    refine XS.iconst X16.here hx rfl (hb hby at_283) ?_
                    show Steps p.tables e below (T16.setTop (mkF m 284 #[iv p0, oJ q1, oS, iv p2, rv b1, iv l0, iv l1, iv l2, iv l3, iv l4, iv u0, iv u1, iv u2, iv u3, iv y1, iv y2, oU, oU, oU, oU, oU, oU, oU, oU, oU, oU, oU, oU, oU, oU, oU, oU, oU, oU] [(.int (1 : Int32))])) _
                    refine XS.goto X16.here hx rfl (pc0 := 284) (pc' := 288) rfl (hb hby at_284) (by decide) (by decide) ?_
                    show Steps p.tables e below (T16.setTop (mkF m 288 #[iv p0, oJ q1, oS, iv p2, rv b1, iv l0, iv l1, iv l2, iv l3, iv l4, iv u0, iv u1, iv u2, iv u3, iv y1, iv y2, oU, oU, oU, oU, oU, oU, oU, oU, oU, oU, oU, oU, oU, oU, oU, oU, oU, oU] [(.int (1 : Int32))])) _
                    exact k
                show Steps p.tables e below (T16.setTop (mkF m 288 #[iv p0, oJ q1, oS, iv p2, rv b1, iv l0, iv l1, iv l2, iv l3, iv l4, iv u0, iv u1, iv u2, iv u3, iv y1, iv y2, oU, oU, oU, oU, oU, oU, oU, oU, oU, oU, oU, oU, oU, oU, oU, oU, oU, oU] [(.int (if l1 = (0 : Int32) then (if l2 = (0 : Int32) then (0 : Int32) else (1 : Int32)) else (1 : Int32)))])) _
                exact k
            show Steps p.tables e below (T16.setTop (mkF m 288 #[iv p0, oJ q1, oS, iv p2, rv b1, iv l0, iv l1, iv l2, iv l3, iv l4, iv u0, iv u1, iv u2, iv u3, iv y1, iv y2, oU, oU, oU, oU, oU, oU, oU, oU, oU, oU, oU, oU, oU, oU, oU, oU, oU, oU] [(.int (if u0 = (0 : Int32) then (1 : Int32) else (if l1 = (0 : Int32) then (if l2 = (0 : Int32) then (0 : Int32) else (1 : Int32)) else (1 : Int32))))])) _
            exact k
          · simp only [if_neg hc44] at k
            refine XS.ifNo X16.here hx rfl (hb hby at_260) rfl ((if0 _ _).trans (feq hc44).1) ?_
            show Steps p.tables e below (T16.setTop (mkF m 263 #[iv p0, oJ q1, oS, iv p2, rv b1, iv l0, iv l1, iv l2, iv l3, iv l4, iv u0, iv u1, iv u2, iv u3, iv y1, iv y2, oU, oU, oU, oU, oU, oU, oU, oU, oU, oU, oU, oU, oU, oU, oU, oU, oU, oU] [])) _
            refine XS.iload X16.here hx rfl (hb hby at_263) rfl ?_
            show Steps p.tables e below (T16.setTop (mkF m 265 #[iv p0, oJ q1, oS, iv p2, rv b1, iv l0, iv l1, iv l2, iv l3, iv l4, iv u0, iv u1, iv u2, iv u3, iv y1, iv y2, oU, oU, oU, oU, oU, oU, oU, oU, oU, oU, oU, oU, oU, oU, oU, oU, oU, oU] [(.int l2)])) _
            refine (fun t (k : Steps p.tables e below (T16.setTop (mkF m 288 #[iv p0, oJ q1, oS, iv p2, rv b1, iv l0, iv l1, iv l2, iv l3, iv l4, iv u0, iv u1, iv u2, iv u3, iv y1, iv y2, oU, oU, oU, oU, oU, oU, oU, oU, oU, oU, oU, oU, oU, oU, oU, oU, oU, oU] [(.int (if l2 = (0 : Int32) then (0 : Int32) else (1 : Int32)))])) t) => (?_ : Steps p.tables e below _ t)) _ ?_
            · by_cases hc48 : l2 = (0 : Int32)
              · simp only [if_pos hc48] at k
                refine XS.ifYes X16.here hx rfl (pc0 := 265) (pc' := 287) rfl (hb hby at_265) rfl ((if0 _ _).trans (teq hc48).1) (by decide) (by decide) ?_
                show Steps p.tables e below (T16.setTop (mkF m 287 #[iv p0, oJ q1, oS, iv p2, rv b1, iv l0, iv l1, iv l2, iv l3, iv l4, iv u0, iv u1, iv u2, iv u3, iv y1, iv y2, oU, oU, oU, oU, oU, oU, oU, oU, oU, oU, oU, oU, oU, oU, oU, oU, oU, oU] [])) _
                refine XS.iconst X16.here hx rfl (hb hby at_287) ?_
                show Steps p.tables e below (T16.setTop (mkF m 288 #[iv p0, oJ q1, oS, iv p2, rv b1, iv l0, iv l1, iv l2, iv l3, iv l4, iv u0, iv u1, iv u2, iv u3, iv y1, iv y2, oU, oU, oU, oU, oU, oU, oU, oU, oU, oU, oU, oU, oU, oU, oU, oU, oU, oU] [(.int (0 : Int32))])) _
                exact k
              · simp only [if_neg hc48] at k
                refine XS.ifNo X16.here hx rfl (hb hby at_265) rfl ((if0 _ _).trans (feq hc48).1) ?_
                show Steps p.tables e below (T16.setTop (mkF m 268 #[iv p0, oJ q1, oS, iv p2, rv b1, iv l0, iv l1, iv l2, iv l3, iv l4, iv u0, iv u1, iv u2, iv u3, iv y1, iv y2, oU, oU, oU, oU, oU, oU, oU, oU, oU, oU, oU, oU, oU, oU, oU, oU, oU, oU] [])) _
                refine XS.iload X16.here hx rfl (hb hby at_268) rfl ?_
                show Steps p.tables e below (T16.setTop (mkF m 270 #[iv p0, oJ q1, oS, iv p2, rv b1, iv l0, iv l1, iv l2, iv l3, iv l4, iv u0, iv u1, iv u2, iv u3, iv y1, iv y2, oU, oU, oU, oU, oU, oU, oU, oU, oU, oU, oU, oU, oU, oU, oU, oU, oU, oU] [(.int u0)])) _
                refine (fun t (k : Steps p.tables e below (T16.setTop (mkF m 288 #[iv p0, oJ q1, oS, iv p2, rv b1, iv l0, iv l1, iv l2, iv l3, iv l4, iv u0, iv u1, iv u2, iv u3, iv y1, iv y2, oU, oU, oU, oU, oU, oU, oU, oU, oU, oU, oU, oU, oU, oU, oU, oU, oU, oU] [(.int (1 : Int32))])) t) => (?_ : Steps p.tables e below _ t)) _ ?_
                · by_cases hc49 : u0 = (0 : Int32)
                  · refine XS.ifYes X16.here hx rfl (pc0 := 270) (pc' := 283) rfl (hb hby at_270) rfl ((if0 _ _).trans (teq hc49).1) (by decide) (by decide) ?_
                    show Steps p.tables e below (T16.setTop (mkF m 283 #[iv p0, oJ q1, oS, iv p2, rv b1, iv l0, iv l1, iv l2, iv l3, iv l4, iv u0, iv u1, iv u2, iv u3, iv y1, iv y2, oU, oU, oU, oU, oU, oU, oU, oU, oU, oU, oU, oU, oU, oU, oU, oU, oU, oU] [])) _
                    refine XS.iconst X16.here hx rfl (hb hby at_283) ?_
                    show Steps p.tables e below (T16.setTop (mkF m 284 #[iv p0, oJ q1, oS, iv p2, rv b1, iv l0, iv l1, iv l2, iv l3, iv l4, iv u0, iv u1, iv u2, iv u3, iv y1, iv y2, oU, oU, oU, oU, oU, oU, oU, oU, oU, oU, oU, oU, oU, oU, oU, oU, oU, oU] [(.int (1 : Int32))])) _
                    refine XS.goto X16.here hx rfl (pc0 := 284) (pc' := 288) rfl (hb hby at_284) (by decide) (by decide) ?_
                    show Steps p.tables e below (T16.setTop (mkF m 288 #[iv p0, oJ q1, oS, iv p2, rv b1, iv l0, iv l1, iv l2, iv l3, iv l4, iv u0, iv u1, iv u2, iv u3, iv y1, iv y2, oU, oU, oU, oU, oU, oU, oU, oU, oU, oU, oU, oU, oU, oU, oU, oU, oU, oU] [(.int (1 : Int32))])) _
                    exact k
                  · refine XS.ifNo X16.here hx rfl (hb hby at_270) rfl ((if0 _ _).trans (feq hc49).1) ?_
                    show Steps p.tables e below (T16.setTop (mkF m 273 #[iv p0, oJ q1, oS, iv p2, rv b1, iv l0, iv l1, iv l2, iv l3, iv l4, iv u0, iv u1, iv u2, iv u3, iv y1, iv y2, oU, oU, oU, oU, oU, oU, oU, oU, oU, oU, oU, oU, oU, oU, oU, oU, oU, oU] [])) _
                    refine XS.iload X16.here hx rfl (hb hby at_273) rfl ?_
                    show Steps p.tables e below (T16.setTop (mkF m 275 #[iv p0, oJ q1, oS, iv p2, rv b1, iv l0, iv l1, iv l2, iv l3, iv l4, iv u0, iv u1, iv u2, iv u3, iv y1, iv y2, oU, oU, oU, oU, oU, oU, oU, oU, oU, oU, oU, oU, oU, oU, oU, oU, oU, oU] [(.int l1)])) _
                    refine (fun t (k : Steps p.tables e below (T16.setTop (mkF m 288 #[iv p0, oJ q1, oS, iv p2, rv b1, iv l0, iv l1, iv l2, iv l3, iv l4, iv u0, iv u1, iv u2, iv u3, iv y1, iv y2, oU, oU, oU, oU, oU, oU, oU, oU, oU, oU, oU, oU, oU, oU, oU, oU, oU, oU] [(.int (1 : Int32))])) t) => (?_ : Steps p.tables e below _ t)) _ ?_
                    · by_cases hc50 : l1 = (0 : Int32)
                      · refine XS.ifNo X16.here hx rfl (hb hby at_275) rfl ((if0 _ _).trans (teq hc50).2) ?_
                        show Steps p.tables e below (T16.setTop (mkF m 278 #[iv p0, oJ q1, oS, iv p2, rv b1, iv l0, iv l1, iv l2, iv l3, iv l4, iv u0, iv u1, iv u2, iv u3, iv y1, iv y2, oU, oU, oU, oU, oU, oU, oU, oU, oU, oU, oU, oU, oU, oU, oU, oU, oU, oU] [])) _
                        refine XS.iload X16.here hx rfl (hb hby at_278) rfl ?_
                        show Steps p.tables e below (T16.setTop (mkF m 280 #[iv p0, oJ q1, oS, iv p2, rv b1, iv l0, iv l1, iv l2, iv l3, iv l4, iv u0, iv u1, iv u2, iv u3, iv y1, iv y2, oU, oU, oU, oU, oU, oU, oU, oU, oU, oU, oU, oU, oU, oU, oU, oU, oU, oU] [(.int l2)])) _
                        refine XS.ifNo X16.here hx rfl (hb hby at_280) rfl ((if0 _ _).trans (feq hc48).1) ?_
                        show Steps p.tables e below (T16.setTop (mkF m 283 #[iv p0, oJ q1, oS, iv p2, rv b1, iv l0, iv l1, iv l2, iv l3, iv l4, iv u0, iv u1, iv u2, iv u3, iv y1, iv y2, oU, oU, oU, oU, oU, oU, oU, oU, oU, oU, oU, oU, oU, oU, oU, oU, oU, oU] [])) _
                        refine XS.iconst X16.here hx rfl (hb hby at_283) ?_
                        show Steps p.tables e below (T16.setTop (mkF m 284 #[iv p0, oJ q1, oS, iv p2, rv b1, iv l0, iv l1, iv l2, iv l3, iv l4, iv u0, iv u1, iv u2, iv u3, iv y1, iv y2, oU, oU, oU, oU, oU, oU, oU, oU, oU, oU, oU, oU, oU, oU, oU, oU, oU, oU] [(.int (1 : Int32))])) _
                        refine XS.goto X16.here hx rfl (pc0 := 284) (pc' := 288) rfl (hb hby at_284) (by decide) (by decide) ?_
                        show Steps p.tables e below (T16.setTop (mkF m 288 #[iv p0, oJ q1, oS, iv p2, rv b1, iv l0, iv l1, iv l2, iv l3, iv l4, iv u0, iv u1, iv u2, iv u3, iv y1, iv y2, oU, oU, oU, oU, oU, oU, oU, oU, oU, oU, oU, oU, oU, oU, oU, oU, oU, oU] [(.int (1 : Int32))])) _
                        exact k
                      · refine XS.ifYes X16.here hx rfl (pc0 := 275) (pc' := 283) rfl (hb hby at_275) rfl ((if0 _ _).trans (feq hc50).2) (by decide) (by decide) ?_
                        show Steps p.tables e below (T16.setTop (mkF m 283 #[iv p0, oJ q1, oS, iv p2, rv b1, iv l0, iv l1, iv l2, iv l3, iv l4, iv u0, iv u1, iv u2, iv u3, iv y1, iv y2, oU, oU, oU, oU, oU, oU, oU, oU, oU, oU, oU, oU, oU, oU, oU, oU, oU, oU] [])) _
                        refine XS.iconst X16.here hx rfl (hb hby at_283) ?_
                        show Steps p.tables e below (T16.setTop (mkF m 284 #[iv p0, oJ q1, oS, iv p2, rv b1, iv l0, iv l1, iv l2, iv l3, iv l4, iv u0, iv u1, iv u2, iv u3, iv y1, iv y2, oU, oU, oU, oU, oU, oU, oU, oU, oU, oU, oU, oU, oU, oU, oU, oU, oU, oU] [(.int (1 : Int32))])) _
                        refine XS.goto X16.here hx rfl (pc0 := 284) (pc' := 288) rfl (hb hby at_284) (by decide) (by decide) ?_
                        show Steps p.tables e below (T16.setTop (mkF m 288 #[iv p0, oJ q1, oS, iv p2, rv b1, iv l0, iv l1, iv l2, iv l3, iv l4, iv u0, iv u1, iv u2, iv u3, iv y1, iv y2, oU, oU, oU, oU, oU, oU, oU, oU, oU, oU, oU, oU, oU, oU, oU, oU, oU, oU] [(.int (1 : Int32))])) _
                        exact k
                    show Steps p.tables e below (T16.setTop (mkF m 288 #[iv p0, oJ q1, oS, iv p2, rv b1, iv l0, iv l1, iv l2, iv l3, iv l4, iv u0, iv u1, iv u2, iv u3, iv y1, iv y2, oU, oU, oU, oU, oU, oU, oU, oU, oU, oU, oU, oU, oU, oU, oU, oU, oU, oU] [(.int (1 : Int32))])) _
                    exact k
                show Steps p.tables e below (T16.setTop (mkF m 288 #[iv p0, oJ q1, oS, iv p2, rv b1, iv l0, iv l1, iv l2, iv l3, iv l4, iv u0, iv u1, iv u2, iv u3, iv y1, iv y2, oU, oU, oU, oU, oU, oU, oU, oU, oU, oU, oU, oU, oU, oU, oU, oU, oU, oU] [(.int (1 : Int32))])) _
                exact k
            show Steps p.tables e below (T16.setTop (mkF m 288 #[iv p0, oJ q1, oS, iv p2, rv b1, iv l0, iv l1, iv l2, iv l3, iv l4, iv u0, iv u1, iv u2, iv u3, iv y1, iv y2, oU, oU, oU, oU, oU, oU, oU, oU, oU, oU, oU, oU, oU, oU, oU, oU, oU, oU] [(.int (if l2 = (0 : Int32) then (0 : Int32) else (1 : Int32)))])) _
            exact k
        show Steps p.tables e below (T16.setTop (mkF m 288 #[iv p0, oJ q1, oS, iv p2, rv b1, iv l0, iv l1, iv l2, iv l3, iv l4, iv u0, iv u1, iv u2, iv u3, iv y1, iv y2, oU, oU, oU, oU, oU, oU, oU, oU, oU, oU, oU, oU, oU, oU, oU, oU, oU, oU] [(.int (if u1 = (0 : Int32) then (if u0 = (0 : Int32) then (1 : Int32) else (if l1 = (0 : Int32) then (if l2 = (0 : Int32) then (0 : Int32) else (1 : Int32)) else (1 : Int32))) else (if l2 = (0 : Int32) then (0 : Int32) else (1 : Int32))))])) _
        exact k
      · simp only [if_neg hc43] at k
        refine XS.ifYes X16.here hx rfl (pc0 := 255) (pc' := 287) rfl (hb hby at_255) rfl ((if0 _ _).trans (feq hc43).2) (by decide) (by decide) ?_
        show Steps p.tables e below (T16.setTop (mkF m 287 #[iv p0, oJ q1, oS, iv p2, rv b1, iv l0, iv l1, iv l2, iv l3, iv l4, iv u0, iv u1, iv u2, iv u3, iv y1, iv y2, oU, oU, oU, oU, oU, oU, oU, oU, oU, oU, oU, oU, oU, oU, oU, oU, oU, oU] [])) _
        refine XS.iconst X16.here hx rfl (hb hby at_287) ?_
        show Steps p.tables e below (T16.setTop (mkF m 288 #[iv p0, oJ q1, oS, iv p2, rv b1, iv l0, iv l1, iv l2, iv l3, iv l4, iv u0, iv u1, iv u2, iv u3, iv y1, iv y2, oU, oU, oU, oU, oU, oU, oU, oU, oU, oU, oU, oU, oU, oU, oU, oU, oU, oU] [(.int (0 : Int32))])) _
        exact k
    show Steps p.tables e below (T16.setTop (mkF m 288 #[iv p0, oJ q1, oS, iv p2, rv b1, iv l0, iv l1, iv l2, iv l3, iv l4, iv u0, iv u1, iv u2, iv u3, iv y1, iv y2, oU, oU, oU, oU, oU, oU, oU, oU, oU, oU, oU, oU, oU, oU, oU, oU, oU, oU] [(.int (if u2 = (0 : Int32) then (if u1 = (0 : Int32) then (if u0 = (0 : Int32) then (1 : Int32) else (if l1 = (0 : Int32) then (if l2 = (0 : Int32) then (0 : Int32) else (1 : Int32)) else (1 : Int32))) else (if l2 = (0 : Int32) then (0 : Int32) else (1 : Int32))) else (0 : Int32)))])) _
    refine XS.istore X16.here hx rfl (hb hby at_288) rfl (l' := #[iv p0, oJ q1, oS, iv p2, rv b1, iv l0, iv l1, iv l2, iv l3, iv l4, iv u0, iv u1, iv u2, iv u3, iv y1, iv y2, iv (if u2 = (0 : Int32) then (if u1 = (0 : Int32) then (if u0 = (0 : Int32) then (1 : Int32) else (if l1 = (0 : Int32) then (if l2 = (0 : Int32) then (0 : Int32) else (1 : Int32)) else (1 : Int32))) else (if l2 = (0 : Int32) then (0 : Int32) else (1 : Int32))) else (0 : Int32)), oU, oU, oU, oU, oU, oU, oU, oU, oU, oU, oU, oU, oU, oU, oU, oU, oU]) rfl ?_
    show Steps p.tables e below (T16.setTop (mkF m 290 #[iv p0, oJ q1, oS, iv p2, rv b1, iv l0, iv l1, iv l2, iv l3, iv l4, iv u0, iv u1, iv u2, iv u3, iv y1, iv y2, iv (if u2 = (0 : Int32) then (if u1 = (0 : Int32) then (if u0 = (0 : Int32) then (1 : Int32) else (if l1 = (0 : Int32) then (if l2 = (0 : Int32) then (0 : Int32) else (1 : Int32)) else (1 : Int32))) else (if l2 = (0 : Int32) then (0 : Int32) else (1 : Int32))) else (0 : Int32)), oU, oU, oU, oU, oU, oU, oU, oU, oU, oU, oU, oU, oU, oU, oU, oU, oU] [])) _
    exact k
  generalize hy3 : (if u2 = (0 : Int32) then (if u1 = (0 : Int32) then (if u0 = (0 : Int32) then (1 : Int32) else (if l1 = (0 : Int32) then (if l2 = (0 : Int32) then (0 : Int32) else (1 : Int32)) else (1 : Int32))) else (if l2 = (0 : Int32) then (0 : Int32) else (1 : Int32))) else (0 : Int32)) = y3
  show own_Go p e below _ (T16.setTop (mkF m 290 #[iv p0, oJ q1, oS, iv p2, rv b1, iv l0, iv l1, iv l2, iv l3, iv l4, iv u0, iv u1, iv u2, iv u3, iv y1, iv y2, iv y3, oU, oU, oU, oU, oU, oU, oU, oU, oU, oU, oU, oU, oU, oU, oU, oU, oU] []))
  refine own_by (B := T16.setTop (mkF m 347 #[iv p0, oJ q1, oS, iv p2, rv b1, iv l0, iv l1, iv l2, iv l3, iv l4, iv u0, iv u1, iv u2, iv u3, iv y1, iv y2, iv y3, iv (if u3 = (0 : Int32) then (if u2 = (0 : Int32) then (if u1 = (0 : Int32) then (if u0 = (0 : Int32) then (1 : Int32) else (if l1 = (0 : Int32) then (if l2 = (0 : Int32) then (if l3 = (0 : Int32) then (0 : Int32) else (1 : Int32)) else (1 : Int32)) else (1 : Int32))) else (if l2 = (0 : Int32) then (if l3 = (0 : Int32) then (0 : Int32) else (1 : Int32)) else (1 : Int32))) else (if l3 = (0 : Int32) then (0 : Int32) else (1 : Int32))) else (0 : Int32)), oU, oU, oU, oU, oU, oU, oU, oU, oU, oU, oU, oU, oU, oU, oU, oU] [])) (fun t k => ?_) ?_
  · show Steps p.tables e below (T16.setTop (mkF m 290 #[iv p0, oJ q1, oS, iv p2, rv b1, iv l0, iv l1, iv l2, iv l3, iv l4, iv u0, iv u1, iv u2, iv u3, iv y1, iv y2, iv y3, oU, oU, oU, oU, oU, oU, oU, oU, oU, oU, oU, oU, oU, oU, oU, oU, oU] [])) _
    refine XS.iload X16.here hx rfl (hb hby at_290) rfl ?_
    show Steps p.tables e below (T16.setTop (mkF m 292 #[iv p0, oJ q1, oS, iv p2, rv b1, iv l0, iv l1, iv l2, iv l3, iv l4, iv u0, iv u1, iv u2, iv u3, iv y1, iv y2, iv y3, oU, oU, oU, oU, oU, oU, oU, oU, oU, oU, oU, oU, oU, oU, oU, oU, oU] [(.int u3)])) _
    refine (fun t (k : Steps p.tables e below (T16.setTop (mkF m 345 #[iv p0, oJ q1, oS, iv p2, rv b1, iv l0, iv l1, iv l2, iv l3, iv l4, iv u0, iv u1, iv u2, iv u3, iv y1, iv y2, iv y3, oU, oU, oU, oU, oU, oU, oU, oU, oU, oU, oU, oU, oU, oU, oU, oU, oU] [(.int (if u3 = (0 : Int32) then (if u2 = (0 : Int32) then (if u1 = (0 : Int32) then (if u0 = (0 : Int32) then (1 : Int32) else (if l1 = (0 : Int32) then (if l2 = (0 : Int32) then (if l3 = (0 : Int32) then (0 : Int32) else (1 : Int32)) else (1 : Int32)) else (1 : Int32))) else (if l2 = (0 : Int32) then (if l3 = (0 : Int32) then (0 : Int32) else (1 : Int32)) else (1 : Int32))) else (if l3 = (0 : Int32) then (0 : Int32) else (1 : Int32))) else (0 : Int32)))])) t) => (?_ : Steps p.tables e below _ t)) _ ?_
    · by_cases hc51 : u3 = (0 : Int32)
      · simp only [if_pos hc51] at k
        refine XS.ifNo X16.here hx rfl (hb hby at_292) rfl ((if0 _ _).trans (teq hc51).2) ?_
        show Steps p.tables e below (T16.setTop (mkF m 295 #[iv p0, oJ q1, oS, iv p2, rv b1, iv l0, iv l1, iv l2, iv l3, iv l4, iv u0, iv u1, iv u2, iv u3, iv y1, iv y2, iv y3, oU, oU, oU, oU, oU, oU, oU, oU, oU, oU, oU, oU, oU, oU, oU, oU, oU] [])) _
        refine XS.iload X16.here hx rfl (hb hby at_295) rfl ?_
        show Steps p.tables e below (T16.setTop (mkF m 297 #[iv p0, oJ q1, oS, iv p2, rv b1, iv l0, iv l1, iv l2, iv l3, iv l4, iv u0, iv u1, iv u2, iv u3, iv y1, iv y2, iv y3, oU, oU, oU, oU, oU, oU, oU, oU, oU, oU, oU, oU, oU, oU, oU, oU, oU] [(.int u2)])) _
        refine (fun t (k : Steps p.tables e below (T16.setTop (mkF m 345 #[iv p0, oJ q1, oS, iv p2, rv b1, iv l0, iv l1, iv l2, iv l3, iv l4, iv u0, iv u1, iv u2, iv u3, iv y1, iv y2, iv y3, oU, oU, oU, oU, oU, oU, oU, oU, oU, oU, oU, oU, oU, oU, oU, oU, oU] [(.int (if u2 = (0 : Int32) then (if u1 = (0 : Int32) then (if u0 = (0 : Int32) then (1 : Int32) else (if l1 = (0 : Int32) then (if l2 = (0 : Int32) then (if l3 = (0 : Int32) then (0 : Int32) else (1 : Int32)) else (1 : Int32)) else (1 : Int32))) else (if l2 = (0 : Int32) then (if l3 = (0 : Int32) then (0 : Int32) else (1 : Int32)) else (1 : Int32))) else (if l3 = (0 : Int32) then (0 : Int32) else (1 : Int32))))])) t) => (?_ : Steps p.tables e below _ t)) _ ?_
        · by_cases hc52 : u2 = (0 : Int32)
          · simp only [if_pos hc52] at k
            refine XS.ifYes X16.here hx rfl (pc0 := 297) (pc' := 305) rfl (hb hby at_297) rfl ((if0 _ _).trans (teq hc52).1) (by decide) (by decide) ?_
            show Steps p.tables e below (T16.setTop (mkF m 305 #[iv p0, oJ q1, oS, iv p2, rv b1, iv l0, iv l1, iv l2, iv l3, iv l4, iv u0, iv u1, iv u2, iv u3, iv y1, iv y2, iv y3, oU, oU, oU, oU, oU, oU, oU, oU, oU, oU, oU, oU, oU, oU, oU, oU, oU] [])) _
            refine XS.iload X16.here hx rfl (hb hby at_305) rfl ?_
            show Steps p.tables e below (T16.setTop (mkF m 307 #[iv p0, oJ q1, oS, iv p2, rv b1, iv l0, iv l1, iv l2, iv l3, iv l4, iv u0, iv u1, iv u2, iv u3, iv y1, iv y2, iv y3, oU, oU, oU, oU, oU, oU, oU, oU, oU, oU, oU, oU, oU, oU, oU, oU, oU] [(.int u1)])) _
            refine (fun t (k : Steps p.tables e below (T16.setTop (mkF m 345 #[iv p0, oJ q1, oS, iv p2, rv b1, iv l0, iv l1, iv l2, iv l3, iv l4, iv u0, iv u1, iv u2, iv u3, iv y1, iv y2, iv y3, oU, oU, oU, oU, oU, oU, oU, oU, oU, oU, oU, oU, oU, oU, oU, oU, oU] [(.int (if u1 = (0 : Int32) then (if u0 = (0 : Int32) then (1 : Int32) else (if l1 = (0 : Int32) then (if l2 = (0 : Int32) then (if l3 = (0 : Int32) then (0 : Int32) else (1 : Int32)) else (1 : Int32)) else (1 : Int32))) else (if l2 = (0 : Int32) then (if l3 = (0 : Int32) then (0 : Int32) else (1 : Int32)) else (1 : Int32))))])) t) => (?_ : Steps p.tables e below _ t)) _ ?_
            · by_cases hc53 : u1 = (0 : Int32)
              · simp only [if_pos hc53] at k
                refine XS.ifYes X16.here hx rfl (pc0 := 307) (pc' := 320) rfl (hb hby at_307) rfl ((if0 _ _).trans (teq hc53).1) (by decide) (by decide) ?_
                show Steps p.tables e below (T16.setTop (mkF m 320 #[iv p0, oJ q1, oS, iv p2, rv b1, iv l0, iv l1, iv l2, iv l3, iv l4, iv u0, iv u1, iv u2, iv u3, iv y1, iv y2, iv y3, oU, oU, oU, oU, oU, oU, oU, oU, oU, oU, oU, oU, oU, oU, oU, oU, oU] [])) _
                refine XS.iload X16.here hx rfl (hb hby at_320) rfl ?_
                show Steps p.tables e below (T16.setTop (mkF m 322 #[iv p0, oJ q1, oS, iv p2, rv b1, iv l0, iv l1, iv l2, iv l3, iv l4, iv u0, iv u1, iv u2, iv u3, iv y1, iv y2, iv y3, oU, oU, oU, oU, oU, oU, oU, oU, oU, oU, oU, oU, oU, oU, oU, oU, oU] [(.int u0)])) _
                refine (fun t (k : Steps p.tables e below (T16.setTop (mkF m 345 #[iv p0, oJ q1, oS, iv p2, rv b1, iv l0, iv l1, iv l2, iv l3, iv l4, iv u0, iv u1, iv u2, iv u3, iv y1, iv y2, iv y3, oU, oU, oU, oU, oU, oU, oU, oU, oU, oU, oU, oU, oU, oU, oU, oU, oU] [(.int (if u0 = (0 : Int32) then (1 : Int32) else (if l1 = (0 : Int32) then (if l2 = (0 : Int32) then (if l3 = (0 : Int32) then (0 : Int32) else (1 : Int32)) else (1 : Int32)) else (1 : Int32))))])) t) => (?_ : Steps p.tables e below _ t)) _ ?_
                · by_cases hc54 : u0 = (0 : Int32)
                  · simp only [if_pos hc54] at k
                    refine XS.ifYes X16.here hx rfl (pc0 := 322) (pc' := 340) rfl (hb hby at_322) rfl ((if0 _ _).trans (teq hc54).1) (by decide) (by decide) ?_
                    show Steps p.tables e below (T16.setTop (mkF m 340 #[iv p0, oJ q1, oS, iv p2, rv b1, iv l0, iv l1, iv l2, iv l3, iv l4, iv u0, iv u1, iv u2, iv u3, iv y1, iv y2, iv y3, oU, oU, oU, oU, oU, oU, oU, oU, oU, oU, oU, oU, oU, oU, oU, oU, oU] [])) _
                    refine XS.iconst X16.here hx rfl (hb hby at_340) ?_
                    show Steps p.tables e below (T16.setTop (mkF m 341 #[iv p0, oJ q1, oS, iv p2, rv b1, iv l0, iv l1, iv l2, iv l3, iv l4, iv u0, iv u1, iv u2, iv u3, iv y1, iv y2, iv y3, oU, oU, oU, oU, oU, oU, oU, oU, oU, oU, oU, oU, oU, oU, oU, oU, oU] [(.int (1 : Int32))])) _
                    refine XS.goto X16.here hx rfl (pc0 := 341) (pc' := 345) rfl (hb hby at_341) (by decide) (by decide) ?_
                    show Steps p.tables e below (T16.setTop (mkF m 345 #[iv p0, oJ q1, oS, iv p2, rv b1, iv l0, iv l1, iv l2, iv l3, iv l4, iv u0, iv u1, iv u2, iv u3, iv y1, iv y2, iv y3, oU, oU, oU, oU, oU, oU, oU, oU, oU, oU, oU, oU, oU, oU, oU, oU, oU] [(.int (1 : Int32))])) _
                    exact k
                  · simp only [if_neg hc54] at k
                    refine XS.ifNo X16.here hx rfl (hb hby at_322) rfl ((if0 _ _).trans (feq hc54).1) ?_
                    show Steps p.tables e below (T16.setTop (mkF m 325 #[iv p0, oJ q1, oS, iv p2, rv b1, iv l0, iv l1, iv l2, iv l3, iv l4, iv u0, iv u1, iv u2, iv u3, iv y1, iv y2, iv y3, oU, oU, oU, oU, oU, oU, oU, oU, oU, oU, oU, oU, oU, oU, oU, oU, oU] [])) _
                    refine XS.iload X16.here hx rfl (hb hby at_325) rfl ?_
                    show Steps p.tables e below (T16.setTop (mkF m 327 #[iv p0, oJ q1, oS, iv p2, rv b1, iv l0, iv l1, iv l2, iv l3, iv l4, iv u0, iv u1, iv u2, iv u3, iv y1, iv y2, iv y3, oU, oU, oU, oU, oU, oU, oU, oU, oU, oU, oU, oU, oU, oU, oU, oU, oU] [(.int l1)])) _
                    refine (fun t (k : Steps p.tables e below (T16.setTop (mkF m 345 #[iv p0, oJ q1, oS, iv p2, rv b1, iv l0, iv l1, iv l2, iv l3, iv l4, iv u0, iv u1, iv u2, iv u3, iv y1, iv y2, iv y3, oU, oU, oU, oU, oU, oU, oU, oU, oU, oU, oU, oU, oU, oU, oU, oU, oU] [(.int (if l1 = (0 : Int32) then (if l2 = (0 : Int32) then (if l3 = (0 : Int32) then (0 : Int32) else (1 : Int32)) else (1 : Int32)) else (1 : Int32)))])) t) => (?_ : Steps p.tables e below _ t)) _ ?_
                    · by_cases hc55 : l1 = (0 : Int32)
                      · simp only [if_pos hc55] at k
                        refine XS.ifNo X16.here hx rfl (hb hby at_327) rfl ((if0 _ _).trans (teq hc55).2) ?_
                        show Steps p.tables e below (T16.setTop (mkF m 330 #[iv p0, oJ q1, oS, iv p2, rv b1, iv l0, iv l1, iv l2, iv l3, iv l4, iv u0, iv u1, iv u2, iv u3, iv y1, iv y2, iv y3, oU, oU, oU, oU, oU, oU, oU, oU, oU, oU, oU, oU, oU, oU, oU, oU, oU] [])) _
                        refine XS.iload X16.here hx rfl (hb hby at_330) rfl ?_
                        show Steps p.tables e below (T16.setTop (mkF m 332 #[iv p0, oJ q1, oS, iv p2, rv b1, iv l0, iv l1, iv l2, iv l3, iv l4, iv u0, iv u1, iv u2, iv u3, iv y1, iv y2, iv y3, oU, oU, oU, oU, oU, oU, oU, oU, oU, oU, oU, oU, oU, oU, oU, oU, oU] [(.int l2)])) _
                        refine (fun t (k : Steps p.tables e below (T16.setTop (mkF m 345 #[iv p0, oJ q1, oS, iv p2, rv b1, iv l0, iv l1, iv l2, iv l3, iv l4, iv u0, iv u1, iv u2, iv u3, iv y1, iv y2, iv y3, oU, oU, oU, oU, oU, oU, oU, oU, oU, oU, oU, oU, oU, oU, oU, oU, oU] [(.int (if l2 = (0 : Int32) then (if l3 = (0 : Int32) then (0 : Int32) else (1 : Int32)) else (1 : Int32)))])) t) => (?_ : Steps p.tables e below _ t)) _ ?_
                        · by_cases hc56 : l2 = (0 : Int32)
                          · simp only [if_pos hc56] at k
                            refine XS.ifNo X16.here hx rfl (hb hby at_332) rfl ((if0 _ _).trans (teq hc56).2) ?_
                            show Steps p.tables e below (T16.setTop (mkF m 335 #[iv p0, oJ q1, oS, iv p2, rv b1, iv l0, iv l1, iv l2, iv l3, iv l4, iv u0, iv u1, iv u2, iv u3, iv y1, iv y2, iv y3, oU, oU, oU, oU, oU, oU, oU, oU, oU, oU, oU, oU, oU, oU, oU, oU, oU] [])) _
                            refine XS.iload X16.here hx rfl (hb hby at_335) rfl ?_
                            show Steps p.tables e below (T16.setTop (mkF m 337 #[iv p0, oJ q1, oS, iv p2, rv b1, iv l0, iv l1, iv l2, iv l3, iv l4, iv u0, iv u1, iv u2, iv u3, iv y1, iv y2, iv y3, oU, oU, oU, oU, oU, oU, oU, oU, oU, oU, oU, oU, oU, oU, oU, oU, oU] [(.int l3)])) _
                            refine (fun t (k : Steps p.tables e below (T16.setTop (mkF m 345 #[iv p0, oJ q1, oS, iv p2, rv b1, iv l0, iv l1, iv l2, iv l3, iv l4, iv u0, iv u1, iv u2, iv u3, iv y1, iv y2, iv y3, oU, oU, oU, oU, oU, oU, oU, oU, oU, oU, oU, oU, oU, oU, oU, oU, oU] [(.int (if l3 = (0 : Int32) then (0 : Int32) else (1 : Int32)))])) t) => (?_ : Steps p.tables e below _ t)) _ ?_
                            · by_cases hc57 : l3 = (0 : Int32)
                              · simp only [if_pos hc57] at k
                                refine XS.ifYes X16.here hx rfl (pc0 := 337) (pc' := 344) rfl (hb hby at_337) rfl ((if0 _ _).trans (teq hc57).1) (by decide) (by decide) ?_
                                show Steps p.tables e below (T16.setTop (mkF m 344 #[iv p0, oJ q1, oS, iv p2, rv b1, iv l0, iv l1, iv l2, iv l3, iv l4, iv u0, iv u1, iv u2, iv u3, iv y1, iv y2, iv y3, oU, oU, oU, oU, oU, oU, oU, oU, oU, oU, oU, oU, oU, oU, oU, oU, oU] [])) _
                                refine XS.iconst X16.here hx rfl (hb hby at_344) ?_
                                show Steps p.tables e below (T16.setTop (mkF m 345 #[iv p0, oJ q1, oS, iv p2, rv b1, iv l0, iv l1, iv l2, iv l3, iv l4, iv u0, iv u1, iv u2, iv u3, iv y1, iv y2, iv y3, oU, oU, oU, oU, oU, oU, oU, oU, oU, oU, oU, oU, oU, oU, oU, oU, oU] [(.int (0 : Int32))])) _
                                exact k
                              · simp only [if_neg hc57] at k
                                refine XS.ifNo X16.here hx rfl (hb hby at_337) rfl ((if0 _ _).trans (feq hc57).1) ?_
                                show Steps p.tables e below (T16.setTop (mkF m 340 #[iv p0, oJ q1, oS, iv p2, rv b1, iv l0, iv l1, iv l2, iv l3, iv l4, iv u0, iv u1, iv u2, iv u3, iv y1, iv y2, iv y3, oU, oU, oU, oU, oU, oU, oU, oU, oU, oU, oU, oU, oU, oU, oU, oU, oU] [])) _
                                refine XS.iconst X16.here hx rfl (hb hby at_340) ?_
                                show Steps p.tables e below (T16.setTop (mkF m 341 #[iv p0, oJ q1, oS, iv p2, rv b1, iv l0, iv l1, iv l2, iv l3, iv l4, iv u0, iv u1, iv u2, iv u3, iv y1, iv y2, iv y3, oU, oU, oU, oU, oU, oU, oU, oU, oU, oU, oU, oU, oU, oU, oU, oU, oU] [(.int (1 : Int32))])) _
                                refine XS.goto X16.here hx rfl (pc0 := 341) (pc' := 345) rfl (hb hby at_341) (by decide) (by decide) ?_
                                show Steps p.tables e below (T16.setTop (mkF m 345 #[iv p0, oJ q1, oS, iv p2, rv b1, iv l0, iv l1, iv l2, iv l3, iv l4, iv u0, iv u1, iv u2, iv u3, iv y1, iv y2, iv y3, oU, oU, oU, oU, oU, oU, oU, oU, oU, oU, oU, oU, oU, oU, oU, oU, oU] [(.int (1 : Int32))])) _
                                exact k
                            show Steps p.tables e below (T16.setTop (mkF m 345 #[iv p0, oJ q1, oS, iv p2, rv b1, iv l0, iv l1, iv l2, iv l3, iv l4, iv u0, iv u1, iv u2, iv u3, iv y1, iv y2, iv y3, oU, oU, oU, oU, oU, oU, oU, oU, oU, oU, oU, oU, oU, oU, oU, oU, oU] [(.int (if l3 = (0 : Int32) then (0 : Int32) else (1 : Int32)))])) _
                            exact k
                          · simp only [if_neg hc56] at k
                            refine XS.ifYes X16.here hx rfl (pc0 := 332) (pc' := 340) rfl (hb hby at_332) rfl ((if0 _ _).trans (feq hc56).2) (by decide) (by decide) ?_
                            show Steps p.tables e below (T16.setTop (mkF m 340 #[iv p0, oJ q1, oS, iv p2, rv b1, iv l0, iv l1, iv l2, iv l3, iv l4, iv u0, iv u1, iv u2, iv u3, iv y1, iv y2, iv y3, oU, oU, oU, oU, oU, oU, oU, oU, oU, oU, oU, oU, oU, oU, oU, oU, oU] [])) _
                            refine XS.iconst X16.here hx rfl (hb hby at_340) ?_
                            show Steps p.tables e below (T16.setTop (mkF m 341 #[iv p0, oJ q1, oS, iv p2, rv b1, iv l0, iv l1, iv l2, iv l3, iv l4, iv u0, iv u1, iv u2, iv u3, iv y1, iv y2, iv y3, oU, oU, oU, oU, oU, oU, oU, oU, oU, oU, oU, oU, oU, oU, oU, oU, oU] [(.int (1 : Int32))])) _
                            refine XS.goto X16.here hx rfl (pc0 := 341) (pc' := 345) rfl (hb hby at_341) (by decide) (by decide) ?_
                            show Steps p.tables e below (T16.setTop (mkF m 345 #[iv p0, oJ q1, oS, iv p2, rv b1, iv l0, iv l1, iv l2, iv l3, iv l4, iv u0, iv u1, iv u2, iv u3, iv y1, iv y2, iv y3, oU, oU, oU, oU, oU, oU, oU, oU, oU, oU, oU, oU, oU, oU, oU, oU, oU] [(.int (1 : Int32))])) _
                            exact k
                        show Steps p.tables e below (T16.setTop (mkF m 345 #[iv p0, oJ q1, oS, iv p2, rv b1, iv l0, iv l1, iv l2, iv l3, iv l4, iv u0, iv u1, iv u2, iv u3, iv y1, iv y2, iv y3, oU, oU, oU, oU, oU, oU, oU, oU, oU, oU, oU, oU, oU, oU, oU, oU, oU] [(.int (if l2 = (0 : Int32) then (if l3 = (0 : Int32) then (0 : Int32) else (1 : Int32)) else (1 : Int32)))])) _
                        exact k
                      · simp only [if_neg hc55] at k
                        refine XS.ifYes X16.here hx rfl (pc0 := 327) (pc' := 340) rfl (hb hby at_327) rfl ((if0 _ _).trans (feq hc55).2) (by decide) (by decide) ?_
                        show Steps p.tables e below (T16.setTop (mkF m 340 #[iv p0, oJ q1, oS, iv p2, rv b1, iv l0, iv l1, iv l2, iv l3, iv l4, iv u0, iv u1, iv u2, iv u3, iv y1, iv y2, iv y3, oU, oU, oU, oU, oU, oU, oU, oU, oU, oU, oU, oU, oU, oU, oU, oU, oU] [])) _
                        refine XS.iconst X16.here hx rfl (hb hby at_340) ?_
                        show Steps p.tables e below (T16.setTop (mkF m 341 #[iv p0, oJ q1, oS, iv p2, rv b1, iv l0, iv l1, iv l2, iv l3, iv l4, iv u0, iv u1, iv u2, iv u3, iv y1, iv y2, iv y3, oU, oU, oU, oU, oU, oU, oU, oU, oU, oU, oU, oU, oU, oU, oU, oU, oU] [(.int (1 : Int32))])) _
                        refine XS.goto X16.here hx rfl (pc0 := 341) (pc' := 345) rfl (hb hby at_341) (by decide) (by decide) ?_
                        show Steps p.tables e below (T16.setTop (mkF m 345 #[iv p0, oJ q1, oS, iv p2, rv b1, iv l0, iv l1, iv l2, iv l3, iv l4, iv u0, iv u1, iv u2, iv u3, iv y1, iv y2, iv y3, oU, oU, oU, oU, oU, oU, oU, oU, oU, oU, oU, oU, oU, oU, oU, oU, oU] [(.int (1 : Int32))])) _
                        exact k
                    show Steps p.tables e below (T16.setTop (mkF m 345 #[iv p0, oJ q1, oS, iv p2, rv b1, iv l0, iv l1, iv l2, iv l3, iv l4, iv u0, iv u1, iv u2, iv u3, iv y1, iv y2, iv y3, oU, oU, oU, oU, oU, oU, oU, oU, oU, oU, oU, oU, oU, oU, oU, oU, oU] [(.int (if l1 = (0 : Int32) then (if l2 = (0 : Int32) then (if l3 = (0 : Int32) then (0 : Int32) else (1 : Int32)) else (1 : Int32)) else (1 : Int32)))])) _
                    exact k
                show Steps p.tables e below (T16.setTop (mkF m 345 #[iv p0, oJ q1, oS, iv p2, rv b1, iv l0, iv l1, iv l2, iv l3, iv l4, iv u0, iv u1, iv u2, iv u3, iv y1, iv y2, iv y3, oU, oU, oU, oU, oU, oU, oU, oU, oU, oU, oU, oU, oU, oU, oU, oU, oU] [(.int (if u0 = (0 : Int32) then (1 : Int32) else (if l1 = (0 : Int32) then (if l2 = (0 : Int32) then (if l3 = (0 : Int32) then (0 : Int32) else (1 : Int32)) else (1 : Int32)) else (1 : Int32))))])) _
                exact k
              · simp only [if_neg hc53] at k
                refine XS.ifNo X16.here hx rfl (hb hby at_307) rfl ((if0 _ _).trans (feq hc53).1) ?_
                show Steps p.tables e below (T16.setTop (mkF m 310 #[iv p0, oJ q1, oS, iv p2, rv b1, iv l0, iv l1, iv l2, iv l3, iv l4, iv u0, iv u1, iv u2, iv u3, iv y1, iv y2, iv y3, oU, oU, oU, oU, oU, oU, oU, oU, oU, oU, oU, oU, oU, oU, oU, oU, oU] [])) _
                refine XS.iload X16.here hx rfl (hb hby at_310) rfl ?_
                show Steps p.tables e below (T16.setTop (mkF m 312 #[iv p0, oJ q1, oS, iv p2, rv b1, iv l0, iv l1, iv l2, iv l3, iv l4, iv u0, iv u1, iv u2, iv u3, iv y1, iv y2, iv y3, oU, oU, oU, oU, oU, oU, oU, oU, oU, oU, oU, oU, oU, oU, oU, oU, oU] [(.int l2)])) _
                refine (fun t (k : Steps p.tables e below (T16.setTop (mkF m 345 #[iv p0, oJ q1, oS, iv p2, rv b1, iv l0, iv l1, iv l2, iv l3, iv l4, iv u0, iv u1, iv u2, iv u3, iv y1, iv y2, iv y3, oU, oU, oU, oU, oU, oU, oU, oU, oU, oU, oU, oU, oU, oU, oU, oU, oU] [(.int (if l2 = (0 : Int32) then (if l3 = (0 : Int32) then (0 : Int32) else (1 : Int32)) else (1 : Int32)))])) t) => (?_ : Steps p.tables e below _ t)) _ ?_
                · by_cases hc58 : l2 = (0 : Int32)
                  · simp only [if_pos hc58] at k
                    refine XS.ifNo X16.here hx rfl (hb hby at_312) rfl ((if0 _ _).trans (teq hc58).2) ?_
                    show Steps p.tables e below (T16.setTop (mkF m 315 #[iv p0, oJ q1, oS, iv p2, rv b1, iv l0, iv l1, iv l2, iv l3, iv l4, iv u0, iv u1, iv u2, iv u3, iv y1, iv y2, iv y3, oU, oU, oU, oU, oU, oU, oU, oU, oU, oU, oU, oU, oU, oU, oU, oU, oU] [])) _
                    refine XS.iload X16.here hx rfl (hb hby at_315) rfl ?_
                    show Steps p.tables e below (T16.setTop (mkF m 317 #[iv p0, oJ q1, oS, iv p2, rv b1, iv l0, iv l1, iv l2, iv l3, iv l4, iv u0, iv u1, iv u2, iv u3, iv y1, iv y2, iv y3, oU, oU, oU, oU, oU, oU, oU, oU, oU, oU, oU, oU, oU, oU, oU, oU, oU] [(.int l3)])) _
                    refine (fun t (k : Steps p.tables e below (T16.setTop (mkF m 345 #[iv p0, oJ q1, oS, iv p2, rv b1, iv l0, iv l1, iv l2, iv l3, iv l4, iv u0, iv u1, iv u2, iv u3, iv y1, iv y2, iv y3, oU, oU, oU, oU, oU, oU, oU, oU, oU, oU, oU, oU, oU, oU, oU, oU, oU] [(.int (if l3 = (0 : Int32) then (0 : Int32) else (1 : Int32)))])) t) => (?_ : Steps p.tables e below _ t)) _ ?_
                    · by_cases hc59 : l3 = (0 : Int32)
                      · simp only [if_pos hc59] at k
                        refine XS.ifYes X16.here hx rfl (pc0 := 317) (pc' := 344) rfl (hb hby at_317) rfl ((if0 _ _).trans (teq hc59).1) (by decide) (by decide) ?_
                        show Steps p.tables e below (T16.setTop (mkF m 344 #[iv p0, oJ q1, oS, iv p2, rv b1, iv l0, iv l1, iv l2, iv l3, iv l4, iv u0, iv u1, iv u2, iv u3, iv y1, iv y2, iv y3, oU, oU, oU, oU, oU, oU, oU, oU, oU, oU, oU, oU, oU, oU, oU, oU, oU] [])) _
                        refine XS.iconst X16.here hx rfl (hb hby at_344) ?_
                        show Steps p.tables e below (T16.setTop (mkF m 345 #[iv p0, oJ q1, oS, iv p2, rv b1, iv l0, iv l1, iv l2, iv l3, iv l4, iv u0, iv u1, iv u2, iv u3, iv y1, iv y2, iv y3, oU, oU, oU, oU, oU, oU, oU, oU, oU, oU, oU, oU, oU, oU, oU, oU, oU] [(.int (0 : Int32))])) _
                        exact k
                      · simp only [if_neg hc59] at k
                        refine XS.ifNo X16.here hx rfl (hb hby at_317) rfl ((if0 _ _).trans (feq hc59).1) ?_
                        show Steps p.tables e below (T16.setTop (mkF m 320 #[iv p0, oJ q1, oS, iv p2, rv b1, iv l0, iv l1, iv l2, iv l3, iv l4, iv u0, iv u1, iv u2, iv u3, iv y1, iv y2, iv y3, oU, oU, oU, oU, oU, oU, oU, oU, oU, oU, oU, oU, oU, oU, oU, oU, oU] [])) _
                        refine XS.iload X16.here hx rfl (hb hby at_320) rfl ?_
                        show Steps p.tables e below (T16.setTop (mkF m 322 #[iv p0, oJ q1, oS, iv p2, rv b1, iv l0, iv l1, iv l2, iv l3, iv l4, iv u0, iv u1, iv u2, iv u3, iv y1, iv y2, iv y3, oU, oU, oU, oU, oU, oU, oU, oU, oU, oU, oU, oU, oU, oU, oU, oU, oU] [(.int u0)])) _
                        refine (fun t (k : Steps p.tables e below (T16.setTop (mkF m 345 #[iv p0, oJ q1, oS, iv p2, rv b1, iv l0, iv l1, iv l2, iv l3, iv l4, iv u0, iv u1, iv u2, iv u3, iv y1, iv y2, iv y3, oU, oU, oU, oU, oU, oU, oU, oU, oU, oU, oU, oU, oU, oU, oU, oU, oU] [(.int (1 : Int32))])) t) => (?_ : Steps p.tables e below _ t)) _ ?_
                        · by_cases hc60 : u0 = (0 : Int32)
                          · refine XS.ifYes X16.here hx rfl (pc0 := 322) (pc' := 340) rfl (hb hby at_322) rfl ((if0 _ _).trans (teq hc60).1) (by decide) (by decide) ?_
                            show Steps p.tables e below (T16.setTop (mkF m 340 #[iv p0, oJ q1, oS, iv p2, rv b1, iv l0, iv l1, iv l2, iv l3, iv l4, iv u0, iv u1, iv u2, iv u3, iv y1, iv y2, iv y3, oU, oU, oU, oU, oU, oU, oU, oU, oU, oU, oU, oU, oU, oU, oU, oU, oU] [])) _
                            refine XS.iconst X16.here hx rfl (hb hby at_340) ?_
                            show Steps p.tables e below (T16.setTop (mkF m 341 #[iv p0, oJ q1, oS, iv p2, rv b1, iv l0, iv l1, iv l2, iv l3, iv l4, iv u0, iv u1, iv u2, iv u3, iv y1, iv y2, iv y3, oU, oU, oU, oU, oU, oU, oU, oU, oU, oU, oU, oU, oU, oU, oU, oU, oU] [(.int (1 : Int32))])) _
                            refine XS.goto X16.here hx rfl (pc0 := 341) (pc' := 345) rfl (hb hby at_341) (by decide) (by decide) ?_
                            show Steps p.tables e below (T16.setTop (mkF m 345 #[iv p0, oJ q1, oS, iv p2, rv b1, iv l0, iv l1, iv l2, iv l3, iv l4, iv u0, iv u1, iv u2, iv u3, iv y1, iv y2, iv y3, oU, oU, oU, oU, oU, oU, oU, oU, oU, oU, oU, oU, oU, oU, oU, oU, oU] [(.int (1 : Int32))])) _
                            exact k
                          · refine XS.ifNo X16.here hx rfl (hb hby at_322) rfl ((if0 _ _).trans (feq hc60).1) ?_
                            show Steps p.tables e below (T16.setTop (mkF m 325 #[iv p0, oJ q1, oS, iv p2, rv b1, iv l0, iv l1, iv l2, iv l3, iv l4, iv u0, iv u1, iv u2, iv u3, iv y1, iv y2, iv y3, oU, oU, oU, oU, oU, oU, oU, oU, oU, oU, oU, oU, oU, oU, oU, oU, oU] [])) _
                            refine XS.iload X16.here hx rfl (hb hby at_325) rfl ?_
                            show Steps p.tables e below (T16.setTop (mkF m 327 #[iv p0, oJ q1, oS, iv p2, rv b1, iv l0, iv l1, iv l2, iv l3, iv l4, iv u0, iv u1, iv u2, iv u3, iv y1, iv y2, iv y3, oU, oU, oU, oU, oU, oU, oU, oU, oU, oU, oU, oU, oU, oU, oU, oU, oU] [(.int l1)])) _
                            refine (fun t (k : Steps p.tables e below (T16.setTop (mkF m 345 #[iv p0, oJ q1, oS, iv p2, rv b1, iv l0, iv l1, iv l2, iv l3, iv l4, iv u0, iv u1, iv u2, iv u3, iv y1, iv y2, iv y3, oU, oU, oU, oU, oU, oU, oU, oU, oU, oU, oU, oU, oU, oU, oU, oU, oU] [(.int (1 : Int32))])) t) => (?_ : Steps p.tables e below _ t)) _ ?_
                            · by_cases hc61 : l1 = (0 : Int32)
                              · refine XS.ifNo X16.here hx rfl (hb hby at_327) rfl ((if0 _ _).trans (teq hc61).2) ?_
                                show Steps p.tables e below (T16.setTop (mkF m 330 #[iv p0, oJ q1, oS, iv p2, rv b1, iv l0, iv l1, iv l2, iv l3, iv l4, iv u0, iv u1, iv u2, iv u3, iv y1, iv y2, iv y3, oU, oU, oU, oU, oU, oU, oU, oU, oU, oU, oU, oU, oU, oU, oU, oU, oU] [])) _
                                refine XS.iload X16.here hx rfl (hb hby at_330) rfl ?_
                                show Steps p.tables e below (T16.setTop (mkF m 332 #[iv p0, oJ q1, oS, iv p2, rv b1, iv l0, iv l1, iv l2, iv l3, iv l4, iv u0, iv u1, iv u2, iv u3, iv y1, iv y2, iv y3, oU, oU, oU, oU, oU, oU, oU, oU, oU, oU, oU, oU, oU, oU, oU, oU, oU] [(.int l2)])) _
                                refine XS.ifNo X16.here hx rfl (hb hby at_332) rfl ((if0 _ _).trans (teq hc58).2) ?_
                                show Steps p.tables e below (T16.setTop (mkF m 335 #[iv p0, oJ q1, oS, iv p2, rv b1, iv l0, iv l1, iv l2, iv l3, iv l4, iv u0, iv u1, iv u2, iv u3, iv y1, iv y2, iv y3, oU, oU, oU, oU, oU, oU, oU, oU, oU, oU, oU, oU, oU, oU, oU, oU, oU] [])) _
                                refine XS.iload X16.here hx rfl (hb hby at_335) rfl ?_
                                show Steps p.tables e below (T16.setTop (mkF m 337 #[iv p0, oJ q1, oS, iv p2, rv b1, iv l0, iv l1, iv l2, iv l3, iv l4, iv u0, iv u1, iv u2, iv u3, iv y1, iv y2, iv y3, oU, oU, oU, oU, oU, oU, oU, oU, oU, oU, oU, oU, oU, oU, oU, oU, oU] [(.int l3)])) _
                                refine XS.ifNo X16.here hx rfl (hb hby at_337) rfl ((if0 _ _).trans (feq hc59).1) ?_
                                show Steps p.tables e below (T16.setTop (mkF m 340 #[iv p0, oJ q1, oS, iv p2, rv b1, iv l0, iv l1, iv l2, iv l3, iv l4, iv u0, iv u1, iv u2, iv u3, iv y1, iv y2, iv y3, oU, oU, oU, oU, oU, oU, oU, oU, oU, oU, oU, oU, oU, oU, oU, oU, oU] [])) _
                                refine XS.iconst X16.here hx rfl (hb hby at_340) ?_
                                show Steps p.tables e below (T16.setTop (mkF m 341 #[iv p0, oJ q1, oS, iv p2, rv b1, iv l0, iv l1, iv l2, iv l3, iv l4, iv u0, iv u1, iv u2, iv u3, iv y1, iv y2, iv y3, oU, oU, oU, oU, oU, oU, oU, oU, oU, oU, oU, oU, oU, oU, oU, oU, oU] [(.int (1 : Int32))])) _
                                refine XS.goto X16.here hx rfl (pc0 := 341) (pc' := 345) rfl (hb hby at_341) (by decide) (by decide) ?_
                                show Steps p.tables e below (T16.setTop (mkF m 345 #[iv p0, oJ q1, oS, iv p2, rv b1, iv l0, iv l1, iv l2, iv l3, iv l4, iv u0, iv u1, iv u2, iv u3, iv y1, iv y2, iv y3, oU, oU, oU, oU, oU, oU, oU, oU, oU, oU, oU, oU, oU, oU, oU, oU, oU] [(.int (1 : Int32))])) _
                                exact k
                              · refine XS.ifYes X16.here hx rfl (pc0 := 327) (pc' := 340) rfl (hb hby at_327) rfl ((if0 _ _).trans (feq hc61).2) (by decide) (by decide) ?_
                                show Steps p.tables e below (T16.setTop (mkF m 340 #[iv p0, oJ q1, oS, iv p2, rv b1, iv l0, iv l1, iv l2, iv l3, iv l4, iv u0, iv u1, iv u2, iv u3, iv y1, iv y2, iv y3, oU, oU, oU, oU, oU, oU, oU, oU, oU, oU, oU, oU, oU, oU, oU, oU, oU] [])) _
                                refine XS.iconst X16.here hx rfl (hb hby at_340) ?_
                                show Steps p.tables e below (T16.setTop (mkF m 341 #[iv p0, oJ q1, oS, iv p2, rv b1, iv l0, iv l1, iv l2, iv l3, iv l4, iv u0, iv u1, iv u2, iv u3, iv y1, iv y2, iv y3, oU, oU, oU, oU, oU, oU, oU, oU, oU, oU, oU, oU, oU, oU, oU, oU, oU] [(.int (1 : Int32))])) _
                                refine XS.goto X16.here hx rfl (pc0 := 341) (pc' := 345) rfl (hb hby at_341) (by decide) (by decide) ?_
                                show Steps p.tables e below (T16.setTop (mkF m 345 #[iv p0, oJ q1, oS, iv p2, rv b1, iv l0, iv l1, iv l2, iv l3, iv l4, iv u0, iv u1, iv u2, iv u3, iv y1, iv y2, iv y3, oU, oU, oU, oU, oU, oU, oU, oU, oU, oU, oU, oU, oU, oU, oU, oU, oU] [(.int (1 : Int32))])) _
                                exact k
                            show Steps p.tables e below (T16.setTop (mkF m 345 #[iv p0, oJ q1, oS, iv p2, rv b1, iv l0, iv l1, iv l2, iv l3, iv l4, iv u0, iv u1, iv u2, iv u3, iv y1, iv y2, iv y3, oU, oU, oU, oU, oU, oU, oU, oU, oU, oU, oU, oU, oU, oU, oU, oU, oU] [(.int (1 : Int32))])) _
                            exact k
                        show Steps p.tables e below (T16.setTop (mkF m 345 #[iv p0, oJ q1, oS, iv p2, rv b1, iv l0, iv l1, iv l2, iv l3, iv l4, iv u0, iv u1, iv u2, iv u3, iv y1, iv y2, iv y3, oU, oU, oU, oU, oU, oU, oU, oU, oU, oU, oU, oU, oU, oU, oU, oU, oU] [(.int (1 : Int32))])) _
                        exact k
                    show Steps p.tables e below (T16.setTop (mkF m 345 #[iv p0, oJ q1, oS, iv p2, rv b1, iv l0, iv l1, iv l2, iv l3, iv l4, iv u0, iv u1, iv u2, iv u3, iv y1, iv y2, iv y3, oU, oU, oU, oU, oU, oU, oU, oU, oU, oU, oU, oU, oU, oU, oU, oU, oU] [(.int (if l3 = (0 : Int32) then (0 : Int32) else (1 : Int32)))])) _
                    exact k
                  · simp only [if_neg hc58] at k
                    refine XS.ifYes X16.here hx rfl (pc0 := 312) (pc' := 320) rfl (hb hby at_312) rfl ((if0 _ _).trans (feq hc58).2) (by decide) (by decide) ?_
                    show Steps p.tables e below (T16.setTop (mkF m 320 #[iv p0, oJ q1, oS, iv p2, rv b1, iv l0, iv l1, iv l2, iv l3, iv l4, iv u0, iv u1, iv u2, iv u3, iv y1, iv y2, iv y3, oU, oU, oU, oU, oU, oU, oU, oU, oU, oU, oU, oU, oU, oU, oU, oU, oU] [])) _
                    refine XS.iload X16.here hx rfl (hb hby at_320) rfl ?_
                    show Steps p.tables e below (T16.setTop (mkF m 322 #[iv p0, oJ q1, oS, iv p2, rv b1, iv l0, iv l1, iv l2, iv l3, iv l4, iv u0, iv u1, iv u2, iv u3, iv y1, iv y2, iv y3, oU, oU, oU, oU, oU, oU, oU, oU, oU, oU, oU, oU, oU, oU, oU, oU, oU] [(.int u0)])) _
                    refine (fun t (k : Steps p.tables e below (T16.setTop (mkF m 345 #[iv p0, oJ q1, oS, iv p2, rv b1, iv l0, iv l1, iv l2, iv l3, iv l4, iv u0, iv u1, iv u2, iv u3, iv y1, iv y2, iv y3, oU, oU, oU, oU, oU, oU, oU, oU, oU, oU, oU, oU, oU, oU, oU, oU, oU] [(.int (1 : Int32))])) t) => (?_ : Steps p.tables e below _ t)) _ ?_
                    · by_cases hc62 : u0 = (0 : Int32)
                      · refine XS.ifYes X16.here hx rfl (pc0 := 322) (pc' := 340) rfl (hb hby at_322) rfl ((if0 _ _).trans (teq hc62).1) (by decide) (by decide) ?_
                        show Steps p.tables e below (T16.setTop (mkF m 340 #[iv p0, oJ q1, oS, iv p2, rv b1, iv l0, iv l1, iv l2, iv l3, iv l4, iv u0, iv u1, iv u2, iv u3, iv y1, iv y2, iv y3, oU, oU, oU, oU, oU, oU, oU, oU, oU, oU, oU, oU, oU, oU, oU, oU, oU] [])) _
                        refine XS.iconst X16.here hx rfl (hb hby at_340) ?_
                        show Steps p.tables e below (T16.setTop (mkF m 341 #[iv p0, oJ q1, oS, iv p2, rv b1, iv l0, iv l1, iv l2, iv l3, iv l4, iv u0, iv u1, iv u2, iv u3, iv y1, iv y2, iv y3, oU, oU, oU, oU, oU, oU, oU, oU, oU, oU, oU, oU, oU, oU, oU, oU, oU] [(.int (1 : Int32))])) _
                        refine XS.goto X16.here hx rfl (pc0 := 341) (pc' := 345) rfl (hb hby at_341) (by decide) (by decide) ?_
                        show Steps p.tables e below (T16.setTop (mkF m 345 #[iv p0, oJ q1, oS, iv p2, rv b1, iv l0, iv l1, iv l2, iv l3, iv l4, iv u0, iv u1, iv u2, iv u3, iv y1, iv y2, iv y3, oU, oU, oU, oU, oU, oU, oU, oU, oU, oU, oU, oU, oU, oU, oU, oU, oU] [(.int (1 : Int32))])) _
                        exact k
                      · refine XS.ifNo X16.here hx rfl (hb hby at_322) rfl ((if0 _ _).trans (feq hc62).1) ?_
                        show Steps p.tables e below (T16.setTop (mkF m 325 #[iv p0, oJ q1, oS, iv p2, rv b1, iv l0, iv l1, iv l2, iv l3, iv l4, iv u0, iv u1, iv u2, iv u3, iv y1, iv y2, iv y3, oU, oU, oU, oU, oU, oU, oU, oU, oU, oU, oU, oU, oU, oU, oU, oU, oU] [])) _
                        refine XS.iload X16.here hx rfl (hb hby at_325) rfl ?_
                        show Steps p.tables e below (T16.setTop (mkF m 327 #[iv p0, oJ q1, oS, iv p2, rv b1, iv l0, iv l1, iv l2, iv l3, iv l4, iv u0, iv u1, iv u2, iv u3, iv y1, iv y2, iv y3, oU, oU, oU, oU, oU, oU, oU, oU, oU, oU, oU, oU, oU, oU, oU, oU, oU] [(.int l1)])) _
                        refine (fun t (k : Steps p.tables e below (T16.setTop (mkF m 345 #[iv p0, oJ q1, oS, iv p2, rv b1, iv l0, iv l1, iv l2, iv l3, iv l4, iv u0, iv u1, iv u2, iv u3, iv y1, iv y2, iv y3, oU, oU, oU, oU, oU, oU, oU, oU, oU, oU, oU, oU, oU, oU, oU, oU, oU] [(.int (1 : Int32))])) t) => (?_ : Steps p.tables e below _ t)) _ ?_
                        · by_cases hc63 : l1 = (0 : Int32)
                          · refine XS.ifNo X16.here hx rfl (hb hby at_327) rfl ((if0 _ _).trans (teq hc63).2) ?_
                            show Steps p.tables e below (T16.setTop (mkF m 330 #[iv p0, oJ q1, oS, iv p2, rv b1, iv l0, iv l1, iv l2, iv l3, iv l4, iv u0, iv u1, iv u2, iv u3, iv y1, iv y2, iv y3, oU, oU, oU, oU, oU, oU, oU, oU, oU, oU, oU, oU, oU, oU, oU, oU, oU] [])) _
                            refine XS.iload X16.here hx rfl (hb hby at_330) rfl ?_
                            show Steps p.tables e below (T16.setTop (mkF m 332 #[iv p0, oJ q1, oS, iv p2, rv b1, iv l0, iv l1, iv l2, iv l3, iv l4, iv u0, iv u1, iv u2, iv u3, iv y1, iv y2, iv y3, oU, oU, oU, oU, oU, oU, oU, oU, oU, oU, oU, oU, oU, oU, oU, oU, oU] [(.int l2)])) _
                            refine XS.ifYes X16.here hx rfl (pc0 := 332) (pc' := 340) rfl (hb hby at_332) rfl ((if0 _ _).trans (feq hc58).2) (by decide) (by decide) ?_
                            show Steps p.tables e below (T16.setTop (mkF m 340 #[iv p0, oJ q1, oS, iv p2, rv b1, iv l0, iv l1, iv l2, iv l3, iv l4, iv u0, iv u1, iv u2, iv u3, iv y1, iv y2, iv y3, oU, oU, oU, oU, oU, oU, oU, oU, oU, oU, oU, oU, oU, oU, oU, oU, oU] [])) _
                            refine XS.iconst X16.here hx rfl (hb hby at_340) ?_
                            show Steps p.tables e below (T16.setTop (mkF m 341 #[iv p0, oJ q1, oS, iv p2, rv b1, iv l0, iv l1, iv l2, iv l3, iv l4, iv u0, iv u1, iv u2, iv u3, iv y1, iv y2, iv y3, oU, oU, oU, oU, oU, oU, oU, oU, oU, oU, oU, oU, oU, oU, oU, oU, oU] [(.int (1 : Int32))])) _
                            refine XS.goto X16.here hx rfl (pc0 := 341) (pc' := 345) rfl (hb hby at_341) (by decide) (by decide) ?_
                            show Steps p.tables e below (T16.setTop (mkF m 345 #[iv p0, oJ q1, oS, iv p2, rv b1, iv l0, iv l1, iv l2, iv l3, iv l4, iv u0, iv u1, iv u2, iv u3, iv y1, iv y2, iv y3, oU, oU, oU, oU, oU, oU, oU, oU, oU, oU, oU, oU, oU, oU, oU, oU, oU] [(.int (1 : Int32))])) _
                            exact k
                          · refine XS.ifYes X16.here hx rfl (pc0 := 327) (pc' := 340) rfl (hb hby at_327) rfl ((if0 _ _).trans (feq hc63).2) (by decide) (by decide) ?_
                            show Steps p.tables e below (T16.setTop (mkF m 340 #[iv p0, oJ q1, oS, iv p2, rv b1, iv l0, iv l1, iv l2, iv l3, iv l4, iv u0, iv u1, iv u2, iv u3, iv y1, iv y2, iv y3, oU, oU, oU, oU, oU, oU, oU, oU, oU, oU, oU, oU, oU, oU, oU, oU, oU] [])) _
                            refine XS.iconst X16.here hx rfl (hb hby at_340) ?_
                            show Steps p.tables e below (T16.setTop (mkF m 341 #[iv p0, oJ q1, oS, iv p2, rv b1, iv l0, iv l1, iv l2, iv l3, iv l4, iv u0, iv u1, iv u2, iv u3, iv y1, iv y2, iv y3, oU, oU, oU, oU, oU, oU, oU, oU, oU, oU, oU, oU, oU, oU, oU, oU, oU] [(.int (1 : Int32))])) _
                            refine XS.goto X16.here hx rfl (pc0 := 341) (pc' := 345) rfl (hb hby at_341) (by decide) (by decide) ?_
                            show Steps p.tables e below (T16.setTop (mkF m 345 #[iv p0, oJ q1, oS, iv p2, rv b1, iv l0, iv l1, iv l2, iv l3, iv l4, iv u0, iv u1, iv u2, iv u3, iv y1, iv y2, iv y3, oU, oU, oU, oU, oU, oU, oU, oU, oU, oU, oU, oU, oU, oU, oU, oU, oU] [(.int (1 : Int32))])) _
                            exact k
                        show Steps p.tables e below (T16.setTop (mkF m 345 #[iv p0, oJ q1, oS, iv p2, rv b1, iv l0, iv l1, iv l2, iv l3, iv l4, iv u0, iv u1, iv u2, iv u3, iv y1, iv y2, iv y3, oU, oU, oU, oU, oU, oU, oU, oU, oU, oU, oU, oU, oU, oU, oU, oU, oU] [(.int (1 : Int32))])) _
                        exact k
                    show Steps p.tables e below (T16.setTop (mkF m 345 #[iv p0, oJ q1, oS, iv p2, rv b1, iv l0, iv l1, iv l2, iv l3, iv l4, iv u0, iv u1, iv u2, iv u3, iv y1, iv y2, iv y3, oU, oU, oU, oU, oU, oU, oU, oU, oU, oU, oU, oU, oU, oU, oU, oU, oU] [(.int (1 : Int32))])) _
                    exact k
                show Steps p.tables e below (T16.setTop (mkF m 345 #[iv p0, oJ q1, oS, iv p2, rv b1, iv l0, iv l1, iv l2, iv l3, iv l4, iv u0, iv u1, iv u2, iv u3, iv y1, iv y2, iv y3, oU, oU, oU, oU, oU, oU, oU, oU, oU, oU, oU, oU, oU, oU, oU, oU, oU] [(.int (if l2 = (0 : Int32) then (if l3 = (0 : Int32) then (0 : Int32) else (1 : Int32)) else (1 : Int32)))])) _
                exact k
            show Steps p.tables e below (T16.setTop (mkF m 345 #[iv p0, oJ q1, oS, iv p2, rv b1, iv l0, iv l1, iv l2, iv l3, iv l4, iv u0, iv u1, iv u2, iv u3, iv y1, iv y2, iv y3, oU, oU, oU, oU, oU, oU, oU, oU, oU, oU, oU, oU, oU, oU, oU, oU, oU] [(.int (if u1 = (0 : Int32) then (if u0 = (0 : Int32) then (1 : Int32) else (if l1 = (0 : Int32) then (if l2 = (0 : Int32) then (if l3 = (0 : Int32) then (0 : Int32) else (1 : Int32)) else (1 : Int32)) else (1 : Int32))) else (if l2 = (0 : Int32) then (if l3 = (0 : Int32) then (0 : Int32) else (1 : Int32)) else (1 : Int32))))])) _
            exact k
          · simp only [if_neg hc52] at k
            refine XS.ifNo X16.here hx rfl (hb hby at_297) rfl ((if0 _ _).trans (feq hc52).1) ?_
            show Steps p.tables e below (T16.setTop (mkF m 300 #[iv p0, oJ q1, oS, iv p2, rv b1, iv l0, iv l1, iv l2, iv l3, iv l4, iv u0, iv u1, iv u2, iv u3, iv y1, iv y2, iv y3, oU, oU, oU, oU, oU, oU, oU, oU, oU, oU, oU, oU, oU, oU, oU, oU, oU] [])) _
            refine XS.iload X16.here hx rfl (hb hby at_300) rfl ?_
            show Steps p.tables e below (T16.setTop (mkF m 302 #[iv p0, oJ q1, oS, iv p2, rv b1, iv l0, iv l1, iv l2, iv l3, iv l4, iv u0, iv u1, iv u2, iv u3, iv y1, iv y2, iv y3, oU, oU, oU, oU, oU, oU, oU, oU, oU, oU, oU, oU, oU, oU, oU, oU, oU] [(.int l3)])) _
            refine (fun t (k : Steps p.tables e below (T16.setTop (mkF m 345 #[iv p0, oJ q1, oS, iv p2, rv b1, iv l0, iv l1, iv l2, iv l3, iv l4, iv u0, iv u1, iv u2, iv u3, iv y1, iv y2, iv y3, oU, oU, oU, oU, oU, oU, oU, oU, oU, oU, oU, oU, oU, oU, oU, oU, oU] [(.int (if l3 = (0 : Int32) then (0 : Int32) else (1 : Int32)))])) t) => (?_ : Steps p.tables e below _ t)) _ ?_
            · by_cases hc64 : l3 = (0 : Int32)
              · simp only [if_pos hc64] at k
                refine XS.ifYes X16.here hx rfl (pc0 := 302) (pc' := 344) rfl (hb hby at_302) rfl ((if0 _ _).trans (teq hc64).1) (by decide) (by decide) ?_
                show Steps p.tables e below (T16.setTop (mkF m 344 #[iv p0, oJ q1, oS, iv p2, rv b1, iv l0, iv l1, iv l2, iv l3, iv l4, iv u0, iv u1, iv u2, iv u3, iv y1, iv y2, iv y3, oU, oU, oU, oU, oU, oU, oU, oU, oU, oU, oU, oU, oU, oU, oU, oU, oU] [])) _
                refine XS.iconst X16.here hx rfl (hb hby at_344) ?_
                show Steps p.tables e below (T16.setTop (mkF m 345 #[iv p0, oJ q1, oS, iv p2, rv b1, iv l0, iv l1, iv l2, iv l3, iv l4, iv u0, iv u1, iv u2, iv u3, iv y1, iv y2, iv y3, oU, oU, oU, oU, oU, oU, oU, oU, oU, oU, oU, oU, oU, oU, oU, oU, oU] [(.int (0 : Int32))])) _
                exact k
              · simp only [if_neg hc64] at k
                refine XS.ifNo X16.here hx rfl (hb hby at_302) rfl ((if0 _ _).trans (feq hc64).1) ?_
                show Steps p.tables e below (T16.setTop (mkF m 305 #[iv p0, oJ q1, oS, iv p2, rv b1, iv l0, iv l1, iv l2, iv l3, iv l4, iv u0, iv u1, iv u2, iv u3, iv y1, iv y2, iv y3, oU, oU, oU, oU, oU, oU, oU, oU, oU, oU, oU, oU, oU, oU, oU, oU, oU] [])) _
                refine XS.iload X16.here hx rfl (hb hby at_305) rfl ?_
                show Steps p.tables e below (T16.setTop (mkF m 307 #[iv p0, oJ q1, oS, iv p2, rv b1, iv l0, iv l1, iv l2, iv l3, iv l4, iv u0, iv u1, iv u2, iv u3, iv y1, iv y2, iv y3, oU, oU, oU, oU, oU, oU, oU, oU, oU, oU, oU, oU, oU, oU, oU, oU, oU] [(.int u1)])) _
                refine (fun t (k : Steps p.tables e below (T16.setTop (mkF m 345 #[iv p0, oJ q1, oS, iv p2, rv b1, iv l0, iv l1, iv l2, iv l3, iv l4, iv u0, iv u1, iv u2, iv u3, iv y1, iv y2, iv y3, oU, oU, oU, oU, oU, oU, oU, oU, oU, oU, oU, oU, oU, oU, oU, oU, oU] [(.int (1 : Int32))])) t) => (?_ : Steps p.tables e below _ t)) _ ?_
                · by_cases hc65 : u1 = (0 : Int32)
                  · refine XS.ifYes X16.here hx rfl (pc0 := 307) (pc' := 320) rfl (hb hby at_307) rfl ((if0 _ _).trans (teq hc65).1) (by decide) (by decide) ?_
                    show Steps p.tables e below (T16.setTop (mkF m 320 #[iv p0, oJ q1, oS, iv p2, rv b1, iv l0, iv l1, iv l2, iv l3, iv l4, iv u0, iv u1, iv u2, iv u3, iv y1, iv y2, iv y3, oU, oU, oU, oU, oU, oU, oU, oU, oU, oU, oU, oU, oU, oU, oU, oU, oU] [])) _
                    refine XS.iload X16.here hx rfl (hb hby at_320) rfl ?_
                    show Steps p.tables e below (T16.setTop (mkF m 322 #[iv p0, oJ q1, oS, iv p2, rv b1, iv l0, iv l1, iv l2, iv l3, iv l4, iv u0, iv u1, iv u2, iv u3, iv y1, iv y2, iv y3, oU, oU, oU, oU, oU, oU, oU, oU, oU, oU, oU, oU, oU, oU, oU, oU, oU] [(.int u0)])) _
                    refine (fun t (k : Steps p.tables e below (T16.setTop (mkF m 345 #[iv p0, oJ q1, oS, iv p2, rv b1, iv l0, iv l1, iv l2, iv l3, iv l4, iv u0, iv u1, iv u2, iv u3, iv y1, iv y2, iv y3, oU, oU, oU, oU, oU, oU, oU, oU, oU, oU, oU, oU, oU, oU, oU, oU, oU] [(.int (1 : Int32))])) t) => (?_ : Steps p.tables e below _ t)) _ ?_
                    · by_cases hc66 : u0 = (0 : Int32)
                      · refine XS.ifYes X16.here hx rfl (pc0 := 322) (pc' := 340) rfl (hb hby at_322) rfl ((if0 _ _).trans (teq hc66).1) (by decide) (by decide) ?_
                        show Steps p.tables e below (T16.setTop (mkF m 340 #[iv p0, oJ q1, oS, iv p2, rv b1, iv l0, iv l1, iv l2, iv l3, iv l4, iv u0, iv u1, iv u2, iv u3, iv y1, iv y2, iv y3, oU, oU, oU, oU, oU, oU, oU, oU, oU, oU, oU, oU, oU, oU, oU, oU, oU] [])) _
                        refine XS.iconst X16.here hx rfl (hb hby at_340) ?_
                        show Steps p.tables e below (T16.setTop (mkF m 341 #[iv p0, oJ q1, oS, iv p2, rv b1, iv l0, iv l1, iv l2, iv l3, iv l4, iv u0, iv u1, iv u2, iv u3, iv y1, iv y2, iv y3, oU, oU, oU, oU, oU, oU, oU, oU, oU, oU, oU, oU, oU, oU, oU, oU, oU] [(.int (1 : Int32))])) _
                        refine XS.goto X16.here hx rfl (pc0 := 341) (pc' := 345) rfl (hb hby at_341) (by decide) (by decide) ?_
                        show Steps p.tables e below (T16.setTop (mkF m 345 #[iv p0, oJ q1, oS, iv p2, rv b1, iv l0, iv l1, iv l2, iv l3, iv l4, iv u0, iv u1, iv u2, iv u3, iv y1, iv y2, iv y3, oU, oU, oU, oU, oU, oU, oU, oU, oU, oU, oU, oU, oU, oU, oU, oU, oU] [(.int (1 : Int32))])) _
                        exact k
                      · refine XS.ifNo X16.here hx rfl (hb hby at_322) rfl ((if0 _ _).trans (feq hc66).1) ?_
                        show Steps p.tables e below (T16.setTop (mkF m 325 #[iv p0, oJ q1, oS, iv p2, rv b1, iv l0, iv l1, iv l2, iv l3, iv l4, iv u0, iv u1, iv u2, iv u3, iv y1, iv y2, iv y3, oU, oU, oU, oU, oU, oU, oU, oU, oU, oU, oU, oU, oU, oU, oU, oU, oU] [])) _
                        refine XS.iload X16.here hx rfl (hb hby at_325) rfl ?_
                        show Steps p.tables e below (T16.setTop (mkF m 327 #[iv p0, oJ q1, oS, iv p2, rv b1, iv l0, iv l1, iv l2, iv l3, iv l4, iv u0, iv u1, iv u2, iv u3, iv y1, iv y2, iv y3, oU, oU, oU, oU, oU, oU, oU, oU, oU, oU, oU, oU, oU, oU, oU, oU, oU] [(.int l1)])) _
                        refine (fun t (k : Steps p.tables e below (T16.setTop (mkF m 345 #[iv p0, oJ q1, oS, iv p2, rv b1, iv l0, iv l1, iv l2, iv l3, iv l4, iv u0, iv u1, iv u2, iv u3, iv y1, iv y2, iv y3, oU, oU, oU, oU, oU, oU, oU, oU, oU, oU, oU, oU, oU, oU, oU, oU, oU] [(.int (1 : Int32))])) t) => (?_ : Steps p.tables e below _ t)) _ ?_
                        · by_cases hc67 : l1 = (0 : Int32)
                          · refine XS.ifNo X16.here hx rfl (hb hby at_327) rfl ((if0 _ _).trans (teq hc67).2) ?_
                            show Steps p.tables e below (T16.setTop (mkF m 330 #[iv p0, oJ q1, oS, iv p2, rv b1, iv l0, iv l1, iv l2, iv l3, iv l4, iv u0, iv u1, iv u2, iv u3, iv y1, iv y2, iv y3, oU, oU, oU, oU, oU, oU, oU, oU, oU, oU, oU, oU, oU, oU, oU, oU, oU] [])) _
                            refine XS.iload X16.here hx rfl (hb hby at_330) rfl ?_
                            show Steps p.tables e below (T16.setTop (mkF m 332 #[iv p0, oJ q1, oS, iv p2, rv b1, iv l0, iv l1, iv l2, iv l3, iv l4, iv u0, iv u1, iv u2, iv u3, iv y1, iv y2, iv y3, oU, oU, oU, oU, oU, oU, oU, oU, oU, oU, oU, oU, oU, oU, oU, oU, oU] [(.int l2)])) _
                            refine (fun t (k : Steps p.tables e below (T16.setTop (mkF m 345 #[iv p0, oJ q1, oS, iv p2, rv b1, iv l0, iv l1, iv l2, iv l3, iv l4, iv u0, iv u1, iv u2, iv u3, iv y1, iv y2, iv y3, oU, oU, oU, oU, oU, oU, oU, oU, oU, oU, oU, oU, oU, oU, oU, oU, oU] [(.int (1 : Int32))])) t) => (?_ : Steps p.tables e below _ t)) _ ?_
                            · by_cases hc68 : l2 = (0 : Int32)
                              · refine XS.ifNo X16.here hx rfl (hb hby at_332) rfl ((if0 _ _).trans (teq hc68).2) ?_
                                show Steps p.tables e below (T16.setTop (mkF m 335 #[iv p0, oJ q1, oS, iv p2, rv b1, iv l0, iv l1, iv l2, iv l3, iv l4, iv u0, iv u1, iv u2, iv u3, iv y1, iv y2, iv y3, oU, oU, oU, oU, oU, oU, oU, oU, oU, oU, oU, oU, oU, oU, oU, oU, oU] [])) _
                                refine XS.iload X16.here hx rfl (hb hby at_335) rfl ?_
                                show Steps p.tables e below (T16.setTop (mkF m 337 #[iv p0, oJ q1, oS, iv p2, rv b1, iv l0, iv l1, iv l2, iv l3, iv l4, iv u0, iv u1, iv u2, iv u3, iv y1, iv y2, iv y3, oU, oU, oU, oU, oU, oU, oU, oU, oU, oU, oU, oU, oU, oU, oU, oU, oU] [(.int l3)])) _
                                refine XS.ifNo X16.here hx rfl (hb hby at_337) rfl ((if0 _ _).trans (feq hc64).1) ?_
                                show Steps p.tables e below (T16.setTop (mkF m 340 #[iv p0, oJ q1, oS, iv p2, rv b1, iv l0, iv l1, iv l2, iv l3, iv l4, iv u0, iv u1, iv u2, iv u3, iv y1, iv y2, iv y3, oU, oU, oU, oU, oU, oU, oU, oU, oU, oU, oU, oU, oU, oU, oU, oU, oU] [])) _
                                refine XS.iconst X16.here hx rfl (hb hby at_340) ?_
                                show Steps p.tables e below (T16.setTop (mkF m 341 #[iv p0, oJ q1, oS, iv p2, rv b1, iv l0, iv l1, iv l2, iv l3, iv l4, iv u0, iv u1, iv u2, iv u3, iv y1, iv y2, iv y3, oU, oU, oU, oU, oU, oU, oU, oU, oU, oU, oU, oU, oU, oU, oU, oU, oU] [(.int (1 : Int32))])) _
                                refine XS.goto X16.here hx rfl (pc0 := 341) (pc' := 345) rfl (hb hby at_341) (by decide) (by decide) ?_
                                show Steps p.tables e below (T16.setTop (mkF m 345 #[iv p0, oJ q1, oS, iv p2, rv b1, iv l0, iv l1, iv l2, iv l3, iv l4, iv u0, iv u1, iv u2, iv u3, iv y1, iv y2, iv y3, oU, oU, oU, oU, oU, oU, oU, oU, oU, oU, oU, oU, oU, oU, oU, oU, oU] [(.int (1 : Int32))])) _
                                exact k
                              · refine XS.ifYes X16.here hx rfl (pc0 := 332) (pc' := 340) rfl (hb hby at_332) rfl ((if0 _ _).trans (feq hc68).2) (by decide) (by decide) ?_
                                show Steps p.tables e below (T16.setTop (mkF m 340 #[iv p0, oJ q1, oS, iv p2, rv b1, iv l0, iv l1, iv l2, iv l3, iv l4, iv u0, iv u1, iv u2, iv u3, iv y1, iv y2, iv y3, oU, oU, oU, oU, oU, oU, oU, oU, oU, oU, oU, oU, oU, oU, oU, oU, oU] [])) _
                                refine XS.iconst X16.here hx rfl (hb hby at_340) ?_
                                show Steps p.tables e below (T16.setTop (mkF m 341 #[iv p0, oJ q1, oS, iv p2, rv b1, iv l0, iv l1, iv l2, iv l3, iv l4, iv u0, iv u1, iv u2, iv u3, iv y1, iv y2, iv y3, oU, oU, oU, oU, oU, oU, oU, oU, oU, oU, oU, oU, oU, oU, oU, oU, oU] [(.int (1 : Int32))])) _
                                refine XS.goto X16.here hx rfl (pc0 := 341) (pc' := 345) rfl (hb hby at_341) (by decide) (by decide) ?_
                                show Steps p.tables e below (T16.setTop (mkF m 345 #[iv p0, oJ q1, oS, iv p2, rv b1, iv l0, iv l1, iv l2, iv l3, iv l4, iv u0, iv u1, iv u2, iv u3, iv y1, iv y2, iv y3, oU, oU, oU, oU, oU, oU, oU, oU, oU, oU, oU, oU, oU, oU, oU, oU, oU] [(.int (1 : Int32))])) _
                                exact k
                            show Steps p.tables e below (T16.setTop (mkF m 345 #[iv p0, oJ q1, oS, iv p2, rv b1, iv l0, iv l1, iv l2, iv l3, iv l4, iv u0, iv u1, iv u2, iv u3, iv y1, iv y2, iv y3, oU, oU, oU, oU, oU, oU, oU, oU, oU, oU, oU, oU, oU, oU, oU, oU, oU] [(.int (1 : Int32))])) _
                            exact k
                          · refine XS.ifYes X16.here hx rfl (pc0 := 327) (pc' := 340) rfl (hb hby at_327) rfl ((if0 _ _).trans (feq hc67).2) (by decide) (by decide) ?_
                            show Steps p.tables e below (T16.setTop (mkF m 340 #[iv p0, oJ q1, oS, iv p2, rv b1, iv l0, iv l1, iv l2, iv l3, iv l4, iv u0, iv u1, iv u2, iv u3, iv y1, iv y2, iv y3, oU, oU, oU, oU, oU, oU, oU, oU, oU, oU, oU, oU, oU, oU, oU, oU, oU] [])) _
                            refine XS.iconst X16.here hx rfl (hb hby at_340) ?_
                            show Steps p.tables e below (T16.setTop (mkF m 341 #[iv p0, oJ q1, oS, iv p2, rv b1, iv l0, iv l1, iv l2, iv l3, iv l4, iv u0, iv u1, iv u2, iv u3, iv y1, iv y2, iv y3, oU, oU, oU, oU, oU, oU, oU, oU, oU, oU, oU, oU, oU, oU, oU, oU, oU] [(.int (1 : Int32))])) _
                            refine XS.goto X16.here hx rfl (pc0 := 341) (pc' := 345) rfl (hb hby at_341) (by decide) (by decide) ?_
                            show Steps p.tables e below (T16.setTop (mkF m 345 #[iv p0, oJ q1, oS, iv p2, rv b1, iv l0, iv l1, iv l2, iv l3, iv l4, iv u0, iv u1, iv u2, iv u3, iv y1, iv y2, iv y3, oU, oU, oU, oU, oU, oU, oU, oU, oU, oU, oU, oU, oU, oU, oU, oU, oU] [(.int (1 : Int32))])) _
                            exact k
                        show Steps p.tables e below (T16.setTop (mkF m 345 #[iv p0, oJ q1, oS, iv p2, rv b1, iv l0, iv l1, iv l2, iv l3, iv l4, iv u0, iv u1, iv u2, iv u3, iv y1, iv y2, iv y3, oU, oU, oU, oU, oU, oU, oU, oU, oU, oU, oU, oU, oU, oU, oU, oU, oU] [(.int (1 : Int32))])) _
                        exact k
                    show Steps p.tables e below (T16.setTop (mkF m 345 #[iv p0, oJ q1, oS, iv p2, rv b1, iv l0, iv l1, iv l2, iv l3, iv l4, iv u0, iv u1, iv u2, iv u3, iv y1, iv y2, iv y3, oU, oU, oU, oU, oU, oU, oU, oU, oU, oU, oU, oU, oU, oU, oU, oU, oU] [(.int (1 : Int32))])) _
                    exact k
                  · refine XS.ifNo X16.here hx rfl (hb hby at_307) rfl ((if0 _ _).trans (feq hc65).1) ?_
                    show Steps p.tables e below (T16.setTop (mkF m 310 #[iv p0, oJ q1, oS, iv p2, rv b1, iv l0, iv l1, iv l2, iv l3, iv l4, iv u0, iv u1, iv u2, iv u3, iv y1, iv y2, iv y3, oU, oU, oU, oU, oU, oU, oU, oU, oU, oU, oU, oU, oU, oU, oU, oU, oU] [])) _
                    refine XS.iload X16.here hx rfl (hb hby at_310) rfl ?_
                    show Steps p.tables e below (T16.setTop (mkF m 312 #[iv p0, oJ q1, oS, iv p2, rv b1, iv l0, iv l1, iv l2, iv l3, iv l4, iv u0, iv u1, iv u2, iv u3, iv y1, iv y2, iv y3, oU, oU, oU, oU, oU, oU, oU, oU, oU, oU, oU, oU, oU, oU, oU, oU, oU] [(.int l2)])) _
                    refine (fun t (k : Steps p.tables e below (T16.setTop (mkF m 345 #[iv p0, oJ q1, oS, iv p2, rv b1, iv l0, iv l1, iv l2, iv l3, iv l4, iv u0, iv u1, iv u2, iv u3, iv y1, iv y2, iv y3, oU, oU, oU, oU, oU, oU, oU, oU, oU, oU, oU, oU, oU, oU, oU, oU, oU] [(.int (1 : Int32))])) t) => (?_ : Steps p.tables e below _ t)) _ ?_
                    · by_cases hc69 : l2 = (0 : Int32)
                      · refine XS.ifNo X16.here hx rfl (hb hby at_312) rfl ((if0 _ _).trans (teq hc69).2) ?_
                        show Steps p.tables e below (T16.setTop (mkF m 315 #[iv p0, oJ q1, oS, iv p2, rv b1, iv l0, iv l1, iv l2, iv l3, iv l4, iv u0, iv u1, iv u2, iv u3, iv y1, iv y2, iv y3, oU, oU, oU, oU, oU, oU, oU, oU, oU, oU, oU, oU, oU, oU, oU, oU, oU] [])) _
                        refine XS.iload X16.here hx rfl (hb hby at_315) rfl ?_
                        show Steps p.tables e below (T16.setTop (mkF m 317 #[iv p0, oJ q1, oS, iv p2, rv b1, iv l0, iv l1, iv l2, iv l3, iv l4, iv u0, iv u1, iv u2, iv u3, iv y1, iv y2, iv y3, oU, oU, oU, oU, oU, oU, oU, oU, oU, oU, oU, oU, oU, oU, oU, oU, oU] [(.int l3)])) _
                        refine XS.ifNo X16.here hx rfl (hb hby at_317) rfl ((if0 _ _).trans (feq hc64).1) ?_
                        show Steps p.tables e below (T16.setTop (mkF m 320 #[iv p0, oJ q1, oS, iv p2, rv b1, iv l0, iv l1, iv l2, iv l3, iv l4, iv u0, iv u1, iv u2, iv u3, iv y1, iv y2, iv y3, oU, oU, oU, oU, oU, oU, oU, oU, oU, oU, oU, oU, oU, oU, oU, oU, oU] [])) _
                        refine XS.iload X16.here hx rfl (hb hby at_320) rfl ?_
                        show Steps p.tables e below (T16.setTop (mkF m 322 #[iv p0, oJ q1, oS, iv p2, rv b1, iv l0, iv l1, iv l2, iv l3, iv l4, iv u0, iv u1, iv u2, iv u3, iv y1, iv y2, iv y3, oU, oU, oU, oU, oU, oU, oU, oU, oU, oU, oU, oU, oU, oU, oU, oU, oU] [(.int u0)])) _
                        refine (fun t (k : Steps p.tables e below (T16.setTop (mkF m 345 #[iv p0, oJ q1, oS, iv p2, rv b1, iv l0, iv l1, iv l2, iv l3, iv l4, iv u0, iv u1, iv u2, iv u3, iv y1, iv y2, iv y3, oU, oU, oU, oU, oU, oU, oU, oU, oU, oU, oU, oU, oU, oU, oU, oU, oU] [(.int (1 : Int32))])) t) => (?_ : Steps p.tables e below _ t)) _ ?_
                        · by_cases hc70 : u0 = (0 : Int32)
                          · refine XS.ifYes X16.here hx rfl (pc0 := 322) (pc' := 340) rfl (hb hby at_322) rfl ((if0 _ _).trans (teq hc70).1) (by decide) (by decide) ?_
                            show Steps p.tables e below (T16.setTop (mkF m 340 #[iv p0, oJ q1, oS, iv p2, rv b1, iv l0, iv l1, iv l2, iv l3, iv l4, iv u0, iv u1, iv u2, iv u3, iv y1, iv y2, iv y3, oU, oU, oU, oU, oU, oU, oU, oU, oU, oU, oU, oU, oU, oU, oU, oU, oU] [])) _
                            refine XS.iconst X16.here hx rfl (hb hby at_340) ?_
                            show Steps p.tables e below (T16.setTop (mkF m 341 #[iv p0, oJ q1, oS, iv p2, rv b1, iv l0, iv l1, iv l2, iv l3, iv l4, iv u0, iv u1, iv u2, iv u3, iv y1, iv y2, iv y3, oU, oU, oU, oU, oU, oU, oU, oU, oU, oU, oU, oU, oU, oU, oU, oU, oU] [(.int (1 : Int32))])) _
                            refine XS.goto X16.here hx rfl (pc0 := 341) (pc' := 345) rfl (hb hby at_341) (by decide) (by decide) ?_
                            show Steps p.tables e below (T16.setTop (mkF m 345 #[iv p0, oJ q1, oS, iv p2, rv b1, iv l0, iv l1, iv l2, iv l3, iv l4, iv u0, iv u1, iv u2, iv u3, iv y1, iv y2, iv y3, oU, oU, oU, oU, oU, oU, oU, oU, oU, oU, oU, oU, oU, oU, oU, oU, oU] [(.int (1 : Int32))])) _
                            exact k
                          · refine XS.ifNo X16.here hx rfl (hb hby at_322) rfl ((if0 _ _).trans (feq hc70).1) ?_
                            show Steps p.tables e below (T16.setTop (mkF m 325 #[iv p0, oJ q1, oS, iv p2, rv b1, iv l0, iv l1, iv l2, iv l3, iv l4, iv u0, iv u1, iv u2, iv u3, iv y1, iv y2, iv y3, oU, oU, oU, oU, oU, oU, oU, oU, oU, oU, oU, oU, oU, oU, oU, oU, oU] [])) _
                            refine XS.iload X16.here hx rfl (hb hby at_325) rfl ?_
                            show Steps p.tables e below (T16.setTop (mkF m 327 #[iv p0, oJ q1, oS, iv p2, rv b1, iv l0, iv l1, iv l2, iv l3, iv l4, iv u0, iv u1, iv u2, iv u3, iv y1, iv y2, iv y3, oU, oU, oU, oU, oU, oU, oU, oU, oU, oU, oU, oU, oU, oU, oU, oU, oU] [(.int l1)])) _
                            refine (fun t (k : Steps p.tables e below (T16.setTop (mkF m 345 #[iv p0, oJ q1, oS, iv p2, rv b1, iv l0, iv l1, iv l2, iv l3, iv l4, iv u0, iv u1, iv u2, iv u3, iv y1, iv y2, iv y3, oU, oU, oU, oU, oU, oU, oU, oU, oU, oU, oU, oU, oU, oU, oU, oU, oU] [(.int (1 : Int32))])) t) => (?_ : Steps p.tables e below _ t)) _ ?_
                            · by_cases hc71 : l1 = (0 : Int32)
                              · refine XS.ifNo X16.here hx rfl (hb hby at_327) rfl ((if0 _ _).trans (teq hc71).2) ?_
                                show Steps p.tables e below (T16.setTop (mkF m 330 #[iv p0, oJ q1, oS, iv p2, rv b1, iv l0, iv l1, iv l2, iv l3, iv l4, iv u0, iv u1, iv u2, iv u3, iv y1, iv y2, iv y3, oU, oU, oU, oU, oU, oU, oU, oU, oU, oU, oU, oU, oU, oU, oU, oU, oU] [])) _
                                refine XS.iload X16.here hx rfl (hb hby at_330) rfl ?_
                                show Steps p.tables e below (T16.setTop (mkF m 332 #[iv p0, oJ q1, oS, iv p2, rv b1, iv l0, iv l1, iv l2, iv l3, iv l4, iv u0, iv u1, iv u2, iv u3, iv y1, iv y2, iv y3, oU, oU, oU, oU, oU, oU, oU, oU, oU, oU, oU, oU, oU, oU, oU, oU, oU] [(.int l2)])) _
                                refine XS.ifNo X16.here hx rfl (hb hby at_332) rfl ((if0 _ _).trans (teq hc69).2) ?_
                                show Steps p.tables e below (T16.setTop (mkF m 335 #[iv p0, oJ q1, oS, iv p2, rv b1, iv l0, iv l1, iv l2, iv l3, iv l4, iv u0, iv u1, iv u2, iv u3, iv y1, iv y2, iv y3, oU, oU, oU, oU, oU, oU, oU, oU, oU, oU, oU, oU, oU, oU, oU, oU, oU] [])) _
                                refine XS.iload X16.here hx rfl (hb hby at_335) rfl ?_
                                show Steps p.tables e below (T16.setTop (mkF m 337 #[iv p0, oJ q1, oS, iv p2, rv b1, iv l0, iv l1, iv l2, iv l3, iv l4, iv u0, iv u1, iv u2, iv u3, iv y1, iv y2, iv y3, oU, oU, oU, oU, oU, oU, oU, oU, oU, oU, oU, oU, oU, oU, oU, oU, oU] [(.int l3)])) _
                                refine XS.ifNo X16.here hx rfl (hb hby at_337) rfl ((if0 _ _).trans (feq hc64).1) ?_
                                show Steps p.tables e below (T16.setTop (mkF m 340 #[iv p0, oJ q1, oS, iv p2, rv b1, iv l0, iv l1, iv l2, iv l3, iv l4, iv u0, iv u1, iv u2, iv u3, iv y1, iv y2, iv y3, oU, oU, oU, oU, oU, oU, oU, oU, oU, oU, oU, oU, oU, oU, oU, oU, oU] [])) _
                                refine XS.iconst X16.here hx rfl (hb hby at_340) ?_
                                show Steps p.tables e below (T16.setTop (mkF m 341 #[iv p0, oJ q1, oS, iv p2, rv b1, iv l0, iv l1, iv l2, iv l3, iv l4, iv u0, iv u1, iv u2, iv u3, iv y1, iv y2, iv y3, oU, oU, oU, oU, oU, oU, oU, oU, oU, oU, oU, oU, oU, oU, oU, oU, oU] [(.int (1 : Int32))])) _
                                refine XS.goto X16.here hx rfl (pc0 := 341) (pc' := 345) rfl (hb hby at_341) (by decide) (by decide) ?_
                                show Steps p.tables e below (T16.setTop (mkF m 345 #[iv p0, oJ q1, oS, iv p2, rv b1, iv l0, iv l1, iv l2, iv l3, iv l4, iv u0, iv u1, iv u2, iv u3, iv y1, iv y2, iv y3, oU, oU, oU, oU, oU, oU, oU, oU, oU, oU, oU, oU, oU, oU, oU, oU, oU] [(.int (1 : Int32))])) _
                                exact k
                              · refine XS.ifYes X16.here hx rfl (pc0 := 327) (pc' := 340) rfl (hb hby at_327) rfl ((if0 _ _).trans (feq hc71).2) (by decide) (by decide) ?_
                                show Steps p.tables e below (T16.setTop (mkF m 340 #[iv p0, oJ q1, oS, iv p2, rv b1, iv l0, iv l1, iv l2, iv l3, iv l4, iv u0, iv u1, iv u2, iv u3, iv y1, iv y2, iv y3, oU, oU, oU, oU, oU, oU, oU, oU, oU, oU, oU, oU, oU, oU, oU, oU, oU] [])) _
                                refine XS.iconst X16.here hx rfl (hb hby at_340) ?_
                                show Steps p.tables e below (T16.setTop (mkF m 341 #[iv p0, oJ q1, oS, iv p2, rv b1, iv l0, iv l1, iv l2, iv l3, iv l4, iv u0, iv u1, iv u2, iv u3, iv y1, iv y2, iv y3, oU, oU, oU, oU, oU, oU, oU, oU, oU, oU, oU, oU, oU, oU, oU, oU, oU] [(.int (1 : Int32))])) _
                                refine XS.goto X16.here hx rfl (pc0 := 341) (pc' := 345) rfl (hb hby at_341) (by decide) (by decide) ?_
                                show Steps p.tables e below (T16.setTop (mkF m 345 #[iv p0, oJ q1, oS, iv p2, rv b1, iv l0, iv l1, iv l2, iv l3, iv l4, iv u0, iv u1, iv u2, iv u3, iv y1, iv y2, iv y3, oU, oU, oU, oU, oU, oU, oU, oU, oU, oU, oU, oU, oU, oU, oU, oU, oU] [(.int (1 : Int32))])) _
                                exact k
                            show Steps p.tables e below (T16.setTop (mkF m 345 #[iv p0, oJ q1, oS, iv p2, rv b1, iv l0, iv l1, iv l2, iv l3, iv l4, iv u0, iv u1, iv u2, iv u3, iv y1, iv y2, iv y3, oU, oU, oU, oU, oU, oU, oU, oU, oU, oU, oU, oU, oU, oU, oU, oU, oU] [(.int (1 : Int32))])) _
                            exact k
                        show Steps p.tables e below (T16.setTop (mkF m 345 #[iv p0, oJ q1, oS, iv p2, rv b1, iv l0, iv l1, iv l2, iv l3, iv l4, iv u0, iv u1, iv u2, iv u3, iv y1, iv y2, iv y3, oU, oU, oU, oU, oU, oU, oU, oU, oU, oU, oU, oU, oU, oU, oU, oU, oU] [(.int (1 : Int32))])) _
                        exact k
                      · refine XS.ifYes X16.here hx rfl (pc0 := 312) (pc' := 320) rfl (hb hby at_312) rfl ((if0 _ _).trans (feq hc69).2) (by decide) (by decide) ?_
                        show Steps p.tables e below (T16.setTop (mkF m 320 #[iv p0, oJ q1, oS, iv p2, rv b1, iv l0, iv l1, iv l2, iv l3, iv l4, iv u0, iv u1, iv u2, iv u3, iv y1, iv y2, iv y3, oU, oU, oU, oU, oU, oU, oU, oU, oU, oU, oU, oU, oU, oU, oU, oU, oU] [])) _
                        refine XS.iload X16.here hx rfl (hb hby at_320) rfl ?_
                        show Steps p.tables e below (T16.setTop (mkF m 322 #[iv p0, oJ q1, oS, iv p2, rv b1, iv l0, iv l1, iv l2, iv l3, iv l4, iv u0, iv u1, iv u2, iv u3, iv y1, iv y2, iv y3, oU, oU, oU, oU, oU, oU, oU, oU, oU, oU, oU, oU, oU, oU, oU, oU, oU] [(.int u0)])) _
                        refine (fun t (k : Steps p.tables e below (T16.setTop (mkF m 345 #[iv p0, oJ q1, oS, iv p2, rv b1, iv l0, iv l1, iv l2, iv l3, iv l4, iv u0, iv u1, iv u2, iv u3, iv y1, iv y2, iv y3, oU, oU, oU, oU, oU, oU, oU, oU, oU, oU, oU, oU, oU, oU, oU, oU, oU] [(.int (1 : Int32))])) t) => (?_ : Steps p.tables e below _ t)) _ ?_
                        · by_cases hc72 : u0 = (0 : Int32)
                          · refine XS.ifYes X16.here hx rfl (pc0 := 322) (pc' := 340) rfl (hb hby at_322) rfl ((if0 _ _).trans (teq hc72).1) (by decide) (by decide) ?_
                            show Steps p.tables e below (T16.setTop (mkF m 340 #[iv p0, oJ q1, oS, iv p2, rv b1, iv l0, iv l1, iv l2, iv l3, iv l4, iv u0, iv u1, iv u2, iv u3, iv y1, iv y2, iv y3, oU, oU, oU, oU, oU, oU, oU, oU, oU, oU, oU, oU, oU, oU, oU, oU, oU] [])) _
                            refine XS.iconst X16.here hx rfl (hb hby at_340) ?_
                            show Steps p.tables e below (T16.setTop (mkF m 341 #[iv p0, oJ q1, oS, iv p2, rv b1, iv l0, iv l1, iv l2, iv l3, iv l4, iv u0, iv u1, iv u2, iv u3, iv y1, iv y2, iv y3, oU, oU, oU, oU, oU, oU, oU, oU, oU, oU, oU, oU, oU, oU, oU, oU, oU] [(.int (1 : Int32))])) _
                            refine XS.goto X16.here hx rfl (pc0 := 341) (pc' := 345) rfl (hb hby at_341) (by decide) (by decide) ?_
                            show Steps p.tables e below (T16.setTop (mkF m 345 #[iv p0, oJ q1, oS, iv p2, rv b1, iv l0, iv l1, iv l2, iv l3, iv l4, iv u0, iv u1, iv u2, iv u3, iv y1, iv y2, iv y3, oU, oU, oU, oU, oU, oU, oU, oU, oU, oU, oU, oU, oU, oU, oU, oU, oU] [(.int (1 : Int32))])) _
                            exact k
                          · refine XS.ifNo X16.here hx rfl (hb hby at_322) rfl ((if0 _ _).trans (feq hc72).1) ?_
                            show Steps p.tables e below (T16.setTop (mkF m 325 #[iv p0, oJ q1, oS, iv p2, rv b1, iv l0, iv l1, iv l2, iv l3, iv l4, iv u0, iv u1, iv u2, iv u3, iv y1, iv y2, iv y3, oU, oU, oU, oU, oU, oU, oU, oU, oU, oU, oU, oU, oU, oU, oU, oU, oU] [])) _
                            refine XS.iload X16.here hx rfl (hb hby at_325) rfl ?_
                            show Steps p.tables e below (T16.setTop (mkF m 327 #[iv p0, oJ q1, oS, iv p2, rv b1, iv l0, iv l1, iv l2, iv l3, iv l4, iv u0, iv u1, iv u2, iv u3, iv y1, iv y2, iv y3, oU, oU, oU, oU, oU, oU, oU, oU, oU, oU, oU, oU, oU, oU, oU, oU, oU] [(.int l1)])) _
                            refine (fun t (k : Steps p.tables e below (T16.setTop (mkF m 345 #[iv p0, oJ q1, oS, iv p2, rv b1, iv l0, iv l1, iv l2, iv l3, iv l4, iv u0, iv u1, iv u2, iv u3, iv y1, iv y2, iv y3, oU, oU, oU, oU, oU, oU, oU, oU, oU, oU, oU, oU, oU, oU, oU, oU, oU] [(.int (1 : Int32))])) t) => (?_ : Steps p.tables e below _ t)) _ ?_
                            · by_cases hc73 : l1 = (0 : Int32)
                              · refine XS.ifNo X16.here hx rfl (hb hby at_327) rfl ((if0 _ _).trans (teq hc73).2) ?_
                                show Steps p.tables e below (T16.setTop (mkF m 330 #[iv p0, oJ q1, oS, iv p2, rv b1, iv l0, iv l1, iv l2, iv l3, iv l4, iv u0, iv u1, iv u2, iv u3, iv y1, iv y2, iv y3, oU, oU, oU, oU, oU, oU, oU, oU, oU, oU, oU, oU, oU, oU, oU, oU, oU] [])) _
                                refine XS.iload X16.here hx rfl (hb hby at_330) rfl ?_
                                show Steps p.tables e below (T16.setTop (mkF m 332 #[iv p0, oJ q1, oS, iv p2, rv b1, iv l0, iv l1, iv l2, iv l3, iv l4, iv u0, iv u1, iv u2, iv u3, iv y1, iv y2, iv y3, oU, oU, oU, oU, oU, oU, oU, oU, oU, oU, oU, oU, oU, oU, oU, oU, oU] [(.int l2)])) _
                                refine XS.ifYes X16.here hx rfl (pc0 := 332) (pc' := 340) rfl (hb hby at_332) rfl ((if0 _ _).trans (feq hc69).2) (by decide) (by decide) ?_
                                show Steps p.tables e below (T16.setTop (mkF m 340 #[iv p0, oJ q1, oS, iv p2, rv b1, iv l0, iv l1, iv l2, iv l3, iv l4, iv u0, iv u1, iv u2, iv u3, iv y1, iv y2, iv y3, oU, oU, oU, oU, oU, oU, oU, oU, oU, oU, oU, oU, oU, oU, oU, oU, oU] [])) _
                                refine XS.iconst X16.here hx rfl (hb hby at_340) ?_
                                show Steps p.tables e below (T16.setTop (mkF m 341 #[iv p0, oJ q1, oS, iv p2, rv b1, iv l0, iv l1, iv l2, iv l3, iv l4, iv u0, iv u1, iv u2, iv u3, iv y1, iv y2, iv y3, oU, oU, oU, oU, oU, oU, oU, oU, oU, oU, oU, oU, oU, oU, oU, oU, oU] [(.int (1 : Int32))])) _
                                refine XS.goto X16.here hx rfl (pc0 := 341) (pc' := 345) rfl (hb hby at_341) (by decide) (by decide) ?_
                                show Steps p.tables e below (T16.setTop (mkF m 345 #[iv p0, oJ q1, oS, iv p2, rv b1, iv l0, iv l1, iv l2, iv l3, iv l4, iv u0, iv u1, iv u2, iv u3, iv y1, iv y2, iv y3, oU, oU, oU, oU, oU, oU, oU, oU, oU, oU, oU, oU, oU, oU, oU, oU, oU] [(.int (1 : Int32))])) _
                                exact k
                              · refine XS.ifYes X16.here hx rfl (pc0 := 327) (pc' := 340) rfl (hb hby at_327) rfl ((if0 _ _).trans (feq hc73).2) (by decide) (by decide) ?_
                                show Steps p.tables e below (T16.setTop (mkF m 340 #[iv p0, oJ q1, oS, iv p2, rv b1, iv l0, iv l1, iv l2, iv l3, iv l4, iv u0, iv u1, iv u2, iv u3, iv y1, iv y2, iv y3, oU, oU, oU, oU, oU, oU, oU, oU, oU, oU, oU, oU, oU, oU, oU, oU, oU] [])) _
                                refine XS.iconst X16.here hx rfl (hb hby at_340) ?_
                                show Steps p.tables e below (T16.setTop (mkF m 341 #[iv p0, oJ q1, oS, iv p2, rv b1, iv l0, iv l1, iv l2, iv l3, iv l4, iv u0, iv u1, iv u2, iv u3, iv y1, iv y2, iv y3, oU, oU, oU, oU, oU, oU, oU, oU, oU, oU, oU, oU, oU, oU, oU, oU, oU] [(.int (1 : Int32))])) _
                                refine XS.goto X16.here hx rfl (pc0 := 341) (pc' := 345) rfl (hb hby at_341) (by decide) (by decide) ?_
                                show Steps p.tables e below (T16.setTop (mkF m 345 #[iv p0, oJ q1, oS, iv p2, rv b1, iv l0, iv l1, iv l2, iv l3, iv l4, iv u0, iv u1, iv u2, iv u3, iv y1, iv y2, iv y3, oU, oU, oU, oU, oU, oU, oU, oU, oU, oU, oU, oU, oU, oU, oU, oU, oU] [(.int (1 : Int32))])) _
                                exact k
                            show Steps p.tables e below (T16.setTop (mkF m 345 #[iv p0, oJ q1, oS, iv p2, rv b1, iv l0, iv l1, iv l2, iv l3, iv l4, iv u0, iv u1, iv u2, iv u3, iv y1, iv y2, iv y3, oU, oU, oU, oU, oU, oU, oU, oU, oU, oU, oU, oU, oU, oU, oU, oU, oU] [(.int (1 : Int32))])) _
                            exact k
                        show Steps p.tables e below (T16.setTop (mkF m 345 #[iv p0, oJ q1, oS, iv p2, rv b1, iv l0, iv l1, iv l2, iv l3, iv l4, iv u0, iv u1, iv u2, iv u3, iv y1, iv y2, iv y3, oU, oU, oU, oU, oU, oU, oU, oU, oU, oU, oU, oU, oU, oU, oU, oU, oU] [(.int (1 : Int32))])) _
                        exact k
                    show Steps p.tables e below (T16.setTop (mkF m 345 #[iv p0, oJ q1, oS, iv p2, rv b1, iv l0, iv l1, iv l2, iv l3, iv l4, iv u0, iv u1, iv u2, iv u3, iv y1, iv y2, iv y3, oU, oU, oU, oU, oU, oU, oU, oU, oU, oU, oU, oU, oU, oU, oU, oU, oU] [(.int (1 : Int32))])) _
                    exact k
                show Steps p.tables e below (T16.setTop (mkF m 345 #[iv p0, oJ q1, oS, iv p2, rv b1, iv l0, iv l1, iv l2, iv l3, iv l4, iv u0, iv u1, iv u2, iv u3, iv y1, iv y2, iv y3, oU, oU, oU, oU, oU, oU, oU, oU, oU, oU, oU, oU, oU, oU, oU, oU, oU] [(.int (1 : Int32))])) _
                exact k
            show Steps p.tables e below (T16.setTop (mkF m 345 #[iv p0, oJ q1, oS, iv p2, rv b1, iv l0, iv l1, iv l2, iv l3, iv l4, iv u0, iv u1, iv u2, iv u3, iv y1, iv y2, iv y3, oU, oU, oU, oU, oU, oU, oU, oU, oU, oU, oU, oU, oU, oU, oU, oU, oU] [(.int (if l3 = (0 : Int32) then (0 : Int32) else (1 : Int32)))])) _
            exact k
        show Steps p.tables e below (T16.setTop (mkF m 345 #[iv p0, oJ q1, oS, iv p2, rv b1, iv l0, iv l1, iv l2, iv l3, iv l4, iv u0, iv u1, iv u2, iv u3, iv y1, iv y2, iv y3, oU, oU, oU, oU, oU, oU, oU, oU, oU, oU, oU, oU, oU, oU, oU, oU, oU] [(.int (if u2 = (0 : Int32) then (if u1 = (0 : Int32) then (if u0 = (0 : Int32) then (1 : Int32) else (if l1 = (0 : Int32) then (if l2 = (0 : Int32) then (if l3 = (0 : Int32) then (0 : Int32) else (1 : Int32)) else (1 : Int32)) else (1 : Int32))) else (if l2 = (0 : Int32) then (if l3 = (0 : Int32) then (0 : Int32) else (1 : Int32)) else (1 : Int32))) else (if l3 = (0 : Int32) then (0 : Int32) else (1 : Int32))))])) _
        exact k
      · simp only [if_neg hc51] at k
        refine XS.ifYes X16.here hx rfl (pc0 := 292) (pc' := 344) rfl (hb hby at_292) rfl ((if0 _ _).trans (feq hc51).2) (by decide) (by decide) ?_
        show Steps p.tables e below (T16.setTop (mkF m 344 #[iv p0, oJ q1, oS, iv p2, rv b1, iv l0, iv l1, iv l2, iv l3, iv l4, iv u0, iv u1, iv u2, iv u3, iv y1, iv y2, iv y3, oU, oU, oU, oU, oU, oU, oU, oU, oU, oU, oU, oU, oU, oU, oU, oU, oU] [])) _
        refine XS.iconst X16.here hx rfl (hb hby at_344) ?_
        show Steps p.tables e below (T16.setTop (mkF m 345 #[iv p0, oJ q1, oS, iv p2, rv b1, iv l0, iv l1, iv l2, iv l3, iv l4, iv u0, iv u1, iv u2, iv u3, iv y1, iv y2, iv y3, oU, oU, oU, oU, oU, oU, oU, oU, oU, oU, oU, oU, oU, oU, oU, oU, oU] [(.int (0 : Int32))])) _
        exact k
    show Steps p.tables e below (T16.setTop (mkF m 345 #[iv p0, oJ q1, oS, iv p2, rv b1, iv l0, iv l1, iv l2, iv l3, iv l4, iv u0, iv u1, iv u2, iv u3, iv y1, iv y2, iv y3, oU, oU, oU, oU, oU, oU, oU, oU, oU, oU, oU, oU, oU, oU, oU, oU, oU] [(.int (if u3 = (0 : Int32) then (if u2 = (0 : Int32) then (if u1 = (0 : Int32) then (if u0 = (0 : Int32) then (1 : Int32) else (if l1 = (0 : Int32) then (if l2 = (0 : Int32) then (if l3 = (0 : Int32) then (0 : Int32) else (1 : Int32)) else (1 : Int32)) else (1 : Int32))) else (if l2 = (0 : Int32) then (if l3 = (0 : Int32) then (0 : Int32) else (1 : Int32)) else (1 : Int32))) else (if l3 = (0 : Int32) then (0 : Int32) else (1 : Int32))) else (0 : Int32)))])) _
    refine XS.istore X16.here hx rfl (hb hby at_345) rfl (l' := #[iv p0, oJ q1, oS, iv p2, rv b1, iv l0, iv l1, iv l2, iv l3, iv l4, iv u0, iv u1, iv u2, iv u3, iv y1, iv y2, iv y3, iv (if u3 = (0 : Int32) then (if u2 = (0 : Int32) then (if u1 = (0 : Int32) then (if u0 = (0 : Int32) then (1 : Int32) else (if l1 = (0 : Int32) then (if l2 = (0 : Int32) then (if l3 = (0 : Int32) then (0 : Int32) else (1 : Int32)) else (1 : Int32)) else (1 : Int32))) else (if l2 = (0 : Int32) then (if l3 = (0 : Int32) then (0 : Int32) else (1 : Int32)) else (1 : Int32))) else (if l3 = (0 : Int32) then (0 : Int32) else (1 : Int32))) else (0 : Int32)), oU, oU, oU, oU, oU, oU, oU, oU, oU, oU, oU, oU, oU, oU, oU, oU]) rfl ?_
    show Steps p.tables e below (T16.setTop (mkF m 347 #[iv p0, oJ q1, oS, iv p2, rv b1, iv l0, iv l1, iv l2, iv l3, iv l4, iv u0, iv u1, iv u2, iv u3, iv y1, iv y2, iv y3, iv (if u3 = (0 : Int32) then (if u2 = (0 : Int32) then (if u1 = (0 : Int32) then (if u0 = (0 : Int32) then (1 : Int32) else (if l1 = (0 : Int32) then (if l2 = (0 : Int32) then (if l3 = (0 : Int32) then (0 : Int32) else (1 : Int32)) else (1 : Int32)) else (1 : Int32))) else (if l2 = (0 : Int32) then (if l3 = (0 : Int32) then (0 : Int32) else (1 : Int32)) else (1 : Int32))) else (if l3 = (0 : Int32) then (0 : Int32) else (1 : Int32))) else (0 : Int32)), oU, oU, oU, oU, oU, oU, oU, oU, oU, oU, oU, oU, oU, oU, oU, oU] [])) _
    exact k
  generalize hy4 : (if u3 = (0 : Int32) then (if u2 = (0 : Int32) then (if u1 = (0 : Int32) then (if u0 = (0 : Int32) then (1 : Int32) else (if l1 = (0 : Int32) then (if l2 = (0 : Int32) then (if l3 = (0 : Int32) then (0 : Int32) else (1 : Int32)) else (1 : Int32)) else (1 : Int32))) else (if l2 = (0 : Int32) then (if l3 = (0 : Int32) then (0 : Int32) else (1 : Int32)) else (1 : Int32))) else (if l3 = (0 : Int32) then (0 : Int32) else (1 : Int32))) else (0 : Int32)) = y4
  show own_Go p e below _ (T16.setTop (mkF m 347 #[iv p0, oJ q1, oS, iv p2, rv b1, iv l0, iv l1, iv l2, iv l3, iv l4, iv u0, iv u1, iv u2, iv u3, iv y1, iv y2, iv y3, iv y4, oU, oU, oU, oU, oU, oU, oU, oU, oU, oU, oU, oU, oU, oU, oU, oU] []))
  refine own_by (B := T16.setTop (mkF m 364 #[iv p0, oJ q1, oS, iv p2, rv b1, iv l0, iv l1, iv l2, iv l3, iv l4, iv u0, iv u1, iv u2, iv u3, iv y1, iv y2, iv y3, iv y4, iv (if l1 = (0 : Int32) then (0 : Int32) else (if u0 = (0 : Int32) then (0 : Int32) else (1 : Int32))), oU, oU, oU, oU, oU, oU, oU, oU, oU, oU, oU, oU, oU, oU, oU] [])) (fun t k => ?_) ?_
  · show Steps p.tables e below (T16.setTop (mkF m 347 #[iv p0, oJ q1, oS, iv p2, rv b1, iv l0, iv l1, iv l2, iv l3, iv l4, iv u0, iv u1, iv u2, iv u3, iv y1, iv y2, iv y3, iv y4, oU, oU, oU, oU, oU, oU, oU, oU, oU, oU, oU, oU, oU, oU, oU, oU] [])) _
    refine XS.iload X16.here hx rfl (hb hby at_347) rfl ?_
    show Steps p.tables e below (T16.setTop (mkF m 349 #[iv p0, oJ q1, oS, iv p2, rv b1, iv l0, iv l1, iv l2, iv l3, iv l4, iv u0, iv u1, iv u2, iv u3, iv y1, iv y2, iv y3, iv y4, oU, oU, oU, oU, oU, oU, oU, oU, oU, oU, oU, oU, oU, oU, oU, oU] [(.int l1)])) _
    refine (fun t (k : Steps p.tables e below (T16.setTop (mkF m 362 #[iv p0, oJ q1, oS, iv p2, rv b1, iv l0, iv l1, iv l2, iv l3, iv l4, iv u0, iv u1, iv u2, iv u3, iv y1, iv y2, iv y3, iv y4, oU, oU, oU, oU, oU, oU, oU, oU, oU, oU, oU, oU, oU, oU, oU, oU] [(.int (if l1 = (0 : Int32) then (0 : Int32) else (if u0 = (0 : Int32) then (0 : Int32) else (1 : Int32))))])) t) => (?_ : Steps p.tables e below _ t)) _ ?_
    · by_cases hc74 : l1 = (0 : Int32)
      · simp only [if_pos hc74] at k
        refine XS.ifYes X16.here hx rfl (pc0 := 349) (pc' := 361) rfl (hb hby at_349) rfl ((if0 _ _).trans (teq hc74).1) (by decide) (by decide) ?_
        show Steps p.tables e below (T16.setTop (mkF m 361 #[iv p0, oJ q1, oS, iv p2, rv b1, iv l0, iv l1, iv l2, iv l3, iv l4, iv u0, iv u1, iv u2, iv u3, iv y1, iv y2, iv y3, iv y4, oU, oU, oU, oU, oU, oU, oU, oU, oU, oU, oU, oU, oU, oU, oU, oU] [])) _
        refine XS.iconst X16.here hx rfl (hb hby at_361) ?_
        show Steps p.tables e below (T16.setTop (mkF m 362 #[iv p0, oJ q1, oS, iv p2, rv b1, iv l0, iv l1, iv l2, iv l3, iv l4, iv u0, iv u1, iv u2, iv u3, iv y1, iv y2, iv y3, iv y4, oU, oU, oU, oU, oU, oU, oU, oU, oU, oU, oU, oU, oU, oU, oU, oU] [(.int (0 : Int32))])) _
        exact k
      · simp only [if_neg hc74] at k
        refine XS.ifNo X16.here hx rfl (hb hby at_349) rfl ((if0 _ _).trans (feq hc74).1) ?_
        show Steps p.tables e below (T16.setTop (mkF m 352 #[iv p0, oJ q1, oS, iv p2, rv b1, iv l0, iv l1, iv l2, iv l3, iv l4, iv u0, iv u1, iv u2, iv u3, iv y1, iv y2, iv y3, iv y4, oU, oU, oU, oU, oU, oU, oU, oU, oU, oU, oU, oU, oU, oU, oU, oU] [])) _
        refine XS.iload X16.here hx rfl (hb hby at_352) rfl ?_
        show Steps p.tables e below (T16.setTop (mkF m 354 #[iv p0, oJ q1, oS, iv p2, rv b1, iv l0, iv l1, iv l2, iv l3, iv l4, iv u0, iv u1, iv u2, iv u3, iv y1, iv y2, iv y3, iv y4, oU, oU, oU, oU, oU, oU, oU, oU, oU, oU, oU, oU, oU, oU, oU, oU] [(.int u0)])) _
        refine (fun t (k : Steps p.tables e below (T16.setTop (mkF m 362 #[iv p0, oJ q1, oS, iv p2, rv b1, iv l0, iv l1, iv l2, iv l3, iv l4, iv u0, iv u1, iv u2, iv u3, iv y1, iv y2, iv y3, iv y4, oU, oU, oU, oU, oU, oU, oU, oU, oU, oU, oU, oU, oU, oU, oU, oU] [(.int (if u0 = (0 : Int32) then (0 : Int32) else (1 : Int32)))])) t) => (?_ : Steps p.tables e below _ t)) _ ?_
        · by_cases hc75 : u0 = (0 : Int32)
          · simp only [if_pos hc75] at k
            refine XS.ifYes X16.here hx rfl (pc0 := 354) (pc' := 361) rfl (hb hby at_354) rfl ((if0 _ _).trans (teq hc75).1) (by decide) (by decide) ?_
            show Steps p.tables e below (T16.setTop (mkF m 361 #[iv p0, oJ q1, oS, iv p2, rv b1, iv l0, iv l1, iv l2, iv l3, iv l4, iv u0, iv u1, iv u2, iv u3, iv y1, iv y2, iv y3, iv y4, oU, oU, oU, oU, oU, oU, oU, oU, oU, oU, oU, oU, oU, oU, oU, oU] [])) _
            refine XS.iconst X16.here hx rfl (hb hby at_361) ?_
            show Steps p.tables e below (T16.setTop (mkF m 362 #[iv p0, oJ q1, oS, iv p2, rv b1, iv l0, iv l1, iv l2, iv l3, iv l4, iv u0, iv u1, iv u2, iv u3, iv y1, iv y2, iv y3, iv y4, oU, oU, oU, oU, oU, oU, oU, oU, oU, oU, oU, oU, oU, oU, oU, oU] [(.int (0 : Int32))])) _
            exact k
          · simp only [if_neg hc75] at k
            refine XS.ifNo X16.here hx rfl (hb hby at_354) rfl ((if0 _ _).trans (feq hc75).1) ?_
            show Steps p.tables e below (T16.setTop (mkF m 357 #[iv p0, oJ q1, oS, iv p2, rv b1, iv l0, iv l1, iv l2, iv l3, iv l4, iv u0, iv u1, iv u2, iv u3, iv y1, iv y2, iv y3, iv y4, oU, oU, oU, oU, oU, oU, oU, oU, oU, oU, oU, oU, oU, oU, oU, oU] [])) _
            refine XS.iconst X16.here hx rfl (hb hby at_357) ?_
            show Steps p.tables e below (T16.setTop (mkF m 358 #[iv p0, oJ q1, oS, iv p2, rv b1, iv l0, iv l1, iv l2, iv l3, iv l4, iv u0, iv u1, iv u2, iv u3, iv y1, iv y2, iv y3, iv y4, oU, oU, oU, oU, oU, oU, oU, oU, oU, oU, oU, oU, oU, oU, oU, oU] [(.int (1 : Int32))])) _
            refine XS.goto X16.here hx rfl (pc0 := 358) (pc' := 362) rfl (hb hby at_358) (by decide) (by decide) ?_
            show Steps p.tables e below (T16.setTop (mkF m 362 #[iv p0, oJ q1, oS, iv p2, rv b1, iv l0, iv l1, iv l2, iv l3, iv l4, iv u0, iv u1, iv u2, iv u3, iv y1, iv y2, iv y3, iv y4, oU, oU, oU, oU, oU, oU, oU, oU, oU, oU, oU, oU, oU, oU, oU, oU] [(.int (1 : Int32))])) _
            exact k
        show Steps p.tables e below (T16.setTop (mkF m 362 #[iv p0, oJ q1, oS, iv p2, rv b1, iv l0, iv l1, iv l2, iv l3, iv l4, iv u0, iv u1, iv u2, iv u3, iv y1, iv y2, iv y3, iv y4, oU, oU, oU, oU, oU, oU, oU, oU, oU, oU, oU, oU, oU, oU, oU, oU] [(.int (if u0 = (0 : Int32) then (0 : Int32) else (1 : Int32)))])) _
        exact k
    show Steps p.tables e below (T16.setTop (mkF m 362 #[iv p0, oJ q1, oS, iv p2, rv b1, iv l0, iv l1, iv l2, iv l3, iv l4, iv u0, iv u1, iv u2, iv u3, iv y1, iv y2, iv y3, iv y4, oU, oU, oU, oU, oU, oU, oU, oU, oU, oU, oU, oU, oU, oU, oU, oU] [(.int (if l1 = (0 : Int32) then (0 : Int32) else (if u0 = (0 : Int32) then (0 : Int32) else (1 : Int32))))])) _
    refine XS.istore X16.here hx rfl (hb hby at_362) rfl (l' := #[iv p0, oJ q1, oS, iv p2, rv b1, iv l0, iv l1, iv l2, iv l3, iv l4, iv u0, iv u1, iv u2, iv u3, iv y1, iv y2, iv y3, iv y4, iv (if l1 = (0 : Int32) then (0 : Int32) else (if u0 = (0 : Int32) then (0 : Int32) else (1 : Int32))), oU, oU, oU, oU, oU, oU, oU, oU, oU, oU, oU, oU, oU, oU, oU]) rfl ?_
    show Steps p.tables e below (T16.setTop (mkF m 364 #[iv p0, oJ q1, oS, iv p2, rv b1, iv l0, iv l1, iv l2, iv l3, iv l4, iv u0, iv u1, iv u2, iv u3, iv y1, iv y2, iv y3, iv y4, iv (if l1 = (0 : Int32) then (0 : Int32) else (if u0 = (0 : Int32) then (0 : Int32) else (1 : Int32))), oU, oU, oU, oU, oU, oU, oU, oU, oU, oU, oU, oU, oU, oU, oU] [])) _
    exact k
  generalize hz2 : (if l1 = (0 : Int32) then (0 : Int32) else (if u0 = (0 : Int32) then (0 : Int32) else (1 : Int32))) = z2
  show own_Go p e below _ (T16.setTop (mkF m 364 #[iv p0, oJ q1, oS, iv p2, rv b1, iv l0, iv l1, iv l2, iv l3, iv l4, iv u0, iv u1, iv u2, iv u3, iv y1, iv y2, iv y3, iv y4, iv z2, oU, oU, oU, oU, oU, oU, oU, oU, oU, oU, oU, oU, oU, oU, oU] []))
  refine own_by (B := T16.setTop (mkF m 391 #[iv p0, oJ q1, oS, iv p2, rv b1, iv l0, iv l1, iv l2, iv l3, iv l4, iv u0, iv u1, iv u2, iv u3, iv y1, iv y2, iv y3, iv y4, iv z2, iv (if z2 = (0 : Int32) then (if l2 = (0 : Int32) then (0 : Int32) else (if u0 = (0 : Int32) then (if u1 = (0 : Int32) then (0 : Int32) else (1 : Int32)) else (1 : Int32))) else (1 : Int32)), oU, oU, oU, oU, oU, oU, oU, oU, oU, oU, oU, oU, oU, oU] [])) (fun t k => ?_) ?_
  · show Steps p.tables e below (T16.setTop (mkF m 364 #[iv p0, oJ q1, oS, iv p2, rv b1, iv l0, iv l1, iv l2, iv l3, iv l4, iv u0, iv u1, iv u2, iv u3, iv y1, iv y2, iv y3, iv y4, iv z2, oU, oU, oU, oU, oU, oU, oU, oU, oU, oU, oU, oU, oU, oU, oU] [])) _
    refine XS.iload X16.here hx rfl (hb hby at_364) rfl ?_
    show Steps p.tables e below (T16.setTop (mkF m 366 #[iv p0, oJ q1, oS, iv p2, rv b1, iv l0, iv l1, iv l2, iv l3, iv l4, iv u0, iv u1, iv u2, iv u3, iv y1, iv y2, iv y3, iv y4, iv z2, oU, oU, oU, oU, oU, oU, oU, oU, oU, oU, oU, oU, oU, oU, oU] [(.int z2)])) _
    refine (fun t (k : Steps p.tables e below (T16.setTop (mkF m 389 #[iv p0, oJ q1, oS, iv p2, rv b1, iv l0, iv l1, iv l2, iv l3, iv l4, iv u0, iv u1, iv u2, iv u3, iv y1, iv y2, iv y3, iv y4, iv z2, oU, oU, oU, oU, oU, oU, oU, oU, oU, oU, oU, oU, oU, oU, oU] [(.int (if z2 = (0 : Int32) then (if l2 = (0 : Int32) then (0 : Int32) else (if u0 = (0 : Int32) then (if u1 = (0 : Int32) then (0 : Int32) else (1 : Int32)) else (1 : Int32))) else (1 : Int32)))])) t) => (?_ : Steps p.tables e below _ t)) _ ?_
    · by_cases hc76 : z2 = (0 : Int32)
      · simp only [if_pos hc76] at k
        refine XS.ifNo X16.here hx rfl (hb hby at_366) rfl ((if0 _ _).trans (teq hc76).2) ?_
        show Steps p.tables e below (T16.setTop (mkF m 369 #[iv p0, oJ q1, oS, iv p2, rv b1, iv l0, iv l1, iv l2, iv l3, iv l4, iv u0, iv u1, iv u2, iv u3, iv y1, iv y2, iv y3, iv y4, iv z2, oU, oU, oU, oU, oU, oU, oU, oU, oU, oU, oU, oU, oU, oU, oU] [])) _
        refine XS.iload X16.here hx rfl (hb hby at_369) rfl ?_
        show Steps p.tables e below (T16.setTop (mkF m 371 #[iv p0, oJ q1, oS, iv p2, rv b1, iv l0, iv l1, iv l2, iv l3, iv l4, iv u0, iv u1, iv u2, iv u3, iv y1, iv y2, iv y3, iv y4, iv z2, oU, oU, oU, oU, oU, oU, oU, oU, oU, oU, oU, oU, oU, oU, oU] [(.int l2)])) _
        refine (fun t (k : Steps p.tables e below (T16.setTop (mkF m 389 #[iv p0, oJ q1, oS, iv p2, rv b1, iv l0, iv l1, iv l2, iv l3, iv l4, iv u0, iv u1, iv u2, iv u3, iv y1, iv y2, iv y3, iv y4, iv z2, oU, oU, oU, oU, oU, oU, oU, oU, oU, oU, oU, oU, oU, oU, oU] [(.int (if l2 = (0 : Int32) then (0 : Int32) else (if u0 = (0 : Int32) then (if u1 = (0 : Int32) then (0 : Int32) else (1 : Int32)) else (1 : Int32))))])) t) => (?_ : Steps p.tables e below _ t)) _ ?_
        · by_cases hc77 : l2 = (0 : Int32)
          · simp only [if_pos hc77] at k
            refine XS.ifYes X16.here hx rfl (pc0 := 371) (pc' := 388) rfl (hb hby at_371) rfl ((if0 _ _).trans (teq hc77).1) (by decide) (by decide) ?_
            show Steps p.tables e below (T16.setTop (mkF m 388 #[iv p0, oJ q1, oS, iv p2, rv b1, iv l0, iv l1, iv l2, iv l3, iv l4, iv u0, iv u1, iv u2, iv u3, iv y1, iv y2, iv y3, iv y4, iv z2, oU, oU, oU, oU, oU, oU, oU, oU, oU, oU, oU, oU, oU, oU, oU] [])) _
            refine XS.iconst X16.here hx rfl (hb hby at_388) ?_
            show Steps p.tables e below (T16.setTop (mkF m 389 #[iv p0, oJ q1, oS, iv p2, rv b1, iv l0, iv l1, iv l2, iv l3, iv l4, iv u0, iv u1, iv u2, iv u3, iv y1, iv y2, iv y3, iv y4, iv z2, oU, oU, oU, oU, oU, oU, oU, oU, oU, oU, oU, oU, oU, oU, oU] [(.int (0 : Int32))])) _
            exact k
          · simp only [if_neg hc77] at k
            refine XS.ifNo X16.here hx rfl (hb hby at_371) rfl ((if0 _ _).trans (feq hc77).1) ?_
            show Steps p.tables e below (T16.setTop (mkF m 374 #[iv p0, oJ q1, oS, iv p2, rv b1, iv l0, iv l1, iv l2, iv l3, iv l4, iv u0, iv u1, iv u2, iv u3, iv y1, iv y2, iv y3, iv y4, iv z2, oU, oU, oU, oU, oU, oU, oU, oU, oU, oU, oU, oU, oU, oU, oU] [])) _
            refine XS.iload X16.here hx rfl (hb hby at_374) rfl ?_
            show Steps p.tables e below (T16.setTop (mkF m 376 #[iv p0, oJ q1, oS, iv p2, rv b1, iv l0, iv l1, iv l2, iv l3, iv l4, iv u0, iv u1, iv u2, iv u3, iv y1, iv y2, iv y3, iv y4, iv z2, oU, oU, oU, oU, oU, oU, oU, oU, oU, oU, oU, oU, oU, oU, oU] [(.int u0)])) _
            refine (fun t (k : Steps p.tables e below (T16.setTop (mkF m 389 #[iv p0, oJ q1, oS, iv p2, rv b1, iv l0, iv l1, iv l2, iv l3, iv l4, iv u0, iv u1, iv u2, iv u3, iv y1, iv y2, iv y3, iv y4, iv z2, oU, oU, oU, oU, oU, oU, oU, oU, oU, oU, oU, oU, oU, oU, oU] [(.int (if u0 = (0 : Int32) then (if u1 = (0 : Int32) then (0 : Int32) else (1 : Int32)) else (1 : Int32)))])) t) => (?_ : Steps p.tables e below _ t)) _ ?_
            · by_cases hc78 : u0 = (0 : Int32)
              · simp only [if_pos hc78] at k
                refine XS.ifNo X16.here hx rfl (hb hby at_376) rfl ((if0 _ _).trans (teq hc78).2) ?_
                show Steps p.tables e below (T16.setTop (mkF m 379 #[iv p0, oJ q1, oS, iv p2, rv b1, iv l0, iv l1, iv l2, iv l3, iv l4, iv u0, iv u1, iv u2, iv u3, iv y1, iv y2, iv y3, iv y4, iv z2, oU, oU, oU, oU, oU, oU, oU, oU, oU, oU, oU, oU, oU, oU, oU] [])) _
                refine XS.iload X16.here hx rfl (hb hby at_379) rfl ?_
                show Steps p.tables e below (T16.setTop (mkF m 381 #[iv p0, oJ q1, oS, iv p2, rv b1, iv l0, iv l1, iv l2, iv l3, iv l4, iv u0, iv u1, iv u2, iv u3, iv y1, iv y2, iv y3, iv y4, iv z2, oU, oU, oU, oU, oU, oU, oU, oU, oU, oU, oU, oU, oU, oU, oU] [(.int u1)])) _
                refine (fun t (k : Steps p.tables e below (T16.setTop (mkF m 389 #[iv p0, oJ q1, oS, iv p2, rv b1, iv l0, iv l1, iv l2, iv l3, iv l4, iv u0, iv u1, iv u2, iv u3, iv y1, iv y2, iv y3, iv y4, iv z2, oU, oU, oU, oU, oU, oU, oU, oU, oU, oU, oU, oU, oU, oU, oU] [(.int (if u1 = (0 : Int32) then (0 : Int32) else (1 : Int32)))])) t) => (?_ : Steps p.tables e below _ t)) _ ?_
                · by_cases hc79 : u1 = (0 : Int32)
                  · simp only [if_pos hc79] at k
                    refine XS.ifYes X16.here hx rfl (pc0 := 381) (pc' := 388) rfl (hb hby at_381) rfl ((if0 _ _).trans (teq hc79).1) (by decide) (by decide) ?_
                    show Steps p.tables e below (T16.setTop (mkF m 388 #[iv p0, oJ q1, oS, iv p2, rv b1, iv l0, iv l1, iv l2, iv l3, iv l4, iv u0, iv u1, iv u2, iv u3, iv y1, iv y2, iv y3, iv y4, iv z2, oU, oU, oU, oU, oU, oU, oU, oU, oU, oU, oU, oU, oU, oU, oU] [])) _
                    refine XS.iconst X16.here hx rfl (hb hby at_388) ?_
                    show Steps p.tables e below (T16.setTop (mkF m 389 #[iv p0, oJ q1, oS, iv p2, rv b1, iv l0, iv l1, iv l2, iv l3, iv l4, iv u0, iv u1, iv u2, iv u3, iv y1, iv y2, iv y3, iv y4, iv z2, oU, oU, oU, oU, oU, oU, oU, oU, oU, oU, oU, oU, oU, oU, oU] [(.int (0 : Int32))])) _
                    exact k
                  · simp only [if_neg hc79] at k
                    refine XS.ifNo X16.here hx rfl (hb hby at_381) rfl ((if0 _ _).trans (feq hc79).1) ?_
                    show Steps p.tables e below (T16.setTop (mkF m 384 #[iv p0, oJ q1, oS, iv p2, rv b1, iv l0, iv l1, iv l2, iv l3, iv l4, iv u0, iv u1, iv u2, iv u3, iv y1, iv y2, iv y3, iv y4, iv z2, oU, oU, oU, oU, oU, oU, oU, oU, oU, oU, oU, oU, oU, oU, oU] [])) _
                    refine XS.iconst X16.here hx rfl (hb hby at_384) ?_
                    show Steps p.tables e below (T16.setTop (mkF m 385 #[iv p0, oJ q1, oS, iv p2, rv b1, iv l0, iv l1, iv l2, iv l3, iv l4, iv u0, iv u1, iv u2, iv u3, iv y1, iv y2, iv y3, iv y4, iv z2, oU, oU, oU, oU, oU, oU, oU, oU, oU, oU, oU, oU, oU, oU, oU] [(.int (1 : Int32))])) _
                    refine XS.goto X16.here hx rfl (pc0 := 385) (pc' := 389) rfl (hb hby at_385) (by decide) (by decide) ?_
                    show Steps p.tables e below (T16.setTop (mkF m 389 #[iv p0, oJ q1, oS, iv p2, rv b1, iv l0, iv l1, iv l2, iv l3, iv l4, iv u0, iv u1, iv u2, iv u3, iv y1, iv y2, iv y3, iv y4, iv z2, oU, oU, oU, oU, oU, oU, oU, oU, oU, oU, oU, oU, oU, oU, oU] [(.int (1 : Int32))])) _
                    exact k
                show Steps p.tables e below (T16.setTop (mkF m 389 #[iv p0, oJ q1, oS, iv p2, rv b1, iv l0, iv l1, iv l2, iv l3, iv l4, iv u0, iv u1, iv u2, iv u3, iv y1, iv y2, iv y3, iv y4, iv z2, oU, oU, oU, oU, oU, oU, oU, oU, oU, oU, oU, oU, oU, oU, oU] [(.int (if u1 = (0 : Int32) then (0 : Int32) else (1 : Int32)))])) _
                exact k
              · simp only [if_neg hc78] at k
                refine XS.ifYes X16.here hx rfl (pc0 := 376) (pc' := 384) rfl (hb hby at_376) rfl ((if0 _ _).trans (feq hc78).2) (by decide) (by decide) ?_
                show Steps p.tables e below (T16.setTop (mkF m 384 #[iv p0, oJ q1, oS, iv p2, rv b1, iv l0, iv l1, iv l2, iv l3, iv l4, iv u0, iv u1, iv u2, iv u3, iv y1, iv y2, iv y3, iv y4, iv z2, oU, oU, oU, oU, oU, oU, oU, oU, oU, oU, oU, oU, oU, oU, oU] [])) _
                refine XS.iconst X16.here hx rfl (hb hby at_384) ?_
                show Steps p.tables e below (T16.setTop (mkF m 385 #[iv p0, oJ q1, oS, iv p2, rv b1, iv l0, iv l1, iv l2, iv l3, iv l4, iv u0, iv u1, iv u2, iv u3, iv y1, iv y2, iv y3, iv y4, iv z2, oU, oU, oU, oU, oU, oU, oU, oU, oU, oU, oU, oU, oU, oU, oU] [(.int (1 : Int32))])) _
                refine XS.goto X16.here hx rfl (pc0 := 385) (pc' := 389) rfl (hb hby at_385) (by decide) (by decide) ?_
                show Steps p.tables e below (T16.setTop (mkF m 389 #[iv p0, oJ q1, oS, iv p2, rv b1, iv l0, iv l1, iv l2, iv l3, iv l4, iv u0, iv u1, iv u2, iv u3, iv y1, iv y2, iv y3, iv y4, iv z2, oU, oU, oU, oU, oU, oU, oU, oU, oU, oU, oU, oU, oU, oU, oU] [(.int (1 : Int32))])) _
                exact k
            show Steps p.tables e below (T16.setTop (mkF m 389 #[iv p0, oJ q1, oS, iv p2, rv b1, iv l0, iv l1, iv l2, iv l3, iv l4, iv u0, iv u1, iv u2, iv u3, iv y1, iv y2, iv y3, iv y4, iv z2, oU, oU, oU, oU, oU, oU, oU, oU, oU, oU, oU, oU, oU, oU, oU] [(.int (if u0 = (0 : Int32) then (if u1 = (0 : Int32) then (0 : Int32) else (1 : Int32)) else (1 : Int32)))])) _
            exact k
        show Steps p.tables e below (T16.setTop (mkF m 389 #[iv p0, oJ q1, oS, iv p2, rv b1, iv l0, iv l1, iv l2, iv l3, iv l4, iv u0, iv u1, iv u2, iv u3, iv y1, iv y2, iv y3, iv y4, iv z2, oU, oU, oU, oU, oU, oU, oU, oU, oU, oU, oU, oU, oU, oU, oU] [(.int (if l2 = (0 : Int32) then (0 : Int32) else (if u0 = (0 : Int32) then (if u1 = (0 : Int32) then (0 : Int32) else (1 : Int32)) else (1 : Int32))))])) _
        exact k
      · simp only [if_neg hc76] at k
        refine XS.ifYes X16.here hx rfl (pc0 := 366) (pc' := 384) rfl (hb hby at_366) rfl ((if0 _ _).trans (feq hc76).2) (by decide) (by decide) ?_
        show Steps p.tables e below (T16.setTop (mkF m 384 #[iv p0, oJ q1, oS, iv p2, rv b1, iv l0, iv l1, iv l2, iv l3, iv l4, iv u0, iv u1, iv u2, iv u3, iv y1, iv y2, iv y3, iv y4, iv z2, oU, oU, oU, oU, oU, oU, oU, oU, oU, oU, oU, oU, oU, oU, oU] [])) _
        refine XS.iconst X16.here hx rfl (hb hby at_384) ?_
        show Steps p.tables e below (T16.setTop (mkF m 385 #[iv p0, oJ q1, oS, iv p2, rv b1, iv l0, iv l1, iv l2, iv l3, iv l4, iv u0, iv u1, iv u2, iv u3, iv y1, iv y2, iv y3, iv y4, iv z2, oU, oU, oU, oU, oU, oU, oU, oU, oU, oU, oU, oU, oU, oU, oU] [(.int (1 : Int32))])) _
        refine XS.goto X16.here hx rfl (pc0 := 385) (pc' := 389) rfl (hb hby at_385) (by decide) (by decide) ?_
        show Steps p.tables e below (T16.setTop (mkF m 389 #[iv p0, oJ q1, oS, iv p2, rv b1, iv l0, iv l1, iv l2, iv l3, iv l4, iv u0, iv u1, iv u2, iv u3, iv y1, iv y2, iv y3, iv y4, iv z2, oU, oU, oU, oU, oU, oU, oU, oU, oU, oU, oU, oU, oU, oU, oU] [(.int (1 : Int32))])) _
        exact k
    show Steps p.tables e below (T16.setTop (mkF m 389 #[iv p0, oJ q1, oS, iv p2, rv b1, iv l0, iv l1, iv l2, iv l3, iv l4, iv u0, iv u1, iv u2, iv u3, iv y1, iv y2, iv y3, iv y4, iv z2, oU, oU, oU, oU, oU, oU, oU, oU, oU, oU, oU, oU, oU, oU, oU] [(.int (if z2 = (0 : Int32) then (if l2 = (0 : Int32) then (0 : Int32) else (if u0 = (0 : Int32) then (if u1 = (0 : Int32) then (0 : Int32) else (1 : Int32)) else (1 : Int32))) else (1 : Int32)))])) _
    refine XS.istore X16.here hx rfl (hb hby at_389) rfl (l' := #[iv p0, oJ q1, oS, iv p2, rv b1, iv l0, iv l1, iv l2, iv l3, iv l4, iv u0, iv u1, iv u2, iv u3, iv y1, iv y2, iv y3, iv y4, iv z2, iv (if z2 = (0 : Int32) then (if l2 = (0 : Int32) then (0 : Int32) else (if u0 = (0 : Int32) then (if u1 = (0 : Int32) then (0 : Int32) else (1 : Int32)) else (1 : Int32))) else (1 : Int32)), oU, oU, oU, oU, oU, oU, oU, oU, oU, oU, oU, oU, oU, oU]) rfl ?_
    show Steps p.tables e below (T16.setTop (mkF m 391 #[iv p0, oJ q1, oS, iv p2, rv b1, iv l0, iv l1, iv l2, iv l3, iv l4, iv u0, iv u1, iv u2, iv u3, iv y1, iv y2, iv y3, iv y4, iv z2, iv (if z2 = (0 : Int32) then (if l2 = (0 : Int32) then (0 : Int32) else (if u0 = (0 : Int32) then (if u1 = (0 : Int32) then (0 : Int32) else (1 : Int32)) else (1 : Int32))) else (1 : Int32)), oU, oU, oU, oU, oU, oU, oU, oU, oU, oU, oU, oU, oU, oU] [])) _
    exact k
  generalize hz3 : (if z2 = (0 : Int32) then (if l2 = (0 : Int32) then (0 : Int32) else (if u0 = (0 : Int32) then (if u1 = (0 : Int32) then (0 : Int32) else (1 : Int32)) else (1 : Int32))) else (1 : Int32)) = z3
  show own_Go p e below _ (T16.setTop (mkF m 391 #[iv p0, oJ q1, oS, iv p2, rv b1, iv l0, iv l1, iv l2, iv l3, iv l4, iv u0, iv u1, iv u2, iv u3, iv y1, iv y2, iv y3, iv y4, iv z2, iv z3, oU, oU, oU, oU, oU, oU, oU, oU, oU, oU, oU, oU, oU, oU] []))
  refine own_by (B := T16.setTop (mkF m 423 #[iv p0, oJ q1, oS, iv p2, rv b1, iv l0, iv l1, iv l2, iv l3, iv l4, iv u0, iv u1, iv u2, iv u3, iv y1, iv y2, iv y3, iv y4, iv z2, iv z3, iv (if z3 = (0 : Int32) then (if l3 = (0 : Int32) then (0 : Int32) else (if u0 = (0 : Int32) then (if u1 = (0 : Int32) then (if u2 = (0 : Int32) then (0 : Int32) else (1 : Int32)) else (1 : Int32)) else (1 : Int32))) else (1 : Int32)), oU, oU, oU, oU, oU, oU, oU, oU, oU, oU, oU, oU, oU] [])) (fun t k => ?_) ?_
  · show Steps p.tables e below (T16.setTop (mkF m 391 #[iv p0, oJ q1, oS, iv p2, rv b1, iv l0, iv l1, iv l2, iv l3, iv l4, iv u0, iv u1, iv u2, iv u3, iv y1, iv y2, iv y3, iv y4, iv z2, iv z3, oU, oU, oU, oU, oU, oU, oU, oU, oU, oU, oU, oU, oU, oU] [])) _
    refine XS.iload X16.here hx rfl (hb hby at_391) rfl ?_
    show Steps p.tables e below (T16.setTop (mkF m 393 #[iv p0, oJ q1, oS, iv p2, rv b1, iv l0, iv l1, iv l2, iv l3, iv l4, iv u0, iv u1, iv u2, iv u3, iv y1, iv y2, iv y3, iv y4, iv z2, iv z3, oU, oU, oU, oU, oU, oU, oU, oU, oU, oU, oU, oU, oU, oU] [(.int z3)])) _
    refine (fun t (k : Steps p.tables e below (T16.setTop (mkF m 421 #[iv p0, oJ q1, oS, iv p2, rv b1, iv l0, iv l1, iv l2, iv l3, iv l4, iv u0, iv u1, iv u2, iv u3, iv y1, iv y2, iv y3, iv y4, iv z2, iv z3, oU, oU, oU, oU, oU, oU, oU, oU, oU, oU, oU, oU, oU, oU] [(.int (if z3 = (0 : Int32) then (if l3 = (0 : Int32) then (0 : Int32) else (if u0 = (0 : Int32) then (if u1 = (0 : Int32) then (if u2 = (0 : Int32) then (0 : Int32) else (1 : Int32)) else (1 : Int32)) else (1 : Int32))) else (1 : Int32)))])) t) => (?_ : Steps p.tables e below _ t)) _ ?_
    · by_cases hc80 : z3 = (0 : Int32)
      · simp only [if_pos hc80] at k
        refine XS.ifNo X16.here hx rfl (hb hby at_393) rfl ((if0 _ _).trans (teq hc80).2) ?_
        show Steps p.tables e below (T16.setTop (mkF m 396 #[iv p0, oJ q1, oS, iv p2, rv b1, iv l0, iv l1, iv l2, iv l3, iv l4, iv u0, iv u1, iv u2, iv u3, iv y1, iv y2, iv y3, iv y4, iv z2, iv z3, oU, oU, oU, oU, oU, oU, oU, oU, oU, oU, oU, oU, oU, oU] [])) _
        refine XS.iload X16.here hx rfl (hb hby at_396) rfl ?_
        show Steps p.tables e below (T16.setTop (mkF m 398 #[iv p0, oJ q1, oS, iv p2, rv b1, iv l0, iv l1, iv l2, iv l3, iv l4, iv u0, iv u1, iv u2, iv u3, iv y1, iv y2, iv y3, iv y4, iv z2, iv z3, oU, oU, oU, oU, oU, oU, oU, oU, oU, oU, oU, oU, oU, oU] [(.int l3)])) _
        refine (fun t (k : Steps p.tables e below (T16.setTop (mkF m 421 #[iv p0, oJ q1, oS, iv p2, rv b1, iv l0, iv l1, iv l2, iv l3, iv l4, iv u0, iv u1, iv u2, iv u3, iv y1, iv y2, iv y3, iv y4, iv z2, iv z3, oU, oU, oU, oU, oU, oU, oU, oU, oU, oU, oU, oU, oU, oU] [(.int (if l3 = (0 : Int32) then (0 : Int32) else (if u0 = (0 : Int32) then (if u1 = (0 : Int32) then (if u2 = (0 : Int32) then (0 : Int32) else (1 : Int32)) else (1 : Int32)) else (1 : Int32))))])) t) => (?_ : Steps p.tables e below _ t)) _ ?_
        · by_cases hc81 : l3 = (0 : Int32)
          · simp only [if_pos hc81] at k
            refine XS.ifYes X16.here hx rfl (pc0 := 398) (pc' := 420) rfl (hb hby at_398) rfl ((if0 _ _).trans (teq hc81).1) (by decide) (by decide) ?_
            show Steps p.tables e below (T16.setTop (mkF m 420 #[iv p0, oJ q1, oS, iv p2, rv b1, iv l0, iv l1, iv l2, iv l3, iv l4, iv u0, iv u1, iv u2, iv u3, iv y1, iv y2, iv y3, iv y4, iv z2, iv z3, oU, oU, oU, oU, oU, oU, oU, oU, oU, oU, oU, oU, oU, oU] [])) _
            refine XS.iconst X16.here hx rfl (hb hby at_420) ?_
            show Steps p.tables e below (T16.setTop (mkF m 421 #[iv p0, oJ q1, oS, iv p2, rv b1, iv l0, iv l1, iv l2, iv l3, iv l4, iv u0, iv u1, iv u2, iv u3, iv y1, iv y2, iv y3, iv y4, iv z2, iv z3, oU, oU, oU, oU, oU, oU, oU, oU, oU, oU, oU, oU, oU, oU] [(.int (0 : Int32))])) _
            exact k
          · simp only [if_neg hc81] at k
            refine XS.ifNo X16.here hx rfl (hb hby at_398) rfl ((if0 _ _).trans (feq hc81).1) ?_
            show Steps p.tables e below (T16.setTop (mkF m 401 #[iv p0, oJ q1, oS, iv p2, rv b1, iv l0, iv l1, iv l2, iv l3, iv l4, iv u0, iv u1, iv u2, iv u3, iv y1, iv y2, iv y3, iv y4, iv z2, iv z3, oU, oU, oU, oU, oU, oU, oU, oU, oU, oU, oU, oU, oU, oU] [])) _
            refine XS.iload X16.here hx rfl (hb hby at_401) rfl ?_
            show Steps p.tables e below (T16.setTop (mkF m 403 #[iv p0, oJ q1, oS, iv p2, rv b1, iv l0, iv l1, iv l2, iv l3, iv l4, iv u0, iv u1, iv u2, iv u3, iv y1, iv y2, iv y3, iv y4, iv z2, iv z3, oU, oU, oU, oU, oU, oU, oU, oU, oU, oU, oU, oU, oU, oU] [(.int u0)])) _
            refine (fun t (k : Steps p.tables e below (T16.setTop (mkF m 421 #[iv p0, oJ q1, oS, iv p2, rv b1, iv l0, iv l1, iv l2, iv l3, iv l4, iv u0, iv u1, iv u2, iv u3, iv y1, iv y2, iv y3, iv y4, iv z2, iv z3, oU, oU, oU, oU, oU, oU, oU, oU, oU, oU, oU, oU, oU, oU] [(.int (if u0 = (0 : Int32) then (if u1 = (0 : Int32) then (if u2 = (0 : Int32) then (0 : Int32) else (1 : Int32)) else (1 : Int32)) else (1 : Int32)))])) t) => (?_ : Steps p.tables e below _ t)) _ ?_
            · by_cases hc82 : u0 = (0 : Int32)
              · simp only [if_pos hc82] at k
                refine XS.ifNo X16.here hx rfl (hb hby at_403) rfl ((if0 _ _).trans (teq hc82).2) ?_
                show Steps p.tables e below (T16.setTop (mkF m 406 #[iv p0, oJ q1, oS, iv p2, rv b1, iv l0, iv l1, iv l2, iv l3, iv l4, iv u0, iv u1, iv u2, iv u3, iv y1, iv y2, iv y3, iv y4, iv z2, iv z3, oU, oU, oU, oU, oU, oU, oU, oU, oU, oU, oU, oU, oU, oU] [])) _
                refine XS.iload X16.here hx rfl (hb hby at_406) rfl ?_
                show Steps p.tables e below (T16.setTop (mkF m 408 #[iv p0, oJ q1, oS, iv p2, rv b1, iv l0, iv l1, iv l2, iv l3, iv l4, iv u0, iv u1, iv u2, iv u3, iv y1, iv y2, iv y3, iv y4, iv z2, iv z3, oU, oU, oU, oU, oU, oU, oU, oU, oU, oU, oU, oU, oU, oU] [(.int u1)])) _
                refine (fun t (k : Steps p.tables e below (T16.setTop (mkF m 421 #[iv p0, oJ q1, oS, iv p2, rv b1, iv l0, iv l1, iv l2, iv l3, iv l4, iv u0, iv u1, iv u2, iv u3, iv y1, iv y2, iv y3, iv y4, iv z2, iv z3, oU, oU, oU, oU, oU, oU, oU, oU, oU, oU, oU, oU, oU, oU] [(.int (if u1 = (0 : Int32) then (if u2 = (0 : Int32) then (0 : Int32) else (1 : Int32)) else (1 : Int32)))])) t) => (?_ : Steps p.tables e below _ t)) _ ?_
                · by_cases hc83 : u1 = (0 : Int32)
                  · simp only [if_pos hc83] at k
                    refine XS.ifNo X16.here hx rfl (hb hby at_408) rfl ((if0 _ _).trans (teq hc83).2) ?_
                    show Steps p.tables e below (T16.setTop (mkF m 411 #[iv p0, oJ q1, oS, iv p2, rv b1, iv l0, iv l1, iv l2, iv l3, iv l4, iv u0, iv u1, iv u2, iv u3, iv y1, iv y2, iv y3, iv y4, iv z2, iv z3, oU, oU, oU, oU, oU, oU, oU, oU, oU, oU, oU, oU, oU, oU] [])) _
                    refine XS.iload X16.here hx rfl (hb hby at_411) rfl ?_
                    show Steps p.tables e below (T16.setTop (mkF m 413 #[iv p0, oJ q1, oS, iv p2, rv b1, iv l0, iv l1, iv l2, iv l3, iv l4, iv u0, iv u1, iv u2, iv u3, iv y1, iv y2, iv y3, iv y4, iv z2, iv z3, oU, oU, oU, oU, oU, oU, oU, oU, oU, oU, oU, oU, oU, oU] [(.int u2)])) _
                    refine (fun t (k : Steps p.tables e below (T16.setTop (mkF m 421 #[iv p0, oJ q1, oS, iv p2, rv b1, iv l0, iv l1, iv l2, iv l3, iv l4, iv u0, iv u1, iv u2, iv u3, iv y1, iv y2, iv y3, iv y4, iv z2, iv z3, oU, oU, oU, oU, oU, oU, oU, oU, oU, oU, oU, oU, oU, oU] [(.int (if u2 = (0 : Int32) then (0 : Int32) else (1 : Int32)))])) t) => (?_ : Steps p.tables e below _ t)) _ ?_
                    · by_cases hc84 : u2 = (0 : Int32)
                      · simp only [if_pos hc84] at k
                        refine XS.ifYes X16.here hx rfl (pc0 := 413) (pc' := 420) rfl (hb hby at_413) rfl ((if0 _ _).trans (teq hc84).1) (by decide) (by decide) ?_
                        show Steps p.tables e below (T16.setTop (mkF m 420 #[iv p0, oJ q1, oS, iv p2, rv b1, iv l0, iv l1, iv l2, iv l3, iv l4, iv u0, iv u1, iv u2, iv u3, iv y1, iv y2, iv y3, iv y4, iv z2, iv z3, oU, oU, oU, oU, oU, oU, oU, oU, oU, oU, oU, oU, oU, oU] [])) _
                        refine XS.iconst X16.here hx rfl (hb hby at_420) ?_
                        show Steps p.tables e below (T16.setTop (mkF m 421 #[iv p0, oJ q1, oS, iv p2, rv b1, iv l0, iv l1, iv l2, iv l3, iv l4, iv u0, iv u1, iv u2, iv u3, iv y1, iv y2, iv y3, iv y4, iv z2, iv z3, oU, oU, oU, oU, oU, oU, oU, oU, oU, oU, oU, oU, oU, oU] [(.int (0 : Int32))])) _
                        exact k
                      · simp only [if_neg hc84] at k
                        refine XS.ifNo X16.here hx rfl (hb hby at_413) rfl ((if0 _ _).trans (feq hc84).1) ?_
                        show Steps p.tables e below (T16.setTop (mkF m 416 #[iv p0, oJ q1, oS, iv p2, rv b1, iv l0, iv l1, iv l2, iv l3, iv l4, iv u0, iv u1, iv u2, iv u3, iv y1, iv y2, iv y3, iv y4, iv z2, iv z3, oU, oU, oU, oU, oU, oU, oU, oU, oU, oU, oU, oU, oU, oU] [])) _
                        refine XS.iconst X16.here hx rfl (hb hby at_416) ?_
                        show Steps p.tables e below (T16.setTop (mkF m 417 #[iv p0, oJ q1, oS, iv p2, rv b1, iv l0, iv l1, iv l2, iv l3, iv l4, iv u0, iv u1, iv u2, iv u3, iv y1, iv y2, iv y3, iv y4, iv z2, iv z3, oU, oU, oU, oU, oU, oU, oU, oU, oU, oU, oU, oU, oU, oU] [(.int (1 : Int32))])) _
                        refine XS.goto X16.here hx rfl (pc0 := 417) (pc' := 421) rfl (hb hby at_417) (by decide) (by decide) ?_
                        show Steps p.tables e below (T16.setTop (mkF m 421 #[iv p0, oJ q1, oS, iv p2, rv b1, iv l0, iv l1, iv l2, iv l3, iv l4, iv u0, iv u1, iv u2, iv u3, iv y1, iv y2, iv y3, iv y4, iv z2, iv z3, oU, oU, oU, oU, oU, oU, oU, oU, oU, oU, oU, oU, oU, oU] [(.int (1 : Int32))])) _
                        exact k
                    show Steps p.tables e below (T16.setTop (mkF m 421 #[iv p0, oJ q1, oS, iv p2, rv b1, iv l0, iv l1, iv l2, iv l3, iv l4, iv u0, iv u1, iv u2, iv u3, iv y1, iv y2, iv y3, iv y4, iv z2, iv z3, oU, oU, oU, oU, oU, oU, oU, oU, oU, oU, oU, oU, oU, oU] [(.int (if u2 = (0 : Int32) then (0 : Int32) else (1 : Int32)))])) _
                    exact k
                  · simp only [if_neg hc83] at k
                    refine XS.ifYes X16.here hx rfl (pc0 := 408) (pc' := 416) rfl (hb hby at_408) rfl ((if0 _ _).trans (feq hc83).2) (by decide) (by decide) ?_
                    show Steps p.tables e below (T16.setTop (mkF m 416 #[iv p0, oJ q1, oS, iv p2, rv b1, iv l0, iv l1, iv l2, iv l3, iv l4, iv u0, iv u1, iv u2, iv u3, iv y1, iv y2, iv y3, iv y4, iv z2, iv z3, oU, oU, oU, oU, oU, oU, oU, oU, oU, oU, oU, oU, oU, oU] [])) _
                    refine XS.iconst X16.here hx rfl (hb hby at_416) ?_
                    show Steps p.tables e below (T16.setTop (mkF m 417 #[iv p0, oJ q1, oS, iv p2, rv b1, iv l0, iv l1, iv l2, iv l3, iv l4, iv u0, iv u1, iv u2, iv u3, iv y1, iv y2, iv y3, iv y4, iv z2, iv z3, oU, oU, oU, oU, oU, oU, oU, oU, oU, oU, oU, oU, oU, oU] [(.int (1 : Int32))])) _
                    refine XS.goto X16.here hx rfl (pc0 := 417) (pc' := 421) rfl (hb hby at_417) (by decide) (by decide) ?_
                    show Steps p.tables e below (T16.setTop (mkF m 421 #[iv p0, oJ q1, oS, iv p2, rv b1, iv l0, iv l1, iv l2, iv l3, iv l4, iv u0, iv u1, iv u2, iv u3, iv y1, iv y2, iv y3, iv y4, iv z2, iv z3, oU, oU, oU, oU, oU, oU, oU, oU, oU, oU, oU, oU, oU, oU] [(.int (1 : Int32))])) _
                    exact k
                show Steps p.tables e below (T16.setTop (mkF m 421 #[iv p0, oJ q1, oS, iv p2, rv b1, iv l0, iv l1, iv l2, iv l3, iv l4, iv u0, iv u1, iv u2, iv u3, iv y1, iv y2, iv y3, iv y4, iv z2, iv z3, oU, oU, oU, oU, oU, oU, oU, oU, oU, oU, oU, oU, oU, oU] [(.int (if u1 = (0 : Int32) then (if u2 = (0 : Int32) then (0 : Int32) else (1 : Int32)) else (1 : Int32)))])) _
                exact k
              · simp only [if_neg hc82] at k
                refine XS.ifYes X16.here hx rfl (pc0 := 403) (pc' := 416) rfl (hb hby at_403) rfl ((if0 _ _).trans (feq hc82).2) (by decide) (by decide) ?_
                show Steps p.tables e below (T16.setTop (mkF m 416 #[iv p0, oJ q1, oS, iv p2, rv b1, iv l0, iv l1, iv l2, iv l3, iv l4, iv u0, iv u1, iv u2, iv u3, iv y1, iv y2, iv y3, iv y4, iv z2, iv z3, oU, oU, oU, oU, oU, oU, oU, oU, oU, oU, oU, oU, oU, oU] [])) _
                refine XS.iconst X16.here hx rfl (hb hby at_416) ?_
                show Steps p.tables e below (T16.setTop (mkF m 417 #[iv p0, oJ q1, oS, iv p2, rv b1, iv l0, iv l1, iv l2, iv l3, iv l4, iv u0, iv u1, iv u2, iv u3, iv y1, iv y2, iv y3, iv y4, iv z2, iv z3, oU, oU, oU, oU, oU, oU, oU, oU, oU, oU, oU, oU, oU, oU] [(.int (1 : Int32))])) _
                refine XS.goto X16.here hx rfl (pc0 := 417) (pc' := 421) rfl (hb hby at_417) (by decide) (by decide) ?_
                show Steps p.tables e below (T16.setTop (mkF m 421 #[iv p0, oJ q1, oS, iv p2, rv b1, iv l0, iv l1, iv l2, iv l3, iv l4, iv u0, iv u1, iv u2, iv u3, iv y1, iv y2, iv y3, iv y4, iv z2, iv z3, oU, oU, oU, oU, oU, oU, oU, oU, oU, oU, oU, oU, oU, oU] [(.int (1 : Int32))])) _
                exact k
            show Steps p.tables e below (T16.setTop (mkF m 421 #[iv p0, oJ q1, oS, iv p2, rv b1, iv l0, iv l1, iv l2, iv l3, iv l4, iv u0, iv u1, iv u2, iv u3, iv y1, iv y2, iv y3, iv y4, iv z2, iv z3, oU, oU, oU, oU, oU, oU, oU, oU, oU, oU, oU, oU, oU, oU] [(.int (if u0 = (0 : Int32) then (if u1 = (0 : Int32) then (if u2 = (0 : Int32) then (0 : Int32) else (1 : Int32)) else (1 : Int32)) else (1 : Int32)))])) _
            exact k
        show Steps p.tables e below (T16.setTop (mkF m 421 #[iv p0, oJ q1, oS, iv p2, rv b1, iv l0, iv l1, iv l2, iv l3, iv l4, iv u0, iv u1, iv u2, iv u3, iv y1, iv y2, iv y3, iv y4, iv z2, iv z3, oU, oU, oU, oU, oU, oU, oU, oU, oU, oU, oU, oU, oU, oU] [(.int (if l3 = (0 : Int32) then (0 : Int32) else (if u0 = (0 : Int32) then (if u1 = (0 : Int32) then (if u2 = (0 : Int32) then (0 : Int32) else (1 : Int32)) else (1 : Int32)) else (1 : Int32))))])) _
        exact k
      · simp only [if_neg hc80] at k
        refine XS.ifYes X16.here hx rfl (pc0 := 393) (pc' := 416) rfl (hb hby at_393) rfl ((if0 _ _).trans (feq hc80).2) (by decide) (by decide) ?_
        show Steps p.tables e below (T16.setTop (mkF m 416 #[iv p0, oJ q1, oS, iv p2, rv b1, iv l0, iv l1, iv l2, iv l3, iv l4, iv u0, iv u1, iv u2, iv u3, iv y1, iv y2, iv y3, iv y4, iv z2, iv z3, oU, oU, oU, oU, oU, oU, oU, oU, oU, oU, oU, oU, oU, oU] [])) _
        refine XS.iconst X16.here hx rfl (hb hby at_416) ?_
        show Steps p.tables e below (T16.setTop (mkF m 417 #[iv p0, oJ q1, oS, iv p2, rv b1, iv l0, iv l1, iv l2, iv l3, iv l4, iv u0, iv u1, iv u2, iv u3, iv y1, iv y2, iv y3, iv y4, iv z2, iv z3, oU, oU, oU, oU, oU, oU, oU, oU, oU, oU, oU, oU, oU, oU] [(.int (1 : Int32))])) _
        refine XS.goto X16.here hx rfl (pc0 := 417) (pc' := 421) rfl (hb hby at_417) (by decide) (by decide) ?_
        show Steps p.tables e below (T16.setTop (mkF m 421 #[iv p0, oJ q1, oS, iv p2, rv b1, iv l0, iv l1, iv l2, iv l3, iv l4, iv u0, iv u1, iv u2, iv u3, iv y1, iv y2, iv y3, iv y4, iv z2, iv z3, oU, oU, oU, oU, oU, oU, oU, oU, oU, oU, oU, oU, oU, oU] [(.int (1 : Int32))])) _
        exact k
    show Steps p.tables e below (T16.setTop (mkF m 421 #[iv p0, oJ q1, oS, iv p2, rv b1, iv l0, iv l1, iv l2, iv l3, iv l4, iv u0, iv u1, iv u2, iv u3, iv y1, iv y2, iv y3, iv y4, iv z2, iv z3, oU, oU, oU, oU, oU, oU, oU, oU, oU, oU, oU, oU, oU, oU] [(.int (if z3 = (0 : Int32) then (if l3 = (0 : Int32) then (0 : Int32) else (if u0 = (0 : Int32) then (if u1 = (0 : Int32) then (if u2 = (0 : Int32) then (0 : Int32) else (1 : Int32)) else (1 : Int32)) else (1 : Int32))) else (1 : Int32)))])) _
    refine XS.istore X16.here hx rfl (hb hby at_421) rfl (l' := #[iv p0, oJ q1, oS, iv p2, rv b1, iv l0, iv l1, iv l2, iv l3, iv l4, iv u0, iv u1, iv u2, iv u3, iv y1, iv y2, iv y3, iv y4, iv z2, iv z3, iv (if z3 = (0 : Int32) then (if l3 = (0 : Int32) then (0 : Int32) else (if u0 = (0 : Int32) then (if u1 = (0 : Int32) then (if u2 = (0 : Int32) then (0 : Int32) else (1 : Int32)) else (1 : Int32)) else (1 : Int32))) else (1 : Int32)), oU, oU, oU, oU, oU, oU, oU, oU, oU, oU, oU, oU, oU]) rfl ?_
    show Steps p.tables e below (T16.setTop (mkF m 423 #[iv p0, oJ q1, oS, iv p2, rv b1, iv l0, iv l1, iv l2, iv l3, iv l4, iv u0, iv u1, iv u2, iv u3, iv y1, iv y2, iv y3, iv y4, iv z2, iv z3, iv (if z3 = (0 : Int32) then (if l3 = (0 : Int32) then (0 : Int32) else (if u0 = (0 : Int32) then (if u1 = (0 : Int32) then (if u2 = (0 : Int32) then (0 : Int32) else (1 : Int32)) else (1 : Int32)) else (1 : Int32))) else (1 : Int32)), oU, oU, oU, oU, oU, oU, oU, oU, oU, oU, oU, oU, oU] [])) _
    exact k
  generalize hz4 : (if z3 = (0 : Int32) then (if l3 = (0 : Int32) then (0 : Int32) else (if u0 = (0 : Int32) then (if u1 = (0 : Int32) then (if u2 = (0 : Int32) then (0 : Int32) else (1 : Int32)) else (1 : Int32)) else (1 : Int32))) else (1 : Int32)) = z4
  show own_Go p e below _ (T16.setTop (mkF m 423 #[iv p0, oJ q1, oS, iv p2, rv b1, iv l0, iv l1, iv l2, iv l3, iv l4, iv u0, iv u1, iv u2, iv u3, iv y1, iv y2, iv y3, iv y4, iv z2, iv z3, iv z4, oU, oU, oU, oU, oU, oU, oU, oU, oU, oU, oU, oU, oU] []))
  refine own_by (B := T16.setTop (mkF m 466 #[iv p0, oJ q1, oS, iv p2, rv b1, iv l0, iv l1, iv l2, iv l3, iv l4, iv u0, iv u1, iv u2, iv u3, iv y1, iv y2, iv y3, iv y4, iv z2, iv z3, iv z4, iv (0 : Int32), iv (0 : Int32), iv (if l2 = (0 : Int32) then (0 : Int32) else (if y2 = (0 : Int32) then (0 : Int32) else (if z2 = (0 : Int32) then (0 : Int32) else (1 : Int32)))), oU, oU, oU, oU, oU, oU, oU, oU, oU, oU] [])) (fun t k => ?_) ?_
  · show Steps p.tables e below (T16.setTop (mkF m 423 #[iv p0, oJ q1, oS, iv p2, rv b1, iv l0, iv l1, iv l2, iv l3, iv l4, iv u0, iv u1, iv u2, iv u3, iv y1, iv y2, iv y3, iv y4, iv z2, iv z3, iv z4, oU, oU, oU, oU, oU, oU, oU, oU, oU, oU, oU, oU, oU] [])) _
    refine XS.iload X16.here hx rfl (hb hby at_423) rfl ?_
    show Steps p.tables e below (T16.setTop (mkF m 425 #[iv p0, oJ q1, oS, iv p2, rv b1, iv l0, iv l1, iv l2, iv l3, iv l4, iv u0, iv u1, iv u2, iv u3, iv y1, iv y2, iv y3, iv y4, iv z2, iv z3, iv z4, oU, oU, oU, oU, oU, oU, oU, oU, oU, oU, oU, oU, oU] [(.int l0)])) _
    refine (fun t (k : Steps p.tables e below (T16.setTop (mkF m 428 #[iv p0, oJ q1, oS, iv p2, rv b1, iv l0, iv l1, iv l2, iv l3, iv l4, iv u0, iv u1, iv u2, iv u3, iv y1, iv y2, iv y3, iv y4, iv z2, iv z3, iv z4, oU, oU, oU, oU, oU, oU, oU, oU, oU, oU, oU, oU, oU] [])) t) => (?_ : Steps p.tables e below _ t)) _ ?_
    · by_cases hc85 : l0 = (0 : Int32)
      · refine XS.ifYes X16.here hx rfl (pc0 := 425) (pc' := 428) rfl (hb hby at_425) rfl ((if0 _ _).trans (teq hc85).1) (by decide) (by decide) ?_
        show Steps p.tables e below (T16.setTop (mkF m 428 #[iv p0, oJ q1, oS, iv p2, rv b1, iv l0, iv l1, iv l2, iv l3, iv l4, iv u0, iv u1, iv u2, iv u3, iv y1, iv y2, iv y3, iv y4, iv z2, iv z3, iv z4, oU, oU, oU, oU, oU, oU, oU, oU, oU, oU, oU, oU, oU] [])) _
        exact k
      · refine XS.ifNo X16.here hx rfl (hb hby at_425) rfl ((if0 _ _).trans (feq hc85).1) ?_
        show Steps p.tables e below (T16.setTop (mkF m 428 #[iv p0, oJ q1, oS, iv p2, rv b1, iv l0, iv l1, iv l2, iv l3, iv l4, iv u0, iv u1, iv u2, iv u3, iv y1, iv y2, iv y3, iv y4, iv z2, iv z3, iv z4, oU, oU, oU, oU, oU, oU, oU, oU, oU, oU, oU, oU, oU] [])) _
        exact k
    show Steps p.tables e below (T16.setTop (mkF m 428 #[iv p0, oJ q1, oS, iv p2, rv b1, iv l0, iv l1, iv l2, iv l3, iv l4, iv u0, iv u1, iv u2, iv u3, iv y1, iv y2, iv y3, iv y4, iv z2, iv z3, iv z4, oU, oU, oU, oU, oU, oU, oU, oU, oU, oU, oU, oU, oU] [])) _
    refine XS.iconst X16.here hx rfl (hb hby at_428) ?_
    show Steps p.tables e below (T16.setTop (mkF m 429 #[iv p0, oJ q1, oS, iv p2, rv b1, iv l0, iv l1, iv l2, iv l3, iv l4, iv u0, iv u1, iv u2, iv u3, iv y1, iv y2, iv y3, iv y4, iv z2, iv z3, iv z4, oU, oU, oU, oU, oU, oU, oU, oU, oU, oU, oU, oU, oU] [(.int (0 : Int32))])) _
    refine XS.istore X16.here hx rfl (hb hby at_429) rfl (l' := #[iv p0, oJ q1, oS, iv p2, rv b1, iv l0, iv l1, iv l2, iv l3, iv l4, iv u0, iv u1, iv u2, iv u3, iv y1, iv y2, iv y3, iv y4, iv z2, iv z3, iv z4, iv (0 : Int32), oU, oU, oU, oU, oU, oU, oU, oU, oU, oU, oU, oU]) rfl ?_
    show Steps p.tables e below (T16.setTop (mkF m 431 #[iv p0, oJ q1, oS, iv p2, rv b1, iv l0, iv l1, iv l2, iv l3, iv l4, iv u0, iv u1, iv u2, iv u3, iv y1, iv y2, iv y3, iv y4, iv z2, iv z3, iv z4, iv (0 : Int32), oU, oU, oU, oU, oU, oU, oU, oU, oU, oU, oU, oU] [])) _
    refine XS.iload X16.here hx rfl (hb hby at_431) rfl ?_
    show Steps p.tables e below (T16.setTop (mkF m 433 #[iv p0, oJ q1, oS, iv p2, rv b1, iv l0, iv l1, iv l2, iv l3, iv l4, iv u0, iv u1, iv u2, iv u3, iv y1, iv y2, iv y3, iv y4, iv z2, iv z3, iv z4, iv (0 : Int32), oU, oU, oU, oU, oU, oU, oU, oU, oU, oU, oU, oU] [(.int l1)])) _
    refine (fun t (k : Steps p.tables e below (T16.setTop (mkF m 441 #[iv p0, oJ q1, oS, iv p2, rv b1, iv l0, iv l1, iv l2, iv l3, iv l4, iv u0, iv u1, iv u2, iv u3, iv y1, iv y2, iv y3, iv y4, iv z2, iv z3, iv z4, iv (0 : Int32), oU, oU, oU, oU, oU, oU, oU, oU, oU, oU, oU, oU] [])) t) => (?_ : Steps p.tables e below _ t)) _ ?_
    · by_cases hc86 : l1 = (0 : Int32)
      · refine XS.ifYes X16.here hx rfl (pc0 := 433) (pc' := 441) rfl (hb hby at_433) rfl ((if0 _ _).trans (teq hc86).1) (by decide) (by decide) ?_
        show Steps p.tables e below (T16.setTop (mkF m 441 #[iv p0, oJ q1, oS, iv p2, rv b1, iv l0, iv l1, iv l2, iv l3, iv l4, iv u0, iv u1, iv u2, iv u3, iv y1, iv y2, iv y3, iv y4, iv z2, iv z3, iv z4, iv (0 : Int32), oU, oU, oU, oU, oU, oU, oU, oU, oU, oU, oU, oU] [])) _
        exact k
      · refine XS.ifNo X16.here hx rfl (hb hby at_433) rfl ((if0 _ _).trans (feq hc86).1) ?_
        show Steps p.tables e below (T16.setTop (mkF m 436 #[iv p0, oJ q1, oS, iv p2, rv b1, iv l0, iv l1, iv l2, iv l3, iv l4, iv u0, iv u1, iv u2, iv u3, iv y1, iv y2, iv y3, iv y4, iv z2, iv z3, iv z4, iv (0 : Int32), oU, oU, oU, oU, oU, oU, oU, oU, oU, oU, oU, oU] [])) _
        refine XS.iload X16.here hx rfl (hb hby at_436) rfl ?_
        show Steps p.tables e below (T16.setTop (mkF m 438 #[iv p0, oJ q1, oS, iv p2, rv b1, iv l0, iv l1, iv l2, iv l3, iv l4, iv u0, iv u1, iv u2, iv u3, iv y1, iv y2, iv y3, iv y4, iv z2, iv z3, iv z4, iv (0 : Int32), oU, oU, oU, oU, oU, oU, oU, oU, oU, oU, oU, oU] [(.int y1)])) _
        refine (fun t (k : Steps p.tables e below (T16.setTop (mkF m 441 #[iv p0, oJ q1, oS, iv p2, rv b1, iv l0, iv l1, iv l2, iv l3, iv l4, iv u0, iv u1, iv u2, iv u3, iv y1, iv y2, iv y3, iv y4, iv z2, iv z3, iv z4, iv (0 : Int32), oU, oU, oU, oU, oU, oU, oU, oU, oU, oU, oU, oU] [])) t) => (?_ : Steps p.tables e below _ t)) _ ?_
        · by_cases hc87 : y1 = (0 : Int32)
          · refine XS.ifYes X16.here hx rfl (pc0 := 438) (pc' := 441) rfl (hb hby at_438) rfl ((if0 _ _).trans (teq hc87).1) (by decide) (by decide) ?_
            show Steps p.tables e below (T16.setTop (mkF m 441 #[iv p0, oJ q1, oS, iv p2, rv b1, iv l0, iv l1, iv l2, iv l3, iv l4, iv u0, iv u1, iv u2, iv u3, iv y1, iv y2, iv y3, iv y4, iv z2, iv z3, iv z4, iv (0 : Int32), oU, oU, oU, oU, oU, oU, oU, oU, oU, oU, oU, oU] [])) _
            exact k
          · refine XS.ifNo X16.here hx rfl (hb hby at_438) rfl ((if0 _ _).trans (feq hc87).1) ?_
            show Steps p.tables e below (T16.setTop (mkF m 441 #[iv p0, oJ q1, oS, iv p2, rv b1, iv l0, iv l1, iv l2, iv l3, iv l4, iv u0, iv u1, iv u2, iv u3, iv y1, iv y2, iv y3, iv y4, iv z2, iv z3, iv z4, iv (0 : Int32), oU, oU, oU, oU, oU, oU, oU, oU, oU, oU, oU, oU] [])) _
            exact k
        show Steps p.tables e below (T16.setTop (mkF m 441 #[iv p0, oJ q1, oS, iv p2, rv b1, iv l0, iv l1, iv l2, iv l3, iv l4, iv u0, iv u1, iv u2, iv u3, iv y1, iv y2, iv y3, iv y4, iv z2, iv z3, iv z4, iv (0 : Int32), oU, oU, oU, oU, oU, oU, oU, oU, oU, oU, oU, oU] [])) _
        exact k
    show Steps p.tables e below (T16.setTop (mkF m 441 #[iv p0, oJ q1, oS, iv p2, rv b1, iv l0, iv l1, iv l2, iv l3, iv l4, iv u0, iv u1, iv u2, iv u3, iv y1, iv y2, iv y3, iv y4, iv z2, iv z3, iv z4, iv (0 : Int32), oU, oU, oU, oU, oU, oU, oU, oU, oU, oU, oU, oU] [])) _
    refine XS.iconst X16.here hx rfl (hb hby at_441) ?_
    show Steps p.tables e below (T16.setTop (mkF m 442 #[iv p0, oJ q1, oS, iv p2, rv b1, iv l0, iv l1, iv l2, iv l3, iv l4, iv u0, iv u1, iv u2, iv u3, iv y1, iv y2, iv y3, iv y4, iv z2, iv z3, iv z4, iv (0 : Int32), oU, oU, oU, oU, oU, oU, oU, oU, oU, oU, oU, oU] [(.int (0 : Int32))])) _
    refine XS.istore X16.here hx rfl (hb hby at_442) rfl (l' := #[iv p0, oJ q1, oS, iv p2, rv b1, iv l0, iv l1, iv l2, iv l3, iv l4, iv u0, iv u1, iv u2, iv u3, iv y1, iv y2, iv y3, iv y4, iv z2, iv z3, iv z4, iv (0 : Int32), iv (0 : Int32), oU, oU, oU, oU, oU, oU, oU, oU, oU, oU, oU]) rfl ?_
    show Steps p.tables e below (T16.setTop (mkF m 444 #[iv p0, oJ q1, oS, iv p2, rv b1, iv l0, iv l1, iv l2, iv l3, iv l4, iv u0, iv u1, iv u2, iv u3, iv y1, iv y2, iv y3, iv y4, iv z2, iv z3, iv z4, iv (0 : Int32), iv (0 : Int32), oU, oU, oU, oU, oU, oU, oU, oU, oU, oU, oU] [])) _
    refine XS.iload X16.here hx rfl (hb hby at_444) rfl ?_
    show Steps p.tables e below (T16.setTop (mkF m 446 #[iv p0, oJ q1, oS, iv p2, rv b1, iv l0, iv l1, iv l2, iv l3, iv l4, iv u0, iv u1, iv u2, iv u3, iv y1, iv y2, iv y3, iv y4, iv z2, iv z3, iv z4, iv (0 : Int32), iv (0 : Int32), oU, oU, oU, oU, oU, oU, oU, oU, oU, oU, oU] [(.int l2)])) _
    refine (fun t (k : Steps p.tables e below (T16.setTop (mkF m 464 #[iv p0, oJ q1, oS, iv p2, rv b1, iv l0, iv l1, iv l2, iv l3, iv l4, iv u0, iv u1, iv u2, iv u3, iv y1, iv y2, iv y3, iv y4, iv z2, iv z3, iv z4, iv (0 : Int32), iv (0 : Int32), oU, oU, oU, oU, oU, oU, oU, oU, oU, oU, oU] [(.int (if l2 = (0 : Int32) then (0 : Int32) else (if y2 = (0 : Int32) then (0 : Int32) else (if z2 = (0 : Int32) then (0 : Int32) else (1 : Int32)))))])) t) => (?_ : Steps p.tables e below _ t)) _ ?_
    · by_cases hc88 : l2 = (0 : Int32)
      · simp only [if_pos hc88] at k
        refine XS.ifYes X16.here hx rfl (pc0 := 446) (pc' := 463) rfl (hb hby at_446) rfl ((if0 _ _).trans (teq hc88).1) (by decide) (by decide) ?_
        show Steps p.tables e below (T16.setTop (mkF m 463 #[iv p0, oJ q1, oS, iv p2, rv b1, iv l0, iv l1, iv l2, iv l3, iv l4, iv u0, iv u1, iv u2, iv u3, iv y1, iv y2, iv y3, iv y4, iv z2, iv z3, iv z4, iv (0 : Int32), iv (0 : Int32), oU, oU, oU, oU, oU, oU, oU, oU, oU, oU, oU] [])) _
        refine XS.iconst X16.here hx rfl (hb hby at_463) ?_
        show Steps p.tables e below (T16.setTop (mkF m 464 #[iv p0, oJ q1, oS, iv p2, rv b1, iv l0, iv l1, iv l2, iv l3, iv l4, iv u0, iv u1, iv u2, iv u3, iv y1, iv y2, iv y3, iv y4, iv z2, iv z3, iv z4, iv (0 : Int32), iv (0 : Int32), oU, oU, oU, oU, oU, oU, oU, oU, oU, oU, oU] [(.int (0 : Int32))])) _
        exact k
      · simp only [if_neg hc88] at k
        refine XS.ifNo X16.here hx rfl (hb hby at_446) rfl ((if0 _ _).trans (feq hc88).1) ?_
        show Steps p.tables e below (T16.setTop (mkF m 449 #[iv p0, oJ q1, oS, iv p2, rv b1, iv l0, iv l1, iv l2, iv l3, iv l4, iv u0, iv u1, iv u2, iv u3, iv y1, iv y2, iv y3, iv y4, iv z2, iv z3, iv z4, iv (0 : Int32), iv (0 : Int32), oU, oU, oU, oU, oU, oU, oU, oU, oU, oU, oU] [])) _
        refine XS.iload X16.here hx rfl (hb hby at_449) rfl ?_
        show Steps p.tables e below (T16.setTop (mkF m 451 #[iv p0, oJ q1, oS, iv p2, rv b1, iv l0, iv l1, iv l2, iv l3, iv l4, iv u0, iv u1, iv u2, iv u3, iv y1, iv y2, iv y3, iv y4, iv z2, iv z3, iv z4, iv (0 : Int32), iv (0 : Int32), oU, oU, oU, oU, oU, oU, oU, oU, oU, oU, oU] [(.int y2)])) _
        refine (fun t (k : Steps p.tables e below (T16.setTop (mkF m 464 #[iv p0, oJ q1, oS, iv p2, rv b1, iv l0, iv l1, iv l2, iv l3, iv l4, iv u0, iv u1, iv u2, iv u3, iv y1, iv y2, iv y3, iv y4, iv z2, iv z3, iv z4, iv (0 : Int32), iv (0 : Int32), oU, oU, oU, oU, oU, oU, oU, oU, oU, oU, oU] [(.int (if y2 = (0 : Int32) then (0 : Int32) else (if z2 = (0 : Int32) then (0 : Int32) else (1 : Int32))))])) t) => (?_ : Steps p.tables e below _ t)) _ ?_
        · by_cases hc89 : y2 = (0 : Int32)
          · simp only [if_pos hc89] at k
            refine XS.ifYes X16.here hx rfl (pc0 := 451) (pc' := 463) rfl (hb hby at_451) rfl ((if0 _ _).trans (teq hc89).1) (by decide) (by decide) ?_
            show Steps p.tables e below (T16.setTop (mkF m 463 #[iv p0, oJ q1, oS, iv p2, rv b1, iv l0, iv l1, iv l2, iv l3, iv l4, iv u0, iv u1, iv u2, iv u3, iv y1, iv y2, iv y3, iv y4, iv z2, iv z3, iv z4, iv (0 : Int32), iv (0 : Int32), oU, oU, oU, oU, oU, oU, oU, oU, oU, oU, oU] [])) _
            refine XS.iconst X16.here hx rfl (hb hby at_463) ?_
            show Steps p.tables e below (T16.setTop (mkF m 464 #[iv p0, oJ q1, oS, iv p2, rv b1, iv l0, iv l1, iv l2, iv l3, iv l4, iv u0, iv u1, iv u2, iv u3, iv y1, iv y2, iv y3, iv y4, iv z2, iv z3, iv z4, iv (0 : Int32), iv (0 : Int32), oU, oU, oU, oU, oU, oU, oU, oU, oU, oU, oU] [(.int (0 : Int32))])) _
            exact k
          · simp only [if_neg hc89] at k
            refine XS.ifNo X16.here hx rfl (hb hby at_451) rfl ((if0 _ _).trans (feq hc89).1) ?_
            show Steps p.tables e below (T16.setTop (mkF m 454 #[iv p0, oJ q1, oS, iv p2, rv b1, iv l0, iv l1, iv l2, iv l3, iv l4, iv u0, iv u1, iv u2, iv u3, iv y1, iv y2, iv y3, iv y4, iv z2, iv z3, iv z4, iv (0 : Int32), iv (0 : Int32), oU, oU, oU, oU, oU, oU, oU, oU, oU, oU, oU] [])) _
            refine XS.iload X16.here hx rfl (hb hby at_454) rfl ?_
            show Steps p.tables e below (T16.setTop (mkF m 456 #[iv p0, oJ q1, oS, iv p2, rv b1, iv l0, iv l1, iv l2, iv l3, iv l4, iv u0, iv u1, iv u2, iv u3, iv y1, iv y2, iv y3, iv y4, iv z2, iv z3, iv z4, iv (0 : Int32), iv (0 : Int32), oU, oU, oU, oU, oU, oU, oU, oU, oU, oU, oU] [(.int z2)])) _
            refine (fun t (k : Steps p.tables e below (T16.setTop (mkF m 464 #[iv p0, oJ q1, oS, iv p2, rv b1, iv l0, iv l1, iv l2, iv l3, iv l4, iv u0, iv u1, iv u2, iv u3, iv y1, iv y2, iv y3, iv y4, iv z2, iv z3, iv z4, iv (0 : Int32), iv (0 : Int32), oU, oU, oU, oU, oU, oU, oU, oU, oU, oU, oU] [(.int (if z2 = (0 : Int32) then (0 : Int32) else (1 : Int32)))])) t) => (?_ : Steps p.tables e below _ t)) _ ?_
            · by_cases hc90 : z2 = (0 : Int32)
              · simp only [if_pos hc90] at k
                refine XS.ifYes X16.here hx rfl (pc0 := 456) (pc' := 463) rfl (hb hby at_456) rfl ((if0 _ _).trans (teq hc90).1) (by decide) (by decide) ?_
                show Steps p.tables e below (T16.setTop (mkF m 463 #[iv p0, oJ q1, oS, iv p2, rv b1, iv l0, iv l1, iv l2, iv l3, iv l4, iv u0, iv u1, iv u2, iv u3, iv y1, iv y2, iv y3, iv y4, iv z2, iv z3, iv z4, iv (0 : Int32), iv (0 : Int32), oU, oU, oU, oU, oU, oU, oU, oU, oU, oU, oU] [])) _
                refine XS.iconst X16.here hx rfl (hb hby at_463) ?_
                show Steps p.tables e below (T16.setTop (mkF m 464 #[iv p0, oJ q1, oS, iv p2, rv b1, iv l0, iv l1, iv l2, iv l3, iv l4, iv u0, iv u1, iv u2, iv u3, iv y1, iv y2, iv y3, iv y4, iv z2, iv z3, iv z4, iv (0 : Int32), iv (0 : Int32), oU, oU, oU, oU, oU, oU, oU, oU, oU, oU, oU] [(.int (0 : Int32))])) _
                exact k
              · simp only [if_neg hc90] at k
                refine XS.ifNo X16.here hx rfl (hb hby at_456) rfl ((if0 _ _).trans (feq hc90).1) ?_
                show Steps p.tables e below (T16.setTop (mkF m 459 #[iv p0, oJ q1, oS, iv p2, rv b1, iv l0, iv l1, iv l2, iv l3, iv l4, iv u0, iv u1, iv u2, iv u3, iv y1, iv y2, iv y3, iv y4, iv z2, iv z3, iv z4, iv (0 : Int32), iv (0 : Int32), oU, oU, oU, oU, oU, oU, oU, oU, oU, oU, oU] [])) _
                refine XS.iconst X16.here hx rfl (hb hby at_459) ?_
                show Steps p.tables e below (T16.setTop (mkF m 460 #[iv p0, oJ q1, oS, iv p2, rv b1, iv l0, iv l1, iv l2, iv l3, iv l4, iv u0, iv u1, iv u2, iv u3, iv y1, iv y2, iv y3, iv y4, iv z2, iv z3, iv z4, iv (0 : Int32), iv (0 : Int32), oU, oU, oU, oU, oU, oU, oU, oU, oU, oU, oU] [(.int (1 : Int32))])) _
                refine XS.goto X16.here hx rfl (pc0 := 460) (pc' := 464) rfl (hb hby at_460) (by decide) (by decide) ?_
                show Steps p.tables e below (T16.setTop (mkF m 464 #[iv p0, oJ q1, oS, iv p2, rv b1, iv l0, iv l1, iv l2, iv l3, iv l4, iv u0, iv u1, iv u2, iv u3, iv y1, iv y2, iv y3, iv y4, iv z2, iv z3, iv z4, iv (0 : Int32), iv (0 : Int32), oU, oU, oU, oU, oU, oU, oU, oU, oU, oU, oU] [(.int (1 : Int32))])) _
                exact k
            show Steps p.tables e below (T16.setTop (mkF m 464 #[iv p0, oJ q1, oS, iv p2, rv b1, iv l0, iv l1, iv l2, iv l3, iv l4, iv u0, iv u1, iv u2, iv u3, iv y1, iv y2, iv y3, iv y4, iv z2, iv z3, iv z4, iv (0 : Int32), iv (0 : Int32), oU, oU, oU, oU, oU, oU, oU, oU, oU, oU, oU] [(.int (if z2 = (0 : Int32) then (0 : Int32) else (1 : Int32)))])) _
            exact k
        show Steps p.tables e below (T16.setTop (mkF m 464 #[iv p0, oJ q1, oS, iv p2, rv b1, iv l0, iv l1, iv l2, iv l3, iv l4, iv u0, iv u1, iv u2, iv u3, iv y1, iv y2, iv y3, iv y4, iv z2, iv z3, iv z4, iv (0 : Int32), iv (0 : Int32), oU, oU, oU, oU, oU, oU, oU, oU, oU, oU, oU] [(.int (if y2 = (0 : Int32) then (0 : Int32) else (if z2 = (0 : Int32) then (0 : Int32) else (1 : Int32))))])) _
        exact k
    show Steps p.tables e below (T16.setTop (mkF m 464 #[iv p0, oJ q1, oS, iv p2, rv b1, iv l0, iv l1, iv l2, iv l3, iv l4, iv u0, iv u1, iv u2, iv u3, iv y1, iv y2, iv y3, iv y4, iv z2, iv z3, iv z4, iv (0 : Int32), iv (0 : Int32), oU, oU, oU, oU, oU, oU, oU, oU, oU, oU, oU] [(.int (if l2 = (0 : Int32) then (0 : Int32) else (if y2 = (0 : Int32) then (0 : Int32) else (if z2 = (0 : Int32) then (0 : Int32) else (1 : Int32)))))])) _
    refine XS.istore X16.here hx rfl (hb hby at_464) rfl (l' := #[iv p0, oJ q1, oS, iv p2, rv b1, iv l0, iv l1, iv l2, iv l3, iv l4, iv u0, iv u1, iv u2, iv u3, iv y1, iv y2, iv y3, iv y4, iv z2, iv z3, iv z4, iv (0 : Int32), iv (0 : Int32), iv (if l2 = (0 : Int32) then (0 : Int32) else (if y2 = (0 : Int32) then (0 : Int32) else (if z2 = (0 : Int32) then (0 : Int32) else (1 : Int32)))), oU, oU, oU, oU, oU, oU, oU, oU, oU, oU]) rfl ?_
    show Steps p.tables e below (T16.setTop (mkF m 466 #[iv p0, oJ q1, oS, iv p2, rv b1, iv l0, iv l1, iv l2, iv l3, iv l4, iv u0, iv u1, iv u2, iv u3, iv y1, iv y2, iv y3, iv y4, iv z2, iv z3, iv z4, iv (0 : Int32), iv (0 : Int32), iv (if l2 = (0 : Int32) then (0 : Int32) else (if y2 = (0 : Int32) then (0 : Int32) else (if z2 = (0 : Int32) then (0 : Int32) else (1 : Int32)))), oU, oU, oU, oU, oU, oU, oU, oU, oU, oU] [])) _
    exact k
  generalize hc2 : (if l2 = (0 : Int32) then (0 : Int32) else (if y2 = (0 : Int32) then (0 : Int32) else (if z2 = (0 : Int32) then (0 : Int32) else (1 : Int32)))) = c2
  show own_Go p e below _ (T16.setTop (mkF m 466 #[iv p0, oJ q1, oS, iv p2, rv b1, iv l0, iv l1, iv l2, iv l3, iv l4, iv u0, iv u1, iv u2, iv u3, iv y1, iv y2, iv y3, iv y4, iv z2, iv z3, iv z4, iv (0 : Int32), iv (0 : Int32), iv c2, oU, oU, oU, oU, oU, oU, oU, oU, oU, oU] []))
  refine own_by (B := T16.setTop (mkF m 488 #[iv p0, oJ q1, oS, iv p2, rv b1, iv l0, iv l1, iv l2, iv l3, iv l4, iv u0, iv u1, iv u2, iv u3, iv y1, iv y2, iv y3, iv y4, iv z2, iv z3, iv z4, iv (0 : Int32), iv (0 : Int32), iv c2, iv (if l3 = (0 : Int32) then (0 : Int32) else (if y3 = (0 : Int32) then (0 : Int32) else (if z3 = (0 : Int32) then (0 : Int32) else (1 : Int32)))), oU, oU, oU, oU, oU, oU, oU, oU, oU] [])) (fun t k => ?_) ?_
  · show Steps p.tables e below (T16.setTop (mkF m 466 #[iv p0, oJ q1, oS, iv p2, rv b1, iv l0, iv l1, iv l2, iv l3, iv l4, iv u0, iv u1, iv u2, iv u3, iv y1, iv y2, iv y3, iv y4, iv z2, iv z3, iv z4, iv (0 : Int32), iv (0 : Int32), iv c2, oU, oU, oU, oU, oU, oU, oU, oU, oU, oU] [])) _
    refine XS.iload X16.here hx rfl (hb hby at_466) rfl ?_
    show Steps p.tables e below (T16.setTop (mkF m 468 #[iv p0, oJ q1, oS, iv p2, rv b1, iv l0, iv l1, iv l2, iv l3, iv l4, iv u0, iv u1, iv u2, iv u3, iv y1, iv y2, iv y3, iv y4, iv z2, iv z3, iv z4, iv (0 : Int32), iv (0 : Int32), iv c2, oU, oU, oU, oU, oU, oU, oU, oU, oU, oU] [(.int l3)])) _
    refine (fun t (k : Steps p.tables e below (T16.setTop (mkF m 486 #[iv p0, oJ q1, oS, iv p2, rv b1, iv l0, iv l1, iv l2, iv l3, iv l4, iv u0, iv u1, iv u2, iv u3, iv y1, iv y2, iv y3, iv y4, iv z2, iv z3, iv z4, iv (0 : Int32), iv (0 : Int32), iv c2, oU, oU, oU, oU, oU, oU, oU, oU, oU, oU] [(.int (if l3 = (0 : Int32) then (0 : Int32) else (if y3 = (0 : Int32) then (0 : Int32) else (if z3 = (0 : Int32) then (0 : Int32) else (1 : Int32)))))])) t) => (?_ : Steps p.tables e below _ t)) _ ?_
    · by_cases hc91 : l3 = (0 : Int32)
      · simp only [if_pos hc91] at k
        refine XS.ifYes X16.here hx rfl (pc0 := 468) (pc' := 485) rfl (hb hby at_468) rfl ((if0 _ _).trans (teq hc91).1) (by decide) (by decide) ?_
        show Steps p.tables e below (T16.setTop (mkF m 485 #[iv p0, oJ q1, oS, iv p2, rv b1, iv l0, iv l1, iv l2, iv l3, iv l4, iv u0, iv u1, iv u2, iv u3, iv y1, iv y2, iv y3, iv y4, iv z2, iv z3, iv z4, iv (0 : Int32), iv (0 : Int32), iv c2, oU, oU, oU, oU, oU, oU, oU, oU, oU, oU] [])) _
        refine XS.iconst X16.here hx rfl (hb hby at_485) ?_
        show Steps p.tables e below (T16.setTop (mkF m 486 #[iv p0, oJ q1, oS, iv p2, rv b1, iv l0, iv l1, iv l2, iv l3, iv l4, iv u0, iv u1, iv u2, iv u3, iv y1, iv y2, iv y3, iv y4, iv z2, iv z3, iv z4, iv (0 : Int32), iv (0 : Int32), iv c2, oU, oU, oU, oU, oU, oU, oU, oU, oU, oU] [(.int (0 : Int32))])) _
        exact k
      · simp only [if_neg hc91] at k
        refine XS.ifNo X16.here hx rfl (hb hby at_468) rfl ((if0 _ _).trans (feq hc91).1) ?_
        show Steps p.tables e below (T16.setTop (mkF m 471 #[iv p0, oJ q1, oS, iv p2, rv b1, iv l0, iv l1, iv l2, iv l3, iv l4, iv u0, iv u1, iv u2, iv u3, iv y1, iv y2, iv y3, iv y4, iv z2, iv z3, iv z4, iv (0 : Int32), iv (0 : Int32), iv c2, oU, oU, oU, oU, oU, oU, oU, oU, oU, oU] [])) _
        refine XS.iload X16.here hx rfl (hb hby at_471) rfl ?_
        show Steps p.tables e below (T16.setTop (mkF m 473 #[iv p0, oJ q1, oS, iv p2, rv b1, iv l0, iv l1, iv l2, iv l3, iv l4, iv u0, iv u1, iv u2, iv u3, iv y1, iv y2, iv y3, iv y4, iv z2, iv z3, iv z4, iv (0 : Int32), iv (0 : Int32), iv c2, oU, oU, oU, oU, oU, oU, oU, oU, oU, oU] [(.int y3)])) _
        refine (fun t (k : Steps p.tables e below (T16.setTop (mkF m 486 #[iv p0, oJ q1, oS, iv p2, rv b1, iv l0, iv l1, iv l2, iv l3, iv l4, iv u0, iv u1, iv u2, iv u3, iv y1, iv y2, iv y3, iv y4, iv z2, iv z3, iv z4, iv (0 : Int32), iv (0 : Int32), iv c2, oU, oU, oU, oU, oU, oU, oU, oU, oU, oU] [(.int (if y3 = (0 : Int32) then (0 : Int32) else (if z3 = (0 : Int32) then (0 : Int32) else (1 : Int32))))])) t) => (?_ : Steps p.tables e below _ t)) _ ?_
        · by_cases hc92 : y3 = (0 : Int32)
          · simp only [if_pos hc92] at k
            refine XS.ifYes X16.here hx rfl (pc0 := 473) (pc' := 485) rfl (hb hby at_473) rfl ((if0 _ _).trans (teq hc92).1) (by decide) (by decide) ?_
            show Steps p.tables e below (T16.setTop (mkF m 485 #[iv p0, oJ q1, oS, iv p2, rv b1, iv l0, iv l1, iv l2, iv l3, iv l4, iv u0, iv u1, iv u2, iv u3, iv y1, iv y2, iv y3, iv y4, iv z2, iv z3, iv z4, iv (0 : Int32), iv (0 : Int32), iv c2, oU, oU, oU, oU, oU, oU, oU, oU, oU, oU] [])) _
            refine XS.iconst X16.here hx rfl (hb hby at_485) ?_
            show Steps p.tables e below (T16.setTop (mkF m 486 #[iv p0, oJ q1, oS, iv p2, rv b1, iv l0, iv l1, iv l2, iv l3, iv l4, iv u0, iv u1, iv u2, iv u3, iv y1, iv y2, iv y3, iv y4, iv z2, iv z3, iv z4, iv (0 : Int32), iv (0 : Int32), iv c2, oU, oU, oU, oU, oU, oU, oU, oU, oU, oU] [(.int (0 : Int32))])) _
            exact k
          · simp only [if_neg hc92] at k
            refine XS.ifNo X16.here hx rfl (hb hby at_473) rfl ((if0 _ _).trans (feq hc92).1) ?_
            show Steps p.tables e below (T16.setTop (mkF m 476 #[iv p0, oJ q1, oS, iv p2, rv b1, iv l0, iv l1, iv l2, iv l3, iv l4, iv u0, iv u1, iv u2, iv u3, iv y1, iv y2, iv y3, iv y4, iv z2, iv z3, iv z4, iv (0 : Int32), iv (0 : Int32), iv c2, oU, oU, oU, oU, oU, oU, oU, oU, oU, oU] [])) _
            refine XS.iload X16.here hx rfl (hb hby at_476) rfl ?_
            show Steps p.tables e below (T16.setTop (mkF m 478 #[iv p0, oJ q1, oS, iv p2, rv b1, iv l0, iv l1, iv l2, iv l3, iv l4, iv u0, iv u1, iv u2, iv u3, iv y1, iv y2, iv y3, iv y4, iv z2, iv z3, iv z4, iv (0 : Int32), iv (0 : Int32), iv c2, oU, oU, oU, oU, oU, oU, oU, oU, oU, oU] [(.int z3)])) _
            refine (fun t (k : Steps p.tables e below (T16.setTop (mkF m 486 #[iv p0, oJ q1, oS, iv p2, rv b1, iv l0, iv l1, iv l2, iv l3, iv l4, iv u0, iv u1, iv u2, iv u3, iv y1, iv y2, iv y3, iv y4, iv z2, iv z3, iv z4, iv (0 : Int32), iv (0 : Int32), iv c2, oU, oU, oU, oU, oU, oU, oU, oU, oU, oU] [(.int (if z3 = (0 : Int32) then (0 : Int32) else (1 : Int32)))])) t) => (?_ : Steps p.tables e below _ t)) _ ?_
            · by_cases hc93 : z3 = (0 : Int32)
              · simp only [if_pos hc93] at k
                refine XS.ifYes X16.here hx rfl (pc0 := 478) (pc' := 485) rfl (hb hby at_478) rfl ((if0 _ _).trans (teq hc93).1) (by decide) (by decide) ?_
                show Steps p.tables e below (T16.setTop (mkF m 485 #[iv p0, oJ q1, oS, iv p2, rv b1, iv l0, iv l1, iv l2, iv l3, iv l4, iv u0, iv u1, iv u2, iv u3, iv y1, iv y2, iv y3, iv y4, iv z2, iv z3, iv z4, iv (0 : Int32), iv (0 : Int32), iv c2, oU, oU, oU, oU, oU, oU, oU, oU, oU, oU] [])) _
                refine XS.iconst X16.here hx rfl (hb hby at_485) ?_
                show Steps p.tables e below (T16.setTop (mkF m 486 #[iv p0, oJ q1, oS, iv p2, rv b1, iv l0, iv l1, iv l2, iv l3, iv l4, iv u0, iv u1, iv u2, iv u3, iv y1, iv y2, iv y3, iv y4, iv z2, iv z3, iv z4, iv (0 : Int32), iv (0 : Int32), iv c2, oU, oU, oU, oU, oU, oU, oU, oU, oU, oU] [(.int (0 : Int32))])) _
                exact k
              · simp only [if_neg hc93] at k
                refine XS.ifNo X16.here hx rfl (hb hby at_478) rfl ((if0 _ _).trans (feq hc93).1) ?_
                show Steps p.tables e below (T16.setTop (mkF m 481 #[iv p0, oJ q1, oS, iv p2, rv b1, iv l0, iv l1, iv l2, iv l3, iv l4, iv u0, iv u1, iv u2, iv u3, iv y1, iv y2, iv y3, iv y4, iv z2, iv z3, iv z4, iv (0 : Int32), iv (0 : Int32), iv c2, oU, oU, oU, oU, oU, oU, oU, oU, oU, oU] [])) _
                refine XS.iconst X16.here hx rfl (hb hby at_481) ?_
                show Steps p.tables e below (T16.setTop (mkF m 482 #[iv p0, oJ q1, oS, iv p2, rv b1, iv l0, iv l1, iv l2, iv l3, iv l4, iv u0, iv u1, iv u2, iv u3, iv y1, iv y2, iv y3, iv y4, iv z2, iv z3, iv z4, iv (0 : Int32), iv (0 : Int32), iv c2, oU, oU, oU, oU, oU, oU, oU, oU, oU, oU] [(.int (1 : Int32))])) _
                refine XS.goto X16.here hx rfl (pc0 := 482) (pc' := 486) rfl (hb hby at_482) (by decide) (by decide) ?_
                show Steps p.tables e below (T16.setTop (mkF m 486 #[iv p0, oJ q1, oS, iv p2, rv b1, iv l0, iv l1, iv l2, iv l3, iv l4, iv u0, iv u1, iv u2, iv u3, iv y1, iv y2, iv y3, iv y4, iv z2, iv z3, iv z4, iv (0 : Int32), iv (0 : Int32), iv c2, oU, oU, oU, oU, oU, oU, oU, oU, oU, oU] [(.int (1 : Int32))])) _
                exact k
            show Steps p.tables e below (T16.setTop (mkF m 486 #[iv p0, oJ q1, oS, iv p2, rv b1, iv l0, iv l1, iv l2, iv l3, iv l4, iv u0, iv u1, iv u2, iv u3, iv y1, iv y2, iv y3, iv y4, iv z2, iv z3, iv z4, iv (0 : Int32), iv (0 : Int32), iv c2, oU, oU, oU, oU, oU, oU, oU, oU, oU, oU] [(.int (if z3 = (0 : Int32) then (0 : Int32) else (1 : Int32)))])) _
            exact k
        show Steps p.tables e below (T16.setTop (mkF m 486 #[iv p0, oJ q1, oS, iv p2, rv b1, iv l0, iv l1, iv l2, iv l3, iv l4, iv u0, iv u1, iv u2, iv u3, iv y1, iv y2, iv y3, iv y4, iv z2, iv z3, iv z4, iv (0 : Int32), iv (0 : Int32), iv c2, oU, oU, oU, oU, oU, oU, oU, oU, oU, oU] [(.int (if y3 = (0 : Int32) then (0 : Int32) else (if z3 = (0 : Int32) then (0 : Int32) else (1 : Int32))))])) _
        exact k
    show Steps p.tables e below (T16.setTop (mkF m 486 #[iv p0, oJ q1, oS, iv p2, rv b1, iv l0, iv l1, iv l2, iv l3, iv l4, iv u0, iv u1, iv u2, iv u3, iv y1, iv y2, iv y3, iv y4, iv z2, iv z3, iv z4, iv (0 : Int32), iv (0 : Int32), iv c2, oU, oU, oU, oU, oU, oU, oU, oU, oU, oU] [(.int (if l3 = (0 : Int32) then (0 : Int32) else (if y3 = (0 : Int32) then (0 : Int32) else (if z3 = (0 : Int32) then (0 : Int32) else (1 : Int32)))))])) _
    refine XS.istore X16.here hx rfl (hb hby at_486) rfl (l' := #[iv p0, oJ q1, oS, iv p2, rv b1, iv l0, iv l1, iv l2, iv l3, iv l4, iv u0, iv u1, iv u2, iv u3, iv y1, iv y2, iv y3, iv y4, iv z2, iv z3, iv z4, iv (0 : Int32), iv (0 : Int32), iv c2, iv (if l3 = (0 : Int32) then (0 : Int32) else (if y3 = (0 : Int32) then (0 : Int32) else (if z3 = (0 : Int32) then (0 : Int32) else (1 : Int32)))), oU, oU, oU, oU, oU, oU, oU, oU, oU]) rfl ?_
    show Steps p.tables e below (T16.setTop (mkF m 488 #[iv p0, oJ q1, oS, iv p2, rv b1, iv l0, iv l1, iv l2, iv l3, iv l4, iv u0, iv u1, iv u2, iv u3, iv y1, iv y2, iv y3, iv y4, iv z2, iv z3, iv z4, iv (0 : Int32), iv (0 : Int32), iv c2, iv (if l3 = (0 : Int32) then (0 : Int32) else (if y3 = (0 : Int32) then (0 : Int32) else (if z3 = (0 : Int32) then (0 : Int32) else (1 : Int32)))), oU, oU, oU, oU, oU, oU, oU, oU, oU] [])) _
    exact k
  generalize hc3 : (if l3 = (0 : Int32) then (0 : Int32) else (if y3 = (0 : Int32) then (0 : Int32) else (if z3 = (0 : Int32) then (0 : Int32) else (1 : Int32)))) = c3
  show own_Go p e below _ (T16.setTop (mkF m 488 #[iv p0, oJ q1, oS, iv p2, rv b1, iv l0, iv l1, iv l2, iv l3, iv l4, iv u0, iv u1, iv u2, iv u3, iv y1, iv y2, iv y3, iv y4, iv z2, iv z3, iv z4, iv (0 : Int32), iv (0 : Int32), iv c2, iv c3, oU, oU, oU, oU, oU, oU, oU, oU, oU] []))
  refine own_by (B := T16.setTop (mkF m 510 #[iv p0, oJ q1, oS, iv p2, rv b1, iv l0, iv l1, iv l2, iv l3, iv l4, iv u0, iv u1, iv u2, iv u3, iv y1, iv y2, iv y3, iv y4, iv z2, iv z3, iv z4, iv (0 : Int32), iv (0 : Int32), iv c2, iv c3, iv (if l4 = (0 : Int32) then (0 : Int32) else (if y4 = (0 : Int32) then (0 : Int32) else (if z4 = (0 : Int32) then (0 : Int32) else (1 : Int32)))), oU, oU, oU, oU, oU, oU, oU, oU] [])) (fun t k => ?_) ?_
  · show Steps p.tables e below (T16.setTop (mkF m 488 #[iv p0, oJ q1, oS, iv p2, rv b1, iv l0, iv l1, iv l2, iv l3, iv l4, iv u0, iv u1, iv u2, iv u3, iv y1, iv y2, iv y3, iv y4, iv z2, iv z3, iv z4, iv (0 : Int32), iv (0 : Int32), iv c2, iv c3, oU, oU, oU, oU, oU, oU, oU, oU, oU] [])) _
    refine XS.iload X16.here hx rfl (hb hby at_488) rfl ?_
    show Steps p.tables e below (T16.setTop (mkF m 490 #[iv p0, oJ q1, oS, iv p2, rv b1, iv l0, iv l1, iv l2, iv l3, iv l4, iv u0, iv u1, iv u2, iv u3, iv y1, iv y2, iv y3, iv y4, iv z2, iv z3, iv z4, iv (0 : Int32), iv (0 : Int32), iv c2, iv c3, oU, oU, oU, oU, oU, oU, oU, oU, oU] [(.int l4)])) _
    refine (fun t (k : Steps p.tables e below (T16.setTop (mkF m 508 #[iv p0, oJ q1, oS, iv p2, rv b1, iv l0, iv l1, iv l2, iv l3, iv l4, iv u0, iv u1, iv u2, iv u3, iv y1, iv y2, iv y3, iv y4, iv z2, iv z3, iv z4, iv (0 : Int32), iv (0 : Int32), iv c2, iv c3, oU, oU, oU, oU, oU, oU, oU, oU, oU] [(.int (if l4 = (0 : Int32) then (0 : Int32) else (if y4 = (0 : Int32) then (0 : Int32) else (if z4 = (0 : Int32) then (0 : Int32) else (1 : Int32)))))])) t) => (?_ : Steps p.tables e below _ t)) _ ?_
    · by_cases hc94 : l4 = (0 : Int32)
      · simp only [if_pos hc94] at k
        refine XS.ifYes X16.here hx rfl (pc0 := 490) (pc' := 507) rfl (hb hby at_490) rfl ((if0 _ _).trans (teq hc94).1) (by decide) (by decide) ?_
        show Steps p.tables e below (T16.setTop (mkF m 507 #[iv p0, oJ q1, oS, iv p2, rv b1, iv l0, iv l1, iv l2, iv l3, iv l4, iv u0, iv u1, iv u2, iv u3, iv y1, iv y2, iv y3, iv y4, iv z2, iv z3, iv z4, iv (0 : Int32), iv (0 : Int32), iv c2, iv c3, oU, oU, oU, oU, oU, oU, oU, oU, oU] [])) _
        refine XS.iconst X16.here hx rfl (hb hby at_507) ?_
        show Steps p.tables e below (T16.setTop (mkF m 508 #[iv p0, oJ q1, oS, iv p2, rv b1, iv l0, iv l1, iv l2, iv l3, iv l4, iv u0, iv u1, iv u2, iv u3, iv y1, iv y2, iv y3, iv y4, iv z2, iv z3, iv z4, iv (0 : Int32), iv (0 : Int32), iv c2, iv c3, oU, oU, oU, oU, oU, oU, oU, oU, oU] [(.int (0 : Int32))])) _
        exact k
      · simp only [if_neg hc94] at k
        refine XS.ifNo X16.here hx rfl (hb hby at_490) rfl ((if0 _ _).trans (feq hc94).1) ?_
        show Steps p.tables e below (T16.setTop (mkF m 493 #[iv p0, oJ q1, oS, iv p2, rv b1, iv l0, iv l1, iv l2, iv l3, iv l4, iv u0, iv u1, iv u2, iv u3, iv y1, iv y2, iv y3, iv y4, iv z2, iv z3, iv z4, iv (0 : Int32), iv (0 : Int32), iv c2, iv c3, oU, oU, oU, oU, oU, oU, oU, oU, oU] [])) _
        refine XS.iload X16.here hx rfl (hb hby at_493) rfl ?_
        show Steps p.tables e below (T16.setTop (mkF m 495 #[iv p0, oJ q1, oS, iv p2, rv b1, iv l0, iv l1, iv l2, iv l3, iv l4, iv u0, iv u1, iv u2, iv u3, iv y1, iv y2, iv y3, iv y4, iv z2, iv z3, iv z4, iv (0 : Int32), iv (0 : Int32), iv c2, iv c3, oU, oU, oU, oU, oU, oU, oU, oU, oU] [(.int y4)])) _
        refine (fun t (k : Steps p.tables e below (T16.setTop (mkF m 508 #[iv p0, oJ q1, oS, iv p2, rv b1, iv l0, iv l1, iv l2, iv l3, iv l4, iv u0, iv u1, iv u2, iv u3, iv y1, iv y2, iv y3, iv y4, iv z2, iv z3, iv z4, iv (0 : Int32), iv (0 : Int32), iv c2, iv c3, oU, oU, oU, oU, oU, oU, oU, oU, oU] [(.int (if y4 = (0 : Int32) then (0 : Int32) else (if z4 = (0 : Int32) then (0 : Int32) else (1 : Int32))))])) t) => (?_ : Steps p.tables e below _ t)) _ ?_
        · by_cases hc95 : y4 = (0 : Int32)
          · simp only [if_pos hc95] at k
            refine XS.ifYes X16.here hx rfl (pc0 := 495) (pc' := 507) rfl (hb hby at_495) rfl ((if0 _ _).trans (teq hc95).1) (by decide) (by decide) ?_
            show Steps p.tables e below (T16.setTop (mkF m 507 #[iv p0, oJ q1, oS, iv p2, rv b1, iv l0, iv l1, iv l2, iv l3, iv l4, iv u0, iv u1, iv u2, iv u3, iv y1, iv y2, iv y3, iv y4, iv z2, iv z3, iv z4, iv (0 : Int32), iv (0 : Int32), iv c2, iv c3, oU, oU, oU, oU, oU, oU, oU, oU, oU] [])) _
            refine XS.iconst X16.here hx rfl (hb hby at_507) ?_
            show Steps p.tables e below (T16.setTop (mkF m 508 #[iv p0, oJ q1, oS, iv p2, rv b1, iv l0, iv l1, iv l2, iv l3, iv l4, iv u0, iv u1, iv u2, iv u3, iv y1, iv y2, iv y3, iv y4, iv z2, iv z3, iv z4, iv (0 : Int32), iv (0 : Int32), iv c2, iv c3, oU, oU, oU, oU, oU, oU, oU, oU, oU] [(.int (0 : Int32))])) _
            exact k
          · simp only [if_neg hc95] at k
            refine XS.ifNo X16.here hx rfl (hb hby at_495) rfl ((if0 _ _).trans (feq hc95).1) ?_
            show Steps p.tables e below (T16.setTop (mkF m 498 #[iv p0, oJ q1, oS, iv p2, rv b1, iv l0, iv l1, iv l2, iv l3, iv l4, iv u0, iv u1, iv u2, iv u3, iv y1, iv y2, iv y3, iv y4, iv z2, iv z3, iv z4, iv (0 : Int32), iv (0 : Int32), iv c2, iv c3, oU, oU, oU, oU, oU, oU, oU, oU, oU] [])) _
            refine XS.iload X16.here hx rfl (hb hby at_498) rfl ?_
            show Steps p.tables e below (T16.setTop (mkF m 500 #[iv p0, oJ q1, oS, iv p2, rv b1, iv l0, iv l1, iv l2, iv l3, iv l4, iv u0, iv u1, iv u2, iv u3, iv y1, iv y2, iv y3, iv y4, iv z2, iv z3, iv z4, iv (0 : Int32), iv (0 : Int32), iv c2, iv c3, oU, oU, oU, oU, oU, oU, oU, oU, oU] [(.int z4)])) _
            refine (fun t (k : Steps p.tables e below (T16.setTop (mkF m 508 #[iv p0, oJ q1, oS, iv p2, rv b1, iv l0, iv l1, iv l2, iv l3, iv l4, iv u0, iv u1, iv u2, iv u3, iv y1, iv y2, iv y3, iv y4, iv z2, iv z3, iv z4, iv (0 : Int32), iv (0 : Int32), iv c2, iv c3, oU, oU, oU, oU, oU, oU, oU, oU, oU] [(.int (if z4 = (0 : Int32) then (0 : Int32) else (1 : Int32)))])) t) => (?_ : Steps p.tables e below _ t)) _ ?_
            · by_cases hc96 : z4 = (0 : Int32)
              · simp only [if_pos hc96] at k
                refine XS.ifYes X16.here hx rfl (pc0 := 500) (pc' := 507) rfl (hb hby at_500) rfl ((if0 _ _).trans (teq hc96).1) (by decide) (by decide) ?_
                show Steps p.tables e below (T16.setTop (mkF m 507 #[iv p0, oJ q1, oS, iv p2, rv b1, iv l0, iv l1, iv l2, iv l3, iv l4, iv u0, iv u1, iv u2, iv u3, iv y1, iv y2, iv y3, iv y4, iv z2, iv z3, iv z4, iv (0 : Int32), iv (0 : Int32), iv c2, iv c3, oU, oU, oU, oU, oU, oU, oU, oU, oU] [])) _
                refine XS.iconst X16.here hx rfl (hb hby at_507) ?_
                show Steps p.tables e below (T16.setTop (mkF m 508 #[iv p0, oJ q1, oS, iv p2, rv b1, iv l0, iv l1, iv l2, iv l3, iv l4, iv u0, iv u1, iv u2, iv u3, iv y1, iv y2, iv y3, iv y4, iv z2, iv z3, iv z4, iv (0 : Int32), iv (0 : Int32), iv c2, iv c3, oU, oU, oU, oU, oU, oU, oU, oU, oU] [(.int (0 : Int32))])) _
                exact k
              · simp only [if_neg hc96] at k
                refine XS.ifNo X16.here hx rfl (hb hby at_500) rfl ((if0 _ _).trans (feq hc96).1) ?_
                show Steps p.tables e below (T16.setTop (mkF m 503 #[iv p0, oJ q1, oS, iv p2, rv b1, iv l0, iv l1, iv l2, iv l3, iv l4, iv u0, iv u1, iv u2, iv u3, iv y1, iv y2, iv y3, iv y4, iv z2, iv z3, iv z4, iv (0 : Int32), iv (0 : Int32), iv c2, iv c3, oU, oU, oU, oU, oU, oU, oU, oU, oU] [])) _
                refine XS.iconst X16.here hx rfl (hb hby at_503) ?_
                show Steps p.tables e below (T16.setTop (mkF m 504 #[iv p0, oJ q1, oS, iv p2, rv b1, iv l0, iv l1, iv l2, iv l3, iv l4, iv u0, iv u1, iv u2, iv u3, iv y1, iv y2, iv y3, iv y4, iv z2, iv z3, iv z4, iv (0 : Int32), iv (0 : Int32), iv c2, iv c3, oU, oU, oU, oU, oU, oU, oU, oU, oU] [(.int (1 : Int32))])) _
                refine XS.goto X16.here hx rfl (pc0 := 504) (pc' := 508) rfl (hb hby at_504) (by decide) (by decide) ?_
                show Steps p.tables e below (T16.setTop (mkF m 508 #[iv p0, oJ q1, oS, iv p2, rv b1, iv l0, iv l1, iv l2, iv l3, iv l4, iv u0, iv u1, iv u2, iv u3, iv y1, iv y2, iv y3, iv y4, iv z2, iv z3, iv z4, iv (0 : Int32), iv (0 : Int32), iv c2, iv c3, oU, oU, oU, oU, oU, oU, oU, oU, oU] [(.int (1 : Int32))])) _
                exact k
            show Steps p.tables e below (T16.setTop (mkF m 508 #[iv p0, oJ q1, oS, iv p2, rv b1, iv l0, iv l1, iv l2, iv l3, iv l4, iv u0, iv u1, iv u2, iv u3, iv y1, iv y2, iv y3, iv y4, iv z2, iv z3, iv z4, iv (0 : Int32), iv (0 : Int32), iv c2, iv c3, oU, oU, oU, oU, oU, oU, oU, oU, oU] [(.int (if z4 = (0 : Int32) then (0 : Int32) else (1 : Int32)))])) _
            exact k
        show Steps p.tables e below (T16.setTop (mkF m 508 #[iv p0, oJ q1, oS, iv p2, rv b1, iv l0, iv l1, iv l2, iv l3, iv l4, iv u0, iv u1, iv u2, iv u3, iv y1, iv y2, iv y3, iv y4, iv z2, iv z3, iv z4, iv (0 : Int32), iv (0 : Int32), iv c2, iv c3, oU, oU, oU, oU, oU, oU, oU, oU, oU] [(.int (if y4 = (0 : Int32) then (0 : Int32) else (if z4 = (0 : Int32) then (0 : Int32) else (1 : Int32))))])) _
        exact k
    show Steps p.tables e below (T16.setTop (mkF m 508 #[iv p0, oJ q1, oS, iv p2, rv b1, iv l0, iv l1, iv l2, iv l3, iv l4, iv u0, iv u1, iv u2, iv u3, iv y1, iv y2, iv y3, iv y4, iv z2, iv z3, iv z4, iv (0 : Int32), iv (0 : Int32), iv c2, iv c3, oU, oU, oU, oU, oU, oU, oU, oU, oU] [(.int (if l4 = (0 : Int32) then (0 : Int32) else (if y4 = (0 : Int32) then (0 : Int32) else (if z4 = (0 : Int32) then (0 : Int32) else (1 : Int32)))))])) _
    refine XS.istore X16.here hx rfl (hb hby at_508) rfl (l' := #[iv p0, oJ q1, oS, iv p2, rv b1, iv l0, iv l1, iv l2, iv l3, iv l4, iv u0, iv u1, iv u2, iv u3, iv y1, iv y2, iv y3, iv y4, iv z2, iv z3, iv z4, iv (0 : Int32), iv (0 : Int32), iv c2, iv c3, iv (if l4 = (0 : Int32) then (0 : Int32) else (if y4 = (0 : Int32) then (0 : Int32) else (if z4 = (0 : Int32) then (0 : Int32) else (1 : Int32)))), oU, oU, oU, oU, oU, oU, oU, oU]) rfl ?_
    show Steps p.tables e below (T16.setTop (mkF m 510 #[iv p0, oJ q1, oS, iv p2, rv b1, iv l0, iv l1, iv l2, iv l3, iv l4, iv u0, iv u1, iv u2, iv u3, iv y1, iv y2, iv y3, iv y4, iv z2, iv z3, iv z4, iv (0 : Int32), iv (0 : Int32), iv c2, iv c3, iv (if l4 = (0 : Int32) then (0 : Int32) else (if y4 = (0 : Int32) then (0 : Int32) else (if z4 = (0 : Int32) then (0 : Int32) else (1 : Int32)))), oU, oU, oU, oU, oU, oU, oU, oU] [])) _
    exact k
  generalize hc4 : (if l4 = (0 : Int32) then (0 : Int32) else (if y4 = (0 : Int32) then (0 : Int32) else (if z4 = (0 : Int32) then (0 : Int32) else (1 : Int32)))) = c4
  show own_Go p e below _ (T16.setTop (mkF m 510 #[iv p0, oJ q1, oS, iv p2, rv b1, iv l0, iv l1, iv l2, iv l3, iv l4, iv u0, iv u1, iv u2, iv u3, iv y1, iv y2, iv y3, iv y4, iv z2, iv z3, iv z4, iv (0 : Int32), iv (0 : Int32), iv c2, iv c3, iv c4, oU, oU, oU, oU, oU, oU, oU, oU] []))
  refine own_by (B := T16.setTop (mkF m 520 #[iv p0, oJ q1, oS, iv p2, rv b1, iv l0, iv l1, iv l2, iv l3, iv l4, iv u0, iv u1, iv u2, iv u3, iv y1, iv y2, iv y3, iv y4, iv z2, iv z3, iv z4, iv (0 : Int32), iv (0 : Int32), iv c2, iv c3, iv c4, iv ((p2 &&& (255 : Int32)) % (6 : Int32)), oU, oU, oU, oU, oU, oU, oU] [])) (fun t k => ?_) ?_
  · show Steps p.tables e below (T16.setTop (mkF m 510 #[iv p0, oJ q1, oS, iv p2, rv b1, iv l0, iv l1, iv l2, iv l3, iv l4, iv u0, iv u1, iv u2, iv u3, iv y1, iv y2, iv y3, iv y4, iv z2, iv z3, iv z4, iv (0 : Int32), iv (0 : Int32), iv c2, iv c3, iv c4, oU, oU, oU, oU, oU, oU, oU, oU] [])) _
    refine XS.iloadN X16.here hx rfl (hb hby at_510) rfl ?_
    show Steps p.tables e below (T16.setTop (mkF m 511 #[iv p0, oJ q1, oS, iv p2, rv b1, iv l0, iv l1, iv l2, iv l3, iv l4, iv u0, iv u1, iv u2, iv u3, iv y1, iv y2, iv y3, iv y4, iv z2, iv z3, iv z4, iv (0 : Int32), iv (0 : Int32), iv c2, iv c3, iv c4, oU, oU, oU, oU, oU, oU, oU, oU] [(.int p2)])) _
    refine XS.sipush X16.here hx rfl (hb hby at_511) ?_
    show Steps p.tables e below (T16.setTop (mkF m 514 #[iv p0, oJ q1, oS, iv p2, rv b1, iv l0, iv l1, iv l2, iv l3, iv l4, iv u0, iv u1, iv u2, iv u3, iv y1, iv y2, iv y3, iv y4, iv z2, iv z3, iv z4, iv (0 : Int32), iv (0 : Int32), iv c2, iv c3, iv c4, oU, oU, oU, oU, oU, oU, oU, oU] [(.int (255 : Int32)), (.int p2)])) _
    refine XS.iand X16.here hx rfl (hb hby at_514) rfl ?_
    show Steps p.tables e below (T16.setTop (mkF m 515 #[iv p0, oJ q1, oS, iv p2, rv b1, iv l0, iv l1, iv l2, iv l3, iv l4, iv u0, iv u1, iv u2, iv u3, iv y1, iv y2, iv y3, iv y4, iv z2, iv z3, iv z4, iv (0 : Int32), iv (0 : Int32), iv c2, iv c3, iv c4, oU, oU, oU, oU, oU, oU, oU, oU] [(.int (p2 &&& (255 : Int32)))])) _
    refine XS.bipush X16.here hx rfl (hb hby at_515) ?_
    show Steps p.tables e below (T16.setTop (mkF m 517 #[iv p0, oJ q1, oS, iv p2, rv b1, iv l0, iv l1, iv l2, iv l3, iv l4, iv u0, iv u1, iv u2, iv u3, iv y1, iv y2, iv y3, iv y4, iv z2, iv z3, iv z4, iv (0 : Int32), iv (0 : Int32), iv c2, iv c3, iv c4, oU, oU, oU, oU, oU, oU, oU, oU] [(.int (6 : Int32)), (.int (p2 &&& (255 : Int32)))])) _
    refine iremM X16 hx rfl (hb hby at_517) rfl (by decide) ?_
    show Steps p.tables e below (T16.setTop (mkF m 518 #[iv p0, oJ q1, oS, iv p2, rv b1, iv l0, iv l1, iv l2, iv l3, iv l4, iv u0, iv u1, iv u2, iv u3, iv y1, iv y2, iv y3, iv y4, iv z2, iv z3, iv z4, iv (0 : Int32), iv (0 : Int32), iv c2, iv c3, iv c4, oU, oU, oU, oU, oU, oU, oU, oU] [(.int ((p2 &&& (255 : Int32)) % (6 : Int32)))])) _
    refine XS.istore X16.here hx rfl (hb hby at_518) rfl (l' := #[iv p0, oJ q1, oS, iv p2, rv b1, iv l0, iv l1, iv l2, iv l3, iv l4, iv u0, iv u1, iv u2, iv u3, iv y1, iv y2, iv y3, iv y4, iv z2, iv z3, iv z4, iv (0 : Int32), iv (0 : Int32), iv c2, iv c3, iv c4, iv ((p2 &&& (255 : Int32)) % (6 : Int32)), oU, oU, oU, oU, oU, oU, oU]) rfl ?_
    show Steps p.tables e below (T16.setTop (mkF m 520 #[iv p0, oJ q1, oS, iv p2, rv b1, iv l0, iv l1, iv l2, iv l3, iv l4, iv u0, iv u1, iv u2, iv u3, iv y1, iv y2, iv y3, iv y4, iv z2, iv z3, iv z4, iv (0 : Int32), iv (0 : Int32), iv c2, iv c3, iv c4, iv ((p2 &&& (255 : Int32)) % (6 : Int32)), oU, oU, oU, oU, oU, oU, oU] [])) _
    exact k
  generalize hpp : ((p2 &&& (255 : Int32)) % (6 : Int32)) = pp
  show own_Go p e below _ (T16.setTop (mkF m 520 #[iv p0, oJ q1, oS, iv p2, rv b1, iv l0, iv l1, iv l2, iv l3, iv l4, iv u0, iv u1, iv u2, iv u3, iv y1, iv y2, iv y3, iv y4, iv z2, iv z3, iv z4, iv (0 : Int32), iv (0 : Int32), iv c2, iv c3, iv c4, iv pp, oU, oU, oU, oU, oU, oU, oU] []))
  refine own_by (B := T16.setTop (mkF m 533 #[iv p0, oJ q1, oS, iv p2, rv b1, iv l0, iv l1, iv l2, iv l3, iv l4, iv u0, iv u1, iv u2, iv u3, iv y1, iv y2, iv y3, iv y4, iv z2, iv z3, iv z4, iv (0 : Int32), iv (0 : Int32), iv c2, iv c3, iv c4, iv pp, iv ((((p2.toUInt32 >>> ((8 : Int32) &&& 31).toUInt32).toInt32) &&& (255 : Int32)) % (6 : Int32)), oU, oU, oU, oU, oU, oU] [])) (fun t k => ?_) ?_
  · show Steps p.tables e below (T16.setTop (mkF m 520 #[iv p0, oJ q1, oS, iv p2, rv b1, iv l0, iv l1, iv l2, iv l3, iv l4, iv u0, iv u1, iv u2, iv u3, iv y1, iv y2, iv y3, iv y4, iv z2, iv z3, iv z4, iv (0 : Int32), iv (0 : Int32), iv c2, iv c3, iv c4, iv pp, oU, oU, oU, oU, oU, oU, oU] [])) _
    refine XS.iloadN X16.here hx rfl (hb hby at_520) rfl ?_
    show Steps p.tables e below (T16.setTop (mkF m 521 #[iv p0, oJ q1, oS, iv p2, rv b1, iv l0, iv l1, iv l2, iv l3, iv l4, iv u0, iv u1, iv u2, iv u3, iv y1, iv y2, iv y3, iv y4, iv z2, iv z3, iv z4, iv (0 : Int32), iv (0 : Int32), iv c2, iv c3, iv c4, iv pp, oU, oU, oU, oU, oU, oU, oU] [(.int p2)])) _
    refine XS.bipush X16.here hx rfl (hb hby at_521) ?_
    show Steps p.tables e below (T16.setTop (mkF m 523 #[iv p0, oJ q1, oS, iv p2, rv b1, iv l0, iv l1, iv l2, iv l3, iv l4, iv u0, iv u1, iv u2, iv u3, iv y1, iv y2, iv y3, iv y4, iv z2, iv z3, iv z4, iv (0 : Int32), iv (0 : Int32), iv c2, iv c3, iv c4, iv pp, oU, oU, oU, oU, oU, oU, oU] [(.int (8 : Int32)), (.int p2)])) _
    refine XS.iushr X16.here hx rfl (hb hby at_523) rfl ?_
    show Steps p.tables e below (T16.setTop (mkF m 524 #[iv p0, oJ q1, oS, iv p2, rv b1, iv l0, iv l1, iv l2, iv l3, iv l4, iv u0, iv u1, iv u2, iv u3, iv y1, iv y2, iv y3, iv y4, iv z2, iv z3, iv z4, iv (0 : Int32), iv (0 : Int32), iv c2, iv c3, iv c4, iv pp, oU, oU, oU, oU, oU, oU, oU] [(.int ((p2.toUInt32 >>> ((8 : Int32) &&& 31).toUInt32).toInt32))])) _
    refine XS.sipush X16.here hx rfl (hb hby at_524) ?_
    show Steps p.tables e below (T16.setTop (mkF m 527 #[iv p0, oJ q1, oS, iv p2, rv b1, iv l0, iv l1, iv l2, iv l3, iv l4, iv u0, iv u1, iv u2, iv u3, iv y1, iv y2, iv y3, iv y4, iv z2, iv z3, iv z4, iv (0 : Int32), iv (0 : Int32), iv c2, iv c3, iv c4, iv pp, oU, oU, oU, oU, oU, oU, oU] [(.int (255 : Int32)), (.int ((p2.toUInt32 >>> ((8 : Int32) &&& 31).toUInt32).toInt32))])) _
    refine XS.iand X16.here hx rfl (hb hby at_527) rfl ?_
    show Steps p.tables e below (T16.setTop (mkF m 528 #[iv p0, oJ q1, oS, iv p2, rv b1, iv l0, iv l1, iv l2, iv l3, iv l4, iv u0, iv u1, iv u2, iv u3, iv y1, iv y2, iv y3, iv y4, iv z2, iv z3, iv z4, iv (0 : Int32), iv (0 : Int32), iv c2, iv c3, iv c4, iv pp, oU, oU, oU, oU, oU, oU, oU] [(.int (((p2.toUInt32 >>> ((8 : Int32) &&& 31).toUInt32).toInt32) &&& (255 : Int32)))])) _
    refine XS.bipush X16.here hx rfl (hb hby at_528) ?_
    show Steps p.tables e below (T16.setTop (mkF m 530 #[iv p0, oJ q1, oS, iv p2, rv b1, iv l0, iv l1, iv l2, iv l3, iv l4, iv u0, iv u1, iv u2, iv u3, iv y1, iv y2, iv y3, iv y4, iv z2, iv z3, iv z4, iv (0 : Int32), iv (0 : Int32), iv c2, iv c3, iv c4, iv pp, oU, oU, oU, oU, oU, oU, oU] [(.int (6 : Int32)), (.int (((p2.toUInt32 >>> ((8 : Int32) &&& 31).toUInt32).toInt32) &&& (255 : Int32)))])) _
    refine iremM X16 hx rfl (hb hby at_530) rfl (by decide) ?_
    show Steps p.tables e below (T16.setTop (mkF m 531 #[iv p0, oJ q1, oS, iv p2, rv b1, iv l0, iv l1, iv l2, iv l3, iv l4, iv u0, iv u1, iv u2, iv u3, iv y1, iv y2, iv y3, iv y4, iv z2, iv z3, iv z4, iv (0 : Int32), iv (0 : Int32), iv c2, iv c3, iv c4, iv pp, oU, oU, oU, oU, oU, oU, oU] [(.int ((((p2.toUInt32 >>> ((8 : Int32) &&& 31).toUInt32).toInt32) &&& (255 : Int32)) % (6 : Int32)))])) _
    refine XS.istore X16.here hx rfl (hb hby at_531) rfl (l' := #[iv p0, oJ q1, oS, iv p2, rv b1, iv l0, iv l1, iv l2, iv l3, iv l4, iv u0, iv u1, iv u2, iv u3, iv y1, iv y2, iv y3, iv y4, iv z2, iv z3, iv z4, iv (0 : Int32), iv (0 : Int32), iv c2, iv c3, iv c4, iv pp, iv ((((p2.toUInt32 >>> ((8 : Int32) &&& 31).toUInt32).toInt32) &&& (255 : Int32)) % (6 : Int32)), oU, oU, oU, oU, oU, oU]) rfl ?_
    show Steps p.tables e below (T16.setTop (mkF m 533 #[iv p0, oJ q1, oS, iv p2, rv b1, iv l0, iv l1, iv l2, iv l3, iv l4, iv u0, iv u1, iv u2, iv u3, iv y1, iv y2, iv y3, iv y4, iv z2, iv z3, iv z4, iv (0 : Int32), iv (0 : Int32), iv c2, iv c3, iv c4, iv pp, iv ((((p2.toUInt32 >>> ((8 : Int32) &&& 31).toUInt32).toInt32) &&& (255 : Int32)) % (6 : Int32)), oU, oU, oU, oU, oU, oU] [])) _
    exact k
  generalize hqq : ((((p2.toUInt32 >>> ((8 : Int32) &&& 31).toUInt32).toInt32) &&& (255 : Int32)) % (6 : Int32)) = qq
  show own_Go p e below _ (T16.setTop (mkF m 533 #[iv p0, oJ q1, oS, iv p2, rv b1, iv l0, iv l1, iv l2, iv l3, iv l4, iv u0, iv u1, iv u2, iv u3, iv y1, iv y2, iv y3, iv y4, iv z2, iv z3, iv z4, iv (0 : Int32), iv (0 : Int32), iv c2, iv c3, iv c4, iv pp, iv qq, oU, oU, oU, oU, oU, oU] []))
  refine own_by (B := T16.setTop (mkF m 537 #[iv p0, oJ q1, oS, iv p2, rv b1, iv l0, iv l1, iv l2, iv l3, iv l4, iv u0, iv u1, iv u2, iv u3, iv y1, iv y2, iv y3, iv y4, iv z2, iv z3, iv z4, iv (0 : Int32), iv (0 : Int32), iv c2, iv c3, iv c4, iv pp, iv qq, oU, oU, oU, oU, oU, oU] [(.int qq), (.int pp)])) (fun t k => ?_) ?_
  · show Steps p.tables e below (T16.setTop (mkF m 533 #[iv p0, oJ q1, oS, iv p2, rv b1, iv l0, iv l1, iv l2, iv l3, iv l4, iv u0, iv u1, iv u2, iv u3, iv y1, iv y2, iv y3, iv y4, iv z2, iv z3, iv z4, iv (0 : Int32), iv (0 : Int32), iv c2, iv c3, iv c4, iv pp, iv qq, oU, oU, oU, oU, oU, oU] [])) _
    refine XS.iload X16.here hx rfl (hb hby at_533) rfl ?_
    show Steps p.tables e below (T16.setTop (mkF m 535 #[iv p0, oJ q1, oS, iv p2, rv b1, iv l0, iv l1, iv l2, iv l3, iv l4, iv u0, iv u1, iv u2, iv u3, iv y1, iv y2, iv y3, iv y4, iv z2, iv z3, iv z4, iv (0 : Int32), iv (0 : Int32), iv c2, iv c3, iv c4, iv pp, iv qq, oU, oU, oU, oU, oU, oU] [(.int pp)])) _
    refine XS.iload X16.here hx rfl (hb hby at_535) rfl ?_
    show Steps p.tables e below (T16.setTop (mkF m 537 #[iv p0, oJ q1, oS, iv p2, rv b1, iv l0, iv l1, iv l2, iv l3, iv l4, iv u0, iv u1, iv u2, iv u3, iv y1, iv y2, iv y3, iv y4, iv z2, iv z3, iv z4, iv (0 : Int32), iv (0 : Int32), iv c2, iv c3, iv c4, iv pp, iv qq, oU, oU, oU, oU, oU, oU] [(.int qq), (.int pp)])) _
    exact k
  refine own_cc (own_callS X16 hx hZ (y := (⟨"java/lang/Math", "min", "(II)I"⟩ : MethodName)) hown (hw _ (List.mem_of_getElem? (i := 5) rfl)) (hw _ (List.mem_of_getElem? (i := 6) rfl)) (hw _ (List.mem_of_getElem? (i := 7) rfl)) (hw _ (List.mem_of_getElem? (i := 8) rfl)) (by decide) (rm2 l Z a0 hw [] pp qq h16 n0 Z0 ) e16 0 (by decide) (by decide) (by decide) (by decide) rfl (by rw [hml]; rfl) [(.int pp), (.int qq)] [] rfl (lenOf pd_1 rfl) rfl (by show 2 * 0 + _ ≤ _; exact Nat.le_of_eq rfl) (hb hby at_537)) fun T98 L98 v98 X98 hQ98 => ?_
  obtain ⟨rfl, N98, e98⟩ := hQ98
  replace N0 := Fr.app N0 N98
  show own_Go p e below _ (T98.setTop (mkF m 540 #[iv p0, oJ q1, oS, iv p2, rv b1, iv l0, iv l1, iv l2, iv l3, iv l4, iv u0, iv u1, iv u2, iv u3, iv y1, iv y2, iv y3, iv y4, iv z2, iv z3, iv z4, iv (0 : Int32), iv (0 : Int32), iv c2, iv c3, iv c4, iv pp, iv qq, oU, oU, oU, oU, oU, oU] [(.int (fmin pp qq))]))
  refine own_by (B := T98.setTop (mkF m 546 #[iv p0, oJ q1, oS, iv p2, rv b1, iv l0, iv l1, iv l2, iv l3, iv l4, iv u0, iv u1, iv u2, iv u3, iv y1, iv y2, iv y3, iv y4, iv z2, iv z3, iv z4, iv (0 : Int32), iv (0 : Int32), iv c2, iv c3, iv c4, iv pp, iv qq, iv (fmin pp qq), oU, oU, oU, oU, oU] [(.int qq), (.int pp)])) (fun t k => ?_) ?_
  · show Steps p.tables e below (T98.setTop (mkF m 540 #[iv p0, oJ q1, oS, iv p2, rv b1, iv l0, iv l1, iv l2, iv l3, iv l4, iv u0, iv u1, iv u2, iv u3, iv y1, iv y2, iv y3, iv y4, iv z2, iv z3, iv z4, iv (0 : Int32), iv (0 : Int32), iv c2, iv c3, iv c4, iv pp, iv qq, oU, oU, oU, oU, oU, oU] [(.int (fmin pp qq))])) _
    refine XS.istore X98.here hx rfl (hb hby at_540) rfl (l' := #[iv p0, oJ q1, oS, iv p2, rv b1, iv l0, iv l1, iv l2, iv l3, iv l4, iv u0, iv u1, iv u2, iv u3, iv y1, iv y2, iv y3, iv y4, iv z2, iv z3, iv z4, iv (0 : Int32), iv (0 : Int32), iv c2, iv c3, iv c4, iv pp, iv qq, iv (fmin pp qq), oU, oU, oU, oU, oU]) rfl ?_
    show Steps p.tables e below (T98.setTop (mkF m 542 #[iv p0, oJ q1, oS, iv p2, rv b1, iv l0, iv l1, iv l2, iv l3, iv l4, iv u0, iv u1, iv u2, iv u3, iv y1, iv y2, iv y3, iv y4, iv z2, iv z3, iv z4, iv (0 : Int32), iv (0 : Int32), iv c2, iv c3, iv c4, iv pp, iv qq, iv (fmin pp qq), oU, oU, oU, oU, oU] [])) _
    refine XS.iload X98.here hx rfl (hb hby at_542) rfl ?_
    show Steps p.tables e below (T98.setTop (mkF m 544 #[iv p0, oJ q1, oS, iv p2, rv b1, iv l0, iv l1, iv l2, iv l3, iv l4, iv u0, iv u1, iv u2, iv u3, iv y1, iv y2, iv y3, iv y4, iv z2, iv z3, iv z4, iv (0 : Int32), iv (0 : Int32), iv c2, iv c3, iv c4, iv pp, iv qq, iv (fmin pp qq), oU, oU, oU, oU, oU] [(.int pp)])) _
    refine XS.iload X98.here hx rfl (hb hby at_544) rfl ?_
    show Steps p.tables e below (T98.setTop (mkF m 546 #[iv p0, oJ q1, oS, iv p2, rv b1, iv l0, iv l1, iv l2, iv l3, iv l4, iv u0, iv u1, iv u2, iv u3, iv y1, iv y2, iv y3, iv y4, iv z2, iv z3, iv z4, iv (0 : Int32), iv (0 : Int32), iv c2, iv c3, iv c4, iv pp, iv qq, iv (fmin pp qq), oU, oU, oU, oU, oU] [(.int qq), (.int pp)])) _
    exact k
  refine own_cc (own_callS X98 hx hZ (y := (⟨"java/lang/Math", "max", "(II)I"⟩ : MethodName)) hown (hw _ (List.mem_of_getElem? (i := 9) rfl)) (hw _ (List.mem_of_getElem? (i := 10) rfl)) (hw _ (List.mem_of_getElem? (i := 7) rfl)) (hw _ (List.mem_of_getElem? (i := 11) rfl)) (by decide) (rm3 l Z a0 hw [] pp qq h16 n0 Z0 ) e98 0 (by decide) (by decide) (by decide) (by decide) rfl (by rw [hml]; rfl) [(.int pp), (.int qq)] [] rfl (lenOf pd_1 rfl) rfl (by show 2 * 0 + _ ≤ _; exact Nat.le_of_eq rfl) (hb hby at_546)) fun T100 L100 v100 X100 hQ100 => ?_
  obtain ⟨rfl, N100, e100⟩ := hQ100
  replace N0 := Fr.app N0 N100
  show own_Go p e below _ (T100.setTop (mkF m 549 #[iv p0, oJ q1, oS, iv p2, rv b1, iv l0, iv l1, iv l2, iv l3, iv l4, iv u0, iv u1, iv u2, iv u3, iv y1, iv y2, iv y3, iv y4, iv z2, iv z3, iv z4, iv (0 : Int32), iv (0 : Int32), iv c2, iv c3, iv c4, iv pp, iv qq, iv (fmin pp qq), oU, oU, oU, oU, oU] [(.int (fmax pp qq))]))
  refine own_by (B := T100.setTop (mkF m 551 #[iv p0, oJ q1, oS, iv p2, rv b1, iv l0, iv l1, iv l2, iv l3, iv l4, iv u0, iv u1, iv u2, iv u3, iv y1, iv y2, iv y3, iv y4, iv z2, iv z3, iv z4, iv (0 : Int32), iv (0 : Int32), iv c2, iv c3, iv c4, iv pp, iv qq, iv (fmin pp qq), iv (fmax pp qq), oU, oU, oU, oU] [])) (fun t k => ?_) ?_
  · show Steps p.tables e below (T100.setTop (mkF m 549 #[iv p0, oJ q1, oS, iv p2, rv b1, iv l0, iv l1, iv l2, iv l3, iv l4, iv u0, iv u1, iv u2, iv u3, iv y1, iv y2, iv y3, iv y4, iv z2, iv z3, iv z4, iv (0 : Int32), iv (0 : Int32), iv c2, iv c3, iv c4, iv pp, iv qq, iv (fmin pp qq), oU, oU, oU, oU, oU] [(.int (fmax pp qq))])) _
    refine XS.istore X100.here hx rfl (hb hby at_549) rfl (l' := #[iv p0, oJ q1, oS, iv p2, rv b1, iv l0, iv l1, iv l2, iv l3, iv l4, iv u0, iv u1, iv u2, iv u3, iv y1, iv y2, iv y3, iv y4, iv z2, iv z3, iv z4, iv (0 : Int32), iv (0 : Int32), iv c2, iv c3, iv c4, iv pp, iv qq, iv (fmin pp qq), iv (fmax pp qq), oU, oU, oU, oU]) rfl ?_
    show Steps p.tables e below (T100.setTop (mkF m 551 #[iv p0, oJ q1, oS, iv p2, rv b1, iv l0, iv l1, iv l2, iv l3, iv l4, iv u0, iv u1, iv u2, iv u3, iv y1, iv y2, iv y3, iv y4, iv z2, iv z3, iv z4, iv (0 : Int32), iv (0 : Int32), iv c2, iv c3, iv c4, iv pp, iv qq, iv (fmin pp qq), iv (fmax pp qq), oU, oU, oU, oU] [])) _
    exact k
  obtain ⟨T101, h101, X101, e101, E101, A101, D101, -, st101⟩ := newO X100 hx hZ hown (hw _ (List.mem_of_getElem? (i := 12) rfl)) (hw _ (List.mem_of_getElem? (i := 13) rfl)) (hw _ (List.mem_of_getElem? (i := 14) rfl)) e100 (g := (mkF m 551 #[iv p0, oJ q1, oS, iv p2, rv b1, iv l0, iv l1, iv l2, iv l3, iv l4, iv u0, iv u1, iv u2, iv u3, iv y1, iv y2, iv y3, iv y4, iv z2, iv z3, iv z4, iv (0 : Int32), iv (0 : Int32), iv c2, iv c3, iv c4, iv pp, iv qq, iv (fmin pp qq), iv (fmax pp qq), oU, oU, oU, oU] [])) rfl (hb hby at_551) (by decide) (by decide)
  obtain ⟨b101, g101⟩ : ∃ z, z = h16.size := ⟨_, rfl⟩
  rw [← g101] at A101 D101 st101
  have g_b101 : n0 ≤ b101 := Nat.le_trans Z0 (Nat.le_of_eq g101.symm)
  have ne_b1_b101 : b1 ≠ b101 := Nat.ne_of_lt (Nat.lt_of_lt_of_le V_b1.lt (Nat.le_of_eq g101.symm))
  replace V_b1 := V_b1.ext E101
  replace Z0 := Nat.le_trans Z0 E101.1
  have E_b101 := A101
  have F_lineEmpty_b101 : Fld Z h101 b101 "com/example/chartwell/chartwell/http/RequestReader$HeadEnd" "lineEmpty" "Z" (.int (0 : Int32)) := D101 (Or.inl (hw _ (List.mem_of_getElem? (i := 22) rfl))) (ty := .boolean) (by decide)
  have F_end_b101 : Fld Z h101 b101 "com/example/chartwell/chartwell/http/RequestReader$HeadEnd" "end" "I" (.int (0 : Int32)) := D101 (Or.inl (hw _ (List.mem_of_getElem? (i := 24) rfl))) (ty := .int) (by decide)
  have F_scanned_b101 : Fld Z h101 b101 "com/example/chartwell/chartwell/http/RequestReader$HeadEnd" "scanned" "I" (.int (0 : Int32)) := D101 (Or.inl (hw _ (List.mem_of_getElem? (i := 31) rfl))) (ty := .int) (by decide)
  have F_started_b101 : Fld Z h101 b101 "com/example/chartwell/chartwell/http/RequestReader$HeadEnd" "started" "Z" (.int (0 : Int32)) := D101 (Or.inl (hw _ (List.mem_of_getElem? (i := 33) rfl))) (ty := .boolean) (by decide)
  refine own_by st101 ?_
  show own_Go p e below _ (T101.setTop (mkF m 554 #[iv p0, oJ q1, oS, iv p2, rv b1, iv l0, iv l1, iv l2, iv l3, iv l4, iv u0, iv u1, iv u2, iv u3, iv y1, iv y2, iv y3, iv y4, iv z2, iv z3, iv z4, iv (0 : Int32), iv (0 : Int32), iv c2, iv c3, iv c4, iv pp, iv qq, iv (fmin pp qq), iv (fmax pp qq), oU, oU, oU, oU] [(.ref b101)]))
  refine own_by (B := T101.setTop (mkF m 555 #[iv p0, oJ q1, oS, iv p2, rv b1, iv l0, iv l1, iv l2, iv l3, iv l4, iv u0, iv u1, iv u2, iv u3, iv y1, iv y2, iv y3, iv y4, iv z2, iv z3, iv z4, iv (0 : Int32), iv (0 : Int32), iv c2, iv c3, iv c4, iv pp, iv qq, iv (fmin pp qq), iv (fmax pp qq), oU, oU, oU, oU] [(.ref b101), (.ref b101)])) (fun t k => ?_) ?_
  · show Steps p.tables e below (T101.setTop (mkF m 554 #[iv p0, oJ q1, oS, iv p2, rv b1, iv l0, iv l1, iv l2, iv l3, iv l4, iv u0, iv u1, iv u2, iv u3, iv y1, iv y2, iv y3, iv y4, iv z2, iv z3, iv z4, iv (0 : Int32), iv (0 : Int32), iv c2, iv c3, iv c4, iv pp, iv qq, iv (fmin pp qq), iv (fmax pp qq), oU, oU, oU, oU] [(.ref b101)])) _
    refine XS.dup X101.here hx rfl (hb hby at_554) rfl rfl ?_
    show Steps p.tables e below (T101.setTop (mkF m 555 #[iv p0, oJ q1, oS, iv p2, rv b1, iv l0, iv l1, iv l2, iv l3, iv l4, iv u0, iv u1, iv u2, iv u3, iv y1, iv y2, iv y3, iv y4, iv z2, iv z3, iv z4, iv (0 : Int32), iv (0 : Int32), iv c2, iv c3, iv c4, iv pp, iv qq, iv (fmin pp qq), iv (fmax pp qq), oU, oU, oU, oU] [(.ref b101), (.ref b101)])) _
    exact k
  refine own_cc (own_callI X101 hx hZ (y := (⟨"com/example/chartwell/chartwell/http/RequestReader$HeadEnd", "<init>", "()V"⟩ : MethodName)) rfl hown (hw _ (List.mem_of_getElem? (i := 15) rfl)) (hw _ (List.mem_of_getElem? (i := 16) rfl)) (hw _ (List.mem_of_getElem? (i := 14) rfl)) (hw _ (List.mem_of_getElem? (i := 17) rfl)) (by decide) (rm4 l Z a0 hw [] b101 h101 n0 Z0 E_b101 F_scanned_b101 F_end_b101 F_lineEmpty_b101 F_started_b101 g_b101) e101 1 (by decide) (by decide) (by decide) (by decide) rfl (by rw [hml]; rfl) b101 [] [(.ref b101)] rfl (lenOf pd_2 rfl) rfl (by show 2 * 0 + _ ≤ _; exact Nat.le_of_eq rfl) (hb hby at_555)) fun T103 L103 v103 X103 hQ103 => ?_
  obtain ⟨rfl, N103, K103, E_b101', F_scanned_b101', F_end_b101', F_lineEmpty_b101', F_started_b101'⟩ := hQ103
  replace N0 := Fr.app N0 N103
  replace V_b1 := V_b1.keep K103 (ninS ne_b1_b101 nin0)
  replace E_b101 := E_b101.keep K103
  replace Z0 := Nat.le_trans Z0 K103.1
  replace E_b101 := E_b101'
  have F_scanned_b101 := F_scanned_b101'
  have F_end_b101 := F_end_b101'
  have F_lineEmpty_b101 := F_lineEmpty_b101'
  have F_started_b101 := F_started_b101'
  show own_Go p e below _ (T103.setTop (mkF m 558 #[iv p0, oJ q1, oS, iv p2, rv b1, iv l0, iv l1, iv l2, iv l3, iv l4, iv u0, iv u1, iv u2, iv u3, iv y1, iv y2, iv y3, iv y4, iv z2, iv z3, iv z4, iv (0 : Int32), iv (0 : Int32), iv c2, iv c3, iv c4, iv pp, iv qq, iv (fmin pp qq), iv (fmax pp qq), oU, oU, oU, oU] [(.ref b101)]))
  refine own_by (B := T103.setTop (mkF m 566 #[iv p0, oJ q1, oS, iv p2, rv b1, iv l0, iv l1, iv l2, iv l3, iv l4, iv u0, iv u1, iv u2, iv u3, iv y1, iv y2, iv y3, iv y4, iv z2, iv z3, iv z4, iv (0 : Int32), iv (0 : Int32), iv c2, iv c3, iv c4, iv pp, iv qq, iv (fmin pp qq), iv (fmax pp qq), rv b101, oU, oU, oU] [(.int (fmin pp qq)), (.ref b1), (.ref b101)])) (fun t k => ?_) ?_
  · show Steps p.tables e below (T103.setTop (mkF m 558 #[iv p0, oJ q1, oS, iv p2, rv b1, iv l0, iv l1, iv l2, iv l3, iv l4, iv u0, iv u1, iv u2, iv u3, iv y1, iv y2, iv y3, iv y4, iv z2, iv z3, iv z4, iv (0 : Int32), iv (0 : Int32), iv c2, iv c3, iv c4, iv pp, iv qq, iv (fmin pp qq), iv (fmax pp qq), oU, oU, oU, oU] [(.ref b101)])) _
    refine XS.astore X103.here hx rfl (hb hby at_558) rfl rfl (l' := #[iv p0, oJ q1, oS, iv p2, rv b1, iv l0, iv l1, iv l2, iv l3, iv l4, iv u0, iv u1, iv u2, iv u3, iv y1, iv y2, iv y3, iv y4, iv z2, iv z3, iv z4, iv (0 : Int32), iv (0 : Int32), iv c2, iv c3, iv c4, iv pp, iv qq, iv (fmin pp qq), iv (fmax pp qq), rv b101, oU, oU, oU]) rfl ?_
    show Steps p.tables e below (T103.setTop (mkF m 560 #[iv p0, oJ q1, oS, iv p2, rv b1, iv l0, iv l1, iv l2, iv l3, iv l4, iv u0, iv u1, iv u2, iv u3, iv y1, iv y2, iv y3, iv y4, iv z2, iv z3, iv z4, iv (0 : Int32), iv (0 : Int32), iv c2, iv c3, iv c4, iv pp, iv qq, iv (fmin pp qq), iv (fmax pp qq), rv b101, oU, oU, oU] [])) _
    refine XS.aload X103.here hx rfl (hb hby at_560) rfl rfl ?_
    show Steps p.tables e below (T103.setTop (mkF m 562 #[iv p0, oJ q1, oS, iv p2, rv b1, iv l0, iv l1, iv l2, iv l3, iv l4, iv u0, iv u1, iv u2, iv u3, iv y1, iv y2, iv y3, iv y4, iv z2, iv z3, iv z4, iv (0 : Int32), iv (0 : Int32), iv c2, iv c3, iv c4, iv pp, iv qq, iv (fmin pp qq), iv (fmax pp qq), rv b101, oU, oU, oU] [(.ref b101)])) _
    refine XS.aload X103.here hx rfl (hb hby at_562) rfl rfl ?_
    show Steps p.tables e below (T103.setTop (mkF m 564 #[iv p0, oJ q1, oS, iv p2, rv b1, iv l0, iv l1, iv l2, iv l3, iv l4, iv u0, iv u1, iv u2, iv u3, iv y1, iv y2, iv y3, iv y4, iv z2, iv z3, iv z4, iv (0 : Int32), iv (0 : Int32), iv c2, iv c3, iv c4, iv pp, iv qq, iv (fmin pp qq), iv (fmax pp qq), rv b101, oU, oU, oU] [(.ref b1), (.ref b101)])) _
    refine XS.iload X103.here hx rfl (hb hby at_564) rfl ?_
    show Steps p.tables e below (T103.setTop (mkF m 566 #[iv p0, oJ q1, oS, iv p2, rv b1, iv l0, iv l1, iv l2, iv l3, iv l4, iv u0, iv u1, iv u2, iv u3, iv y1, iv y2, iv y3, iv y4, iv z2, iv z3, iv z4, iv (0 : Int32), iv (0 : Int32), iv c2, iv c3, iv c4, iv pp, iv qq, iv (fmin pp qq), iv (fmax pp qq), rv b101, oU, oU, oU] [(.int (fmin pp qq)), (.ref b1), (.ref b101)])) _
    exact k
  refine own_cc (own_callV X103 hx hZ (y := (⟨"com/example/chartwell/chartwell/http/RequestReader$HeadEnd", "find", "([BI)I"⟩ : MethodName)) (z := (⟨"com/example/chartwell/chartwell/http/RequestReader$HeadEnd", "find", "([BI)I"⟩ : MethodName)) hown (hw _ (List.mem_of_getElem? (i := 25) rfl)) (hw _ (List.mem_of_getElem? (i := 26) rfl)) (notFace_of_selects (args := #[]) (mvT hZ (hw _ (List.mem_of_getElem? (i := 28) rfl)))) (hw _ (List.mem_of_getElem? (i := 28) rfl)) (hw _ (List.mem_of_getElem? (i := 27) rfl)) (hw _ (List.mem_of_getElem? (i := 14) rfl)) (hw _ (List.mem_of_getElem? (i := 29) rfl)) (by decide) (rm6 l Z a0 hw [] b101 b1 (fmin pp qq) (0 : Int32) (-1 : Int32) (1 : Int32) (0 : Int32) (nar .byte (fpick p0 q1 (0 : Int32))) (nar .byte (fpick p0 q1 (1 : Int32))) (nar .byte (fpick p0 q1 (2 : Int32))) (nar .byte (fpick p0 q1 (3 : Int32))) (nar .byte (fpick p0 q1 (4 : Int32))) k1 T103.heap n0 Z0 E_b101 F_scanned_b101 F_end_b101 F_lineEmpty_b101 F_started_b101 V_b1 ne_b1_b101 g_b101 (own_n5_1 pp qq (by rw [← hpp]; exact own_pp _) (by rw [← hqq]; exact own_pp _)) (Or.inl rfl)) (rfl : T103.heap = _) 0 (by decide) (by decide) (by decide) (by decide) rfl (by rw [hml]; rfl) b101 E_b101 [(.ref b1), (.int (fmin pp qq))] [] rfl (lenOf pd_3 rfl) rfl (by show 2 * 0 + _ ≤ _; exact Nat.le_of_eq rfl) (hb hby at_566)) fun T105 L105 v105 X105 hQ105 => ?_
  obtain ⟨rfl, N105, K105, E_b101', F_scanned_b101', F_end_b101', F_lineEmpty_b101', F_started_b101'⟩ := hQ105
  replace N0 := Fr.app N0 N105
  replace V_b1 := V_b1.keep K105 (ninS ne_b1_b101 nin0)
  replace E_b101 := E_b101.keep K105
  replace Z0 := Nat.le_trans Z0 K105.1
  replace E_b101 := E_b101'
  have F_scanned_b101 := F_scanned_b101'
  have F_end_b101 := F_end_b101'
  have F_lineEmpty_b101 := F_lineEmpty_b101'
  have F_started_b101 := F_started_b101'
  obtain ⟨t1, ht1⟩ : ∃ t, t = (ff (nar .byte (fpick p0 q1 (0 : Int32))) (nar .byte (fpick p0 q1 (1 : Int32))) (nar .byte (fpick p0 q1 (2 : Int32))) (nar .byte (fpick p0 q1 (3 : Int32))) (nar .byte (fpick p0 q1 (4 : Int32))) (0 : Int32) (fmin pp qq) (-1 : Int32) (1 : Int32) (0 : Int32)) := ⟨_, rfl⟩
  rw [← ht1] at F_scanned_b101 F_end_b101 F_lineEmpty_b101 F_started_b101 ⊢
  show own_Go p e below _ (T105.setTop (mkF m 569 #[iv p0, oJ q1, oS, iv p2, rv b1, iv l0, iv l1, iv l2, iv l3, iv l4, iv u0, iv u1, iv u2, iv u3, iv y1, iv y2, iv y3, iv y4, iv z2, iv z3, iv z4, iv (0 : Int32), iv (0 : Int32), iv c2, iv c3, iv c4, iv pp, iv qq, iv (fmin pp qq), iv (fmax pp qq), rv b101, oU, oU, oU] [(.int t1.1)]))
  refine own_by (B := T105.setTop (mkF m 577 #[iv p0, oJ q1, oS, iv p2, rv b1, iv l0, iv l1, iv l2, iv l3, iv l4, iv u0, iv u1, iv u2, iv u3, iv y1, iv y2, iv y3, iv y4, iv z2, iv z3, iv z4, iv (0 : Int32), iv (0 : Int32), iv c2, iv c3, iv c4, iv pp, iv qq, iv (fmin pp qq), iv (fmax pp qq), rv b101, iv t1.1, oU, oU] [(.int (fmax pp qq)), (.ref b1), (.ref b101)])) (fun t k => ?_) ?_
  · show Steps p.tables e below (T105.setTop (mkF m 569 #[iv p0, oJ q1, oS, iv p2, rv b1, iv l0, iv l1, iv l2, iv l3, iv l4, iv u0, iv u1, iv u2, iv u3, iv y1, iv y2, iv y3, iv y4, iv z2, iv z3, iv z4, iv (0 : Int32), iv (0 : Int32), iv c2, iv c3, iv c4, iv pp, iv qq, iv (fmin pp qq), iv (fmax pp qq), rv b101, oU, oU, oU] [(.int t1.1)])) _
    refine XS.istore X105.here hx rfl (hb hby at_569) rfl (l' := #[iv p0, oJ q1, oS, iv p2, rv b1, iv l0, iv l1, iv l2, iv l3, iv l4, iv u0, iv u1, iv u2, iv u3, iv y1, iv y2, iv y3, iv y4, iv z2, iv z3, iv z4, iv (0 : Int32), iv (0 : Int32), iv c2, iv c3, iv c4, iv pp, iv qq, iv (fmin pp qq), iv (fmax pp qq), rv b101, iv t1.1, oU, oU]) rfl ?_
    show Steps p.tables e below (T105.setTop (mkF m 571 #[iv p0, oJ q1, oS, iv p2, rv b1, iv l0, iv l1, iv l2, iv l3, iv l4, iv u0, iv u1, iv u2, iv u3, iv y1, iv y2, iv y3, iv y4, iv z2, iv z3, iv z4, iv (0 : Int32), iv (0 : Int32), iv c2, iv c3, iv c4, iv pp, iv qq, iv (fmin pp qq), iv (fmax pp qq), rv b101, iv t1.1, oU, oU] [])) _
    refine XS.aload X105.here hx rfl (hb hby at_571) rfl rfl ?_
    show Steps p.tables e below (T105.setTop (mkF m 573 #[iv p0, oJ q1, oS, iv p2, rv b1, iv l0, iv l1, iv l2, iv l3, iv l4, iv u0, iv u1, iv u2, iv u3, iv y1, iv y2, iv y3, iv y4, iv z2, iv z3, iv z4, iv (0 : Int32), iv (0 : Int32), iv c2, iv c3, iv c4, iv pp, iv qq, iv (fmin pp qq), iv (fmax pp qq), rv b101, iv t1.1, oU, oU] [(.ref b101)])) _
    refine XS.aload X105.here hx rfl (hb hby at_573) rfl rfl ?_
    show Steps p.tables e below (T105.setTop (mkF m 575 #[iv p0, oJ q1, oS, iv p2, rv b1, iv l0, iv l1, iv l2, iv l3, iv l4, iv u0, iv u1, iv u2, iv u3, iv y1, iv y2, iv y3, iv y4, iv z2, iv z3, iv z4, iv (0 : Int32), iv (0 : Int32), iv c2, iv c3, iv c4, iv pp, iv qq, iv (fmin pp qq), iv (fmax pp qq), rv b101, iv t1.1, oU, oU] [(.ref b1), (.ref b101)])) _
    refine XS.iload X105.here hx rfl (hb hby at_575) rfl ?_
    show Steps p.tables e below (T105.setTop (mkF m 577 #[iv p0, oJ q1, oS, iv p2, rv b1, iv l0, iv l1, iv l2, iv l3, iv l4, iv u0, iv u1, iv u2, iv u3, iv y1, iv y2, iv y3, iv y4, iv z2, iv z3, iv z4, iv (0 : Int32), iv (0 : Int32), iv c2, iv c3, iv c4, iv pp, iv qq, iv (fmin pp qq), iv (fmax pp qq), rv b101, iv t1.1, oU, oU] [(.int (fmax pp qq)), (.ref b1), (.ref b101)])) _
    exact k
  refine own_cc (own_callV X105 hx hZ (y := (⟨"com/example/chartwell/chartwell/http/RequestReader$HeadEnd", "find", "([BI)I"⟩ : MethodName)) (z := (⟨"com/example/chartwell/chartwell/http/RequestReader$HeadEnd", "find", "([BI)I"⟩ : MethodName)) hown (hw _ (List.mem_of_getElem? (i := 25) rfl)) (hw _ (List.mem_of_getElem? (i := 26) rfl)) (notFace_of_selects (args := #[]) (mvT hZ (hw _ (List.mem_of_getElem? (i := 28) rfl)))) (hw _ (List.mem_of_getElem? (i := 28) rfl)) (hw _ (List.mem_of_getElem? (i := 27) rfl)) (hw _ (List.mem_of_getElem? (i := 14) rfl)) (hw _ (List.mem_of_getElem? (i := 29) rfl)) (by decide) (rm6 l Z a0 hw [] b101 b1 (fmax pp qq) t1.2.1 t1.1 t1.2.2.1 t1.2.2.2 (nar .byte (fpick p0 q1 (0 : Int32))) (nar .byte (fpick p0 q1 (1 : Int32))) (nar .byte (fpick p0 q1 (2 : Int32))) (nar .byte (fpick p0 q1 (3 : Int32))) (nar .byte (fpick p0 q1 (4 : Int32))) k1 T105.heap n0 Z0 E_b101 F_scanned_b101 F_end_b101 F_lineEmpty_b101 F_started_b101 V_b1 ne_b1_b101 g_b101 (own_n5_2 pp qq (by rw [← hpp]; exact own_pp _) (by rw [← hqq]; exact own_pp _)) (by rw [ht1]; exact own_hs _ _ _ _ _ _ _ _ _ _ (Or.inl rfl))) (rfl : T105.heap = _) 0 (by decide) (by decide) (by decide) (by decide) rfl (by rw [hml]; rfl) b101 E_b101 [(.ref b1), (.int (fmax pp qq))] [] rfl (lenOf pd_3 rfl) rfl (by show 2 * 0 + _ ≤ _; exact Nat.le_of_eq rfl) (hb hby at_577)) fun T107 L107 v107 X107 hQ107 => ?_
  obtain ⟨rfl, N107, K107, E_b101', F_scanned_b101', F_end_b101', F_lineEmpty_b101', F_started_b101'⟩ := hQ107
  replace N0 := Fr.app N0 N107
  replace V_b1 := V_b1.keep K107 (ninS ne_b1_b101 nin0)
  replace E_b101 := E_b101.keep K107
  replace Z0 := Nat.le_trans Z0 K107.1
  replace E_b101 := E_b101'
  have F_scanned_b101 := F_scanned_b101'
  have F_end_b101 := F_end_b101'
  have F_lineEmpty_b101 := F_lineEmpty_b101'
  have F_started_b101 := F_started_b101'
  obtain ⟨t2, ht2⟩ : ∃ t, t = (ff (nar .byte (fpick p0 q1 (0 : Int32))) (nar .byte (fpick p0 q1 (1 : Int32))) (nar .byte (fpick p0 q1 (2 : Int32))) (nar .byte (fpick p0 q1 (3 : Int32))) (nar .byte (fpick p0 q1 (4 : Int32))) t1.2.1 (fmax pp qq) t1.1 t1.2.2.1 t1.2.2.2) := ⟨_, rfl⟩
  rw [← ht2] at F_scanned_b101 F_end_b101 F_lineEmpty_b101 F_started_b101 ⊢
  show own_Go p e below _ (T107.setTop (mkF m 580 #[iv p0, oJ q1, oS, iv p2, rv b1, iv l0, iv l1, iv l2, iv l3, iv l4, iv u0, iv u1, iv u2, iv u3, iv y1, iv y2, iv y3, iv y4, iv z2, iv z3, iv z4, iv (0 : Int32), iv (0 : Int32), iv c2, iv c3, iv c4, iv pp, iv qq, iv (fmin pp qq), iv (fmax pp qq), rv b101, iv t1.1, oU, oU] [(.int t2.1)]))
  refine own_by (B := T107.setTop (mkF m 587 #[iv p0, oJ q1, oS, iv p2, rv b1, iv l0, iv l1, iv l2, iv l3, iv l4, iv u0, iv u1, iv u2, iv u3, iv y1, iv y2, iv y3, iv y4, iv z2, iv z3, iv z4, iv (0 : Int32), iv (0 : Int32), iv c2, iv c3, iv c4, iv pp, iv qq, iv (fmin pp qq), iv (fmax pp qq), rv b101, iv t1.1, iv t2.1, oU] [(.int (5 : Int32)), (.ref b1), (.ref b101)])) (fun t k => ?_) ?_
  · show Steps p.tables e below (T107.setTop (mkF m 580 #[iv p0, oJ q1, oS, iv p2, rv b1, iv l0, iv l1, iv l2, iv l3, iv l4, iv u0, iv u1, iv u2, iv u3, iv y1, iv y2, iv y3, iv y4, iv z2, iv z3, iv z4, iv (0 : Int32), iv (0 : Int32), iv c2, iv c3, iv c4, iv pp, iv qq, iv (fmin pp qq), iv (fmax pp qq), rv b101, iv t1.1, oU, oU] [(.int t2.1)])) _
    refine XS.istore X107.here hx rfl (hb hby at_580) rfl (l' := #[iv p0, oJ q1, oS, iv p2, rv b1, iv l0, iv l1, iv l2, iv l3, iv l4, iv u0, iv u1, iv u2, iv u3, iv y1, iv y2, iv y3, iv y4, iv z2, iv z3, iv z4, iv (0 : Int32), iv (0 : Int32), iv c2, iv c3, iv c4, iv pp, iv qq, iv (fmin pp qq), iv (fmax pp qq), rv b101, iv t1.1, iv t2.1, oU]) rfl ?_
    show Steps p.tables e below (T107.setTop (mkF m 582 #[iv p0, oJ q1, oS, iv p2, rv b1, iv l0, iv l1, iv l2, iv l3, iv l4, iv u0, iv u1, iv u2, iv u3, iv y1, iv y2, iv y3, iv y4, iv z2, iv z3, iv z4, iv (0 : Int32), iv (0 : Int32), iv c2, iv c3, iv c4, iv pp, iv qq, iv (fmin pp qq), iv (fmax pp qq), rv b101, iv t1.1, iv t2.1, oU] [])) _
    refine XS.aload X107.here hx rfl (hb hby at_582) rfl rfl ?_
    show Steps p.tables e below (T107.setTop (mkF m 584 #[iv p0, oJ q1, oS, iv p2, rv b1, iv l0, iv l1, iv l2, iv l3, iv l4, iv u0, iv u1, iv u2, iv u3, iv y1, iv y2, iv y3, iv y4, iv z2, iv z3, iv z4, iv (0 : Int32), iv (0 : Int32), iv c2, iv c3, iv c4, iv pp, iv qq, iv (fmin pp qq), iv (fmax pp qq), rv b101, iv t1.1, iv t2.1, oU] [(.ref b101)])) _
    refine XS.aload X107.here hx rfl (hb hby at_584) rfl rfl ?_
    show Steps p.tables e below (T107.setTop (mkF m 586 #[iv p0, oJ q1, oS, iv p2, rv b1, iv l0, iv l1, iv l2, iv l3, iv l4, iv u0, iv u1, iv u2, iv u3, iv y1, iv y2, iv y3, iv y4, iv z2, iv z3, iv z4, iv (0 : Int32), iv (0 : Int32), iv c2, iv c3, iv c4, iv pp, iv qq, iv (fmin pp qq), iv (fmax pp qq), rv b101, iv t1.1, iv t2.1, oU] [(.ref b1), (.ref b101)])) _
    refine XS.iconst X107.here hx rfl (hb hby at_586) ?_
    show Steps p.tables e below (T107.setTop (mkF m 587 #[iv p0, oJ q1, oS, iv p2, rv b1, iv l0, iv l1, iv l2, iv l3, iv l4, iv u0, iv u1, iv u2, iv u3, iv y1, iv y2, iv y3, iv y4, iv z2, iv z3, iv z4, iv (0 : Int32), iv (0 : Int32), iv c2, iv c3, iv c4, iv pp, iv qq, iv (fmin pp qq), iv (fmax pp qq), rv b101, iv t1.1, iv t2.1, oU] [(.int (5 : Int32)), (.ref b1), (.ref b101)])) _
    exact k
  refine own_cc (own_callV X107 hx hZ (y := (⟨"com/example/chartwell/chartwell/http/RequestReader$HeadEnd", "find", "([BI)I"⟩ : MethodName)) (z := (⟨"com/example/chartwell/chartwell/http/RequestReader$HeadEnd", "find", "([BI)I"⟩ : MethodName)) hown (hw _ (List.mem_of_getElem? (i := 25) rfl)) (hw _ (List.mem_of_getElem? (i := 26) rfl)) (notFace_of_selects (args := #[]) (mvT hZ (hw _ (List.mem_of_getElem? (i := 28) rfl)))) (hw _ (List.mem_of_getElem? (i := 28) rfl)) (hw _ (List.mem_of_getElem? (i := 27) rfl)) (hw _ (List.mem_of_getElem? (i := 14) rfl)) (hw _ (List.mem_of_getElem? (i := 29) rfl)) (by decide) (rm6 l Z a0 hw [] b101 b1 (5 : Int32) t2.2.1 t2.1 t2.2.2.1 t2.2.2.2 (nar .byte (fpick p0 q1 (0 : Int32))) (nar .byte (fpick p0 q1 (1 : Int32))) (nar .byte (fpick p0 q1 (2 : Int32))) (nar .byte (fpick p0 q1 (3 : Int32))) (nar .byte (fpick p0 q1 (4 : Int32))) k1 T107.heap n0 Z0 E_b101 F_scanned_b101 F_end_b101 F_lineEmpty_b101 F_started_b101 V_b1 ne_b1_b101 g_b101 (own_n5_3 pp qq (by rw [← hpp]; exact own_pp _) (by rw [← hqq]; exact own_pp _)) (by rw [ht2]; exact own_hs _ _ _ _ _ _ _ _ _ _ (by rw [ht1]; exact own_hs _ _ _ _ _ _ _ _ _ _ (Or.inl rfl)))) (rfl : T107.heap = _) 0 (by decide) (by decide) (by decide) (by decide) rfl (by rw [hml]; rfl) b101 E_b101 [(.ref b1), (.int (5 : Int32))] [] rfl (lenOf pd_3 rfl) rfl (by show 2 * 0 + _ ≤ _; exact Nat.le_of_eq rfl) (hb hby at_587)) fun T109 L109 v109 X109 hQ109 => ?_
  obtain ⟨rfl, N109, K109, E_b101', F_scanned_b101', F_end_b101', F_lineEmpty_b101', F_started_b101'⟩ := hQ109
  replace N0 := Fr.app N0 N109
  replace V_b1 := V_b1.keep K109 (ninS ne_b1_b101 nin0)
  replace E_b101 := E_b101.keep K109
  replace Z0 := Nat.le_trans Z0 K109.1
  replace E_b101 := E_b101'
  have F_scanned_b101 := F_scanned_b101'
  have F_end_b101 := F_end_b101'
  have F_lineEmpty_b101 := F_lineEmpty_b101'
  have F_started_b101 := F_started_b101'
  obtain ⟨t3, ht3⟩ : ∃ t, t = (ff (nar .byte (fpick p0 q1 (0 : Int32))) (nar .byte (fpick p0 q1 (1 : Int32))) (nar .byte (fpick p0 q1 (2 : Int32))) (nar .byte (fpick p0 q1 (3 : Int32))) (nar .byte (fpick p0 q1 (4 : Int32))) t2.2.1 (5 : Int32) t2.1 t2.2.2.1 t2.2.2.2) := ⟨_, rfl⟩
  rw [← ht3] at F_scanned_b101 F_end_b101 F_lineEmpty_b101 F_started_b101 ⊢
  show own_Go p e below _ (T109.setTop (mkF m 590 #[iv p0, oJ q1, oS, iv p2, rv b1, iv l0, iv l1, iv l2, iv l3, iv l4, iv u0, iv u1, iv u2, iv u3, iv y1, iv y2, iv y3, iv y4, iv z2, iv z3, iv z4, iv (0 : Int32), iv (0 : Int32), iv c2, iv c3, iv c4, iv pp, iv qq, iv (fmin pp qq), iv (fmax pp qq), rv b101, iv t1.1, iv t2.1, oU] [(.int t3.1)]))
  refine own_by (B := T109.setTop (mkF m 606 #[iv p0, oJ q1, oS, iv p2, rv b1, iv l0, iv l1, iv l2, iv l3, iv l4, iv u0, iv u1, iv u2, iv u3, iv y1, iv y2, iv y3, iv y4, iv z2, iv z3, iv z4, iv (0 : Int32), iv (0 : Int32), iv c2, iv c3, iv c4, iv pp, iv qq, iv (fmin pp qq), iv (fmax pp qq), rv b101, iv t1.1, iv t2.1, iv t3.1] [(.int c4), (.int c3), (.int c2), (.int (0 : Int32)), (.int (0 : Int32)), (.int (fmin pp qq)), (.int t1.1)])) (fun t k => ?_) ?_
  · show Steps p.tables e below (T109.setTop (mkF m 590 #[iv p0, oJ q1, oS, iv p2, rv b1, iv l0, iv l1, iv l2, iv l3, iv l4, iv u0, iv u1, iv u2, iv u3, iv y1, iv y2, iv y3, iv y4, iv z2, iv z3, iv z4, iv (0 : Int32), iv (0 : Int32), iv c2, iv c3, iv c4, iv pp, iv qq, iv (fmin pp qq), iv (fmax pp qq), rv b101, iv t1.1, iv t2.1, oU] [(.int t3.1)])) _
    refine XS.istore X109.here hx rfl (hb hby at_590) rfl (l' := #[iv p0, oJ q1, oS, iv p2, rv b1, iv l0, iv l1, iv l2, iv l3, iv l4, iv u0, iv u1, iv u2, iv u3, iv y1, iv y2, iv y3, iv y4, iv z2, iv z3, iv z4, iv (0 : Int32), iv (0 : Int32), iv c2, iv c3, iv c4, iv pp, iv qq, iv (fmin pp qq), iv (fmax pp qq), rv b101, iv t1.1, iv t2.1, iv t3.1]) rfl ?_
    show Steps p.tables e below (T109.setTop (mkF m 592 #[iv p0, oJ q1, oS, iv p2, rv b1, iv l0, iv l1, iv l2, iv l3, iv l4, iv u0, iv u1, iv u2, iv u3, iv y1, iv y2, iv y3, iv y4, iv z2, iv z3, iv z4, iv (0 : Int32), iv (0 : Int32), iv c2, iv c3, iv c4, iv pp, iv qq, iv (fmin pp qq), iv (fmax pp qq), rv b101, iv t1.1, iv t2.1, iv t3.1] [])) _
    refine XS.iload X109.here hx rfl (hb hby at_592) rfl ?_
    show Steps p.tables e below (T109.setTop (mkF m 594 #[iv p0, oJ q1, oS, iv p2, rv b1, iv l0, iv l1, iv l2, iv l3, iv l4, iv u0, iv u1, iv u2, iv u3, iv y1, iv y2, iv y3, iv y4, iv z2, iv z3, iv z4, iv (0 : Int32), iv (0 : Int32), iv c2, iv c3, iv c4, iv pp, iv qq, iv (fmin pp qq), iv (fmax pp qq), rv b101, iv t1.1, iv t2.1, iv t3.1] [(.int t1.1)])) _
    refine XS.iload X109.here hx rfl (hb hby at_594) rfl ?_
    show Steps p.tables e below (T109.setTop (mkF m 596 #[iv p0, oJ q1, oS, iv p2, rv b1, iv l0, iv l1, iv l2, iv l3, iv l4, iv u0, iv u1, iv u2, iv u3, iv y1, iv y2, iv y3, iv y4, iv z2, iv z3, iv z4, iv (0 : Int32), iv (0 : Int32), iv c2, iv c3, iv c4, iv pp, iv qq, iv (fmin pp qq), iv (fmax pp qq), rv b101, iv t1.1, iv t2.1, iv t3.1] [(.int (fmin pp qq)), (.int t1.1)])) _
    refine XS.iload X109.here hx rfl (hb hby at_596) rfl ?_
    show Steps p.tables e below (T109.setTop (mkF m 598 #[iv p0, oJ q1, oS, iv p2, rv b1, iv l0, iv l1, iv l2, iv l3, iv l4, iv u0, iv u1, iv u2, iv u3, iv y1, iv y2, iv y3, iv y4, iv z2, iv z3, iv z4, iv (0 : Int32), iv (0 : Int32), iv c2, iv c3, iv c4, iv pp, iv qq, iv (fmin pp qq), iv (fmax pp qq), rv b101, iv t1.1, iv t2.1, iv t3.1] [(.int (0 : Int32)), (.int (fmin pp qq)), (.int t1.1)])) _
    refine XS.iload X109.here hx rfl (hb hby at_598) rfl ?_
    show Steps p.tables e below (T109.setTop (mkF m 600 #[iv p0, oJ q1, oS, iv p2, rv b1, iv l0, iv l1, iv l2, iv l3, iv l4, iv u0, iv u1, iv u2, iv u3, iv y1, iv y2, iv y3, iv y4, iv z2, iv z3, iv z4, iv (0 : Int32), iv (0 : Int32), iv c2, iv c3, iv c4, iv pp, iv qq, iv (fmin pp qq), iv (fmax pp qq), rv b101, iv t1.1, iv t2.1, iv t3.1] [(.int (0 : Int32)), (.int (0 : Int32)), (.int (fmin pp qq)), (.int t1.1)])) _
    refine XS.iload X109.here hx rfl (hb hby at_600) rfl ?_
    show Steps p.tables e below (T109.setTop (mkF m 602 #[iv p0, oJ q1, oS, iv p2, rv b1, iv l0, iv l1, iv l2, iv l3, iv l4, iv u0, iv u1, iv u2, iv u3, iv y1, iv y2, iv y3, iv y4, iv z2, iv z3, iv z4, iv (0 : Int32), iv (0 : Int32), iv c2, iv c3, iv c4, iv pp, iv qq, iv (fmin pp qq), iv (fmax pp qq), rv b101, iv t1.1, iv t2.1, iv t3.1] [(.int c2), (.int (0 : Int32)), (.int (0 : Int32)), (.int (fmin pp qq)), (.int t1.1)])) _
    refine XS.iload X109.here hx rfl (hb hby at_602) rfl ?_
    show Steps p.tables e below (T109.setTop (mkF m 604 #[iv p0, oJ q1, oS, iv p2, rv b1, iv l0, iv l1, iv l2, iv l3, iv l4, iv u0, iv u1, iv u2, iv u3, iv y1, iv y2, iv y3, iv y4, iv z2, iv z3, iv z4, iv (0 : Int32), iv (0 : Int32), iv c2, iv c3, iv c4, iv pp, iv qq, iv (fmin pp qq), iv (fmax pp qq), rv b101, iv t1.1, iv t2.1, iv t3.1] [(.int c3), (.int c2), (.int (0 : Int32)), (.int (0 : Int32)), (.int (fmin pp qq)), (.int t1.1)])) _
    refine XS.iload X109.here hx rfl (hb hby at_604) rfl ?_
    show Steps p.tables e below (T109.setTop (mkF m 606 #[iv p0, oJ q1, oS, iv p2, rv b1, iv l0, iv l1, iv l2, iv l3, iv l4, iv u0, iv u1, iv u2, iv u3, iv y1, iv y2, iv y3, iv y4, iv z2, iv z3, iv z4, iv (0 : Int32), iv (0 : Int32), iv c2, iv c3, iv c4, iv pp, iv qq, iv (fmin pp qq), iv (fmax pp qq), rv b101, iv t1.1, iv t2.1, iv t3.1] [(.int c4), (.int c3), (.int c2), (.int (0 : Int32)), (.int (0 : Int32)), (.int (fmin pp qq)), (.int t1.1)])) _
    exact k
  refine own_cc (own_callS X109 hx hZ (y := (⟨"com/example/chartwell/chartwell/http/HeadEndFindPinLaw", "expected", "(IZZZZZ)I"⟩ : MethodName)) hown (hw _ (List.mem_of_getElem? (i := 34) rfl)) (hw _ (List.mem_of_getElem? (i := 35) rfl)) (hw _ (List.mem_of_getElem? (i := 3) rfl)) (hw _ (List.mem_of_getElem? (i := 36) rfl)) (by decide) (rm7 l Z a0 hw [] (fmin pp qq) (0 : Int32) (0 : Int32) c2 c3 c4 T109.heap n0 Z0 ) (rfl : T109.heap = _) 1 (by decide) (by decide) (by decide) (by decide) rfl (by rw [hml]; rfl) [(.int (fmin pp qq)), (.int (0 : Int32)), (.int (0 : Int32)), (.int c2), (.int c3), (.int c4)] [(.int t1.1)] rfl (lenOf pd_4 rfl) rfl (by show 2 * 0 + _ ≤ _; exact Nat.le_of_eq rfl) (hb hby at_606)) fun T111 L111 v111 X111 hQ111 => ?_
  obtain ⟨rfl, N111, e111⟩ := hQ111
  replace N0 := Fr.app N0 N111
  show own_Go p e below _ (T111.setTop (mkF m 609 #[iv p0, oJ q1, oS, iv p2, rv b1, iv l0, iv l1, iv l2, iv l3, iv l4, iv u0, iv u1, iv u2, iv u3, iv y1, iv y2, iv y3, iv y4, iv z2, iv z3, iv z4, iv (0 : Int32), iv (0 : Int32), iv c2, iv c3, iv c4, iv pp, iv qq, iv (fmin pp qq), iv (fmax pp qq), rv b101, iv t1.1, iv t2.1, iv t3.1] [(.int (fex (fmin pp qq) (0 : Int32) (0 : Int32) c2 c3 c4)), (.int t1.1)]))
  refine own_by (B := T111.setTop (mkF m 626 #[iv p0, oJ q1, oS, iv p2, rv b1, iv l0, iv l1, iv l2, iv l3, iv l4, iv u0, iv u1, iv u2, iv u3, iv y1, iv y2, iv y3, iv y4, iv z2, iv z3, iv z4, iv (0 : Int32), iv (0 : Int32), iv c2, iv c3, iv c4, iv pp, iv qq, iv (fmin pp qq), iv (fmax pp qq), rv b101, iv t1.1, iv t2.1, iv t3.1] [(.int c4), (.int c3), (.int c2), (.int (0 : Int32)), (.int (0 : Int32)), (.int (fmax pp qq)), (.int t2.1)])) (fun t k => ?_) ?_
  · show Steps p.tables e below (T111.setTop (mkF m 609 #[iv p0, oJ q1, oS, iv p2, rv b1, iv l0, iv l1, iv l2, iv l3, iv l4, iv u0, iv u1, iv u2, iv u3, iv y1, iv y2, iv y3, iv y4, iv z2, iv z3, iv z4, iv (0 : Int32), iv (0 : Int32), iv c2, iv c3, iv c4, iv pp, iv qq, iv (fmin pp qq), iv (fmax pp qq), rv b101, iv t1.1, iv t2.1, iv t3.1] [(.int (fex (fmin pp qq) (0 : Int32) (0 : Int32) c2 c3 c4)), (.int t1.1)])) _
    refine XS.icmpNo X111.here hx rfl (hb hby at_609) rfl (teq (own_fin1 (nar .byte (fpick p0 q1 (0 : Int32))) (nar .byte (fpick p0 q1 (1 : Int32))) (nar .byte (fpick p0 q1 (2 : Int32))) (nar .byte (fpick p0 q1 (3 : Int32))) (nar .byte (fpick p0 q1 (4 : Int32))) l0 l1 l2 l3 l4 u0 u1 u2 u3 y1 y2 y3 y4 z2 z3 z4 c2 c3 c4 pp qq (by rw [← hpp]; exact own_pp _) (by rw [← hqq]; exact own_pp _) t1 ht1 hl0 hl1 hl2 hl3 hl4 hu0 hu1 hu2 hu3 hy1 hy2 hy3 hy4 hz2 hz3 hz4 hc2 hc3 hc4)).2 ?_
    show Steps p.tables e below (T111.setTop (mkF m 612 #[iv p0, oJ q1, oS, iv p2, rv b1, iv l0, iv l1, iv l2, iv l3, iv l4, iv u0, iv u1, iv u2, iv u3, iv y1, iv y2, iv y3, iv y4, iv z2, iv z3, iv z4, iv (0 : Int32), iv (0 : Int32), iv c2, iv c3, iv c4, iv pp, iv qq, iv (fmin pp qq), iv (fmax pp qq), rv b101, iv t1.1, iv t2.1, iv t3.1] [])) _
    refine XS.iload X111.here hx rfl (hb hby at_612) rfl ?_
    show Steps p.tables e below (T111.setTop (mkF m 614 #[iv p0, oJ q1, oS, iv p2, rv b1, iv l0, iv l1, iv l2, iv l3, iv l4, iv u0, iv u1, iv u2, iv u3, iv y1, iv y2, iv y3, iv y4, iv z2, iv z3, iv z4, iv (0 : Int32), iv (0 : Int32), iv c2, iv c3, iv c4, iv pp, iv qq, iv (fmin pp qq), iv (fmax pp qq), rv b101, iv t1.1, iv t2.1, iv t3.1] [(.int t2.1)])) _
    refine XS.iload X111.here hx rfl (hb hby at_614) rfl ?_
    show Steps p.tables e below (T111.setTop (mkF m 616 #[iv p0, oJ q1, oS, iv p2, rv b1, iv l0, iv l1, iv l2, iv l3, iv l4, iv u0, iv u1, iv u2, iv u3, iv y1, iv y2, iv y3, iv y4, iv z2, iv z3, iv z4, iv (0 : Int32), iv (0 : Int32), iv c2, iv c3, iv c4, iv pp, iv qq, iv (fmin pp qq), iv (fmax pp qq), rv b101, iv t1.1, iv t2.1, iv t3.1] [(.int (fmax pp qq)), (.int t2.1)])) _
    refine XS.iload X111.here hx rfl (hb hby at_616) rfl ?_
    show Steps p.tables e below (T111.setTop (mkF m 618 #[iv p0, oJ q1, oS, iv p2, rv b1, iv l0, iv l1, iv l2, iv l3, iv l4, iv u0, iv u1, iv u2, iv u3, iv y1, iv y2, iv y3, iv y4, iv z2, iv z3, iv z4, iv (0 : Int32), iv (0 : Int32), iv c2, iv c3, iv c4, iv pp, iv qq, iv (fmin pp qq), iv (fmax pp qq), rv b101, iv t1.1, iv t2.1, iv t3.1] [(.int (0 : Int32)), (.int (fmax pp qq)), (.int t2.1)])) _
    refine XS.iload X111.here hx rfl (hb hby at_618) rfl ?_
    show Steps p.tables e below (T111.setTop (mkF m 620 #[iv p0, oJ q1, oS, iv p2, rv b1, iv l0, iv l1, iv l2, iv l3, iv l4, iv u0, iv u1, iv u2, iv u3, iv y1, iv y2, iv y3, iv y4, iv z2, iv z3, iv z4, iv (0 : Int32), iv (0 : Int32), iv c2, iv c3, iv c4, iv pp, iv qq, iv (fmin pp qq), iv (fmax pp qq), rv b101, iv t1.1, iv t2.1, iv t3.1] [(.int (0 : Int32)), (.int (0 : Int32)), (.int (fmax pp qq)), (.int t2.1)])) _
    refine XS.iload X111.here hx rfl (hb hby at_620) rfl ?_
    show Steps p.tables e below (T111.setTop (mkF m 622 #[iv p0, oJ q1, oS, iv p2, rv b1, iv l0, iv l1, iv l2, iv l3, iv l4, iv u0, iv u1, iv u2, iv u3, iv y1, iv y2, iv y3, iv y4, iv z2, iv z3, iv z4, iv (0 : Int32), iv (0 : Int32), iv c2, iv c3, iv c4, iv pp, iv qq, iv (fmin pp qq), iv (fmax pp qq), rv b101, iv t1.1, iv t2.1, iv t3.1] [(.int c2), (.int (0 : Int32)), (.int (0 : Int32)), (.int (fmax pp qq)), (.int t2.1)])) _
    refine XS.iload X111.here hx rfl (hb hby at_622) rfl ?_
    show Steps p.tables e below (T111.setTop (mkF m 624 #[iv p0, oJ q1, oS, iv p2, rv b1, iv l0, iv l1, iv l2, iv l3, iv l4, iv u0, iv u1, iv u2, iv u3, iv y1, iv y2, iv y3, iv y4, iv z2, iv z3, iv z4, iv (0 : Int32), iv (0 : Int32), iv c2, iv c3, iv c4, iv pp, iv qq, iv (fmin pp qq), iv (fmax pp qq), rv b101, iv t1.1, iv t2.1, iv t3.1] [(.int c3), (.int c2), (.int (0 : Int32)), (.int (0 : Int32)), (.int (fmax pp qq)), (.int t2.1)])) _
    refine XS.iload X111.here hx rfl (hb hby at_624) rfl ?_
    show Steps p.tables e below (T111.setTop (mkF m 626 #[iv p0, oJ q1, oS, iv p2, rv b1, iv l0, iv l1, iv l2, iv l3, iv l4, iv u0, iv u1, iv u2, iv u3, iv y1, iv y2, iv y3, iv y4, iv z2, iv z3, iv z4, iv (0 : Int32), iv (0 : Int32), iv c2, iv c3, iv c4, iv pp, iv qq, iv (fmin pp qq), iv (fmax pp qq), rv b101, iv t1.1, iv t2.1, iv t3.1] [(.int c4), (.int c3), (.int c2), (.int (0 : Int32)), (.int (0 : Int32)), (.int (fmax pp qq)), (.int t2.1)])) _
    exact k
  refine own_cc (own_callS X111 hx hZ (y := (⟨"com/example/chartwell/chartwell/http/HeadEndFindPinLaw", "expected", "(IZZZZZ)I"⟩ : MethodName)) hown (hw _ (List.mem_of_getElem? (i := 34) rfl)) (hw _ (List.mem_of_getElem? (i := 35) rfl)) (hw _ (List.mem_of_getElem? (i := 3) rfl)) (hw _ (List.mem_of_getElem? (i := 36) rfl)) (by decide) (rm7 l Z a0 hw [] (fmax pp qq) (0 : Int32) (0 : Int32) c2 c3 c4 T109.heap n0 Z0 ) e111 1 (by decide) (by decide) (by decide) (by decide) rfl (by rw [hml]; rfl) [(.int (fmax pp qq)), (.int (0 : Int32)), (.int (0 : Int32)), (.int c2), (.int c3), (.int c4)] [(.int t2.1)] rfl (lenOf pd_4 rfl) rfl (by show 2 * 0 + _ ≤ _; exact Nat.le_of_eq rfl) (hb hby at_626)) fun T113 L113 v113 X113 hQ113 => ?_
  obtain ⟨rfl, N113, e113⟩ := hQ113
  replace N0 := Fr.app N0 N113
  show own_Go p e below _ (T113.setTop (mkF m 629 #[iv p0, oJ q1, oS, iv p2, rv b1, iv l0, iv l1, iv l2, iv l3, iv l4, iv u0, iv u1, iv u2, iv u3, iv y1, iv y2, iv y3, iv y4, iv z2, iv z3, iv z4, iv (0 : Int32), iv (0 : Int32), iv c2, iv c3, iv c4, iv pp, iv qq, iv (fmin pp qq), iv (fmax pp qq), rv b101, iv t1.1, iv t2.1, iv t3.1] [(.int (fex (fmax pp qq) (0 : Int32) (0 : Int32) c2 c3 c4)), (.int t2.1)]))
  refine own_by (B := T113.setTop (mkF m 645 #[iv p0, oJ q1, oS, iv p2, rv b1, iv l0, iv l1, iv l2, iv l3, iv l4, iv u0, iv u1, iv u2, iv u3, iv y1, iv y2, iv y3, iv y4, iv z2, iv z3, iv z4, iv (0 : Int32), iv (0 : Int32), iv c2, iv c3, iv c4, iv pp, iv qq, iv (fmin pp qq), iv (fmax pp qq), rv b101, iv t1.1, iv t2.1, iv t3.1] [(.int c4), (.int c3), (.int c2), (.int (0 : Int32)), (.int (0 : Int32)), (.int (5 : Int32)), (.int t3.1)])) (fun t k => ?_) ?_
  · show Steps p.tables e below (T113.setTop (mkF m 629 #[iv p0, oJ q1, oS, iv p2, rv b1, iv l0, iv l1, iv l2, iv l3, iv l4, iv u0, iv u1, iv u2, iv u3, iv y1, iv y2, iv y3, iv y4, iv z2, iv z3, iv z4, iv (0 : Int32), iv (0 : Int32), iv c2, iv c3, iv c4, iv pp, iv qq, iv (fmin pp qq), iv (fmax pp qq), rv b101, iv t1.1, iv t2.1, iv t3.1] [(.int (fex (fmax pp qq) (0 : Int32) (0 : Int32) c2 c3 c4)), (.int t2.1)])) _
    refine XS.icmpNo X113.here hx rfl (hb hby at_629) rfl (teq (own_fin2 (nar .byte (fpick p0 q1 (0 : Int32))) (nar .byte (fpick p0 q1 (1 : Int32))) (nar .byte (fpick p0 q1 (2 : Int32))) (nar .byte (fpick p0 q1 (3 : Int32))) (nar .byte (fpick p0 q1 (4 : Int32))) l0 l1 l2 l3 l4 u0 u1 u2 u3 y1 y2 y3 y4 z2 z3 z4 c2 c3 c4 pp qq (by rw [← hpp]; exact own_pp _) (by rw [← hqq]; exact own_pp _) t1 t2 ht1 ht2 hl0 hl1 hl2 hl3 hl4 hu0 hu1 hu2 hu3 hy1 hy2 hy3 hy4 hz2 hz3 hz4 hc2 hc3 hc4)).2 ?_
    show Steps p.tables e below (T113.setTop (mkF m 632 #[iv p0, oJ q1, oS, iv p2, rv b1, iv l0, iv l1, iv l2, iv l3, iv l4, iv u0, iv u1, iv u2, iv u3, iv y1, iv y2, iv y3, iv y4, iv z2, iv z3, iv z4, iv (0 : Int32), iv (0 : Int32), iv c2, iv c3, iv c4, iv pp, iv qq, iv (fmin pp qq), iv (fmax pp qq), rv b101, iv t1.1, iv t2.1, iv t3.1] [])) _
    refine XS.iload X113.here hx rfl (hb hby at_632) rfl ?_
    show Steps p.tables e below (T113.setTop (mkF m 634 #[iv p0, oJ q1, oS, iv p2, rv b1, iv l0, iv l1, iv l2, iv l3, iv l4, iv u0, iv u1, iv u2, iv u3, iv y1, iv y2, iv y3, iv y4, iv z2, iv z3, iv z4, iv (0 : Int32), iv (0 : Int32), iv c2, iv c3, iv c4, iv pp, iv qq, iv (fmin pp qq), iv (fmax pp qq), rv b101, iv t1.1, iv t2.1, iv t3.1] [(.int t3.1)])) _
    refine XS.iconst X113.here hx rfl (hb hby at_634) ?_
    show Steps p.tables e below (T113.setTop (mkF m 635 #[iv p0, oJ q1, oS, iv p2, rv b1, iv l0, iv l1, iv l2, iv l3, iv l4, iv u0, iv u1, iv u2, iv u3, iv y1, iv y2, iv y3, iv y4, iv z2, iv z3, iv z4, iv (0 : Int32), iv (0 : Int32), iv c2, iv c3, iv c4, iv pp, iv qq, iv (fmin pp qq), iv (fmax pp qq), rv b101, iv t1.1, iv t2.1, iv t3.1] [(.int (5 : Int32)), (.int t3.1)])) _
    refine XS.iload X113.here hx rfl (hb hby at_635) rfl ?_
    show Steps p.tables e below (T113.setTop (mkF m 637 #[iv p0, oJ q1, oS, iv p2, rv b1, iv l0, iv l1, iv l2, iv l3, iv l4, iv u0, iv u1, iv u2, iv u3, iv y1, iv y2, iv y3, iv y4, iv z2, iv z3, iv z4, iv (0 : Int32), iv (0 : Int32), iv c2, iv c3, iv c4, iv pp, iv qq, iv (fmin pp qq), iv (fmax pp qq), rv b101, iv t1.1, iv t2.1, iv t3.1] [(.int (0 : Int32)), (.int (5 : Int32)), (.int t3.1)])) _
    refine XS.iload X113.here hx rfl (hb hby at_637) rfl ?_
    show Steps p.tables e below (T113.setTop (mkF m 639 #[iv p0, oJ q1, oS, iv p2, rv b1, iv l0, iv l1, iv l2, iv l3, iv l4, iv u0, iv u1, iv u2, iv u3, iv y1, iv y2, iv y3, iv y4, iv z2, iv z3, iv z4, iv (0 : Int32), iv (0 : Int32), iv c2, iv c3, iv c4, iv pp, iv qq, iv (fmin pp qq), iv (fmax pp qq), rv b101, iv t1.1, iv t2.1, iv t3.1] [(.int (0 : Int32)), (.int (0 : Int32)), (.int (5 : Int32)), (.int t3.1)])) _
    refine XS.iload X113.here hx rfl (hb hby at_639) rfl ?_
    show Steps p.tables e below (T113.setTop (mkF m 641 #[iv p0, oJ q1, oS, iv p2, rv b1, iv l0, iv l1, iv l2, iv l3, iv l4, iv u0, iv u1, iv u2, iv u3, iv y1, iv y2, iv y3, iv y4, iv z2, iv z3, iv z4, iv (0 : Int32), iv (0 : Int32), iv c2, iv c3, iv c4, iv pp, iv qq, iv (fmin pp qq), iv (fmax pp qq), rv b101, iv t1.1, iv t2.1, iv t3.1] [(.int c2), (.int (0 : Int32)), (.int (0 : Int32)), (.int (5 : Int32)), (.int t3.1)])) _
    refine XS.iload X113.here hx rfl (hb hby at_641) rfl ?_
    show Steps p.tables e below (T113.setTop (mkF m 643 #[iv p0, oJ q1, oS, iv p2, rv b1, iv l0, iv l1, iv l2, iv l3, iv l4, iv u0, iv u1, iv u2, iv u3, iv y1, iv y2, iv y3, iv y4, iv z2, iv z3, iv z4, iv (0 : Int32), iv (0 : Int32), iv c2, iv c3, iv c4, iv pp, iv qq, iv (fmin pp qq), iv (fmax pp qq), rv b101, iv t1.1, iv t2.1, iv t3.1] [(.int c3), (.int c2), (.int (0 : Int32)), (.int (0 : Int32)), (.int (5 : Int32)), (.int t3.1)])) _
    refine XS.iload X113.here hx rfl (hb hby at_643) rfl ?_
    show Steps p.tables e below (T113.setTop (mkF m 645 #[iv p0, oJ q1, oS, iv p2, rv b1, iv l0, iv l1, iv l2, iv l3, iv l4, iv u0, iv u1, iv u2, iv u3, iv y1, iv y2, iv y3, iv y4, iv z2, iv z3, iv z4, iv (0 : Int32), iv (0 : Int32), iv c2, iv c3, iv c4, iv pp, iv qq, iv (fmin pp qq), iv (fmax pp qq), rv b101, iv t1.1, iv t2.1, iv t3.1] [(.int c4), (.int c3), (.int c2), (.int (0 : Int32)), (.int (0 : Int32)), (.int (5 : Int32)), (.int t3.1)])) _
    exact k
  refine own_cc (own_callS X113 hx hZ (y := (⟨"com/example/chartwell/chartwell/http/HeadEndFindPinLaw", "expected", "(IZZZZZ)I"⟩ : MethodName)) hown (hw _ (List.mem_of_getElem? (i := 34) rfl)) (hw _ (List.mem_of_getElem? (i := 35) rfl)) (hw _ (List.mem_of_getElem? (i := 3) rfl)) (hw _ (List.mem_of_getElem? (i := 36) rfl)) (by decide) (rm7 l Z a0 hw [] (5 : Int32) (0 : Int32) (0 : Int32) c2 c3 c4 T109.heap n0 Z0 ) e113 1 (by decide) (by decide) (by decide) (by decide) rfl (by rw [hml]; rfl) [(.int (5 : Int32)), (.int (0 : Int32)), (.int (0 : Int32)), (.int c2), (.int c3), (.int c4)] [(.int t3.1)] rfl (lenOf pd_4 rfl) rfl (by show 2 * 0 + _ ≤ _; exact Nat.le_of_eq rfl) (hb hby at_645)) fun T115 L115 v115 X115 hQ115 => ?_
  obtain ⟨rfl, N115, e115⟩ := hQ115
  replace N0 := Fr.app N0 N115
  show own_Go p e below _ (T115.setTop (mkF m 648 #[iv p0, oJ q1, oS, iv p2, rv b1, iv l0, iv l1, iv l2, iv l3, iv l4, iv u0, iv u1, iv u2, iv u3, iv y1, iv y2, iv y3, iv y4, iv z2, iv z3, iv z4, iv (0 : Int32), iv (0 : Int32), iv c2, iv c3, iv c4, iv pp, iv qq, iv (fmin pp qq), iv (fmax pp qq), rv b101, iv t1.1, iv t2.1, iv t3.1] [(.int (fex (5 : Int32) (0 : Int32) (0 : Int32) c2 c3 c4)), (.int t3.1)]))
  refine own_by (B := T115.setTop (mkF m 656 #[iv p0, oJ q1, oS, iv p2, rv b1, iv l0, iv l1, iv l2, iv l3, iv l4, iv u0, iv u1, iv u2, iv u3, iv y1, iv y2, iv y3, iv y4, iv z2, iv z3, iv z4, iv (0 : Int32), iv (0 : Int32), iv c2, iv c3, iv c4, iv pp, iv qq, iv (fmin pp qq), iv (fmax pp qq), rv b101, iv t1.1, iv t2.1, iv t3.1] [(.int (1 : Int32))])) (fun t k => ?_) ?_
  · show Steps p.tables e below (T115.setTop (mkF m 648 #[iv p0, oJ q1, oS, iv p2, rv b1, iv l0, iv l1, iv l2, iv l3, iv l4, iv u0, iv u1, iv u2, iv u3, iv y1, iv y2, iv y3, iv y4, iv z2, iv z3, iv z4, iv (0 : Int32), iv (0 : Int32), iv c2, iv c3, iv c4, iv pp, iv qq, iv (fmin pp qq), iv (fmax pp qq), rv b101, iv t1.1, iv t2.1, iv t3.1] [(.int (fex (5 : Int32) (0 : Int32) (0 : Int32) c2 c3 c4)), (.int t3.1)])) _
    refine XS.icmpNo X115.here hx rfl (hb hby at_648) rfl (teq (own_fin3 (nar .byte (fpick p0 q1 (0 : Int32))) (nar .byte (fpick p0 q1 (1 : Int32))) (nar .byte (fpick p0 q1 (2 : Int32))) (nar .byte (fpick p0 q1 (3 : Int32))) (nar .byte (fpick p0 q1 (4 : Int32))) l0 l1 l2 l3 l4 u0 u1 u2 u3 y1 y2 y3 y4 z2 z3 z4 c2 c3 c4 pp qq (by rw [← hpp]; exact own_pp _) (by rw [← hqq]; exact own_pp _) t1 t2 t3 ht1 ht2 ht3 hl0 hl1 hl2 hl3 hl4 hu0 hu1 hu2 hu3 hy1 hy2 hy3 hy4 hz2 hz3 hz4 hc2 hc3 hc4)).2 ?_
    show Steps p.tables e below (T115.setTop (mkF m 651 #[iv p0, oJ q1, oS, iv p2, rv b1, iv l0, iv l1, iv l2, iv l3, iv l4, iv u0, iv u1, iv u2, iv u3, iv y1, iv y2, iv y3, iv y4, iv z2, iv z3, iv z4, iv (0 : Int32), iv (0 : Int32), iv c2, iv c3, iv c4, iv pp, iv qq, iv (fmin pp qq), iv (fmax pp qq), rv b101, iv t1.1, iv t2.1, iv t3.1] [])) _
    refine XS.iconst X115.here hx rfl (hb hby at_651) ?_
    show Steps p.tables e below (T115.setTop (mkF m 652 #[iv p0, oJ q1, oS, iv p2, rv b1, iv l0, iv l1, iv l2, iv l3, iv l4, iv u0, iv u1, iv u2, iv u3, iv y1, iv y2, iv y3, iv y4, iv z2, iv z3, iv z4, iv (0 : Int32), iv (0 : Int32), iv c2, iv c3, iv c4, iv pp, iv qq, iv (fmin pp qq), iv (fmax pp qq), rv b101, iv t1.1, iv t2.1, iv t3.1] [(.int (1 : Int32))])) _
    refine XS.goto X115.here hx rfl (pc0 := 652) (pc' := 656) rfl (hb hby at_652) (by decide) (by decide) ?_
    show Steps p.tables e below (T115.setTop (mkF m 656 #[iv p0, oJ q1, oS, iv p2, rv b1, iv l0, iv l1, iv l2, iv l3, iv l4, iv u0, iv u1, iv u2, iv u3, iv y1, iv y2, iv y3, iv y4, iv z2, iv z3, iv z4, iv (0 : Int32), iv (0 : Int32), iv c2, iv c3, iv c4, iv pp, iv qq, iv (fmin pp qq), iv (fmax pp qq), rv b101, iv t1.1, iv t2.1, iv t3.1] [(.int (1 : Int32))])) _
    exact k
  exact own_retN X115 Bd.notSynchronized hx (t := .boolean) Bd.returns (by simp) (hb hby at_656) (by
      rw [show T115.heap = T109.heap from e115]
      exact ⟨rfl, N0⟩) (by decide) (by decide)

set_option maxRecDepth 65536 in
set_option maxHeartbeats 40000000 in
theorem comes_1 {Post : Tables → Env → Array Value → State → Outcome → State → Prop} (hpost : ∀ tb e args s v u, (limb_1_1.after args s (.returned v) u = true ∧ limb_1_2.after args s (.returned v) u = true ∧ True) → FrameEnd s (.returned v) u (Jvm.fieldLocs frame_1_writes args s ++ Jvm.arrayLocs frame_1_arrays args s ++ Jvm.staticLocs frame_1_statics s) 16 128 → Post tb e args s (.returned v) u) :
    ArmFor flags0 classFile x code maxLocals ret World_1 tables_1 room_1 Calls_1 rest_1 Pre_1 Post := by
  intro l hfl _ _ p e ha hc hk s m args below hf hA hF happ hP
  obtain ⟨hcalls, hrest, hpre⟩ := hP
  obtain ⟨-, -, -, hnamed, -, -, -, hat⟩ := (Spec.applies_iff hf).mp happ
  obtain ⟨hg, hn⟩ := and_e (Cond.before_iff.mp (show (Jvm.Cond.and given_1 narrow_1).before args s = true from hpre))
  obtain ⟨g0, g0'⟩ := and_e hg
  obtain ⟨g1, g1'⟩ := and_e g0'
  obtain ⟨g2, g2'⟩ := and_e g1'
  obtain ⟨w0, w1, w2, rfl⟩ : ∃ w0 w1 w2 : Value, args = #[w0, w1, w2] := by
    have hs : args.size = 3 := by simpa [Cond.value, given_1] using g0
    obtain ⟨L⟩ := args
    match L, hs with
    | [w0, w1, w2], _ => exact ⟨w0, w1, w2, rfl⟩
  have hw := fun d (hd : d ∈ tables_1) => atoms_spec (ws := Jvm.Cond.code x code maxLocals ret :: tables_1) hat d (List.mem_cons_of_mem _ hd)
  have hfit : Fit s := fun {y c} hc i hi => by
    obtain ⟨ha, rfl⟩ := Array.getElem?_eq_some_iff.mp hc
    have q := List.all_eq_true.mp ((Array.all_eq_true_iff_forall_mem.mp hF) _ (Array.getElem_mem ha)) i (List.mem_range.mpr hi)
    simpa [Array.getElem?_eq_getElem hi] using q
  obtain ⟨i0, ei0⟩ := is_v g1
  obtain rfl : w0 = (.int i0) := Option.some.inj ei0
  obtain ⟨i1, ei1⟩ := isL_v g2
  obtain rfl : w1 = (.long i1) := Option.some.inj ei1
  obtain ⟨i2, ei2⟩ := is_v g2'
  obtain rfl : w2 = (.int i2) := Option.some.inj ei2
  obtain ⟨n, o, h1, h2, h3, _, L, rfl, ⟨rfl, N⟩, hq⟩ := rm0 l s _ hw tables_1 i0 i1 i2 s.heap s.heap.size (Nat.le_refl _) p e ha hc hk s m _ below hf ((Spec.applies_iff_loose hf).mp happ).1 ⟨rfl, State.Warmed39.refl s, rfl⟩ trivial
  refine ⟨n, _, h1, h2, h3, hpost _ _ _ _ _ _ ⟨Cond.after_iff.mpr rfl, Cond.after_iff.mpr (eq_i res_at (Term.int_eval (1)) rfl), trivial⟩ ⟨hq.1, hq.2.1, (hq.2.2.sift fun y hy => Or.inr (N y hy)).mono (by decide) (by decide)⟩⟩
theorem main_1_1 : Claimed_1_1 := comes_1 fun _ _ _ _ _ _ h hF => ⟨h.1, hF⟩
theorem main_1_2 : Claimed_1_2 := comes_1 fun _ _ _ _ _ _ h hF => ⟨h.2.1, hF⟩
end Jvm.Pilot.@@N@@
namespace Jvm.Pilot.@@N@@
open Jvm Jvm.ClassFile Sem Op Lib Jvm.Free Jvm.Stand Jvm.Pilot.@@N@@.Jvm.D
/-! MADE BY PROGRAM (witnessworld.py) out of the Statement's table words and the real class files: 10 classes; the members and pool entries that the words name. The judged class is class 1, her method 3. -/
namespace start1
open Jvm.ClassFile
def u (s : String) : CpInfo := .utf8 (stringToUtf16 s)
/-- a pool by its gaps: so many unusable entries, then the entry; so many at the end -/
def gap : Nat → List CpInfo → List CpInfo
  | 0, r => r
  | n + 1, r => .unusable :: gap n r
def poolList (es : List (Nat × CpInfo)) (last : Nat) : List CpInfo := es.foldr (fun e r => gap e.1 (e.2 :: r)) (gap last [])
def pool (es : List (Nat × CpInfo)) (last : Nat) : Array CpInfo := ⟨poolList es last⟩
def fileOf (pool : Array CpInfo) (this : Nat) (attrs : Array Attribute := #[]) (ms : Array MethodInfo := #[]) (fl : Nat := 33) (sup : Nat := 0) (ifs : Array Nat := #[]) (fds : Array FieldInfo := #[]) : ClassFile where
  minorVersion := 0
  majorVersion := 65
  constantPool := pool
  accessFlags := fl
  thisClass := this
  superClass := sup
  interfaces := ifs
  fields := fds
  methods := ms
  attributes := attrs
def plain (name : String) (sup : Option ClassId) : Class where
  name := name
  kind := .ordinary
  loader := none
  accessFlags := 33
  super := sup
  interfaces := #[]
  cf := none
  fields := #[]
  methods := #[]
  instanceTypes := #[]
  staticTypes := #[]
  resolved := #[]
  callSites := []
  init := .initialized
  statics := none
  mirror := none

def pool0 : Array CpInfo := pool [(5, u "<init>"), (0, u "()V"), (1, .class_ 10), (1, u "java/lang/Object")] 113

def k0c0 : Code := { maxStack := 0, maxLocals := 1, code := object_method_1_code, exceptionTable := #[], attributes := #[] }
def k0m0 : Method := { name := "<init>", desc := "()V", sig := { parameters := [], returnType := none }, accessFlags := 1, code := some k0c0 }
/-- java/lang/Object -/
def k0 : Class := { plain "java/lang/Object" none with
  accessFlags := 33
  interfaces := #[]
  cf := some (fileOf pool0 8 #[] #[{ accessFlags := 1, nameIndex := 5, descriptorIndex := 6, attributes := #[] }] 33 0 #[] #[])
  fields := #[]
  methods := #[k0m0]
  instanceTypes := #[]
  staticTypes := #[]
  resolved := Array.replicate 124 none
  statics := none }

def pool1 : Array CpInfo := pool [(2, .class_ 4), (0, .nameAndType 5 6), (0, u "java/lang/Object"), (0, u "<init>"), (0, u "()V"), (0, .methodref 8 9), (0, .class_ 10), (0, .nameAndType 11 12), (0, u "com/example/chartwell/chartwell/http/HeadEndFindPinLaw"), (0, u "pick"), (0, u "(IJI)B"), (0, .methodref 14 15), (0, .class_ 16), (0, .nameAndType 17 18), (0, u "java/lang/Math"), (0, u "min"), (0, u "(II)I"), (0, .methodref 14 20), (0, .nameAndType 21 18), (0, u "max"), (0, .class_ 23), (0, u "com/example/chartwell/chartwell/http/RequestReader$HeadEnd"), (0, .methodref 22 3), (0, .methodref 22 26), (0, .nameAndType 27 28), (0, u "find"), (0, u "([BI)I"), (0, .methodref 8 30), (0, .nameAndType 31 32), (0, u "expected"), (0, u "(IZZZZZ)I"), (3, u "law"), (0, u "(IJI)Z")] 8

def k1m0 : Method := { name := "<init>", desc := "()V", sig := { parameters := [], returnType := none }, accessFlags := 1, code := none }
def k1c1 : Code := { maxStack := 4, maxLocals := 5, code := method_2_code, exceptionTable := #[], attributes := #[] }
def k1m1 : Method := { name := "pick", desc := "(IJI)B", sig := { parameters := [.int, .long, .int], returnType := some .byte }, accessFlags := 10, code := some k1c1 }
def k1c2 : Code := { maxStack := 2, maxLocals := 6, code := method_3_code, exceptionTable := #[], attributes := #[] }
def k1m2 : Method := { name := "expected", desc := "(IZZZZZ)I", sig := { parameters := [.int, .boolean, .boolean, .boolean, .boolean, .boolean], returnType := some .int }, accessFlags := 10, code := some k1c2 }
def k1c3 : Code := { maxStack := 7, maxLocals := 34, code := code, exceptionTable := #[], attributes := #[] }
def k1m3 : Method := { name := "law", desc := "(IJI)Z", sig := { parameters := [.int, .long, .int], returnType := some .boolean }, accessFlags := 9, code := some k1c3 }
/-- com/example/chartwell/chartwell/http/HeadEndFindPinLaw -/
def k1 : Class := { plain "com/example/chartwell/chartwell/http/HeadEndFindPinLaw" (some 0) with
  accessFlags := 49
  interfaces := #[]
  cf := some (fileOf pool1 8 #[] #[{ accessFlags := 1, nameIndex := 5, descriptorIndex := 6, attributes := #[] }, { accessFlags := 10, nameIndex := 11, descriptorIndex := 12, attributes := #[] }, { accessFlags := 10, nameIndex := 31, descriptorIndex := 32, attributes := #[] }, { accessFlags := 9, nameIndex := 36, descriptorIndex := 37, attributes := #[] }] 49 2 #[] #[])
  fields := #[]
  methods := #[k1m0, k1m1, k1m2, k1m3]
  instanceTypes := #[]
  staticTypes := #[]
  resolved := Array.replicate 46 none
  statics := none }

def pool2 : Array CpInfo := pool [(1, .class_ 2), (0, u "java/lang/Math"), (1, .class_ 6), (1, u "java/lang/Object"), (0, u "<init>"), (0, u "()V"), (89, .class_ 100), (1, u "java/lang/Math$RandomNumberGeneratorHolder"), (71, u "negativeZeroFloatBits"), (0, u "J"), (2, u "negativeZeroDoubleBits"), (21, u "max"), (2, u "min"), (43, u "$assertionsDisabled"), (0, u "Z"), (88, u "(II)I"), (2, u "twoToTheDoubleScaleDown"), (0, u "D"), (4, u "twoToTheDoubleScaleUp"), (9, u "E"), (3, u "PI"), (2, u "TAU"), (2, u "DEGREES_TO_RADIANS"), (0, u "RADIANS_TO_DEGREES")] 94

def k2m0 : Method := { name := "<init>", desc := "()V", sig := { parameters := [], returnType := none }, accessFlags := 2, code := none }
def k2c1 : Code := { maxStack := 2, maxLocals := 2, code := jdk_29_method_65_code, exceptionTable := #[], attributes := #[] }
def k2m1 : Method := { name := "max", desc := "(II)I", sig := { parameters := [.int, .int], returnType := some .int }, accessFlags := 9, code := some k2c1 }
def k2c2 : Code := { maxStack := 2, maxLocals := 2, code := jdk_29_method_69_code, exceptionTable := #[], attributes := #[] }
def k2m2 : Method := { name := "min", desc := "(II)I", sig := { parameters := [.int, .int], returnType := some .int }, accessFlags := 9, code := some k2c2 }
/-- java/lang/Math -/
def k2 : Class := { plain "java/lang/Math" (some 0) with
  accessFlags := 49
  interfaces := #[]
  cf := some (fileOf pool2 1 #[.nestMembers #[98]] #[{ accessFlags := 2, nameIndex := 7, descriptorIndex := 8, attributes := #[] }, { accessFlags := 9, nameIndex := 198, descriptorIndex := 335, attributes := #[] }, { accessFlags := 9, nameIndex := 201, descriptorIndex := 335, attributes := #[] }] 49 4 #[] #[{ accessFlags := 25, nameIndex := 354, descriptorIndex := 339, attributes := #[] }, { accessFlags := 25, nameIndex := 358, descriptorIndex := 339, attributes := #[] }, { accessFlags := 25, nameIndex := 361, descriptorIndex := 339, attributes := #[] }, { accessFlags := 26, nameIndex := 364, descriptorIndex := 339, attributes := #[] }, { accessFlags := 26, nameIndex := 365, descriptorIndex := 339, attributes := #[] }, { accessFlags := 26, nameIndex := 172, descriptorIndex := 173, attributes := #[] }, { accessFlags := 26, nameIndex := 176, descriptorIndex := 173, attributes := #[] }, { accessFlags := 8, nameIndex := 344, descriptorIndex := 339, attributes := #[] }, { accessFlags := 8, nameIndex := 338, descriptorIndex := 339, attributes := #[] }, { accessFlags := 4120, nameIndex := 245, descriptorIndex := 246, attributes := #[] }])
  fields := #[{ name := "E", type := .double, accessFlags := 25, slot := 0, constantValue := 0 }, { name := "PI", type := .double, accessFlags := 25, slot := 1, constantValue := 0 }, { name := "TAU", type := .double, accessFlags := 25, slot := 2, constantValue := 0 }, { name := "DEGREES_TO_RADIANS", type := .double, accessFlags := 26, slot := 3, constantValue := 0 }, { name := "RADIANS_TO_DEGREES", type := .double, accessFlags := 26, slot := 4, constantValue := 0 }, { name := "negativeZeroFloatBits", type := .long, accessFlags := 26, slot := 5, constantValue := 0 }, { name := "negativeZeroDoubleBits", type := .long, accessFlags := 26, slot := 6, constantValue := 0 }, { name := "twoToTheDoubleScaleUp", type := .double, accessFlags := 8, slot := 7, constantValue := 0 }, { name := "twoToTheDoubleScaleDown", type := .double, accessFlags := 8, slot := 8, constantValue := 0 }, { name := "$assertionsDisabled", type := .boolean, accessFlags := 4120, slot := 9, constantValue := 0 }]
  methods := #[k2m0, k2m1, k2m2]
  instanceTypes := #[]
  staticTypes := #[.double, .double, .double, .double, .double, .long, .long, .double, .double, .boolean]
  resolved := Array.replicate 460 none
  statics := none }

def pool3 : Array CpInfo := pool [(1, .methodref 2 3), (0, .class_ 4), (0, .nameAndType 5 6), (0, u "java/lang/Object"), (0, u "<init>"), (0, u "()V"), (0, .fieldref 8 9), (0, .class_ 10), (0, .nameAndType 11 12), (0, u "com/example/chartwell/chartwell/http/RequestReader$HeadEnd"), (0, u "lineEmpty"), (0, u "Z"), (0, .fieldref 8 14), (0, .nameAndType 15 16), (0, u "end"), (0, u "I"), (0, .fieldref 8 18), (0, .nameAndType 19 16), (0, u "scanned"), (0, .fieldref 8 21), (0, .nameAndType 22 12), (0, u "started"), (2, u "find"), (0, u "([BI)I"), (4, .class_ 32), (0, u "com/example/chartwell/chartwell/http/RequestReader")] 2

def k3c0 : Code := { maxStack := 2, maxLocals := 1, code := prog_37_method_1_code, exceptionTable := #[], attributes := #[] }
def k3m0 : Method := { name := "<init>", desc := "()V", sig := { parameters := [], returnType := none }, accessFlags := 0, code := some k3c0 }
def k3c1 : Code := { maxStack := 5, maxLocals := 4, code := prog_37_method_2_code, exceptionTable := #[], attributes := #[] }
def k3m1 : Method := { name := "find", desc := "([BI)I", sig := { parameters := [(.array .byte), .int], returnType := some .int }, accessFlags := 0, code := some k3c1 }
/-- com/example/chartwell/chartwell/http/RequestReader$HeadEnd -/
def k3 : Class := { plain "com/example/chartwell/chartwell/http/RequestReader$HeadEnd" (some 0) with
  accessFlags := 48
  interfaces := #[]
  cf := some (fileOf pool3 8 #[.nestHost 31] #[{ accessFlags := 0, nameIndex := 5, descriptorIndex := 6, attributes := #[] }, { accessFlags := 0, nameIndex := 25, descriptorIndex := 26, attributes := #[] }] 48 2 #[] #[{ accessFlags := 2, nameIndex := 19, descriptorIndex := 16, attributes := #[] }, { accessFlags := 2, nameIndex := 22, descriptorIndex := 12, attributes := #[] }, { accessFlags := 2, nameIndex := 11, descriptorIndex := 12, attributes := #[] }, { accessFlags := 2, nameIndex := 15, descriptorIndex := 16, attributes := #[] }])
  fields := #[{ name := "scanned", type := .int, accessFlags := 2, slot := 0, constantValue := 0 }, { name := "started", type := .boolean, accessFlags := 2, slot := 1, constantValue := 0 }, { name := "lineEmpty", type := .boolean, accessFlags := 2, slot := 2, constantValue := 0 }, { name := "end", type := .int, accessFlags := 2, slot := 3, constantValue := 0 }]
  methods := #[k3m0, k3m1]
  instanceTypes := #[.int, .boolean, .boolean, .int]
  staticTypes := #[]
  resolved := Array.replicate 35 none
  statics := none }

def pool4 : Array CpInfo := pool [(1, u "java/lang/Cloneable"), (0, .class_ 1), (0, u "java/lang/Object"), (0, .class_ 3)] 3

/-- java/lang/Cloneable -/
def k4 : Class := { plain "java/lang/Cloneable" (some 0) with
  accessFlags := 1537
  interfaces := #[]
  cf := some (fileOf pool4 2 #[] #[] 1537 4 #[] #[])
  fields := #[]
  methods := #[]
  instanceTypes := #[]
  staticTypes := #[]
  resolved := Array.replicate 8 none
  statics := none }

def pool5 : Array CpInfo := pool [(1, u "java/io/Serializable"), (0, .class_ 1), (0, u "java/lang/Object"), (0, .class_ 3)] 3

/-- java/io/Serializable -/
def k5 : Class := { plain "java/io/Serializable" (some 0) with
  accessFlags := 1537
  interfaces := #[]
  cf := some (fileOf pool5 2 #[] #[] 1537 4 #[] #[])
  fields := #[]
  methods := #[]
  instanceTypes := #[]
  staticTypes := #[]
  resolved := Array.replicate 8 none
  statics := none }

/-- the primitive byte -/
def k6 : Class := { plain "byte" none with kind := .primitive 'B', accessFlags := 0x411 }
/-- [B -/
def k7 : Class := { plain "[B" (some 0) with kind := .array 6 .byte, interfaces := #[4, 5], accessFlags := 1041 }

/-- the primitive int -/
def k8 : Class := { plain "int" none with kind := .primitive 'I', accessFlags := 0x411 }
/-- [I -/
def k9 : Class := { plain "[I" (some 0) with kind := .array 8 .int, interfaces := #[4, 5], accessFlags := 1041 }

def heap : Heap := #[]
def classes : Array Class := #[k0, k1, k2, k3, k4, k5, k6, k7, k8, k9]
def interned : List (Array UInt16 × Addr) := []
def slotsUsed : Nat := 0
def theMethod : MethodId := ⟨1, 3⟩
def args0 : Array Value := #[.int 5, .long 7, .int 9]
def aboutOver (below : List Frame) : State where
  vm := { classes := classes, interned := interned.toArray }
  heap := heap
  slotsUsed := slotsUsed
  threads := #[{ frames := .invoking theMethod args0 :: below }]
def below0 : List Frame := [.native { method := ⟨0, 0⟩, args := #[] }]
def about1 : State := aboutOver below0
def p0 : Program := .bare "" "" ""
def e0 : Env := launch0.env 0 0 0
theorem w_frames : about1.frames = Frame.invoking theMethod args0 :: below0 := rfl
set_option maxRecDepth 65536 in
theorem w_args : argsFit about1.vm theMethod args0 = true := by decide +kernel
set_option maxRecDepth 65536 in
theorem w_heap : heapFits about1 = true := by decide +kernel
set_option maxRecDepth 65536 in
theorem w_runnable : about1.curStatus? = some .runnable := by decide +kernel
set_option maxRecDepth 65536 in
theorem w_alone : about1.alone = true := by decide +kernel
set_option maxRecDepth 65536 in
theorem w_named : about1.methodNamed? x = some theMethod := by decide +kernel
set_option maxRecDepth 65536 in
theorem w_hears : about1.hears theMethod below0 = true := by decide +kernel
set_option maxRecDepth 65536 in
theorem w_ripe : about1.ripe theMethod args0 below0 = true := by decide +kernel
theorem w_running : about1.status = .running := rfl
set_option maxRecDepth 65536 in
theorem w_room : about1.hasRoom e0.platform room_1 = true :=
  launch0.hasRoom_least _ room_1 (by decide +kernel) (by decide +kernel) (by decide +kernel) (by decide +kernel) (by decide +kernel) (by decide +kernel)
theorem allAtoms_all (ts : List Jvm.Cond) (a : Array Jvm.Value) (st : Jvm.State) : (allAtoms ts).before a st = ts.all (fun c => c.before a st) := by
  induction ts with
  | nil => rfl
  | cons c t ih =>
    show (Jvm.Cond.and c (allAtoms t)).before a st = _
    rw [Jvm.Cond.before_and, ih, List.all_cons]
def words1 : List Jvm.Cond := Jvm.Cond.code x code maxLocals ret :: tables_1
/-- a 'code' word, met by the world's own term for the bytes: nothing is compared byte by byte -/
theorem code_word {y : MethodName} {bytes : ByteArray} {mx : Nat} {rt : Option FieldType} {a : Array Value} {s : State} {m : MethodId} {meth : Method} {c : Code} (h1 : s.methodNamed? y = some m) (h2 : s.vm.method? m = some meth) (h3 : meth.code = some c) (h4 : c.code = bytes)
    (h5 : (c.maxLocals == mx && c.exceptionTable.isEmpty && decide (c.maxStack ≤ mostOperands) && decide (meth.sig.returnType = rt) && !meth.locks && decide (parseMethodDescriptor y.desc = some meth.sig)) = true) : (Jvm.Cond.code y bytes mx rt).before a s = true := by
  simp only [Bool.and_eq_true, beq_iff_eq, Bool.not_eq_true', decide_eq_true_eq] at h5
  obtain ⟨⟨⟨⟨⟨g1, g2⟩, g3⟩, g4⟩, g5⟩, g6⟩ := h5
  simp [Cond.before, Cond.holds, Cond.value, h1, h2, h3, h4, g1, g2, g3, g4, g5, g6]
def isCode : Jvm.Cond → Bool
  | .code _ _ _ _ => true
  | _ => false
theorem all_split {L : List Jvm.Cond} {P : Jvm.Cond → Bool} (h1 : L.all (fun c => isCode c || P c) = true) (h2 : ∀ c ∈ L.filter isCode, P c = true) : L.all P = true := by
  refine List.all_eq_true.mpr fun c hc => ?_
  have h := List.all_eq_true.mp h1 c hc
  rcases Bool.eq_false_or_eq_true (isCode c) with hi | hi
  · exact h2 c (List.mem_filter.mpr ⟨hc, hi⟩)
  · simpa [hi] using h
set_option maxRecDepth 65536 in
theorem w_c0 : (Jvm.Cond.code x code maxLocals ret).before args0 about1 = true := code_word (m := ⟨1, 3⟩) (meth := k1m3) (c := k1c3) (by decide +kernel) rfl rfl rfl (by decide +kernel)
set_option maxRecDepth 65536 in
theorem w_c1 : (Jvm.Cond.code ({ cls := "com/example/chartwell/chartwell/http/HeadEndFindPinLaw", name := "pick", desc := "(IJI)B" } : Jvm.MethodName) method_2_code (5 : Nat) (Option.some Jvm.ClassFile.FieldType.byte)).before args0 about1 = true := code_word (m := ⟨1, 1⟩) (meth := k1m1) (c := k1c1) (by decide +kernel) rfl rfl rfl (by decide +kernel)
set_option maxRecDepth 65536 in
theorem w_c2 : (Jvm.Cond.code ({ cls := "java/lang/Math", name := "min", desc := "(II)I" } : Jvm.MethodName) jdk_29_method_69_code (2 : Nat) (Option.some Jvm.ClassFile.FieldType.int)).before args0 about1 = true := code_word (m := ⟨2, 2⟩) (meth := k2m2) (c := k2c2) (by decide +kernel) rfl rfl rfl (by decide +kernel)
set_option maxRecDepth 65536 in
theorem w_c3 : (Jvm.Cond.code ({ cls := "java/lang/Math", name := "max", desc := "(II)I" } : Jvm.MethodName) jdk_29_method_65_code (2 : Nat) (Option.some Jvm.ClassFile.FieldType.int)).before args0 about1 = true := code_word (m := ⟨2, 1⟩) (meth := k2m1) (c := k2c1) (by decide +kernel) rfl rfl rfl (by decide +kernel)
set_option maxRecDepth 65536 in
theorem w_c4 : (Jvm.Cond.code ({ cls := "com/example/chartwell/chartwell/http/RequestReader$HeadEnd", name := "<init>", desc := "()V" } : Jvm.MethodName) prog_37_method_1_code (1 : Nat) (Option.none : Option Jvm.ClassFile.FieldType)).before args0 about1 = true := code_word (m := ⟨3, 0⟩) (meth := k3m0) (c := k3c0) (by decide +kernel) rfl rfl rfl (by decide +kernel)
set_option maxRecDepth 65536 in
theorem w_c5 : (Jvm.Cond.code ({ cls := "java/lang/Object", name := "<init>", desc := "()V" } : Jvm.MethodName) object_method_1_code (1 : Nat) (Option.none : Option Jvm.ClassFile.FieldType)).before args0 about1 = true := code_word (m := ⟨0, 0⟩) (meth := k0m0) (c := k0c0) (by decide +kernel) rfl rfl rfl (by decide +kernel)
set_option maxRecDepth 65536 in
theorem w_c6 : (Jvm.Cond.code ({ cls := "com/example/chartwell/chartwell/http/RequestReader$HeadEnd", name := "find", desc := "([BI)I" } : Jvm.MethodName) prog_37_method_2_code (4 : Nat) (Option.some Jvm.ClassFile.FieldType.int)).before args0 about1 = true := code_word (m := ⟨3, 1⟩) (meth := k3m1) (c := k3c1) (by decide +kernel) rfl rfl rfl (by decide +kernel)
set_option maxRecDepth 65536 in
theorem w_c7 : (Jvm.Cond.code ({ cls := "com/example/chartwell/chartwell/http/HeadEndFindPinLaw", name := "expected", desc := "(IZZZZZ)I" } : Jvm.MethodName) method_3_code (6 : Nat) (Option.some Jvm.ClassFile.FieldType.int)).before args0 about1 = true := code_word (m := ⟨1, 2⟩) (meth := k1m2) (c := k1c2) (by decide +kernel) rfl rfl rfl (by decide +kernel)
def codes1 : List Jvm.Cond := [Jvm.Cond.code x code maxLocals ret, Jvm.Cond.code ({ cls := "com/example/chartwell/chartwell/http/HeadEndFindPinLaw", name := "pick", desc := "(IJI)B" } : Jvm.MethodName) method_2_code (5 : Nat) (Option.some Jvm.ClassFile.FieldType.byte), Jvm.Cond.code ({ cls := "java/lang/Math", name := "min", desc := "(II)I" } : Jvm.MethodName) jdk_29_method_69_code (2 : Nat) (Option.some Jvm.ClassFile.FieldType.int), Jvm.Cond.code ({ cls := "java/lang/Math", name := "max", desc := "(II)I" } : Jvm.MethodName) jdk_29_method_65_code (2 : Nat) (Option.some Jvm.ClassFile.FieldType.int), Jvm.Cond.code ({ cls := "com/example/chartwell/chartwell/http/RequestReader$HeadEnd", name := "<init>", desc := "()V" } : Jvm.MethodName) prog_37_method_1_code (1 : Nat) (Option.none : Option Jvm.ClassFile.FieldType), Jvm.Cond.code ({ cls := "java/lang/Object", name := "<init>", desc := "()V" } : Jvm.MethodName) object_method_1_code (1 : Nat) (Option.none : Option Jvm.ClassFile.FieldType), Jvm.Cond.code ({ cls := "com/example/chartwell/chartwell/http/RequestReader$HeadEnd", name := "find", desc := "([BI)I" } : Jvm.MethodName) prog_37_method_2_code (4 : Nat) (Option.some Jvm.ClassFile.FieldType.int), Jvm.Cond.code ({ cls := "com/example/chartwell/chartwell/http/HeadEndFindPinLaw", name := "expected", desc := "(IZZZZZ)I" } : Jvm.MethodName) method_3_code (6 : Nat) (Option.some Jvm.ClassFile.FieldType.int)]
set_option maxRecDepth 65536 in
theorem codes_eq : words1.filter isCode = codes1 := rfl
theorem w_codes : ∀ c ∈ words1.filter isCode, c.before args0 about1 = true := by
  rw [codes_eq]
  intro c hc
  simp only [codes1, List.mem_cons, List.not_mem_nil, or_false] at hc
  rcases hc with rfl | rfl | rfl | rfl | rfl | rfl | rfl | rfl
  · exact w_c0
  · exact w_c1
  · exact w_c2
  · exact w_c3
  · exact w_c4
  · exact w_c5
  · exact w_c6
  · exact w_c7
set_option maxRecDepth 65536 in
theorem w_t1 : (words1.take 24).all (fun c => isCode c || c.before args0 about1) = true := by decide +kernel
set_option maxRecDepth 65536 in
theorem w_t2 : (words1.drop 24).all (fun c => isCode c || c.before args0 about1) = true := by decide +kernel
theorem w_tables : (allAtoms (Jvm.Cond.code x code maxLocals ret :: tables_1)).before args0 about1 = true := by
  rw [allAtoms_all]
  show words1.all (fun c => c.before args0 about1) = true
  refine all_split ?_ w_codes
  rw [← List.take_append_drop 24 words1, List.all_append, w_t1, w_t2]
  rfl
set_option maxRecDepth 65536 in
theorem w_case : (Jvm.Cond.and given_1 narrow_1).before args0 about1 = true := by decide +kernel
theorem w_applies : (headSpec (Jvm.Cond.code x code maxLocals ret :: tables_1) room_1).applies x e0.platform about1 = true :=
  (Spec.applies_iff w_frames).mpr ⟨w_running, w_runnable, w_alone, w_named, w_hears, w_ripe, w_room, w_tables⟩
theorem atStart : AtStart classFile x code maxLocals ret World_1 tables_1 room_1 Calls_1 rest_1 Pre_1 launch0 p0 e0 about1 theMethod args0 below0 :=
  ⟨lists_1, trivial, launch0.admits_env _ _ _, launch0.least_env, fairChoices_fair.cas, fairChoices_fair.clock, w_frames, w_args, w_heap, w_applies, trivial, trivial, w_case⟩
end start1
theorem witness_1 : WitnessClaimed_1 := ⟨start1.p0, start1.e0, start1.about1, start1.theMethod, start1.args0, start1.below0, start1.atStart⟩
end Jvm.Pilot.@@N@@
