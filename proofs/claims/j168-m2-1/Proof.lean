import JvmDerived
import JvmDerived.Pilot.@@N@@Statement
import JvmDerived.Pilot.@@N@@Code
set_option linter.unusedVariables false
set_option linter.unusedSimpArgs false
namespace Jvm.Pilot.@@N@@
open Jvm Jvm.ClassFile Sem Op Lib Jvm.Free Jvm.Stand Jvm.LawKit Jvm.RoadKit Bundle Jvm.Pilot.@@N@@.Jvm.D
section OwnKit
abbrev oU : Slot := .unset
abbrev oS : Slot := .second
abbrev oJ (x : Int64) : Slot := .val (.long x)
variable {p : Program} {l : Launch} {e : Env} {R : Room} {s : State} {m : MethodId} {args : Array Value} {below : List Frame} {meth : Method} {c : Code} {T A B : State} {locs : List Loc} {cells slots : Nat} {G : State → Outcome → Prop} {Q : Option Value → Heap → List Loc → Prop} {C S : Nat} {pc : Nat} {Ls : Array Slot} {rest : List Value}
/-- from A the run ends, and what it leaves is G -/
def own_Go (p : Program) (e : Env) (below : List Frame) (G : State → Outcome → Prop) (A : State) : Prop := ∃ u o, Steps p.tables e below A u ∧ u.status = .running ∧ Ended u below o ∧ G u o
def own_Post (s : State) (Q : Option Value → Heap → List Loc → Prop) (C S : Nat) : State → Outcome → Prop := fun u o => ∃ v L, o = .returned v ∧ Q v u.heap L ∧ FrameEnd s o u L C S
def own_PostW (s : State) (Q : Option Value → Heap → List Loc → Prop) (C S : Nat) : State → Outcome → Prop := fun u o => ∃ v L, o = .returned v ∧ Q v u.heap L ∧ ReturnedEndW s o u L C S
theorem own_by (k : ∀ t, Steps p.tables e below B t → Steps p.tables e below A t) (h : own_Go p e below G B) : own_Go p e below G A := by
  obtain ⟨u, o, h1, h2⟩ := h
  exact ⟨u, o, k _ h1, h2⟩
theorem own_tr (k : Steps p.tables e below A B) (h : own_Go p e below G B) : own_Go p e below G A := by
  obtain ⟨u, o, h1, h2⟩ := h
  exact ⟨u, o, k.trans h1, h2⟩
theorem own_retI (X : Stand p l e R s m args below meth c T locs cells slots) (hlk : meth.locks = false) (hx : p.tables.exec = Jvm.exec) (hret : meth.sig.returnType = some .int) {z : Int32} (hd : decode c.code pc = .ok (.ireturn, 1)) (hq : Q (some (.int z)) T.heap locs) (hC : cells ≤ C) (hS : slots ≤ S) :
    own_Go p e below (own_Post s Q C S) (T.setTop (mkF m pc Ls (.int z :: rest))) := by
  obtain ⟨fs, hr, hrun, hended, hW, hsame⟩ := X.leave (v := some (.int z)) (fun h => by rw [hret] at h; cases h) hlk
  have hm' : T.vm.method? m = some meth := X.method'
  have hn : narrow .int (.int z) = .int z := rfl
  refine ⟨_, _, ?_, hrun, hended, _, _, rfl, hq, ⟨_, rfl⟩, hW, hsame.mono hC hS⟩
  show Steps p.tables e below (T.setTop { method := m, pc := pc, locals := Ls, stack := _ :: rest, locked := none }) _
  jvm_step X.here [X.here.top, hx, hd, hm', hret, hn]
  first | (intro acts; rw [hr _ acts rfl rfl rfl]) | rw [hr _ _ rfl rfl rfl]
  exact Steps.refl _
theorem own_retN (X : Stand p l e R s m args below meth c T locs cells slots) (hlk : meth.locks = false) (hx : p.tables.exec = Jvm.exec) {t : FieldType} (hret : meth.sig.returnType = some t) (ht : t = .boolean ∨ t = .byte ∨ t = .char ∨ t = .short) {z : Int32} (hd : decode c.code pc = .ok (.ireturn, 1)) (hq : Q (some (.int (nar t z))) T.heap locs) (hC : cells ≤ C) (hS : slots ≤ S) :
    own_Go p e below (own_Post s Q C S) (T.setTop (mkF m pc Ls (.int z :: rest))) := by
  obtain ⟨fs, hr, hrun, hended, hW, hsame⟩ := X.leave (v := some (.int (nar t z))) (fun h => by rw [hret] at h; cases h) hlk
  exact ⟨_, _, retN X hx hret ht hd hr, hrun, hended, _, _, rfl, hq, ⟨_, rfl⟩, hW, hsame.mono hC hS⟩
theorem own_retNW {vm₁ : Vm} (X : Stand p l e R (s.setVm vm₁) m args below meth c T locs cells slots) (hlk : meth.locks = false) (hx : p.tables.exec = Jvm.exec) {t : FieldType} (hret : meth.sig.returnType = some t) (ht : t = .boolean ∨ t = .byte ∨ t = .char ∨ t = .short) {z : Int32} (hd : decode c.code pc = .ok (.ireturn, 1)) {n : Nat} (hSi : s.Since vm₁ n) (hn : n ≤ T.heap.size) (hq : Q (some (.int (nar t z))) T.heap locs) (hC : cells ≤ C) (hS : slots ≤ S) :
    own_Go p e below (own_PostW s Q C S) (T.setTop (mkF m pc Ls (.int z :: rest))) := by
  obtain ⟨fs, hr, hrun, hended, h1, h2, h3, h4⟩ := X.leaveW hSi hn (v := some (.int (nar t z))) (fun h => by rw [hret] at h; cases h) hlk
  exact ⟨_, _, retN X hx hret ht hd hr, hrun, hended, _, _, rfl, hq, h1, h2, h3, h4.mono hC hS⟩
theorem own_retL (X : Stand p l e R s m args below meth c T locs cells slots) (hlk : meth.locks = false) (hx : p.tables.exec = Jvm.exec) (hret : meth.sig.returnType = some .long) {z : Int64} (hd : decode c.code pc = .ok (.lreturn, 1)) (hq : Q (some (.long z)) T.heap locs) (hC : cells ≤ C) (hS : slots ≤ S) :
    own_Go p e below (own_Post s Q C S) (T.setTop (mkF m pc Ls [.long z])) := by
  obtain ⟨fs, hr, hrun, hended, hW, hsame⟩ := X.leave (v := some (.long z)) (fun h => by rw [hret] at h; cases h) hlk
  exact ⟨_, _, retOut X hx (t := .long) (i := .lreturn) hret rfl (Or.inr (Or.inl ⟨rfl, rfl, _, rfl⟩)) hd hr, hrun, hended, _, _, rfl, hq, ⟨_, rfl⟩, hW, hsame.mono hC hS⟩
theorem own_retR (X : Stand p l e R s m args below meth c T locs cells slots) (hlk : meth.locks = false) (hx : p.tables.exec = Jvm.exec) {t : FieldType} (hret : meth.sig.returnType = some t) {w : Value} (ht : t.isReference = true) (hn : narrow t w = w) (hw : w.isRef = true) (hd : decode c.code pc = .ok (.areturn, 1)) (hq : Q (some w) T.heap locs) (hC : cells ≤ C) (hS : slots ≤ S) :
    own_Go p e below (own_Post s Q C S) (T.setTop (mkF m pc Ls (w :: rest))) := by
  obtain ⟨fs, hr, hrun, hended, hW, hsame⟩ := X.leave (v := some w) (fun h => by rw [hret] at h; cases h) hlk
  exact ⟨_, _, retOut X hx (t := t) (i := .areturn) hret hn (Or.inr (Or.inr (Or.inr (Or.inr ⟨rfl, ht, hw⟩)))) hd hr, hrun, hended, _, _, rfl, hq, ⟨_, rfl⟩, hW, hsame.mono hC hS⟩
theorem own_retV (X : Stand p l e R s m args below meth c T locs cells slots) (hlk : meth.locks = false) (hx : p.tables.exec = Jvm.exec) (hret : meth.sig.returnType = none) (hd : decode c.code pc = .ok (.return_, 1)) (hq : Q none T.heap locs) (hC : cells ≤ C) (hS : slots ≤ S) :
    own_Go p e below (own_Post s Q C S) (T.setTop (mkF m pc Ls [])) := by
  obtain ⟨fs, hr, hrun, hended, hW, hsame⟩ := X.leave (v := none) (fun _ => rfl) hlk
  exact ⟨_, _, X.returnOut hx hret hd hr, hrun, hended, _, _, rfl, hq, ⟨_, rfl⟩, hW, hsame.mono hC hS⟩
theorem own_nev {Z : State} {h : Heap} {a b : Addr} {C : String} {a0 : Array Value} {n : Nat} {k : ClassId} {ty : FieldType} {z : Int32} {vs : List Value} {dv : Value} (E : Exa Z h a C) (wi : (Jvm.Cond.instantiable C n).before a0 Z = true) (F : Arv Z h b k ty z vs dv) : a ≠ b := by
  obtain ⟨c, A, -⟩ := F
  exact ne_arr E wi A
theorem own_selp {args' : Array Value} {y : MethodName} {n : Nat} (hins : (Jvm.Cond.instantiable y.cls n).before args' s = true) (hpriv : (Jvm.Cond.privateMethod y).before args' s = true) (hinst : (Jvm.Cond.instanceMethod y).before args' s = true) (hy : y.cls ≠ "java/lang/invoke/MethodHandle" ∧ y.cls ≠ "java/lang/invoke/VarHandle") : (Jvm.Cond.selects y.cls y y).before args' s = true := by
  obtain ⟨c, k, hc, hk, -, hniab, -, -⟩ := Cond.instantiable_spec hins
  exact selects_self_of_private hc hk (Bool.or_eq_false_iff.mp hniab).1 (Cond.privateMethod_at hpriv) hinst hy
theorem own_callS (X : Stand p l e R s m args below meth c T locs cells slots) (hx : p.tables.exec = Jvm.exec) {Z : State} {a0 : Array Value} {h : Heap} (hZ : Z.Warmed39 s.vm) {own : String} {index : Nat} {y : MethodName} (hown : s.vm.findClass own = some m.cls) {bytes : ByteArray} {maxL : Nat} {ret : Option FieldType} {rm : Room} {as' : Array Value} {Q : Option Value → Heap → List Loc → Prop} (w1 : (Jvm.Cond.methodLink own index y).before a0 Z = true) (w2 : (Jvm.Cond.static y).before a0 Z = true) (w3 : (Jvm.Cond.initialized y.cls).before a0 Z = true) (w4 : (Jvm.Cond.code y bytes maxL ret).before a0 Z = true) (hy : y.cls ≠ "java/lang/invoke/MethodHandle" ∧ y.cls ≠ "java/lang/invoke/VarHandle")
    (hM : MetFree l y (head1 [Jvm.Cond.code y bytes maxL ret] rm) (fun a U => a = as' ∧ Z.Warmed39 U.vm ∧ U.heap = h) (fun _ _ _ _ _ => True) (fun _ U o U' => ∃ v L, o = .returned v ∧ Q v U'.heap L ∧ FrameEnd U o U' L rm.cells rm.slots)) (eT : T.heap = h) (W : Nat) (hf : rm.frames + 1 ≤ R.frames) (hl : W + (maxL + 11) + rm.locals ≤ R.locals) (hc : cells + rm.cells ≤ R.cells) (hs : slots + rm.slots ≤ R.slots) {g : JFrame} (hg : g.method = m) (hsize : g.locals.size = c.maxLocals) (argsL rest : List Value) (ha : argsL.toArray = as') (hlen : ∀ sig, parseMethodDescriptor y.desc = some sig → argsL.length = sig.parameters.length) (hstack : g.stack = argsL.reverse ++ rest) (hW : 2 * g.monitorRoom + (rest.map fun v => v.category).sum ≤ W) (hd : decode c.code g.pc = .ok (.invokestatic index, 3)) :
    ∃ (T' : State) (L : List Loc) (v : Option Value), Stand p l e R s m args below meth c T' (locs ++ L) (cells + rm.cells) (slots + rm.slots) ∧ Q v T'.heap L ∧ ∀ t, Steps p.tables e below (T'.setTop { g with pc := g.pc + 3, stack := v.toList ++ rest }) t → Steps p.tables e below (T.setTop g) t := by
  obtain ⟨v, _, ⟨T', L', k', n'⟩, -, X', ⟨L, hQ, h2, h3, h4⟩, st⟩ := Jvm.LawKit.callS X hx (y := y) hown (mvT hZ w1) (mvT hZ w2) (mvT hZ w3) (mvT hZ w4) hy (backOf (W := W) hM hZ w4 w3 hf hl) (g := g) hg hsize (argsL := argsL) (rest := rest) hlen hstack hW hd (fun _ _ => ⟨ha, eT, hc, hs⟩)
  dsimp only [Pt.U, Pt.locs, Pt.cells, Pt.slots] at X' h2 h3 h4 st hQ
  subst h2 h3 h4
  exact ⟨T', L, v, X', hQ, st⟩
theorem own_callI (X : Stand p l e R s m args below meth c T locs cells slots) (hx : p.tables.exec = Jvm.exec) {Z : State} {a0 : Array Value} {h : Heap} (hZ : Z.Warmed39 s.vm) {own : String} {index : Nat} {y : MethodName} (hy1 : y.name = "<init>") (hown : s.vm.findClass own = some m.cls) {bytes : ByteArray} {maxL : Nat} {rm : Room} {as' : Array Value} {Q : Option Value → Heap → List Loc → Prop} (w1 : (Jvm.Cond.methodLink own index y).before a0 Z = true) (w2 : (Jvm.Cond.instanceMethod y).before a0 Z = true) (w3 : (Jvm.Cond.initialized y.cls).before a0 Z = true) (w4 : (Jvm.Cond.code y bytes maxL none).before a0 Z = true) (hy : y.cls ≠ "java/lang/invoke/MethodHandle" ∧ y.cls ≠ "java/lang/invoke/VarHandle")
    (hM : MetFree l y (head1 [Jvm.Cond.code y bytes maxL none] rm) (fun a U => a = as' ∧ Z.Warmed39 U.vm ∧ U.heap = h) (fun _ _ _ _ _ => True) (fun _ U o U' => ∃ v L, o = .returned v ∧ Q v U'.heap L ∧ FrameEnd U o U' L rm.cells rm.slots)) (eT : T.heap = h) (W : Nat) (hf : rm.frames + 1 ≤ R.frames) (hl : W + (maxL + 11) + rm.locals ≤ R.locals) (hc : cells + rm.cells ≤ R.cells) (hs : slots + rm.slots ≤ R.slots) {g : JFrame} (hg : g.method = m) (hsize : g.locals.size = c.maxLocals) (a : Addr) (argsL rest : List Value) (ha : (.ref a :: argsL).toArray = as') (hlen : ∀ sig, parseMethodDescriptor y.desc = some sig → argsL.length = sig.parameters.length) (hstack : g.stack = argsL.reverse ++ .ref a :: rest) (hW : 2 * g.monitorRoom + (rest.map fun v => v.category).sum ≤ W) (hd : decode c.code g.pc = .ok (.invokespecial index, 3)) :
    ∃ (T' : State) (L : List Loc) (v : Option Value), Stand p l e R s m args below meth c T' (locs ++ L) (cells + rm.cells) (slots + rm.slots) ∧ Q v T'.heap L ∧ ∀ t, Steps p.tables e below (T'.setTop { g with pc := g.pc + 3, stack := v.toList ++ rest }) t → Steps p.tables e below (T.setTop g) t := by
  obtain ⟨v, _, ⟨T', L', k', n'⟩, -, X', ⟨L, hQ, h2, h3, h4⟩, st⟩ := X.specialBack hx (y := y) hy1 hown (mvT hZ w1) (mvT hZ w2) (mvT hZ w4) hy (backOf (W := W) hM hZ w4 w3 hf hl) (g := g) hg hsize (Steps.refl _) (a := a) (argsL := argsL) (rest := rest) hlen hstack hW hd (fun _ _ => ⟨ha, eT, hc, hs⟩)
  dsimp only [Pt.U, Pt.locs, Pt.cells, Pt.slots] at X' h2 h3 h4 st hQ
  subst h2 h3 h4
  exact ⟨T', L, v, X', hQ, fun t k => st.trans k⟩
theorem own_callP (X : Stand p l e R s m args below meth c T locs cells slots) (hx : p.tables.exec = Jvm.exec) {Z : State} {a0 : Array Value} {h : Heap} (hZ : Z.Warmed39 s.vm) {own C : String} {index n : Nat} {y : MethodName} (hown : s.vm.findClass own = some m.cls) {bytes : ByteArray} {maxL : Nat} {ret : Option FieldType} {rm : Room} {as' : Array Value} {Q : Option Value → Heap → List Loc → Prop} (w1 : (Jvm.Cond.methodLink own index y).before a0 Z = true) (w2 : (Jvm.Cond.instanceMethod y).before a0 Z = true) (w3 : (Jvm.Cond.initialized y.cls).before a0 Z = true) (w4 : (Jvm.Cond.code y bytes maxL ret).before a0 Z = true) (w5 : (Jvm.Cond.privateMethod y).before a0 Z = true) (w6 : (Jvm.Cond.instantiable y.cls n).before a0 Z = true) (hy : y.cls ≠ "java/lang/invoke/MethodHandle" ∧ y.cls ≠ "java/lang/invoke/VarHandle")
    (hM : MetFree l y (head1 [Jvm.Cond.code y bytes maxL ret] rm) (fun a U => a = as' ∧ Z.Warmed39 U.vm ∧ U.heap = h) (fun _ _ _ _ _ => True) (fun _ U o U' => ∃ v L, o = .returned v ∧ Q v U'.heap L ∧ FrameEnd U o U' L rm.cells rm.slots)) (eT : T.heap = h) (W : Nat) (hf : rm.frames + 1 ≤ R.frames) (hl : W + (maxL + 11) + rm.locals ≤ R.locals) (hc : cells + rm.cells ≤ R.cells) (hs : slots + rm.slots ≤ R.slots) {g : JFrame} (hg : g.method = m) (hsize : g.locals.size = c.maxLocals) (a : Addr) (E : Exa Z h a C) (argsL rest : List Value) (ha : (.ref a :: argsL).toArray = as') (hlen : ∀ sig, parseMethodDescriptor y.desc = some sig → argsL.length = sig.parameters.length) (hstack : g.stack = argsL.reverse ++ .ref a :: rest) (hW : 2 * g.monitorRoom + (rest.map fun v => v.category).sum ≤ W) (hd : decode c.code g.pc = .ok (.invokevirtual index, 3)) :
    ∃ (T' : State) (L : List Loc) (v : Option Value), Stand p l e R s m args below meth c T' (locs ++ L) (cells + rm.cells) (slots + rm.slots) ∧ Q v T'.heap L ∧ ∀ t, Steps p.tables e below (T'.setTop { g with pc := g.pc + 3, stack := v.toList ++ rest }) t → Steps p.tables e below (T.setTop g) t := by
  obtain ⟨cq, q1, q2⟩ := E.cell
  obtain ⟨v, _, ⟨T', L', k', n'⟩, -, X', ⟨L, hQ, h2, h3, h4⟩, st⟩ := X.privateBack hx (y := y) hown (mvT hZ w1) (mvT hZ w2) (own_selp (y := y) (mvT hZ w6) (mvP hZ w5) (mvT hZ w2) hy) (Cond.privateMethod_at (mvP hZ w5 (args := #[]))) (mvT hZ w4) hy (backOf (W := W) hM hZ w4 w3 hf hl) (g := g) hg hsize (Steps.refl _) (a := a) (by rw [eT]; exact q1) q2 (argsL := argsL) (rest := rest) hlen hstack hW hd (fun _ _ => ⟨ha, eT, hc, hs⟩)
  dsimp only [Pt.U, Pt.locs, Pt.cells, Pt.slots] at X' h2 h3 h4 st hQ
  subst h2 h3 h4
  exact ⟨T', L, v, X', hQ, fun t k => st.trans k⟩
theorem own_callV (X : Stand p l e R s m args below meth c T locs cells slots) (hx : p.tables.exec = Jvm.exec) {Z : State} {a0 : Array Value} {h : Heap} (hZ : Z.Warmed39 s.vm) {own C : String} {index : Nat} {y z : MethodName} (hown : s.vm.findClass own = some m.cls) {bytes : ByteArray} {maxL : Nat} {ret : Option FieldType} {rm : Room} {as' : Array Value} {Q : Option Value → Heap → List Loc → Prop} (w1 : (Jvm.Cond.methodLink own index y).before a0 Z = true) (w2 : (Jvm.Cond.declares y).before a0 Z = true) (hnf : NotFace s y) (w3 : (Jvm.Cond.selects C y z).before a0 Z = true) (w4 : (Jvm.Cond.instanceMethod z).before a0 Z = true) (w5 : (Jvm.Cond.initialized z.cls).before a0 Z = true) (w6 : (Jvm.Cond.code z bytes maxL ret).before a0 Z = true) (hy : y.cls ≠ "java/lang/invoke/MethodHandle" ∧ y.cls ≠ "java/lang/invoke/VarHandle")
    (hM : MetFree l z (head1 [Jvm.Cond.code z bytes maxL ret] rm) (fun a U => a = as' ∧ Z.Warmed39 U.vm ∧ U.heap = h) (fun _ _ _ _ _ => True) (fun _ U o U' => ∃ v L, o = .returned v ∧ Q v U'.heap L ∧ FrameEnd U o U' L rm.cells rm.slots)) (eT : T.heap = h) (W : Nat) (hf : rm.frames + 1 ≤ R.frames) (hl : W + (maxL + 11) + rm.locals ≤ R.locals) (hc : cells + rm.cells ≤ R.cells) (hs : slots + rm.slots ≤ R.slots) {g : JFrame} (hg : g.method = m) (hsize : g.locals.size = c.maxLocals) (a : Addr) (E : Exa Z h a C) (argsL rest : List Value) (ha : (.ref a :: argsL).toArray = as') (hlen : ∀ sig, parseMethodDescriptor y.desc = some sig → argsL.length = sig.parameters.length) (hstack : g.stack = argsL.reverse ++ .ref a :: rest) (hW : 2 * g.monitorRoom + (rest.map fun v => v.category).sum ≤ W) (hd : decode c.code g.pc = .ok (.invokevirtual index, 3)) :
    ∃ (T' : State) (L : List Loc) (v : Option Value), Stand p l e R s m args below meth c T' (locs ++ L) (cells + rm.cells) (slots + rm.slots) ∧ Q v T'.heap L ∧ ∀ t, Steps p.tables e below (T'.setTop { g with pc := g.pc + 3, stack := v.toList ++ rest }) t → Steps p.tables e below (T.setTop g) t := by
  obtain ⟨cq, kq, qa, qb, qc⟩ := isOf hZ eT E
  obtain ⟨v, _, ⟨T', L', k', n'⟩, -, X', ⟨L, hQ, h2, h3, h4⟩, st⟩ := X.virtualBack hx (y := y) (z := z) hown (mvT hZ w1) (mvT hZ w2) hnf (mvT hZ w3) (mvT hZ w4) hy (backOf (W := W) hM hZ w6 w5 hf hl) qa qc (g := g) hg hsize (Steps.refl _) (argsL := argsL) (rest := rest) hlen hstack hW hd (fun _ _ => ⟨ha, eT, hc, hs⟩)
  dsimp only [Pt.U, Pt.locs, Pt.cells, Pt.slots] at X' h2 h3 h4 st hQ
  subst h2 h3 h4
  exact ⟨T', L, v, X', hQ, fun t k => st.trans k⟩
theorem own_callF (X : Stand p l e R s m args below meth c T locs cells slots) (hx : p.tables.exec = Jvm.exec) {Z : State} {a0 : Array Value} {h : Heap} (hZ : Z.Warmed39 s.vm) {own C : String} {index count : Nat} {y z : MethodName} (hown : s.vm.findClass own = some m.cls) {bytes : ByteArray} {maxL : Nat} {ret : Option FieldType} {rm : Room} {as' : Array Value} {Q : Option Value → Heap → List Loc → Prop} (w1 : (Jvm.Cond.methodLink own index y).before a0 Z = true) (w2 : (Jvm.Cond.declares y).before a0 Z = true) (w3 : (Jvm.Cond.interfaceMethod y.cls y.cls y.name y.desc).before a0 Z = true) (w4 : (Jvm.Cond.selects C y z).before a0 Z = true) (w5 : (Jvm.Cond.instanceMethod z).before a0 Z = true) (w6 : (Jvm.Cond.publicMethod z).before a0 Z = true) (w7 : (Jvm.Cond.unhidden C y.name y.desc).before a0 Z = true) (w8 : (Jvm.Cond.castable C y.cls).before a0 Z = true) (w9 : (Jvm.Cond.initialized z.cls).before a0 Z = true) (w10 : (Jvm.Cond.code z bytes maxL ret).before a0 Z = true) (hy : y.cls ≠ "java/lang/invoke/MethodHandle" ∧ y.cls ≠ "java/lang/invoke/VarHandle")
    (hM : MetFree l z (head1 [Jvm.Cond.code z bytes maxL ret] rm) (fun a U => a = as' ∧ Z.Warmed39 U.vm ∧ U.heap = h) (fun _ _ _ _ _ => True) (fun _ U o U' => ∃ v L, o = .returned v ∧ Q v U'.heap L ∧ FrameEnd U o U' L rm.cells rm.slots)) (eT : T.heap = h) (W : Nat) (hf : rm.frames + 1 ≤ R.frames) (hl : W + (maxL + 11) + rm.locals ≤ R.locals) (hc : cells + rm.cells ≤ R.cells) (hs : slots + rm.slots ≤ R.slots) {g : JFrame} (hg : g.method = m) (hsize : g.locals.size = c.maxLocals) (a : Addr) (E : Exa Z h a C) (argsL rest : List Value) (ha : (.ref a :: argsL).toArray = as') (hlen : ∀ sig, parseMethodDescriptor y.desc = some sig → argsL.length = sig.parameters.length) (hstack : g.stack = argsL.reverse ++ .ref a :: rest) (hW : 2 * g.monitorRoom + (rest.map fun v => v.category).sum ≤ W) (hd : decode c.code g.pc = .ok (.invokeinterface index count, 5)) (hw3 : ((Jvm.Cond.interfaceMethod y.cls y.cls y.name y.desc).onTables && (Jvm.Cond.interfaceMethod y.cls y.cls y.name y.desc).keepsFace) = true := by first | rfl | simp [Cond.onTables, Cond.keepsFace, Cond.keeps, Cond.steady]) :
    ∃ (T' : State) (L : List Loc) (v : Option Value), Stand p l e R s m args below meth c T' (locs ++ L) (cells + rm.cells) (slots + rm.slots) ∧ Q v T'.heap L ∧ ∀ t, Steps p.tables e below (T'.setTop { g with pc := g.pc + 5, stack := v.toList ++ rest }) t → Steps p.tables e below (T.setTop g) t := by
  obtain ⟨cq, kq, qa, qb, qc⟩ := isOf hZ eT E
  obtain ⟨v, _, ⟨T', L', k', n'⟩, -, X', ⟨L, hQ, h2, h3, h4⟩, st⟩ := X.interfaceBack hx (xi := y) (y := z) hown (mvT hZ w1) (mvT hZ w2) (mvT hZ w3 hw3) (mvT hZ w4) (mvT hZ w5) (mvT hZ w6) (mvT hZ w7) (mvT hZ w8) hy (backOf (W := W) hM hZ w10 w9 hf hl) qa qb qc (g := g) hg hsize (Steps.refl _) (argsL := argsL) (rest := rest) hlen hstack hW hd (fun _ _ => ⟨ha, eT, hc, hs⟩)
  dsimp only [Pt.U, Pt.locs, Pt.cells, Pt.slots] at X' h2 h3 h4 st hQ
  subst h2 h3 h4
  exact ⟨T', L, v, X', hQ, fun t k => st.trans k⟩
theorem own_c1 {g g' : JFrame} {h : Heap} (h1 : ∃ T', Stand p l e R s m args below meth c T' locs cells slots ∧ T'.heap = h ∧ ∀ t, Steps p.tables e below (T'.setTop g') t → Steps p.tables e below (T.setTop g) t) (k : ∀ T', Stand p l e R s m args below meth c T' locs cells slots → T'.heap = h → own_Go p e below G (T'.setTop g')) : own_Go p e below G (T.setTop g) := by
  obtain ⟨T', X', e', st⟩ := h1
  exact own_by st (k T' X' e')
theorem own_c2 {g g' : JFrame} {h : Heap} {a : Addr} {sl : Nat} {v : Value} (h1 : ∃ T' h', Stand p l e R s m args below meth c T' (locs ++ [⟨a, sl⟩]) cells slots ∧ T'.heap = h' ∧ Wr h h' a sl v ∧ ∀ t, Steps p.tables e below (T'.setTop g') t → Steps p.tables e below (T.setTop g) t) (k : ∀ T' h', Stand p l e R s m args below meth c T' (locs ++ [⟨a, sl⟩]) cells slots → T'.heap = h' → Wr h h' a sl v → own_Go p e below G (T'.setTop g')) : own_Go p e below G (T.setTop g) := by
  obtain ⟨T', h', X', e', W, st⟩ := h1
  exact own_by st (k T' h' X' e' W)
theorem own_cc {g : JFrame} {c1 s1 : Nat} {Q : Option Value → Heap → List Loc → Prop} {f : Option Value → JFrame} (h1 : ∃ (T' : State) (L : List Loc) (v : Option Value), Stand p l e R s m args below meth c T' (locs ++ L) c1 s1 ∧ Q v T'.heap L ∧ ∀ t, Steps p.tables e below (T'.setTop (f v)) t → Steps p.tables e below (T.setTop g) t) (k : ∀ (T' : State) (L : List Loc) (v : Option Value), Stand p l e R s m args below meth c T' (locs ++ L) c1 s1 → Q v T'.heap L → own_Go p e below G (T'.setTop (f v))) : own_Go p e below G (T.setTop g) := by
  obtain ⟨T', L, v, X', hQ, st⟩ := h1
  exact own_by st (k T' L v X' hQ)
end OwnKit
theorem sn0 {Z : State} {a0 : Array Value} (hw : ∀ d ∈ tables_1, d.before a0 Z = true) : Jvm.RoadKit.slotOf Z "java/util/HashMap" "threshold" "I" ≠ Jvm.RoadKit.slotOf Z "java/util/HashMap" "loadFactor" "F" := slot_ne (Or.inl (hw _ (List.mem_of_getElem? (i := 79) rfl))) (Or.inr (hw _ (List.mem_of_getElem? (i := 69) rfl))) (by decide) (t := .int) (t' := .float) (by decide) (by decide)
theorem sn1 {Z : State} {a0 : Array Value} (hw : ∀ d ∈ tables_1, d.before a0 Z = true) : Jvm.RoadKit.slotOf Z "java/util/LinkedHashMap" "putMode" "I" ≠ Jvm.RoadKit.slotOf Z "java/util/HashMap" "loadFactor" "F" := slot_ne (Or.inl (hw _ (List.mem_of_getElem? (i := 81) rfl))) (Or.inr (hw _ (List.mem_of_getElem? (i := 69) rfl))) (by decide) (t := .int) (t' := .float) (by decide) (by decide)
theorem sn2 {Z : State} {a0 : Array Value} (hw : ∀ d ∈ tables_1, d.before a0 Z = true) : Jvm.RoadKit.slotOf Z "java/util/LinkedHashMap" "accessOrder" "Z" ≠ Jvm.RoadKit.slotOf Z "java/util/HashMap" "loadFactor" "F" := slot_ne (Or.inr (hw _ (List.mem_of_getElem? (i := 83) rfl))) (Or.inr (hw _ (List.mem_of_getElem? (i := 69) rfl))) (by decide) (t := .boolean) (t' := .float) (by decide) (by decide)
theorem sn3 {Z : State} {a0 : Array Value} (hw : ∀ d ∈ tables_1, d.before a0 Z = true) : Jvm.RoadKit.slotOf Z "java/util/HashMap" "loadFactor" "F" ≠ Jvm.RoadKit.slotOf Z "java/util/HashMap" "threshold" "I" := slot_ne (Or.inr (hw _ (List.mem_of_getElem? (i := 69) rfl))) (Or.inl (hw _ (List.mem_of_getElem? (i := 79) rfl))) (by decide) (t := .float) (t' := .int) (by decide) (by decide)
theorem sn4 {Z : State} {a0 : Array Value} (hw : ∀ d ∈ tables_1, d.before a0 Z = true) : Jvm.RoadKit.slotOf Z "java/util/LinkedHashMap" "putMode" "I" ≠ Jvm.RoadKit.slotOf Z "java/util/HashMap" "threshold" "I" := slot_ne (Or.inl (hw _ (List.mem_of_getElem? (i := 81) rfl))) (Or.inl (hw _ (List.mem_of_getElem? (i := 79) rfl))) (by decide) (t := .int) (t' := .int) (by decide) (by decide)
theorem sn5 {Z : State} {a0 : Array Value} (hw : ∀ d ∈ tables_1, d.before a0 Z = true) : Jvm.RoadKit.slotOf Z "java/util/LinkedHashMap" "accessOrder" "Z" ≠ Jvm.RoadKit.slotOf Z "java/util/HashMap" "threshold" "I" := slot_ne (Or.inr (hw _ (List.mem_of_getElem? (i := 83) rfl))) (Or.inl (hw _ (List.mem_of_getElem? (i := 79) rfl))) (by decide) (t := .boolean) (t' := .int) (by decide) (by decide)
theorem sn6 {Z : State} {a0 : Array Value} (hw : ∀ d ∈ tables_1, d.before a0 Z = true) : Jvm.RoadKit.slotOf Z "java/util/HashMap" "loadFactor" "F" ≠ Jvm.RoadKit.slotOf Z "java/util/LinkedHashMap" "putMode" "I" := slot_ne (Or.inr (hw _ (List.mem_of_getElem? (i := 69) rfl))) (Or.inl (hw _ (List.mem_of_getElem? (i := 81) rfl))) (by decide) (t := .float) (t' := .int) (by decide) (by decide)
theorem sn7 {Z : State} {a0 : Array Value} (hw : ∀ d ∈ tables_1, d.before a0 Z = true) : Jvm.RoadKit.slotOf Z "java/util/HashMap" "threshold" "I" ≠ Jvm.RoadKit.slotOf Z "java/util/LinkedHashMap" "putMode" "I" := slot_ne (Or.inl (hw _ (List.mem_of_getElem? (i := 79) rfl))) (Or.inl (hw _ (List.mem_of_getElem? (i := 81) rfl))) (by decide) (t := .int) (t' := .int) (by decide) (by decide)
theorem sn8 {Z : State} {a0 : Array Value} (hw : ∀ d ∈ tables_1, d.before a0 Z = true) : Jvm.RoadKit.slotOf Z "java/util/LinkedHashMap" "accessOrder" "Z" ≠ Jvm.RoadKit.slotOf Z "java/util/LinkedHashMap" "putMode" "I" := slot_ne (Or.inr (hw _ (List.mem_of_getElem? (i := 83) rfl))) (Or.inl (hw _ (List.mem_of_getElem? (i := 81) rfl))) (by decide) (t := .boolean) (t' := .int) (by decide) (by decide)
theorem sn9 {Z : State} {a0 : Array Value} (hw : ∀ d ∈ tables_1, d.before a0 Z = true) : Jvm.RoadKit.slotOf Z "java/util/HashMap" "loadFactor" "F" ≠ Jvm.RoadKit.slotOf Z "java/util/LinkedHashMap" "accessOrder" "Z" := slot_ne (Or.inr (hw _ (List.mem_of_getElem? (i := 69) rfl))) (Or.inr (hw _ (List.mem_of_getElem? (i := 83) rfl))) (by decide) (t := .float) (t' := .boolean) (by decide) (by decide)
theorem sn10 {Z : State} {a0 : Array Value} (hw : ∀ d ∈ tables_1, d.before a0 Z = true) : Jvm.RoadKit.slotOf Z "java/util/HashMap" "threshold" "I" ≠ Jvm.RoadKit.slotOf Z "java/util/LinkedHashMap" "accessOrder" "Z" := slot_ne (Or.inl (hw _ (List.mem_of_getElem? (i := 79) rfl))) (Or.inr (hw _ (List.mem_of_getElem? (i := 83) rfl))) (by decide) (t := .int) (t' := .boolean) (by decide) (by decide)
theorem sn11 {Z : State} {a0 : Array Value} (hw : ∀ d ∈ tables_1, d.before a0 Z = true) : Jvm.RoadKit.slotOf Z "java/util/LinkedHashMap" "putMode" "I" ≠ Jvm.RoadKit.slotOf Z "java/util/LinkedHashMap" "accessOrder" "Z" := slot_ne (Or.inl (hw _ (List.mem_of_getElem? (i := 81) rfl))) (Or.inr (hw _ (List.mem_of_getElem? (i := 83) rfl))) (by decide) (t := .int) (t' := .boolean) (by decide) (by decide)
theorem sn12 {Z : State} {a0 : Array Value} (hw : ∀ d ∈ tables_1, d.before a0 Z = true) : Jvm.RoadKit.slotOf Z "com/example/chartwell/chartwell/http/Client" "name" "Ljava/lang/String;" ≠ Jvm.RoadKit.slotOf Z "com/example/chartwell/chartwell/http/Client" "connections" "Ljava/util/Set;" := slot_ne (Or.inr (hw _ (List.mem_of_getElem? (i := 89) rfl))) (Or.inr (hw _ (List.mem_of_getElem? (i := 87) rfl))) (by decide) (t := (.object "java/lang/String")) (t' := (.object "java/util/Set")) (by decide) (by decide)
theorem sn13 {Z : State} {a0 : Array Value} (hw : ∀ d ∈ tables_1, d.before a0 Z = true) : Jvm.RoadKit.slotOf Z "com/example/chartwell/chartwell/http/Client" "memory" "Lcom/example/chartwell/chartwell/http/HeldMemory;" ≠ Jvm.RoadKit.slotOf Z "com/example/chartwell/chartwell/http/Client" "connections" "Ljava/util/Set;" := slot_ne (Or.inr (hw _ (List.mem_of_getElem? (i := 91) rfl))) (Or.inr (hw _ (List.mem_of_getElem? (i := 87) rfl))) (by decide) (t := (.object "com/example/chartwell/chartwell/http/HeldMemory")) (t' := (.object "java/util/Set")) (by decide) (by decide)
theorem sn14 {Z : State} {a0 : Array Value} (hw : ∀ d ∈ tables_1, d.before a0 Z = true) : Jvm.RoadKit.slotOf Z "com/example/chartwell/chartwell/http/Client" "held" "J" ≠ Jvm.RoadKit.slotOf Z "com/example/chartwell/chartwell/http/Client" "connections" "Ljava/util/Set;" := slot_ne (Or.inl (hw _ (List.mem_of_getElem? (i := 98) rfl))) (Or.inr (hw _ (List.mem_of_getElem? (i := 87) rfl))) (by decide) (t := .long) (t' := (.object "java/util/Set")) (by decide) (by decide)
theorem sn15 {Z : State} {a0 : Array Value} (hw : ∀ d ∈ tables_1, d.before a0 Z = true) : Jvm.RoadKit.slotOf Z "com/example/chartwell/chartwell/http/Client" "heldLarge" "J" ≠ Jvm.RoadKit.slotOf Z "com/example/chartwell/chartwell/http/Client" "connections" "Ljava/util/Set;" := slot_ne (Or.inl (hw _ (List.mem_of_getElem? (i := 100) rfl))) (Or.inr (hw _ (List.mem_of_getElem? (i := 87) rfl))) (by decide) (t := .long) (t' := (.object "java/util/Set")) (by decide) (by decide)
theorem sn16 {Z : State} {a0 : Array Value} (hw : ∀ d ∈ tables_1, d.before a0 Z = true) : Jvm.RoadKit.slotOf Z "com/example/chartwell/chartwell/http/Client" "connections" "Ljava/util/Set;" ≠ Jvm.RoadKit.slotOf Z "com/example/chartwell/chartwell/http/Client" "name" "Ljava/lang/String;" := slot_ne (Or.inr (hw _ (List.mem_of_getElem? (i := 87) rfl))) (Or.inr (hw _ (List.mem_of_getElem? (i := 89) rfl))) (by decide) (t := (.object "java/util/Set")) (t' := (.object "java/lang/String")) (by decide) (by decide)
theorem sn17 {Z : State} {a0 : Array Value} (hw : ∀ d ∈ tables_1, d.before a0 Z = true) : Jvm.RoadKit.slotOf Z "com/example/chartwell/chartwell/http/Client" "memory" "Lcom/example/chartwell/chartwell/http/HeldMemory;" ≠ Jvm.RoadKit.slotOf Z "com/example/chartwell/chartwell/http/Client" "name" "Ljava/lang/String;" := slot_ne (Or.inr (hw _ (List.mem_of_getElem? (i := 91) rfl))) (Or.inr (hw _ (List.mem_of_getElem? (i := 89) rfl))) (by decide) (t := (.object "com/example/chartwell/chartwell/http/HeldMemory")) (t' := (.object "java/lang/String")) (by decide) (by decide)
theorem sn18 {Z : State} {a0 : Array Value} (hw : ∀ d ∈ tables_1, d.before a0 Z = true) : Jvm.RoadKit.slotOf Z "com/example/chartwell/chartwell/http/Client" "held" "J" ≠ Jvm.RoadKit.slotOf Z "com/example/chartwell/chartwell/http/Client" "name" "Ljava/lang/String;" := slot_ne (Or.inl (hw _ (List.mem_of_getElem? (i := 98) rfl))) (Or.inr (hw _ (List.mem_of_getElem? (i := 89) rfl))) (by decide) (t := .long) (t' := (.object "java/lang/String")) (by decide) (by decide)
theorem sn19 {Z : State} {a0 : Array Value} (hw : ∀ d ∈ tables_1, d.before a0 Z = true) : Jvm.RoadKit.slotOf Z "com/example/chartwell/chartwell/http/Client" "heldLarge" "J" ≠ Jvm.RoadKit.slotOf Z "com/example/chartwell/chartwell/http/Client" "name" "Ljava/lang/String;" := slot_ne (Or.inl (hw _ (List.mem_of_getElem? (i := 100) rfl))) (Or.inr (hw _ (List.mem_of_getElem? (i := 89) rfl))) (by decide) (t := .long) (t' := (.object "java/lang/String")) (by decide) (by decide)
theorem sn20 {Z : State} {a0 : Array Value} (hw : ∀ d ∈ tables_1, d.before a0 Z = true) : Jvm.RoadKit.slotOf Z "com/example/chartwell/chartwell/http/Client" "connections" "Ljava/util/Set;" ≠ Jvm.RoadKit.slotOf Z "com/example/chartwell/chartwell/http/Client" "memory" "Lcom/example/chartwell/chartwell/http/HeldMemory;" := slot_ne (Or.inr (hw _ (List.mem_of_getElem? (i := 87) rfl))) (Or.inr (hw _ (List.mem_of_getElem? (i := 91) rfl))) (by decide) (t := (.object "java/util/Set")) (t' := (.object "com/example/chartwell/chartwell/http/HeldMemory")) (by decide) (by decide)
theorem sn21 {Z : State} {a0 : Array Value} (hw : ∀ d ∈ tables_1, d.before a0 Z = true) : Jvm.RoadKit.slotOf Z "com/example/chartwell/chartwell/http/Client" "name" "Ljava/lang/String;" ≠ Jvm.RoadKit.slotOf Z "com/example/chartwell/chartwell/http/Client" "memory" "Lcom/example/chartwell/chartwell/http/HeldMemory;" := slot_ne (Or.inr (hw _ (List.mem_of_getElem? (i := 89) rfl))) (Or.inr (hw _ (List.mem_of_getElem? (i := 91) rfl))) (by decide) (t := (.object "java/lang/String")) (t' := (.object "com/example/chartwell/chartwell/http/HeldMemory")) (by decide) (by decide)
theorem sn22 {Z : State} {a0 : Array Value} (hw : ∀ d ∈ tables_1, d.before a0 Z = true) : Jvm.RoadKit.slotOf Z "com/example/chartwell/chartwell/http/Client" "held" "J" ≠ Jvm.RoadKit.slotOf Z "com/example/chartwell/chartwell/http/Client" "memory" "Lcom/example/chartwell/chartwell/http/HeldMemory;" := slot_ne (Or.inl (hw _ (List.mem_of_getElem? (i := 98) rfl))) (Or.inr (hw _ (List.mem_of_getElem? (i := 91) rfl))) (by decide) (t := .long) (t' := (.object "com/example/chartwell/chartwell/http/HeldMemory")) (by decide) (by decide)
theorem sn23 {Z : State} {a0 : Array Value} (hw : ∀ d ∈ tables_1, d.before a0 Z = true) : Jvm.RoadKit.slotOf Z "com/example/chartwell/chartwell/http/Client" "heldLarge" "J" ≠ Jvm.RoadKit.slotOf Z "com/example/chartwell/chartwell/http/Client" "memory" "Lcom/example/chartwell/chartwell/http/HeldMemory;" := slot_ne (Or.inl (hw _ (List.mem_of_getElem? (i := 100) rfl))) (Or.inr (hw _ (List.mem_of_getElem? (i := 91) rfl))) (by decide) (t := .long) (t' := (.object "com/example/chartwell/chartwell/http/HeldMemory")) (by decide) (by decide)
theorem sn24 {Z : State} {a0 : Array Value} (hw : ∀ d ∈ tables_1, d.before a0 Z = true) : Jvm.RoadKit.slotOf Z "com/example/chartwell/chartwell/http/Client" "connections" "Ljava/util/Set;" ≠ Jvm.RoadKit.slotOf Z "com/example/chartwell/chartwell/http/Client" "held" "J" := slot_ne (Or.inr (hw _ (List.mem_of_getElem? (i := 87) rfl))) (Or.inl (hw _ (List.mem_of_getElem? (i := 98) rfl))) (by decide) (t := (.object "java/util/Set")) (t' := .long) (by decide) (by decide)
theorem sn25 {Z : State} {a0 : Array Value} (hw : ∀ d ∈ tables_1, d.before a0 Z = true) : Jvm.RoadKit.slotOf Z "com/example/chartwell/chartwell/http/Client" "name" "Ljava/lang/String;" ≠ Jvm.RoadKit.slotOf Z "com/example/chartwell/chartwell/http/Client" "held" "J" := slot_ne (Or.inr (hw _ (List.mem_of_getElem? (i := 89) rfl))) (Or.inl (hw _ (List.mem_of_getElem? (i := 98) rfl))) (by decide) (t := (.object "java/lang/String")) (t' := .long) (by decide) (by decide)
theorem sn26 {Z : State} {a0 : Array Value} (hw : ∀ d ∈ tables_1, d.before a0 Z = true) : Jvm.RoadKit.slotOf Z "com/example/chartwell/chartwell/http/Client" "memory" "Lcom/example/chartwell/chartwell/http/HeldMemory;" ≠ Jvm.RoadKit.slotOf Z "com/example/chartwell/chartwell/http/Client" "held" "J" := slot_ne (Or.inr (hw _ (List.mem_of_getElem? (i := 91) rfl))) (Or.inl (hw _ (List.mem_of_getElem? (i := 98) rfl))) (by decide) (t := (.object "com/example/chartwell/chartwell/http/HeldMemory")) (t' := .long) (by decide) (by decide)
theorem sn27 {Z : State} {a0 : Array Value} (hw : ∀ d ∈ tables_1, d.before a0 Z = true) : Jvm.RoadKit.slotOf Z "com/example/chartwell/chartwell/http/Client" "heldLarge" "J" ≠ Jvm.RoadKit.slotOf Z "com/example/chartwell/chartwell/http/Client" "held" "J" := slot_ne (Or.inl (hw _ (List.mem_of_getElem? (i := 100) rfl))) (Or.inl (hw _ (List.mem_of_getElem? (i := 98) rfl))) (by decide) (t := .long) (t' := .long) (by decide) (by decide)
theorem sn28 {Z : State} {a0 : Array Value} (hw : ∀ d ∈ tables_1, d.before a0 Z = true) : Jvm.RoadKit.slotOf Z "com/example/chartwell/chartwell/http/Client" "connections" "Ljava/util/Set;" ≠ Jvm.RoadKit.slotOf Z "com/example/chartwell/chartwell/http/Client" "heldLarge" "J" := slot_ne (Or.inr (hw _ (List.mem_of_getElem? (i := 87) rfl))) (Or.inl (hw _ (List.mem_of_getElem? (i := 100) rfl))) (by decide) (t := (.object "java/util/Set")) (t' := .long) (by decide) (by decide)
theorem sn29 {Z : State} {a0 : Array Value} (hw : ∀ d ∈ tables_1, d.before a0 Z = true) : Jvm.RoadKit.slotOf Z "com/example/chartwell/chartwell/http/Client" "name" "Ljava/lang/String;" ≠ Jvm.RoadKit.slotOf Z "com/example/chartwell/chartwell/http/Client" "heldLarge" "J" := slot_ne (Or.inr (hw _ (List.mem_of_getElem? (i := 89) rfl))) (Or.inl (hw _ (List.mem_of_getElem? (i := 100) rfl))) (by decide) (t := (.object "java/lang/String")) (t' := .long) (by decide) (by decide)
theorem sn30 {Z : State} {a0 : Array Value} (hw : ∀ d ∈ tables_1, d.before a0 Z = true) : Jvm.RoadKit.slotOf Z "com/example/chartwell/chartwell/http/Client" "memory" "Lcom/example/chartwell/chartwell/http/HeldMemory;" ≠ Jvm.RoadKit.slotOf Z "com/example/chartwell/chartwell/http/Client" "heldLarge" "J" := slot_ne (Or.inr (hw _ (List.mem_of_getElem? (i := 91) rfl))) (Or.inl (hw _ (List.mem_of_getElem? (i := 100) rfl))) (by decide) (t := (.object "com/example/chartwell/chartwell/http/HeldMemory")) (t' := .long) (by decide) (by decide)
theorem sn31 {Z : State} {a0 : Array Value} (hw : ∀ d ∈ tables_1, d.before a0 Z = true) : Jvm.RoadKit.slotOf Z "com/example/chartwell/chartwell/http/Client" "held" "J" ≠ Jvm.RoadKit.slotOf Z "com/example/chartwell/chartwell/http/Client" "heldLarge" "J" := slot_ne (Or.inl (hw _ (List.mem_of_getElem? (i := 98) rfl))) (Or.inl (hw _ (List.mem_of_getElem? (i := 100) rfl))) (by decide) (t := .long) (t' := .long) (by decide) (by decide)
theorem own_sta {C K n d : String} {args : Array Value} {s : State} (hx : (Jvm.Cond.exactly (.static C n d) K).value args s none s [] = some true) (wi : (Jvm.Cond.initialized C).before args s = true) (wl : (Jvm.Cond.laysStatic C n d).before args s = true) :
    ∃ a, (Term.static C n d).eval args s none [] s = some (.ref a) ∧ Sta s s.heap C n d (.ref a) ∧ Exa s s.heap a K := by
  have hx' : (Jvm.Cond.exactly (.static C n d) K).before args s = true := Cond.before_iff.mpr hx
  obtain ⟨a', c', cell, k, e1, e2, e3, e4, e5, e6, e7⟩ := Cond.exactly_spec hx'
  exact ⟨a', e1, Sta.start e1 (Or.inr ⟨wi, wl⟩), Exa.start e1 hx⟩
theorem own_ord {t : Term} {a : Addr} {args : Array Value} {s : State} {C n d : String} {k : Int32} (e : t.eval args s none [] s = some (.ref a)) (h : (Jvm.Cond.eq (.field t C n d) (.int k)).value args s none s [] = some true) : Fld s s.heap a C n d (.int k) := by
  have h1 : (Term.field t C n d).eval args s none [] s = some (.int k) := Jvm.Free.NT.SwA.eq_int (Cond.before_iff.mpr h)
  have h2 : s.fieldOf? a C n d = some (.int k) := by
    rw [← h1]
    show _ = (t.eval args s none [] s >>= _)
    rw [e]
    rfl
  exact Fld.start h2
section OwnFloat
variable {p : Program} {e : Env} {m : MethodId} {below : List Frame} {c : Code} {T t : State} {g : JFrame}
theorem own_floadN (h : At T m c below) (hx : p.tables.exec = Jvm.exec) (hg : g.method = m) {k : Fin 4} {v : UInt32} (hd : decode c.code g.pc = .ok (.fload_n k, 1)) (hl : g.locals[k.val]? = some (.val (.float v))) (hr : Steps p.tables e below (T.setTop { g with pc := g.pc + 1, stack := .float v :: g.stack }) t) : Steps p.tables e below (T.setTop g) t := by
  subst hg
  jvm_step h [h.top, hx, hd, hl]
  exact hr
theorem own_fconst0 (h : At T m c below) (hx : p.tables.exec = Jvm.exec) (hg : g.method = m) (hd : decode c.code g.pc = .ok (.fconst 0, 1)) (hr : Steps p.tables e below (T.setTop { g with pc := g.pc + 1, stack := .float (0 : UInt32) :: g.stack }) t) : Steps p.tables e below (T.setTop g) t := by
  subst hg
  jvm_step h [h.top, hx, hd]
  exact hr
theorem own_fcmp (h : At T m c below) (hx : p.tables.exec = Jvm.exec) (hg : g.method = m) {cd : CmpOp} {x y : UInt32} {rest : List Value} (hd : decode c.code g.pc = .ok (.fcmp cd, 1)) (hs : g.stack = .float y :: .float x :: rest) {r : Int32} (hv : cmpValue (FP.fcmp x y) cd = r) (hr : Steps p.tables e below (T.setTop { g with pc := g.pc + 1, stack := .int r :: rest }) t) : Steps p.tables e below (T.setTop g) t := by
  subst hg
  jvm_step h [h.top, hx, hd, hs, hv]
  exact hr
end OwnFloat

theorem own_wS {Z : State} {a0 : Array Value} (hw : ∀ d ∈ tables_1, d.before a0 Z = true) : ∀ d ∈ Bundle.stringAtoms, d.before a0 Z = true := by
  intro d hd
  simp only [Bundle.stringAtoms, List.mem_cons, List.not_mem_nil, or_false] at hd
  rcases hd with rfl | rfl | rfl | rfl | rfl | rfl | rfl
  · exact (hw _ (List.mem_of_getElem? (i := 4) rfl))
  · exact (hw _ (List.mem_of_getElem? (i := 5) rfl))
  · exact (hw _ (List.mem_of_getElem? (i := 6) rfl))
  · exact (hw _ (List.mem_of_getElem? (i := 7) rfl))
  · exact (hw _ (List.mem_of_getElem? (i := 8) rfl))
  · exact (hw _ (List.mem_of_getElem? (i := 9) rfl))
  · exact (hw _ (List.mem_of_getElem? (i := 10) rfl))

theorem d6_0 : decode jdk_22_method_1_code 0 = .ok (.aload_n 0, 1) := by decide +kernel
theorem d6_1 : decode jdk_22_method_1_code 1 = .ok (.invokespecial 1, 3) := by decide +kernel
theorem d6_4 : decode jdk_22_method_1_code 4 = .ok (.return_, 1) := by decide +kernel
theorem pn_6 : plainName "java/util/AbstractCollection" = true := by first | (simp [plainName, overriddenIn]; done) | decide +kernel
theorem ef_6 (m : MethodId) (x0 : Addr) : entryFrame m #[(.ref x0)] 1 = mkF m 0 #[rv x0] [] := by first | (simp [entryFrame, mkF, argsToLocals, Value.category]; done) | rfl
def Q6_1 (Z : State) (o0 : Addr) (h0 : Heap) (n0 : Nat) (v : Option Value) (h : Heap) (L : List Loc) : Prop := v = none ∧ Fr n0 L ∧ h = h0
set_option maxRecDepth 65536 in
set_option maxHeartbeats 40000000 in
theorem rm6_1 (l : Launch) (Z : State) (a0 : Array Value) (hw : ∀ d ∈ tables_1, d.before a0 Z = true) (ws : List Jvm.Cond) (o0 : Addr) (h0 : Heap) (n0 : Nat) (Z0 : n0 ≤ h0.size) :
    MetFree l (⟨"java/util/AbstractCollection", "<init>", "()V"⟩ : MethodName) (head1 (Jvm.Cond.code (⟨"java/util/AbstractCollection", "<init>", "()V"⟩ : MethodName) jdk_22_method_1_code 1 none :: ws) ({ frames := 1, cells := 0, slots := 0, locals := 12 } : Room)) (fun a U => a = #[(.ref o0)] ∧ Z.Warmed39 U.vm ∧ U.heap = h0) (fun _ _ _ _ _ => True) (fun _ U o U' => ∃ v L, o = .returned v ∧ Q6_1 Z o0 h0 n0 v U'.heap L ∧ FrameEnd U o U' L ({ frames := 1, cells := 0, slots := 0, locals := 12 } : Room).cells ({ frames := 1, cells := 0, slots := 0, locals := 12 } : Room).slots) := by
  refine MetFree.of_bodySF (plainFor_of_name pn_6) hisR ?_
  intro p e s m args below meth c s₁ Bd hml0 hP hK
  obtain ⟨rfl, hZ, hh⟩ := hP
  have hx := Bd.exec
  have hby := Bd.bytes
  have hml : c.maxLocals = 1 := hml0
  have hown : s.vm.findClass "java/util/AbstractCollection" = some m.cls := findClass_of_methodNamed Bd.named
  have hnm := (name_of_methodNamed Bd.named Bd.method).1
  have X0 : Stand p l e ({ frames := 1, cells := 0, slots := 0, locals := 12 } : Room) s m #[(.ref o0)] below meth c s₁ [] 0 0 := Stand.of_body Bd
  have e0 : s₁.heap = h0 := by rw [← hh, Bd.state]; rfl
  have N0 := Fr.nil n0
  change own_Go p e below (own_Post s (Q6_1 Z o0 h0 n0) ({ frames := 1, cells := 0, slots := 0, locals := 12 } : Room).cells ({ frames := 1, cells := 0, slots := 0, locals := 12 } : Room).slots) (s₁.setTop (entryFrame m #[(.ref o0)] 1))
  refine own_by (fun t k => castTop (ef_6 m o0) k) ?_
  show own_Go p e below _ (s₁.setTop (mkF m 0 #[rv o0] []))
  refine own_by (B := s₁.setTop (mkF m 1 #[rv o0] [(.ref o0)])) (fun t k => ?_) ?_
  · show Steps p.tables e below (s₁.setTop (mkF m 0 #[rv o0] [])) _
    refine XS.aloadN X0.here hx rfl (hb hby d6_0) rfl rfl ?_
    show Steps p.tables e below (s₁.setTop (mkF m 1 #[rv o0] [(.ref o0)])) _
    exact k
  refine own_c1 (initO X0 hx hZ hown (hw _ (List.mem_of_getElem? (i := 42) rfl)) (hw _ (List.mem_of_getElem? (i := 15) rfl)) (hw _ (List.mem_of_getElem? (i := 16) rfl)) e0 rfl (by rw [hml]; rfl) rfl (hb hby d6_1) (by decide) (W := 0) (by show 2 * 0 + _ ≤ _; exact Nat.le_of_eq rfl) (by decide)) fun T2 X2 e2 => ?_
  show own_Go p e below _ (T2.setTop (mkF m 4 #[rv o0] []))
  exact own_retV X2 Bd.notSynchronized hx Bd.returns (hb hby d6_4) (by
      rw [show T2.heap = h0 from e2]
      exact ⟨rfl, N0, rfl⟩) (by decide) (by decide)

theorem d5_0 : decode jdk_91_method_1_code 0 = .ok (.aload_n 0, 1) := by decide +kernel
theorem d5_1 : decode jdk_91_method_1_code 1 = .ok (.invokespecial 1, 3) := by decide +kernel
theorem d5_4 : decode jdk_91_method_1_code 4 = .ok (.return_, 1) := by decide +kernel
theorem pn_5 : plainName "java/util/AbstractSet" = true := by first | (simp [plainName, overriddenIn]; done) | decide +kernel
theorem pd_1 : parseMethodDescriptor "()V" = some ⟨[], none⟩ := by decide +kernel
theorem ef_5 (m : MethodId) (x0 : Addr) : entryFrame m #[(.ref x0)] 1 = mkF m 0 #[rv x0] [] := by first | (simp [entryFrame, mkF, argsToLocals, Value.category]; done) | rfl
def Q5_2 (Z : State) (o0 : Addr) (h0 : Heap) (n0 : Nat) (v : Option Value) (h : Heap) (L : List Loc) : Prop := v = none ∧ Fr n0 L ∧ h = h0
set_option maxRecDepth 65536 in
set_option maxHeartbeats 40000000 in
theorem rm5_2 (l : Launch) (Z : State) (a0 : Array Value) (hw : ∀ d ∈ tables_1, d.before a0 Z = true) (ws : List Jvm.Cond) (o0 : Addr) (h0 : Heap) (n0 : Nat) (Z0 : n0 ≤ h0.size) :
    MetFree l (⟨"java/util/AbstractSet", "<init>", "()V"⟩ : MethodName) (head1 (Jvm.Cond.code (⟨"java/util/AbstractSet", "<init>", "()V"⟩ : MethodName) jdk_91_method_1_code 1 none :: ws) ({ frames := 2, cells := 0, slots := 0, locals := 24 } : Room)) (fun a U => a = #[(.ref o0)] ∧ Z.Warmed39 U.vm ∧ U.heap = h0) (fun _ _ _ _ _ => True) (fun _ U o U' => ∃ v L, o = .returned v ∧ Q5_2 Z o0 h0 n0 v U'.heap L ∧ FrameEnd U o U' L ({ frames := 2, cells := 0, slots := 0, locals := 24 } : Room).cells ({ frames := 2, cells := 0, slots := 0, locals := 24 } : Room).slots) := by
  refine MetFree.of_bodySF (plainFor_of_name pn_5) hisR ?_
  intro p e s m args below meth c s₁ Bd hml0 hP hK
  obtain ⟨rfl, hZ, hh⟩ := hP
  have hx := Bd.exec
  have hby := Bd.bytes
  have hml : c.maxLocals = 1 := hml0
  have hown : s.vm.findClass "java/util/AbstractSet" = some m.cls := findClass_of_methodNamed Bd.named
  have hnm := (name_of_methodNamed Bd.named Bd.method).1
  have X0 : Stand p l e ({ frames := 2, cells := 0, slots := 0, locals := 24 } : Room) s m #[(.ref o0)] below meth c s₁ [] 0 0 := Stand.of_body Bd
  have e0 : s₁.heap = h0 := by rw [← hh, Bd.state]; rfl
  have N0 := Fr.nil n0
  change own_Go p e below (own_Post s (Q5_2 Z o0 h0 n0) ({ frames := 2, cells := 0, slots := 0, locals := 24 } : Room).cells ({ frames := 2, cells := 0, slots := 0, locals := 24 } : Room).slots) (s₁.setTop (entryFrame m #[(.ref o0)] 1))
  refine own_by (fun t k => castTop (ef_5 m o0) k) ?_
  show own_Go p e below _ (s₁.setTop (mkF m 0 #[rv o0] []))
  refine own_by (B := s₁.setTop (mkF m 1 #[rv o0] [(.ref o0)])) (fun t k => ?_) ?_
  · show Steps p.tables e below (s₁.setTop (mkF m 0 #[rv o0] [])) _
    refine XS.aloadN X0.here hx rfl (hb hby d5_0) rfl rfl ?_
    show Steps p.tables e below (s₁.setTop (mkF m 1 #[rv o0] [(.ref o0)])) _
    exact k
  refine own_cc (own_callI X0 hx hZ (y := (⟨"java/util/AbstractCollection", "<init>", "()V"⟩ : MethodName)) rfl hown (hw _ (List.mem_of_getElem? (i := 36) rfl)) (hw _ (List.mem_of_getElem? (i := 37) rfl)) (hw _ (List.mem_of_getElem? (i := 40) rfl)) (hw _ (List.mem_of_getElem? (i := 41) rfl)) (by decide) (rm6_1 l Z a0 hw [] o0 h0 n0 Z0 ) e0 0 (by decide) (by decide) (by decide) (by decide) rfl (by rw [hml]; rfl) o0 [] [] rfl (lenOf pd_1 rfl) rfl (by show 2 * 0 + _ ≤ _; exact Nat.le_of_eq rfl) (hb hby d5_1)) fun T2 L2 v2 X2 hQ2 => ?_
  obtain ⟨rfl, N2, e2⟩ := hQ2
  replace N0 := Fr.app N0 N2
  show own_Go p e below _ (T2.setTop (mkF m 4 #[rv o0] []))
  exact own_retV X2 Bd.notSynchronized hx Bd.returns (hb hby d5_4) (by
      rw [show T2.heap = h0 from e2]
      exact ⟨rfl, N0, rfl⟩) (by decide) (by decide)

theorem d9_0 : decode jdk_71_method_1_code 0 = .ok (.aload_n 0, 1) := by decide +kernel
theorem d9_1 : decode jdk_71_method_1_code 1 = .ok (.invokespecial 1, 3) := by decide +kernel
theorem d9_4 : decode jdk_71_method_1_code 4 = .ok (.return_, 1) := by decide +kernel
theorem pn_9 : plainName "java/util/AbstractMap" = true := by first | (simp [plainName, overriddenIn]; done) | decide +kernel
theorem ef_9 (m : MethodId) (x0 : Addr) : entryFrame m #[(.ref x0)] 1 = mkF m 0 #[rv x0] [] := by first | (simp [entryFrame, mkF, argsToLocals, Value.category]; done) | rfl
def Q9_3 (Z : State) (o0 : Addr) (h0 : Heap) (n0 : Nat) (v : Option Value) (h : Heap) (L : List Loc) : Prop := v = none ∧ Fr n0 L ∧ h = h0
set_option maxRecDepth 65536 in
set_option maxHeartbeats 40000000 in
theorem rm9_3 (l : Launch) (Z : State) (a0 : Array Value) (hw : ∀ d ∈ tables_1, d.before a0 Z = true) (ws : List Jvm.Cond) (o0 : Addr) (h0 : Heap) (n0 : Nat) (Z0 : n0 ≤ h0.size) :
    MetFree l (⟨"java/util/AbstractMap", "<init>", "()V"⟩ : MethodName) (head1 (Jvm.Cond.code (⟨"java/util/AbstractMap", "<init>", "()V"⟩ : MethodName) jdk_71_method_1_code 1 none :: ws) ({ frames := 1, cells := 0, slots := 0, locals := 12 } : Room)) (fun a U => a = #[(.ref o0)] ∧ Z.Warmed39 U.vm ∧ U.heap = h0) (fun _ _ _ _ _ => True) (fun _ U o U' => ∃ v L, o = .returned v ∧ Q9_3 Z o0 h0 n0 v U'.heap L ∧ FrameEnd U o U' L ({ frames := 1, cells := 0, slots := 0, locals := 12 } : Room).cells ({ frames := 1, cells := 0, slots := 0, locals := 12 } : Room).slots) := by
  refine MetFree.of_bodySF (plainFor_of_name pn_9) hisR ?_
  intro p e s m args below meth c s₁ Bd hml0 hP hK
  obtain ⟨rfl, hZ, hh⟩ := hP
  have hx := Bd.exec
  have hby := Bd.bytes
  have hml : c.maxLocals = 1 := hml0
  have hown : s.vm.findClass "java/util/AbstractMap" = some m.cls := findClass_of_methodNamed Bd.named
  have hnm := (name_of_methodNamed Bd.named Bd.method).1
  have X0 : Stand p l e ({ frames := 1, cells := 0, slots := 0, locals := 12 } : Room) s m #[(.ref o0)] below meth c s₁ [] 0 0 := Stand.of_body Bd
  have e0 : s₁.heap = h0 := by rw [← hh, Bd.state]; rfl
  have N0 := Fr.nil n0
  change own_Go p e below (own_Post s (Q9_3 Z o0 h0 n0) ({ frames := 1, cells := 0, slots := 0, locals := 12 } : Room).cells ({ frames := 1, cells := 0, slots := 0, locals := 12 } : Room).slots) (s₁.setTop (entryFrame m #[(.ref o0)] 1))
  refine own_by (fun t k => castTop (ef_9 m o0) k) ?_
  show own_Go p e below _ (s₁.setTop (mkF m 0 #[rv o0] []))
  refine own_by (B := s₁.setTop (mkF m 1 #[rv o0] [(.ref o0)])) (fun t k => ?_) ?_
  · show Steps p.tables e below (s₁.setTop (mkF m 0 #[rv o0] [])) _
    refine XS.aloadN X0.here hx rfl (hb hby d9_0) rfl rfl ?_
    show Steps p.tables e below (s₁.setTop (mkF m 1 #[rv o0] [(.ref o0)])) _
    exact k
  refine own_c1 (initO X0 hx hZ hown (hw _ (List.mem_of_getElem? (i := 62) rfl)) (hw _ (List.mem_of_getElem? (i := 15) rfl)) (hw _ (List.mem_of_getElem? (i := 16) rfl)) e0 rfl (by rw [hml]; rfl) rfl (hb hby d9_1) (by decide) (W := 0) (by show 2 * 0 + _ ≤ _; exact Nat.le_of_eq rfl) (by decide)) fun T2 X2 e2 => ?_
  show own_Go p e below _ (T2.setTop (mkF m 4 #[rv o0] []))
  exact own_retV X2 Bd.notSynchronized hx Bd.returns (hb hby d9_4) (by
      rw [show T2.heap = h0 from e2]
      exact ⟨rfl, N0, rfl⟩) (by decide) (by decide)

theorem d10_0 : decode jdk_118_method_6_code 0 = .ok (.fload_n 0, 1) := by decide +kernel
theorem d10_1 : decode jdk_118_method_6_code 1 = .ok (.fload_n 0, 1) := by decide +kernel
theorem d10_2 : decode jdk_118_method_6_code 2 = .ok (.fcmp .l, 1) := by decide +kernel
theorem d10_3 : decode jdk_118_method_6_code 3 = .ok (.ifCond .eq 7, 3) := by decide +kernel
theorem d10_10 : decode jdk_118_method_6_code 10 = .ok (.iconst 0, 1) := by decide +kernel
theorem d10_11 : decode jdk_118_method_6_code 11 = .ok (.ireturn, 1) := by decide +kernel
theorem pn_10 : plainFor (⟨"java/lang/Float", "isNaN", "(F)Z"⟩ : MethodName) = true := by decide +kernel
theorem ef_10 (m : MethodId) (x0 : UInt32) : entryFrame m #[(.float x0)] 1 = mkF m 0 #[.val (.float x0)] [] := by first | (simp [entryFrame, mkF, argsToLocals, Value.category]; done) | rfl
def Q10_4 (Z : State)  (h0 : Heap) (n0 : Nat) (v : Option Value) (h : Heap) (L : List Loc) : Prop := v = some (.int (0 : Int32)) ∧ Fr n0 L ∧ h = h0
set_option maxRecDepth 65536 in
set_option maxHeartbeats 40000000 in
theorem rm10_4 (l : Launch) (Z : State) (a0 : Array Value) (hw : ∀ d ∈ tables_1, d.before a0 Z = true) (ws : List Jvm.Cond)  (h0 : Heap) (n0 : Nat) (Z0 : n0 ≤ h0.size) :
    MetFree l (⟨"java/lang/Float", "isNaN", "(F)Z"⟩ : MethodName) (head1 (Jvm.Cond.code (⟨"java/lang/Float", "isNaN", "(F)Z"⟩ : MethodName) jdk_118_method_6_code 1 (some .boolean) :: ws) ({ frames := 0, cells := 0, slots := 0, locals := 0 } : Room)) (fun a U => a = #[(.float (1061158912 : UInt32))] ∧ Z.Warmed39 U.vm ∧ U.heap = h0) (fun _ _ _ _ _ => True) (fun _ U o U' => ∃ v L, o = .returned v ∧ Q10_4 Z  h0 n0 v U'.heap L ∧ FrameEnd U o U' L ({ frames := 0, cells := 0, slots := 0, locals := 0 } : Room).cells ({ frames := 0, cells := 0, slots := 0, locals := 0 } : Room).slots) := by
  refine MetFree.of_bodySF pn_10 hisR ?_
  intro p e s m args below meth c s₁ Bd hml0 hP hK
  obtain ⟨rfl, hZ, hh⟩ := hP
  have hx := Bd.exec
  have hby := Bd.bytes
  have hml : c.maxLocals = 1 := hml0
  have hown : s.vm.findClass "java/lang/Float" = some m.cls := findClass_of_methodNamed Bd.named
  have hnm := (name_of_methodNamed Bd.named Bd.method).1
  have X0 : Stand p l e ({ frames := 0, cells := 0, slots := 0, locals := 0 } : Room) s m #[(.float (1061158912 : UInt32))] below meth c s₁ [] 0 0 := Stand.of_body Bd
  have e0 : s₁.heap = h0 := by rw [← hh, Bd.state]; rfl
  have N0 := Fr.nil n0
  change own_Go p e below (own_Post s (Q10_4 Z  h0 n0) ({ frames := 0, cells := 0, slots := 0, locals := 0 } : Room).cells ({ frames := 0, cells := 0, slots := 0, locals := 0 } : Room).slots) (s₁.setTop (entryFrame m #[(.float (1061158912 : UInt32))] 1))
  refine own_by (fun t k => castTop (ef_10 m (1061158912 : UInt32)) k) ?_
  show own_Go p e below _ (s₁.setTop (mkF m 0 #[.val (.float (1061158912 : UInt32))] []))
  refine own_by (B := s₁.setTop (mkF m 11 #[.val (.float (1061158912 : UInt32))] [(.int (0 : Int32))])) (fun t k => ?_) ?_
  · show Steps p.tables e below (s₁.setTop (mkF m 0 #[.val (.float (1061158912 : UInt32))] [])) _
    refine own_floadN X0.here hx rfl (hb hby d10_0) rfl ?_
    show Steps p.tables e below (s₁.setTop (mkF m 1 #[.val (.float (1061158912 : UInt32))] [(.float (1061158912 : UInt32))])) _
    refine own_floadN X0.here hx rfl (hb hby d10_1) rfl ?_
    show Steps p.tables e below (s₁.setTop (mkF m 2 #[.val (.float (1061158912 : UInt32))] [(.float (1061158912 : UInt32)), (.float (1061158912 : UInt32))])) _
    refine own_fcmp X0.here hx rfl (hb hby d10_2) rfl (r := (0 : Int32)) (by decide +kernel) ?_
    show Steps p.tables e below (s₁.setTop (mkF m 3 #[.val (.float (1061158912 : UInt32))] [(.int (0 : Int32))])) _
    refine XS.ifYes X0.here hx rfl (pc0 := 3) (pc' := 10) rfl (hb hby d10_3) rfl ((if0 _ _).trans (teq (by decide : (0 : Int32) = (0 : Int32))).1) (by decide) (by decide) ?_
    show Steps p.tables e below (s₁.setTop (mkF m 10 #[.val (.float (1061158912 : UInt32))] [])) _
    refine XS.iconst X0.here hx rfl (hb hby d10_10) ?_
    show Steps p.tables e below (s₁.setTop (mkF m 11 #[.val (.float (1061158912 : UInt32))] [(.int (0 : Int32))])) _
    exact k
  exact own_retN X0 Bd.notSynchronized hx (t := .boolean) Bd.returns (by simp) (hb hby d10_11) (by
      rw [show s₁.heap = h0 from e0]
      exact ⟨rfl, N0, rfl⟩) (by decide) (by decide)

theorem d12_0 : decode jdk_33_method_47_code 0 = .ok (.iload_n 0, 1) := by decide +kernel
theorem d12_1 : decode jdk_33_method_47_code 1 = .ok (.ifCond .gt 14, 3) := by decide +kernel
theorem d12_15 : decode jdk_33_method_47_code 15 = .ok (.bipush 31, 2) := by decide +kernel
theorem d12_17 : decode jdk_33_method_47_code 17 = .ok (.istore_n 1, 1) := by decide +kernel
theorem d12_18 : decode jdk_33_method_47_code 18 = .ok (.iload_n 0, 1) := by decide +kernel
theorem d12_19 : decode jdk_33_method_47_code 19 = .ok (.ldc_w 264, 3) := by decide +kernel
theorem d12_22 : decode jdk_33_method_47_code 22 = .ok (.if_icmp .lt 11, 3) := by decide +kernel
theorem d12_33 : decode jdk_33_method_47_code 33 = .ok (.iload_n 0, 1) := by decide +kernel
theorem d12_34 : decode jdk_33_method_47_code 34 = .ok (.sipush 256, 3) := by decide +kernel
theorem d12_37 : decode jdk_33_method_47_code 37 = .ok (.if_icmp .lt 11, 3) := by decide +kernel
theorem d12_48 : decode jdk_33_method_47_code 48 = .ok (.iload_n 0, 1) := by decide +kernel
theorem d12_49 : decode jdk_33_method_47_code 49 = .ok (.bipush 16, 2) := by decide +kernel
theorem d12_51 : decode jdk_33_method_47_code 51 = .ok (.if_icmp .lt 10, 3) := by decide +kernel
theorem d12_61 : decode jdk_33_method_47_code 61 = .ok (.iload_n 0, 1) := by decide +kernel
theorem d12_62 : decode jdk_33_method_47_code 62 = .ok (.iconst 4, 1) := by decide +kernel
theorem d12_63 : decode jdk_33_method_47_code 63 = .ok (.if_icmp .lt 10, 3) := by decide +kernel
theorem d12_66 : decode jdk_33_method_47_code 66 = .ok (.iinc 1 (-2), 3) := by decide +kernel
theorem d12_69 : decode jdk_33_method_47_code 69 = .ok (.iload_n 0, 1) := by decide +kernel
theorem d12_70 : decode jdk_33_method_47_code 70 = .ok (.iconst 2, 1) := by decide +kernel
theorem d12_71 : decode jdk_33_method_47_code 71 = .ok (.iushr, 1) := by decide +kernel
theorem d12_72 : decode jdk_33_method_47_code 72 = .ok (.istore_n 0, 1) := by decide +kernel
theorem d12_73 : decode jdk_33_method_47_code 73 = .ok (.iload_n 1, 1) := by decide +kernel
theorem d12_74 : decode jdk_33_method_47_code 74 = .ok (.iload_n 0, 1) := by decide +kernel
theorem d12_75 : decode jdk_33_method_47_code 75 = .ok (.iconst 1, 1) := by decide +kernel
theorem d12_76 : decode jdk_33_method_47_code 76 = .ok (.iushr, 1) := by decide +kernel
theorem d12_77 : decode jdk_33_method_47_code 77 = .ok (.isub, 1) := by decide +kernel
theorem d12_78 : decode jdk_33_method_47_code 78 = .ok (.ireturn, 1) := by decide +kernel
theorem pn_12 : plainName "java/lang/Integer" = true := by first | (simp [plainName, overriddenIn]; done) | decide +kernel
theorem ef_12 (m : MethodId) (x0 : Int32) : entryFrame m #[(.int x0)] 2 = mkF m 0 #[iv x0, oU] [] := by first | (simp [entryFrame, mkF, argsToLocals, Value.category]; done) | rfl
def Q12_5 (Z : State) (i0 : Int32) (h0 : Heap) (n0 : Nat) (v : Option Value) (h : Heap) (L : List Loc) : Prop := v = some (.int ((29 : Int32) - ((((i0.toUInt32 >>> ((2 : Int32) &&& 31).toUInt32).toInt32).toUInt32 >>> ((1 : Int32) &&& 31).toUInt32).toInt32))) ∧ Fr n0 L ∧ h = h0
set_option maxRecDepth 65536 in
set_option maxHeartbeats 40000000 in
theorem rm12_5 (l : Launch) (Z : State) (a0 : Array Value) (hw : ∀ d ∈ tables_1, d.before a0 Z = true) (ws : List Jvm.Cond) (i0 : Int32) (h0 : Heap) (n0 : Nat) (Z0 : n0 ≤ h0.size) (hp0 : (0 : Int32) < i0) (hp1 : i0 < (65536 : Int32)) (hp2 : i0 < (256 : Int32)) (hp3 : i0 < (16 : Int32)) (hp4 : ¬ (i0 < (4 : Int32))) :
    MetFree l (⟨"java/lang/Integer", "numberOfLeadingZeros", "(I)I"⟩ : MethodName) (head1 (Jvm.Cond.code (⟨"java/lang/Integer", "numberOfLeadingZeros", "(I)I"⟩ : MethodName) jdk_33_method_47_code 2 (some .int) :: ws) ({ frames := 0, cells := 0, slots := 0, locals := 0 } : Room)) (fun a U => a = #[(.int i0)] ∧ Z.Warmed39 U.vm ∧ U.heap = h0) (fun _ _ _ _ _ => True) (fun _ U o U' => ∃ v L, o = .returned v ∧ Q12_5 Z i0 h0 n0 v U'.heap L ∧ FrameEnd U o U' L ({ frames := 0, cells := 0, slots := 0, locals := 0 } : Room).cells ({ frames := 0, cells := 0, slots := 0, locals := 0 } : Room).slots) := by
  refine MetFree.of_bodySF (plainFor_of_name pn_12) hisR ?_
  intro p e s m args below meth c s₁ Bd hml0 hP hK
  obtain ⟨rfl, hZ, hh⟩ := hP
  have hx := Bd.exec
  have hby := Bd.bytes
  have hml : c.maxLocals = 2 := hml0
  have hown : s.vm.findClass "java/lang/Integer" = some m.cls := findClass_of_methodNamed Bd.named
  have hnm := (name_of_methodNamed Bd.named Bd.method).1
  have X0 : Stand p l e ({ frames := 0, cells := 0, slots := 0, locals := 0 } : Room) s m #[(.int i0)] below meth c s₁ [] 0 0 := Stand.of_body Bd
  have e0 : s₁.heap = h0 := by rw [← hh, Bd.state]; rfl
  have N0 := Fr.nil n0
  change own_Go p e below (own_Post s (Q12_5 Z i0 h0 n0) ({ frames := 0, cells := 0, slots := 0, locals := 0 } : Room).cells ({ frames := 0, cells := 0, slots := 0, locals := 0 } : Room).slots) (s₁.setTop (entryFrame m #[(.int i0)] 2))
  refine own_by (fun t k => castTop (ef_12 m i0) k) ?_
  show own_Go p e below _ (s₁.setTop (mkF m 0 #[iv i0, oU] []))
  refine own_by (B := s₁.setTop (mkF m 78 #[iv ((i0.toUInt32 >>> ((2 : Int32) &&& 31).toUInt32).toInt32), iv (29 : Int32)] [(.int ((29 : Int32) - ((((i0.toUInt32 >>> ((2 : Int32) &&& 31).toUInt32).toInt32).toUInt32 >>> ((1 : Int32) &&& 31).toUInt32).toInt32)))])) (fun t k => ?_) ?_
  · show Steps p.tables e below (s₁.setTop (mkF m 0 #[iv i0, oU] [])) _
    refine XS.iloadN X0.here hx rfl (hb hby d12_0) rfl ?_
    show Steps p.tables e below (s₁.setTop (mkF m 1 #[iv i0, oU] [(.int i0)])) _
    refine XS.ifYes X0.here hx rfl (pc0 := 1) (pc' := 15) rfl (hb hby d12_1) rfl ((if0 _ _).trans (tlt hp0).2.2.1) (by decide) (by decide) ?_
    show Steps p.tables e below (s₁.setTop (mkF m 15 #[iv i0, oU] [])) _
    refine XS.bipush X0.here hx rfl (hb hby d12_15) ?_
    show Steps p.tables e below (s₁.setTop (mkF m 17 #[iv i0, oU] [(.int (31 : Int32))])) _
    refine XS.istoreN X0.here hx rfl (hb hby d12_17) rfl (l' := #[iv i0, iv (31 : Int32)]) rfl ?_
    show Steps p.tables e below (s₁.setTop (mkF m 18 #[iv i0, iv (31 : Int32)] [])) _
    refine XS.iloadN X0.here hx rfl (hb hby d12_18) rfl ?_
    show Steps p.tables e below (s₁.setTop (mkF m 19 #[iv i0, iv (31 : Int32)] [(.int i0)])) _
    refine X0.ldcwInt hx hown (mvT hZ (hw _ (List.mem_of_getElem? (i := 77) rfl))) (g := (mkF m 19 #[iv i0, iv (31 : Int32)] [(.int i0)])) rfl (hb hby d12_19) _ ?_
    show Steps p.tables e below (s₁.setTop (mkF m 22 #[iv i0, iv (31 : Int32)] [(.int (65536 : Int32)), (.int i0)])) _
    refine XS.icmpYes X0.here hx rfl (pc0 := 22) (pc' := 33) rfl (hb hby d12_22) rfl (tlt hp1).1 (by decide) (by decide) ?_
    show Steps p.tables e below (s₁.setTop (mkF m 33 #[iv i0, iv (31 : Int32)] [])) _
    refine XS.iloadN X0.here hx rfl (hb hby d12_33) rfl ?_
    show Steps p.tables e below (s₁.setTop (mkF m 34 #[iv i0, iv (31 : Int32)] [(.int i0)])) _
    refine XS.sipush X0.here hx rfl (hb hby d12_34) ?_
    show Steps p.tables e below (s₁.setTop (mkF m 37 #[iv i0, iv (31 : Int32)] [(.int (256 : Int32)), (.int i0)])) _
    refine XS.icmpYes X0.here hx rfl (pc0 := 37) (pc' := 48) rfl (hb hby d12_37) rfl (tlt hp2).1 (by decide) (by decide) ?_
    show Steps p.tables e below (s₁.setTop (mkF m 48 #[iv i0, iv (31 : Int32)] [])) _
    refine XS.iloadN X0.here hx rfl (hb hby d12_48) rfl ?_
    show Steps p.tables e below (s₁.setTop (mkF m 49 #[iv i0, iv (31 : Int32)] [(.int i0)])) _
    refine XS.bipush X0.here hx rfl (hb hby d12_49) ?_
    show Steps p.tables e below (s₁.setTop (mkF m 51 #[iv i0, iv (31 : Int32)] [(.int (16 : Int32)), (.int i0)])) _
    refine XS.icmpYes X0.here hx rfl (pc0 := 51) (pc' := 61) rfl (hb hby d12_51) rfl (tlt hp3).1 (by decide) (by decide) ?_
    show Steps p.tables e below (s₁.setTop (mkF m 61 #[iv i0, iv (31 : Int32)] [])) _
    refine XS.iloadN X0.here hx rfl (hb hby d12_61) rfl ?_
    show Steps p.tables e below (s₁.setTop (mkF m 62 #[iv i0, iv (31 : Int32)] [(.int i0)])) _
    refine XS.iconst X0.here hx rfl (hb hby d12_62) ?_
    show Steps p.tables e below (s₁.setTop (mkF m 63 #[iv i0, iv (31 : Int32)] [(.int (4 : Int32)), (.int i0)])) _
    refine XS.icmpNo X0.here hx rfl (hb hby d12_63) rfl (flt hp4).1 ?_
    show Steps p.tables e below (s₁.setTop (mkF m 66 #[iv i0, iv (31 : Int32)] [])) _
    refine XS.iinc X0.here hx rfl (hb hby d12_66) rfl (l' := #[iv i0, iv (29 : Int32)]) rfl ?_
    show Steps p.tables e below (s₁.setTop (mkF m 69 #[iv i0, iv (29 : Int32)] [])) _
    refine XS.iloadN X0.here hx rfl (hb hby d12_69) rfl ?_
    show Steps p.tables e below (s₁.setTop (mkF m 70 #[iv i0, iv (29 : Int32)] [(.int i0)])) _
    refine XS.iconst X0.here hx rfl (hb hby d12_70) ?_
    show Steps p.tables e below (s₁.setTop (mkF m 71 #[iv i0, iv (29 : Int32)] [(.int (2 : Int32)), (.int i0)])) _
    refine XS.iushr X0.here hx rfl (hb hby d12_71) rfl ?_
    show Steps p.tables e below (s₁.setTop (mkF m 72 #[iv i0, iv (29 : Int32)] [(.int ((i0.toUInt32 >>> ((2 : Int32) &&& 31).toUInt32).toInt32))])) _
    refine XS.istoreN X0.here hx rfl (hb hby d12_72) rfl (l' := #[iv ((i0.toUInt32 >>> ((2 : Int32) &&& 31).toUInt32).toInt32), iv (29 : Int32)]) rfl ?_
    show Steps p.tables e below (s₁.setTop (mkF m 73 #[iv ((i0.toUInt32 >>> ((2 : Int32) &&& 31).toUInt32).toInt32), iv (29 : Int32)] [])) _
    refine XS.iloadN X0.here hx rfl (hb hby d12_73) rfl ?_
    show Steps p.tables e below (s₁.setTop (mkF m 74 #[iv ((i0.toUInt32 >>> ((2 : Int32) &&& 31).toUInt32).toInt32), iv (29 : Int32)] [(.int (29 : Int32))])) _
    refine XS.iloadN X0.here hx rfl (hb hby d12_74) rfl ?_
    show Steps p.tables e below (s₁.setTop (mkF m 75 #[iv ((i0.toUInt32 >>> ((2 : Int32) &&& 31).toUInt32).toInt32), iv (29 : Int32)] [(.int ((i0.toUInt32 >>> ((2 : Int32) &&& 31).toUInt32).toInt32)), (.int (29 : Int32))])) _
    refine XS.iconst X0.here hx rfl (hb hby d12_75) ?_
    show Steps p.tables e below (s₁.setTop (mkF m 76 #[iv ((i0.toUInt32 >>> ((2 : Int32) &&& 31).toUInt32).toInt32), iv (29 : Int32)] [(.int (1 : Int32)), (.int ((i0.toUInt32 >>> ((2 : Int32) &&& 31).toUInt32).toInt32)), (.int (29 : Int32))])) _
    refine XS.iushr X0.here hx rfl (hb hby d12_76) rfl ?_
    show Steps p.tables e below (s₁.setTop (mkF m 77 #[iv ((i0.toUInt32 >>> ((2 : Int32) &&& 31).toUInt32).toInt32), iv (29 : Int32)] [(.int ((((i0.toUInt32 >>> ((2 : Int32) &&& 31).toUInt32).toInt32).toUInt32 >>> ((1 : Int32) &&& 31).toUInt32).toInt32)), (.int (29 : Int32))])) _
    refine XS.isub X0.here hx rfl (hb hby d12_77) rfl ?_
    show Steps p.tables e below (s₁.setTop (mkF m 78 #[iv ((i0.toUInt32 >>> ((2 : Int32) &&& 31).toUInt32).toInt32), iv (29 : Int32)] [(.int ((29 : Int32) - ((((i0.toUInt32 >>> ((2 : Int32) &&& 31).toUInt32).toInt32).toUInt32 >>> ((1 : Int32) &&& 31).toUInt32).toInt32)))])) _
    exact k
  exact own_retI X0 Bd.notSynchronized hx Bd.returns (hb hby d12_78) (by
      rw [show s₁.heap = h0 from e0]
      exact ⟨rfl, N0, rfl⟩) (by decide) (by decide)

theorem d11_0 : decode jdk_69_method_4_code 0 = .ok (.iconst (-1), 1) := by decide +kernel
theorem d11_1 : decode jdk_69_method_4_code 1 = .ok (.iload_n 0, 1) := by decide +kernel
theorem d11_2 : decode jdk_69_method_4_code 2 = .ok (.iconst 1, 1) := by decide +kernel
theorem d11_3 : decode jdk_69_method_4_code 3 = .ok (.isub, 1) := by decide +kernel
theorem d11_4 : decode jdk_69_method_4_code 4 = .ok (.invokestatic 34, 3) := by decide +kernel
theorem d11_7 : decode jdk_69_method_4_code 7 = .ok (.iushr, 1) := by decide +kernel
theorem d11_8 : decode jdk_69_method_4_code 8 = .ok (.istore_n 1, 1) := by decide +kernel
theorem d11_9 : decode jdk_69_method_4_code 9 = .ok (.iload_n 1, 1) := by decide +kernel
theorem d11_10 : decode jdk_69_method_4_code 10 = .ok (.ifCond .ge 7, 3) := by decide +kernel
theorem d11_17 : decode jdk_69_method_4_code 17 = .ok (.iload_n 1, 1) := by decide +kernel
theorem d11_18 : decode jdk_69_method_4_code 18 = .ok (.ldc 42, 2) := by decide +kernel
theorem d11_20 : decode jdk_69_method_4_code 20 = .ok (.if_icmp .lt 8, 3) := by decide +kernel
theorem d11_28 : decode jdk_69_method_4_code 28 = .ok (.iload_n 1, 1) := by decide +kernel
theorem d11_29 : decode jdk_69_method_4_code 29 = .ok (.iconst 1, 1) := by decide +kernel
theorem d11_30 : decode jdk_69_method_4_code 30 = .ok (.iadd, 1) := by decide +kernel
theorem d11_31 : decode jdk_69_method_4_code 31 = .ok (.ireturn, 1) := by decide +kernel
theorem pn_11 : plainName "java/util/HashMap" = true := by first | (simp [plainName, overriddenIn]; done) | decide +kernel
theorem pd_5 : parseMethodDescriptor "(I)I" = some ⟨[.int], some .int⟩ := by decide +kernel
theorem ef_11 (m : MethodId) (x0 : Int32) : entryFrame m #[(.int x0)] 2 = mkF m 0 #[iv x0, oU] [] := by first | (simp [entryFrame, mkF, argsToLocals, Value.category]; done) | rfl
def Q11_6 (Z : State) (i0 : Int32) (h0 : Heap) (n0 : Nat) (v : Option Value) (h : Heap) (L : List Loc) : Prop := v = some (.int ((((-1 : Int32).toUInt32 >>> (((29 : Int32) - (((((i0 - (1 : Int32)).toUInt32 >>> (2 : Int32).toUInt32).toInt32).toUInt32 >>> (1 : Int32).toUInt32).toInt32)) &&& 31).toUInt32).toInt32) + (1 : Int32))) ∧ Fr n0 L ∧ h = h0
set_option maxRecDepth 65536 in
set_option maxHeartbeats 40000000 in
theorem rm11_6 (l : Launch) (Z : State) (a0 : Array Value) (hw : ∀ d ∈ tables_1, d.before a0 Z = true) (ws : List Jvm.Cond) (i0 : Int32) (h0 : Heap) (n0 : Nat) (Z0 : n0 ≤ h0.size) (hp0 : (0 : Int32) < (i0 - (1 : Int32))) (hp1 : (i0 - (1 : Int32)) < (65536 : Int32)) (hp2 : (i0 - (1 : Int32)) < (256 : Int32)) (hp3 : (i0 - (1 : Int32)) < (16 : Int32)) (hp4 : ¬ ((i0 - (1 : Int32)) < (4 : Int32))) (hp5 : ¬ ((((-1 : Int32).toUInt32 >>> (((29 : Int32) - (((((i0 - (1 : Int32)).toUInt32 >>> (2 : Int32).toUInt32).toInt32).toUInt32 >>> (1 : Int32).toUInt32).toInt32)) &&& 31).toUInt32).toInt32) < (0 : Int32))) (hp6 : (((-1 : Int32).toUInt32 >>> (((29 : Int32) - (((((i0 - (1 : Int32)).toUInt32 >>> (2 : Int32).toUInt32).toInt32).toUInt32 >>> (1 : Int32).toUInt32).toInt32)) &&& 31).toUInt32).toInt32) < (1073741824 : Int32)) :
    MetFree l (⟨"java/util/HashMap", "tableSizeFor", "(I)I"⟩ : MethodName) (head1 (Jvm.Cond.code (⟨"java/util/HashMap", "tableSizeFor", "(I)I"⟩ : MethodName) jdk_69_method_4_code 2 (some .int) :: ws) ({ frames := 1, cells := 0, slots := 0, locals := 14 } : Room)) (fun a U => a = #[(.int i0)] ∧ Z.Warmed39 U.vm ∧ U.heap = h0) (fun _ _ _ _ _ => True) (fun _ U o U' => ∃ v L, o = .returned v ∧ Q11_6 Z i0 h0 n0 v U'.heap L ∧ FrameEnd U o U' L ({ frames := 1, cells := 0, slots := 0, locals := 14 } : Room).cells ({ frames := 1, cells := 0, slots := 0, locals := 14 } : Room).slots) := by
  refine MetFree.of_bodySF (plainFor_of_name pn_11) hisR ?_
  intro p e s m args below meth c s₁ Bd hml0 hP hK
  obtain ⟨rfl, hZ, hh⟩ := hP
  have hx := Bd.exec
  have hby := Bd.bytes
  have hml : c.maxLocals = 2 := hml0
  have hown : s.vm.findClass "java/util/HashMap" = some m.cls := findClass_of_methodNamed Bd.named
  have hnm := (name_of_methodNamed Bd.named Bd.method).1
  have X0 : Stand p l e ({ frames := 1, cells := 0, slots := 0, locals := 14 } : Room) s m #[(.int i0)] below meth c s₁ [] 0 0 := Stand.of_body Bd
  have e0 : s₁.heap = h0 := by rw [← hh, Bd.state]; rfl
  have N0 := Fr.nil n0
  change own_Go p e below (own_Post s (Q11_6 Z i0 h0 n0) ({ frames := 1, cells := 0, slots := 0, locals := 14 } : Room).cells ({ frames := 1, cells := 0, slots := 0, locals := 14 } : Room).slots) (s₁.setTop (entryFrame m #[(.int i0)] 2))
  refine own_by (fun t k => castTop (ef_11 m i0) k) ?_
  show own_Go p e below _ (s₁.setTop (mkF m 0 #[iv i0, oU] []))
  refine own_by (B := s₁.setTop (mkF m 4 #[iv i0, oU] [(.int (i0 - (1 : Int32))), (.int (-1 : Int32))])) (fun t k => ?_) ?_
  · show Steps p.tables e below (s₁.setTop (mkF m 0 #[iv i0, oU] [])) _
    refine XS.iconst X0.here hx rfl (hb hby d11_0) ?_
    show Steps p.tables e below (s₁.setTop (mkF m 1 #[iv i0, oU] [(.int (-1 : Int32))])) _
    refine XS.iloadN X0.here hx rfl (hb hby d11_1) rfl ?_
    show Steps p.tables e below (s₁.setTop (mkF m 2 #[iv i0, oU] [(.int i0), (.int (-1 : Int32))])) _
    refine XS.iconst X0.here hx rfl (hb hby d11_2) ?_
    show Steps p.tables e below (s₁.setTop (mkF m 3 #[iv i0, oU] [(.int (1 : Int32)), (.int i0), (.int (-1 : Int32))])) _
    refine XS.isub X0.here hx rfl (hb hby d11_3) rfl ?_
    show Steps p.tables e below (s₁.setTop (mkF m 4 #[iv i0, oU] [(.int (i0 - (1 : Int32))), (.int (-1 : Int32))])) _
    exact k
  refine own_cc (own_callS X0 hx hZ (y := (⟨"java/lang/Integer", "numberOfLeadingZeros", "(I)I"⟩ : MethodName)) hown (hw _ (List.mem_of_getElem? (i := 73) rfl)) (hw _ (List.mem_of_getElem? (i := 74) rfl)) (hw _ (List.mem_of_getElem? (i := 75) rfl)) (hw _ (List.mem_of_getElem? (i := 76) rfl)) (by decide) (rm12_5 l Z a0 hw [] (i0 - (1 : Int32)) h0 n0 Z0 hp0 hp1 hp2 hp3 hp4) e0 1 (by decide) (by decide) (by decide) (by decide) rfl (by rw [hml]; rfl) [(.int (i0 - (1 : Int32)))] [(.int (-1 : Int32))] rfl (lenOf pd_5 rfl) rfl (by show 2 * 0 + _ ≤ _; exact Nat.le_of_eq rfl) (hb hby d11_4)) fun T2 L2 v2 X2 hQ2 => ?_
  obtain ⟨rfl, N2, e2⟩ := hQ2
  replace N0 := Fr.app N0 N2
  show own_Go p e below _ (T2.setTop (mkF m 7 #[iv i0, oU] [(.int ((29 : Int32) - (((((i0 - (1 : Int32)).toUInt32 >>> (2 : Int32).toUInt32).toInt32).toUInt32 >>> (1 : Int32).toUInt32).toInt32))), (.int (-1 : Int32))]))
  refine own_by (B := T2.setTop (mkF m 31 #[iv i0, iv (((-1 : Int32).toUInt32 >>> (((29 : Int32) - (((((i0 - (1 : Int32)).toUInt32 >>> (2 : Int32).toUInt32).toInt32).toUInt32 >>> (1 : Int32).toUInt32).toInt32)) &&& 31).toUInt32).toInt32)] [(.int ((((-1 : Int32).toUInt32 >>> (((29 : Int32) - (((((i0 - (1 : Int32)).toUInt32 >>> (2 : Int32).toUInt32).toInt32).toUInt32 >>> (1 : Int32).toUInt32).toInt32)) &&& 31).toUInt32).toInt32) + (1 : Int32)))])) (fun t k => ?_) ?_
  · show Steps p.tables e below (T2.setTop (mkF m 7 #[iv i0, oU] [(.int ((29 : Int32) - (((((i0 - (1 : Int32)).toUInt32 >>> (2 : Int32).toUInt32).toInt32).toUInt32 >>> (1 : Int32).toUInt32).toInt32))), (.int (-1 : Int32))])) _
    refine XS.iushr X2.here hx rfl (hb hby d11_7) rfl ?_
    show Steps p.tables e below (T2.setTop (mkF m 8 #[iv i0, oU] [(.int (((-1 : Int32).toUInt32 >>> (((29 : Int32) - (((((i0 - (1 : Int32)).toUInt32 >>> (2 : Int32).toUInt32).toInt32).toUInt32 >>> (1 : Int32).toUInt32).toInt32)) &&& 31).toUInt32).toInt32))])) _
    refine XS.istoreN X2.here hx rfl (hb hby d11_8) rfl (l' := #[iv i0, iv (((-1 : Int32).toUInt32 >>> (((29 : Int32) - (((((i0 - (1 : Int32)).toUInt32 >>> (2 : Int32).toUInt32).toInt32).toUInt32 >>> (1 : Int32).toUInt32).toInt32)) &&& 31).toUInt32).toInt32)]) rfl ?_
    show Steps p.tables e below (T2.setTop (mkF m 9 #[iv i0, iv (((-1 : Int32).toUInt32 >>> (((29 : Int32) - (((((i0 - (1 : Int32)).toUInt32 >>> (2 : Int32).toUInt32).toInt32).toUInt32 >>> (1 : Int32).toUInt32).toInt32)) &&& 31).toUInt32).toInt32)] [])) _
    refine XS.iloadN X2.here hx rfl (hb hby d11_9) rfl ?_
    show Steps p.tables e below (T2.setTop (mkF m 10 #[iv i0, iv (((-1 : Int32).toUInt32 >>> (((29 : Int32) - (((((i0 - (1 : Int32)).toUInt32 >>> (2 : Int32).toUInt32).toInt32).toUInt32 >>> (1 : Int32).toUInt32).toInt32)) &&& 31).toUInt32).toInt32)] [(.int (((-1 : Int32).toUInt32 >>> (((29 : Int32) - (((((i0 - (1 : Int32)).toUInt32 >>> (2 : Int32).toUInt32).toInt32).toUInt32 >>> (1 : Int32).toUInt32).toInt32)) &&& 31).toUInt32).toInt32))])) _
    refine XS.ifYes X2.here hx rfl (pc0 := 10) (pc' := 17) rfl (hb hby d11_10) rfl ((if0 _ _).trans (flt hp5).2.1) (by decide) (by decide) ?_
    show Steps p.tables e below (T2.setTop (mkF m 17 #[iv i0, iv (((-1 : Int32).toUInt32 >>> (((29 : Int32) - (((((i0 - (1 : Int32)).toUInt32 >>> (2 : Int32).toUInt32).toInt32).toUInt32 >>> (1 : Int32).toUInt32).toInt32)) &&& 31).toUInt32).toInt32)] [])) _
    refine XS.iloadN X2.here hx rfl (hb hby d11_17) rfl ?_
    show Steps p.tables e below (T2.setTop (mkF m 18 #[iv i0, iv (((-1 : Int32).toUInt32 >>> (((29 : Int32) - (((((i0 - (1 : Int32)).toUInt32 >>> (2 : Int32).toUInt32).toInt32).toUInt32 >>> (1 : Int32).toUInt32).toInt32)) &&& 31).toUInt32).toInt32)] [(.int (((-1 : Int32).toUInt32 >>> (((29 : Int32) - (((((i0 - (1 : Int32)).toUInt32 >>> (2 : Int32).toUInt32).toInt32).toUInt32 >>> (1 : Int32).toUInt32).toInt32)) &&& 31).toUInt32).toInt32))])) _
    refine X2.ldcInt hx hown (mvT hZ (hw _ (List.mem_of_getElem? (i := 63) rfl))) (g := (mkF m 18 #[iv i0, iv (((-1 : Int32).toUInt32 >>> (((29 : Int32) - (((((i0 - (1 : Int32)).toUInt32 >>> (2 : Int32).toUInt32).toInt32).toUInt32 >>> (1 : Int32).toUInt32).toInt32)) &&& 31).toUInt32).toInt32)] [(.int (((-1 : Int32).toUInt32 >>> (((29 : Int32) - (((((i0 - (1 : Int32)).toUInt32 >>> (2 : Int32).toUInt32).toInt32).toUInt32 >>> (1 : Int32).toUInt32).toInt32)) &&& 31).toUInt32).toInt32))])) rfl (hb hby d11_18) _ ?_
    show Steps p.tables e below (T2.setTop (mkF m 20 #[iv i0, iv (((-1 : Int32).toUInt32 >>> (((29 : Int32) - (((((i0 - (1 : Int32)).toUInt32 >>> (2 : Int32).toUInt32).toInt32).toUInt32 >>> (1 : Int32).toUInt32).toInt32)) &&& 31).toUInt32).toInt32)] [(.int (1073741824 : Int32)), (.int (((-1 : Int32).toUInt32 >>> (((29 : Int32) - (((((i0 - (1 : Int32)).toUInt32 >>> (2 : Int32).toUInt32).toInt32).toUInt32 >>> (1 : Int32).toUInt32).toInt32)) &&& 31).toUInt32).toInt32))])) _
    refine XS.icmpYes X2.here hx rfl (pc0 := 20) (pc' := 28) rfl (hb hby d11_20) rfl (tlt hp6).1 (by decide) (by decide) ?_
    show Steps p.tables e below (T2.setTop (mkF m 28 #[iv i0, iv (((-1 : Int32).toUInt32 >>> (((29 : Int32) - (((((i0 - (1 : Int32)).toUInt32 >>> (2 : Int32).toUInt32).toInt32).toUInt32 >>> (1 : Int32).toUInt32).toInt32)) &&& 31).toUInt32).toInt32)] [])) _
    refine XS.iloadN X2.here hx rfl (hb hby d11_28) rfl ?_
    show Steps p.tables e below (T2.setTop (mkF m 29 #[iv i0, iv (((-1 : Int32).toUInt32 >>> (((29 : Int32) - (((((i0 - (1 : Int32)).toUInt32 >>> (2 : Int32).toUInt32).toInt32).toUInt32 >>> (1 : Int32).toUInt32).toInt32)) &&& 31).toUInt32).toInt32)] [(.int (((-1 : Int32).toUInt32 >>> (((29 : Int32) - (((((i0 - (1 : Int32)).toUInt32 >>> (2 : Int32).toUInt32).toInt32).toUInt32 >>> (1 : Int32).toUInt32).toInt32)) &&& 31).toUInt32).toInt32))])) _
    refine XS.iconst X2.here hx rfl (hb hby d11_29) ?_
    show Steps p.tables e below (T2.setTop (mkF m 30 #[iv i0, iv (((-1 : Int32).toUInt32 >>> (((29 : Int32) - (((((i0 - (1 : Int32)).toUInt32 >>> (2 : Int32).toUInt32).toInt32).toUInt32 >>> (1 : Int32).toUInt32).toInt32)) &&& 31).toUInt32).toInt32)] [(.int (1 : Int32)), (.int (((-1 : Int32).toUInt32 >>> (((29 : Int32) - (((((i0 - (1 : Int32)).toUInt32 >>> (2 : Int32).toUInt32).toInt32).toUInt32 >>> (1 : Int32).toUInt32).toInt32)) &&& 31).toUInt32).toInt32))])) _
    refine XS.iadd X2.here hx rfl (hb hby d11_30) rfl ?_
    show Steps p.tables e below (T2.setTop (mkF m 31 #[iv i0, iv (((-1 : Int32).toUInt32 >>> (((29 : Int32) - (((((i0 - (1 : Int32)).toUInt32 >>> (2 : Int32).toUInt32).toInt32).toUInt32 >>> (1 : Int32).toUInt32).toInt32)) &&& 31).toUInt32).toInt32)] [(.int ((((-1 : Int32).toUInt32 >>> (((29 : Int32) - (((((i0 - (1 : Int32)).toUInt32 >>> (2 : Int32).toUInt32).toInt32).toUInt32 >>> (1 : Int32).toUInt32).toInt32)) &&& 31).toUInt32).toInt32) + (1 : Int32)))])) _
    exact k
  exact own_retI X2 Bd.notSynchronized hx Bd.returns (hb hby d11_31) (by
      rw [show T2.heap = h0 from e2]
      exact ⟨rfl, N0, rfl⟩) (by decide) (by decide)

theorem d8_0 : decode jdk_69_method_5_code 0 = .ok (.aload_n 0, 1) := by decide +kernel
theorem d8_1 : decode jdk_69_method_5_code 1 = .ok (.invokespecial 43, 3) := by decide +kernel
theorem d8_4 : decode jdk_69_method_5_code 4 = .ok (.iload_n 1, 1) := by decide +kernel
theorem d8_5 : decode jdk_69_method_5_code 5 = .ok (.ifCond .ge 30, 3) := by decide +kernel
theorem d8_35 : decode jdk_69_method_5_code 35 = .ok (.iload_n 1, 1) := by decide +kernel
theorem d8_36 : decode jdk_69_method_5_code 36 = .ok (.ldc 42, 2) := by decide +kernel
theorem d8_38 : decode jdk_69_method_5_code 38 = .ok (.if_icmp .le 6, 3) := by decide +kernel
theorem d8_44 : decode jdk_69_method_5_code 44 = .ok (.fload_n 2, 1) := by decide +kernel
theorem d8_45 : decode jdk_69_method_5_code 45 = .ok (.fconst 0, 1) := by decide +kernel
theorem d8_46 : decode jdk_69_method_5_code 46 = .ok (.fcmp .g, 1) := by decide +kernel
theorem d8_47 : decode jdk_69_method_5_code 47 = .ok (.ifCond .le 10, 3) := by decide +kernel
theorem d8_50 : decode jdk_69_method_5_code 50 = .ok (.fload_n 2, 1) := by decide +kernel
theorem d8_51 : decode jdk_69_method_5_code 51 = .ok (.invokestatic 70, 3) := by decide +kernel
theorem d8_54 : decode jdk_69_method_5_code 54 = .ok (.ifCond .eq 30, 3) := by decide +kernel
theorem d8_84 : decode jdk_69_method_5_code 84 = .ok (.aload_n 0, 1) := by decide +kernel
theorem d8_85 : decode jdk_69_method_5_code 85 = .ok (.fload_n 2, 1) := by decide +kernel
theorem d8_86 : decode jdk_69_method_5_code 86 = .ok (.putfield 81, 3) := by decide +kernel
theorem d8_89 : decode jdk_69_method_5_code 89 = .ok (.aload_n 0, 1) := by decide +kernel
theorem d8_90 : decode jdk_69_method_5_code 90 = .ok (.iload_n 1, 1) := by decide +kernel
theorem d8_91 : decode jdk_69_method_5_code 91 = .ok (.invokestatic 85, 3) := by decide +kernel
theorem d8_94 : decode jdk_69_method_5_code 94 = .ok (.putfield 88, 3) := by decide +kernel
theorem d8_97 : decode jdk_69_method_5_code 97 = .ok (.return_, 1) := by decide +kernel
theorem pn_8 : plainName "java/util/HashMap" = true := by first | (simp [plainName, overriddenIn]; done) | decide +kernel
theorem pd_4 : parseMethodDescriptor "(F)Z" = some ⟨[.float], some .boolean⟩ := by decide +kernel
theorem ef_8 (m : MethodId) (x0 : Addr) (x1 : Int32) (x2 : UInt32) : entryFrame m #[(.ref x0), (.int x1), (.float x2)] 3 = mkF m 0 #[rv x0, iv x1, .val (.float x2)] [] := by first | (simp [entryFrame, mkF, argsToLocals, Value.category]; done) | rfl
def Q8_7 (Z : State) (o0 : Addr) (i0 : Int32) (i1 : Int32) (i2 : Int32) (i3 : Int32) (h0 : Heap) (n0 : Nat) (v : Option Value) (h : Heap) (L : List Loc) : Prop := v = none ∧ Fr n0 L ∧ Keep h0 h [o0] ∧ Exa Z h o0 "java/util/LinkedHashMap" ∧ Fld Z h o0 "java/util/HashMap" "loadFactor" "F" (.float (1061158912 : UInt32)) ∧ Fld Z h o0 "java/util/HashMap" "threshold" "I" (.int ((((-1 : Int32).toUInt32 >>> (((29 : Int32) - (((((i0 - (1 : Int32)).toUInt32 >>> (2 : Int32).toUInt32).toInt32).toUInt32 >>> (1 : Int32).toUInt32).toInt32)) &&& 31).toUInt32).toInt32) + (1 : Int32))) ∧ Fld Z h o0 "java/util/LinkedHashMap" "putMode" "I" (.int i2) ∧ Fld Z h o0 "java/util/LinkedHashMap" "accessOrder" "Z" (.int i3)
set_option maxRecDepth 65536 in
set_option maxHeartbeats 40000000 in
theorem rm8_7 (l : Launch) (Z : State) (a0 : Array Value) (hw : ∀ d ∈ tables_1, d.before a0 Z = true) (ws : List Jvm.Cond) (o0 : Addr) (i0 : Int32) (i1 : Int32) (i2 : Int32) (i3 : Int32) (h0 : Heap) (n0 : Nat) (Z0 : n0 ≤ h0.size) (g_o0 : n0 ≤ o0) (E_o0 : Exa Z h0 o0 "java/util/LinkedHashMap") (F_loadFactor_o0 : Fld Z h0 o0 "java/util/HashMap" "loadFactor" "F" (.float (0 : UInt32))) (F_threshold_o0 : Fld Z h0 o0 "java/util/HashMap" "threshold" "I" (.int i1)) (F_putMode_o0 : Fld Z h0 o0 "java/util/LinkedHashMap" "putMode" "I" (.int i2)) (F_accessOrder_o0 : Fld Z h0 o0 "java/util/LinkedHashMap" "accessOrder" "Z" (.int i3)) (hp0 : ¬ (i0 < (0 : Int32))) (hp1 : ¬ ((1073741824 : Int32) < i0)) (hp2 : (0 : Int32) < (i0 - (1 : Int32))) (hp3 : (i0 - (1 : Int32)) < (65536 : Int32)) (hp4 : (i0 - (1 : Int32)) < (256 : Int32)) (hp5 : (i0 - (1 : Int32)) < (16 : Int32)) (hp6 : ¬ ((i0 - (1 : Int32)) < (4 : Int32))) (hp7 : ¬ ((((-1 : Int32).toUInt32 >>> (((29 : Int32) - (((((i0 - (1 : Int32)).toUInt32 >>> (2 : Int32).toUInt32).toInt32).toUInt32 >>> (1 : Int32).toUInt32).toInt32)) &&& 31).toUInt32).toInt32) < (0 : Int32))) (hp8 : (((-1 : Int32).toUInt32 >>> (((29 : Int32) - (((((i0 - (1 : Int32)).toUInt32 >>> (2 : Int32).toUInt32).toInt32).toUInt32 >>> (1 : Int32).toUInt32).toInt32)) &&& 31).toUInt32).toInt32) < (1073741824 : Int32)) :
    MetFree l (⟨"java/util/HashMap", "<init>", "(IF)V"⟩ : MethodName) (head1 (Jvm.Cond.code (⟨"java/util/HashMap", "<init>", "(IF)V"⟩ : MethodName) jdk_69_method_5_code 3 none :: ws) ({ frames := 2, cells := 0, slots := 0, locals := 28 } : Room)) (fun a U => a = #[(.ref o0), (.int i0), (.float (1061158912 : UInt32))] ∧ Z.Warmed39 U.vm ∧ U.heap = h0) (fun _ _ _ _ _ => True) (fun _ U o U' => ∃ v L, o = .returned v ∧ Q8_7 Z o0 i0 i1 i2 i3 h0 n0 v U'.heap L ∧ FrameEnd U o U' L ({ frames := 2, cells := 0, slots := 0, locals := 28 } : Room).cells ({ frames := 2, cells := 0, slots := 0, locals := 28 } : Room).slots) := by
  refine MetFree.of_bodySF (plainFor_of_name pn_8) hisR ?_
  intro p e s m args below meth c s₁ Bd hml0 hP hK
  obtain ⟨rfl, hZ, hh⟩ := hP
  have hx := Bd.exec
  have hby := Bd.bytes
  have hml : c.maxLocals = 3 := hml0
  have hown : s.vm.findClass "java/util/HashMap" = some m.cls := findClass_of_methodNamed Bd.named
  have hnm := (name_of_methodNamed Bd.named Bd.method).1
  have X0 : Stand p l e ({ frames := 2, cells := 0, slots := 0, locals := 28 } : Room) s m #[(.ref o0), (.int i0), (.float (1061158912 : UInt32))] below meth c s₁ [] 0 0 := Stand.of_body Bd
  have e0 : s₁.heap = h0 := by rw [← hh, Bd.state]; rfl
  have N0 := Fr.nil n0
  have K0 : Keep h0 h0 [o0] := Keep.refl h0 _
  change own_Go p e below (own_Post s (Q8_7 Z o0 i0 i1 i2 i3 h0 n0) ({ frames := 2, cells := 0, slots := 0, locals := 28 } : Room).cells ({ frames := 2, cells := 0, slots := 0, locals := 28 } : Room).slots) (s₁.setTop (entryFrame m #[(.ref o0), (.int i0), (.float (1061158912 : UInt32))] 3))
  refine own_by (fun t k => castTop (ef_8 m o0 i0 (1061158912 : UInt32)) k) ?_
  show own_Go p e below _ (s₁.setTop (mkF m 0 #[rv o0, iv i0, .val (.float (1061158912 : UInt32))] []))
  refine own_by (B := s₁.setTop (mkF m 1 #[rv o0, iv i0, .val (.float (1061158912 : UInt32))] [(.ref o0)])) (fun t k => ?_) ?_
  · show Steps p.tables e below (s₁.setTop (mkF m 0 #[rv o0, iv i0, .val (.float (1061158912 : UInt32))] [])) _
    refine XS.aloadN X0.here hx rfl (hb hby d8_0) rfl rfl ?_
    show Steps p.tables e below (s₁.setTop (mkF m 1 #[rv o0, iv i0, .val (.float (1061158912 : UInt32))] [(.ref o0)])) _
    exact k
  refine own_cc (own_callI X0 hx hZ (y := (⟨"java/util/AbstractMap", "<init>", "()V"⟩ : MethodName)) rfl hown (hw _ (List.mem_of_getElem? (i := 56) rfl)) (hw _ (List.mem_of_getElem? (i := 57) rfl)) (hw _ (List.mem_of_getElem? (i := 60) rfl)) (hw _ (List.mem_of_getElem? (i := 61) rfl)) (by decide) (rm9_3 l Z a0 hw [] o0 h0 n0 Z0 ) e0 0 (by decide) (by decide) (by decide) (by decide) rfl (by rw [hml]; rfl) o0 [] [] rfl (lenOf pd_1 rfl) rfl (by show 2 * 0 + _ ≤ _; exact Nat.le_of_eq rfl) (hb hby d8_1)) fun T2 L2 v2 X2 hQ2 => ?_
  obtain ⟨rfl, N2, e2⟩ := hQ2
  replace N0 := Fr.app N0 N2
  show own_Go p e below _ (T2.setTop (mkF m 4 #[rv o0, iv i0, .val (.float (1061158912 : UInt32))] []))
  refine own_by (B := T2.setTop (mkF m 51 #[rv o0, iv i0, .val (.float (1061158912 : UInt32))] [(.float (1061158912 : UInt32))])) (fun t k => ?_) ?_
  · show Steps p.tables e below (T2.setTop (mkF m 4 #[rv o0, iv i0, .val (.float (1061158912 : UInt32))] [])) _
    refine XS.iloadN X2.here hx rfl (hb hby d8_4) rfl ?_
    show Steps p.tables e below (T2.setTop (mkF m 5 #[rv o0, iv i0, .val (.float (1061158912 : UInt32))] [(.int i0)])) _
    refine XS.ifYes X2.here hx rfl (pc0 := 5) (pc' := 35) rfl (hb hby d8_5) rfl ((if0 _ _).trans (flt hp0).2.1) (by decide) (by decide) ?_
    show Steps p.tables e below (T2.setTop (mkF m 35 #[rv o0, iv i0, .val (.float (1061158912 : UInt32))] [])) _
    refine XS.iloadN X2.here hx rfl (hb hby d8_35) rfl ?_
    show Steps p.tables e below (T2.setTop (mkF m 36 #[rv o0, iv i0, .val (.float (1061158912 : UInt32))] [(.int i0)])) _
    refine X2.ldcInt hx hown (mvT hZ (hw _ (List.mem_of_getElem? (i := 63) rfl))) (g := (mkF m 36 #[rv o0, iv i0, .val (.float (1061158912 : UInt32))] [(.int i0)])) rfl (hb hby d8_36) _ ?_
    show Steps p.tables e below (T2.setTop (mkF m 38 #[rv o0, iv i0, .val (.float (1061158912 : UInt32))] [(.int (1073741824 : Int32)), (.int i0)])) _
    refine XS.icmpYes X2.here hx rfl (pc0 := 38) (pc' := 44) rfl (hb hby d8_38) rfl (flt hp1).2.2.2 (by decide) (by decide) ?_
    show Steps p.tables e below (T2.setTop (mkF m 44 #[rv o0, iv i0, .val (.float (1061158912 : UInt32))] [])) _
    refine own_floadN X2.here hx rfl (hb hby d8_44) rfl ?_
    show Steps p.tables e below (T2.setTop (mkF m 45 #[rv o0, iv i0, .val (.float (1061158912 : UInt32))] [(.float (1061158912 : UInt32))])) _
    refine own_fconst0 X2.here hx rfl (hb hby d8_45) ?_
    show Steps p.tables e below (T2.setTop (mkF m 46 #[rv o0, iv i0, .val (.float (1061158912 : UInt32))] [(.float (0 : UInt32)), (.float (1061158912 : UInt32))])) _
    refine own_fcmp X2.here hx rfl (hb hby d8_46) rfl (r := (1 : Int32)) (by decide +kernel) ?_
    show Steps p.tables e below (T2.setTop (mkF m 47 #[rv o0, iv i0, .val (.float (1061158912 : UInt32))] [(.int (1 : Int32))])) _
    refine XS.ifNo X2.here hx rfl (hb hby d8_47) rfl ((if0 _ _).trans (tlt (by decide : (0 : Int32) < (1 : Int32))).2.2.2) ?_
    show Steps p.tables e below (T2.setTop (mkF m 50 #[rv o0, iv i0, .val (.float (1061158912 : UInt32))] [])) _
    refine own_floadN X2.here hx rfl (hb hby d8_50) rfl ?_
    show Steps p.tables e below (T2.setTop (mkF m 51 #[rv o0, iv i0, .val (.float (1061158912 : UInt32))] [(.float (1061158912 : UInt32))])) _
    exact k
  refine own_cc (own_callS X2 hx hZ (y := (⟨"java/lang/Float", "isNaN", "(F)Z"⟩ : MethodName)) hown (hw _ (List.mem_of_getElem? (i := 64) rfl)) (hw _ (List.mem_of_getElem? (i := 65) rfl)) (hw _ (List.mem_of_getElem? (i := 66) rfl)) (hw _ (List.mem_of_getElem? (i := 67) rfl)) (by decide) (rm10_4 l Z a0 hw []  h0 n0 Z0 ) e2 0 (by decide) (by decide) (by decide) (by decide) rfl (by rw [hml]; rfl) [(.float (1061158912 : UInt32))] [] rfl (lenOf pd_4 rfl) rfl (by show 2 * 0 + _ ≤ _; exact Nat.le_of_eq rfl) (hb hby d8_51)) fun T4 L4 v4 X4 hQ4 => ?_
  obtain ⟨rfl, N4, e4⟩ := hQ4
  replace N0 := Fr.app N0 N4
  show own_Go p e below _ (T4.setTop (mkF m 54 #[rv o0, iv i0, .val (.float (1061158912 : UInt32))] [(.int (0 : Int32))]))
  refine own_by (B := T4.setTop (mkF m 86 #[rv o0, iv i0, .val (.float (1061158912 : UInt32))] [(.float (1061158912 : UInt32)), (.ref o0)])) (fun t k => ?_) ?_
  · show Steps p.tables e below (T4.setTop (mkF m 54 #[rv o0, iv i0, .val (.float (1061158912 : UInt32))] [(.int (0 : Int32))])) _
    refine XS.ifYes X4.here hx rfl (pc0 := 54) (pc' := 84) rfl (hb hby d8_54) rfl ((if0 _ _).trans (teq (by decide : (0 : Int32) = (0 : Int32))).1) (by decide) (by decide) ?_
    show Steps p.tables e below (T4.setTop (mkF m 84 #[rv o0, iv i0, .val (.float (1061158912 : UInt32))] [])) _
    refine XS.aloadN X4.here hx rfl (hb hby d8_84) rfl rfl ?_
    show Steps p.tables e below (T4.setTop (mkF m 85 #[rv o0, iv i0, .val (.float (1061158912 : UInt32))] [(.ref o0)])) _
    refine own_floadN X4.here hx rfl (hb hby d8_85) rfl ?_
    show Steps p.tables e below (T4.setTop (mkF m 86 #[rv o0, iv i0, .val (.float (1061158912 : UInt32))] [(.float (1061158912 : UInt32)), (.ref o0)])) _
    exact k
  refine own_c2 (putF X4 hx hZ hown (host := "") (Or.inl (hw _ (List.mem_of_getElem? (i := 68) rfl))) Via.refl e4 F_loadFactor_o0 E_o0 (Or.inr ⟨(hw _ (List.mem_of_getElem? (i := 69) rfl)), rfl, hnm⟩) (hw _ (List.mem_of_getElem? (i := 44) rfl)) (ty := .float) (by decide) rfl rfl rfl rfl (hb hby d8_86)) fun T5 h5 X5 e5 W5 => ?_
  replace F_loadFactor_o0 := F_loadFactor_o0.same W5
  replace E_o0 := E_o0.wr W5
  replace F_threshold_o0 := F_threshold_o0.other W5 (Or.inr (sn0 hw))
  replace F_putMode_o0 := F_putMode_o0.other W5 (Or.inr (sn1 hw))
  replace F_accessOrder_o0 := F_accessOrder_o0.other W5 (Or.inr (sn2 hw))
  replace K0 := K0.wr W5 (Or.inl (List.mem_of_getElem? (i := 0) rfl))
  replace Z0 := Nat.le_trans Z0 (Keep.of_wr W5).1
  replace N0 := Fr.snoc X5 N0 g_o0
  show own_Go p e below _ (T5.setTop (mkF m 89 #[rv o0, iv i0, .val (.float (1061158912 : UInt32))] []))
  refine own_by (B := T5.setTop (mkF m 91 #[rv o0, iv i0, .val (.float (1061158912 : UInt32))] [(.int i0), (.ref o0)])) (fun t k => ?_) ?_
  · show Steps p.tables e below (T5.setTop (mkF m 89 #[rv o0, iv i0, .val (.float (1061158912 : UInt32))] [])) _
    refine XS.aloadN X5.here hx rfl (hb hby d8_89) rfl rfl ?_
    show Steps p.tables e below (T5.setTop (mkF m 90 #[rv o0, iv i0, .val (.float (1061158912 : UInt32))] [(.ref o0)])) _
    refine XS.iloadN X5.here hx rfl (hb hby d8_90) rfl ?_
    show Steps p.tables e below (T5.setTop (mkF m 91 #[rv o0, iv i0, .val (.float (1061158912 : UInt32))] [(.int i0), (.ref o0)])) _
    exact k
  refine own_cc (own_callS X5 hx hZ (y := (⟨"java/util/HashMap", "tableSizeFor", "(I)I"⟩ : MethodName)) hown (hw _ (List.mem_of_getElem? (i := 70) rfl)) (hw _ (List.mem_of_getElem? (i := 71) rfl)) (hw _ (List.mem_of_getElem? (i := 54) rfl)) (hw _ (List.mem_of_getElem? (i := 72) rfl)) (by decide) (rm11_6 l Z a0 hw [] i0 h5 n0 Z0 hp2 hp3 hp4 hp5 hp6 hp7 hp8) e5 1 (by decide) (by decide) (by decide) (by decide) rfl (by rw [hml]; rfl) [(.int i0)] [(.ref o0)] rfl (lenOf pd_5 rfl) rfl (by show 2 * 0 + _ ≤ _; exact Nat.le_of_eq rfl) (hb hby d8_91)) fun T7 L7 v7 X7 hQ7 => ?_
  obtain ⟨rfl, N7, e7⟩ := hQ7
  replace N0 := Fr.app N0 N7
  show own_Go p e below _ (T7.setTop (mkF m 94 #[rv o0, iv i0, .val (.float (1061158912 : UInt32))] [(.int ((((-1 : Int32).toUInt32 >>> (((29 : Int32) - (((((i0 - (1 : Int32)).toUInt32 >>> (2 : Int32).toUInt32).toInt32).toUInt32 >>> (1 : Int32).toUInt32).toInt32)) &&& 31).toUInt32).toInt32) + (1 : Int32))), (.ref o0)]))
  refine own_c2 (putF X7 hx hZ hown (host := "") (Or.inl (hw _ (List.mem_of_getElem? (i := 78) rfl))) Via.refl e7 F_threshold_o0 E_o0 (Or.inl (hw _ (List.mem_of_getElem? (i := 79) rfl))) (hw _ (List.mem_of_getElem? (i := 44) rfl)) (ty := .int) (by decide) rfl rfl rfl rfl (hb hby d8_94)) fun T8 h8 X8 e8 W8 => ?_
  replace F_threshold_o0 := F_threshold_o0.same W8
  replace E_o0 := E_o0.wr W8
  replace F_loadFactor_o0 := F_loadFactor_o0.other W8 (Or.inr (sn3 hw))
  replace F_putMode_o0 := F_putMode_o0.other W8 (Or.inr (sn4 hw))
  replace F_accessOrder_o0 := F_accessOrder_o0.other W8 (Or.inr (sn5 hw))
  replace K0 := K0.wr W8 (Or.inl (List.mem_of_getElem? (i := 0) rfl))
  replace Z0 := Nat.le_trans Z0 (Keep.of_wr W8).1
  replace N0 := Fr.snoc X8 N0 g_o0
  show own_Go p e below _ (T8.setTop (mkF m 97 #[rv o0, iv i0, .val (.float (1061158912 : UInt32))] []))
  exact own_retV X8 Bd.notSynchronized hx Bd.returns (hb hby d8_97) (by
      rw [show T8.heap = h8 from e8]
      exact ⟨rfl, N0, K0, E_o0, F_loadFactor_o0, F_threshold_o0, F_putMode_o0, F_accessOrder_o0⟩) (by decide) (by decide)

theorem d7_0 : decode jdk_94_method_14_code 0 = .ok (.aload_n 0, 1) := by decide +kernel
theorem d7_1 : decode jdk_94_method_14_code 1 = .ok (.iload_n 1, 1) := by decide +kernel
theorem d7_2 : decode jdk_94_method_14_code 2 = .ok (.fload_n 2, 1) := by decide +kernel
theorem d7_3 : decode jdk_94_method_14_code 3 = .ok (.invokespecial 81, 3) := by decide +kernel
theorem d7_6 : decode jdk_94_method_14_code 6 = .ok (.aload_n 0, 1) := by decide +kernel
theorem d7_7 : decode jdk_94_method_14_code 7 = .ok (.iconst 0, 1) := by decide +kernel
theorem d7_8 : decode jdk_94_method_14_code 8 = .ok (.putfield 1, 3) := by decide +kernel
theorem d7_11 : decode jdk_94_method_14_code 11 = .ok (.aload_n 0, 1) := by decide +kernel
theorem d7_12 : decode jdk_94_method_14_code 12 = .ok (.iconst 0, 1) := by decide +kernel
theorem d7_13 : decode jdk_94_method_14_code 13 = .ok (.putfield 64, 3) := by decide +kernel
theorem d7_16 : decode jdk_94_method_14_code 16 = .ok (.return_, 1) := by decide +kernel
theorem pn_7 : plainName "java/util/LinkedHashMap" = true := by first | (simp [plainName, overriddenIn]; done) | decide +kernel
theorem pd_3 : parseMethodDescriptor "(IF)V" = some ⟨[.int, .float], none⟩ := by decide +kernel
theorem ef_7 (m : MethodId) (x0 : Addr) (x1 : Int32) (x2 : UInt32) : entryFrame m #[(.ref x0), (.int x1), (.float x2)] 3 = mkF m 0 #[rv x0, iv x1, .val (.float x2)] [] := by first | (simp [entryFrame, mkF, argsToLocals, Value.category]; done) | rfl
def Q7_8 (Z : State) (o0 : Addr) (i0 : Int32) (i1 : Int32) (i2 : Int32) (i3 : Int32) (h0 : Heap) (n0 : Nat) (v : Option Value) (h : Heap) (L : List Loc) : Prop := v = none ∧ Fr n0 L ∧ Keep h0 h [o0] ∧ Exa Z h o0 "java/util/LinkedHashMap" ∧ Fld Z h o0 "java/util/HashMap" "loadFactor" "F" (.float (1061158912 : UInt32)) ∧ Fld Z h o0 "java/util/HashMap" "threshold" "I" (.int ((((-1 : Int32).toUInt32 >>> (((29 : Int32) - (((((i0 - (1 : Int32)).toUInt32 >>> (2 : Int32).toUInt32).toInt32).toUInt32 >>> (1 : Int32).toUInt32).toInt32)) &&& 31).toUInt32).toInt32) + (1 : Int32))) ∧ Fld Z h o0 "java/util/LinkedHashMap" "putMode" "I" (.int (0 : Int32)) ∧ Fld Z h o0 "java/util/LinkedHashMap" "accessOrder" "Z" (.int (0 : Int32))
set_option maxRecDepth 65536 in
set_option maxHeartbeats 40000000 in
theorem rm7_8 (l : Launch) (Z : State) (a0 : Array Value) (hw : ∀ d ∈ tables_1, d.before a0 Z = true) (ws : List Jvm.Cond) (o0 : Addr) (i0 : Int32) (i1 : Int32) (i2 : Int32) (i3 : Int32) (h0 : Heap) (n0 : Nat) (Z0 : n0 ≤ h0.size) (g_o0 : n0 ≤ o0) (E_o0 : Exa Z h0 o0 "java/util/LinkedHashMap") (F_loadFactor_o0 : Fld Z h0 o0 "java/util/HashMap" "loadFactor" "F" (.float (0 : UInt32))) (F_threshold_o0 : Fld Z h0 o0 "java/util/HashMap" "threshold" "I" (.int i1)) (F_putMode_o0 : Fld Z h0 o0 "java/util/LinkedHashMap" "putMode" "I" (.int i2)) (F_accessOrder_o0 : Fld Z h0 o0 "java/util/LinkedHashMap" "accessOrder" "Z" (.int i3)) (hp0 : ¬ (i0 < (0 : Int32))) (hp1 : ¬ ((1073741824 : Int32) < i0)) (hp2 : (0 : Int32) < (i0 - (1 : Int32))) (hp3 : (i0 - (1 : Int32)) < (65536 : Int32)) (hp4 : (i0 - (1 : Int32)) < (256 : Int32)) (hp5 : (i0 - (1 : Int32)) < (16 : Int32)) (hp6 : ¬ ((i0 - (1 : Int32)) < (4 : Int32))) (hp7 : ¬ ((((-1 : Int32).toUInt32 >>> (((29 : Int32) - (((((i0 - (1 : Int32)).toUInt32 >>> (2 : Int32).toUInt32).toInt32).toUInt32 >>> (1 : Int32).toUInt32).toInt32)) &&& 31).toUInt32).toInt32) < (0 : Int32))) (hp8 : (((-1 : Int32).toUInt32 >>> (((29 : Int32) - (((((i0 - (1 : Int32)).toUInt32 >>> (2 : Int32).toUInt32).toInt32).toUInt32 >>> (1 : Int32).toUInt32).toInt32)) &&& 31).toUInt32).toInt32) < (1073741824 : Int32)) :
    MetFree l (⟨"java/util/LinkedHashMap", "<init>", "(IF)V"⟩ : MethodName) (head1 (Jvm.Cond.code (⟨"java/util/LinkedHashMap", "<init>", "(IF)V"⟩ : MethodName) jdk_94_method_14_code 3 none :: ws) ({ frames := 3, cells := 0, slots := 0, locals := 42 } : Room)) (fun a U => a = #[(.ref o0), (.int i0), (.float (1061158912 : UInt32))] ∧ Z.Warmed39 U.vm ∧ U.heap = h0) (fun _ _ _ _ _ => True) (fun _ U o U' => ∃ v L, o = .returned v ∧ Q7_8 Z o0 i0 i1 i2 i3 h0 n0 v U'.heap L ∧ FrameEnd U o U' L ({ frames := 3, cells := 0, slots := 0, locals := 42 } : Room).cells ({ frames := 3, cells := 0, slots := 0, locals := 42 } : Room).slots) := by
  refine MetFree.of_bodySF (plainFor_of_name pn_7) hisR ?_
  intro p e s m args below meth c s₁ Bd hml0 hP hK
  obtain ⟨rfl, hZ, hh⟩ := hP
  have hx := Bd.exec
  have hby := Bd.bytes
  have hml : c.maxLocals = 3 := hml0
  have hown : s.vm.findClass "java/util/LinkedHashMap" = some m.cls := findClass_of_methodNamed Bd.named
  have hnm := (name_of_methodNamed Bd.named Bd.method).1
  have X0 : Stand p l e ({ frames := 3, cells := 0, slots := 0, locals := 42 } : Room) s m #[(.ref o0), (.int i0), (.float (1061158912 : UInt32))] below meth c s₁ [] 0 0 := Stand.of_body Bd
  have e0 : s₁.heap = h0 := by rw [← hh, Bd.state]; rfl
  have N0 := Fr.nil n0
  have K0 : Keep h0 h0 [o0] := Keep.refl h0 _
  change own_Go p e below (own_Post s (Q7_8 Z o0 i0 i1 i2 i3 h0 n0) ({ frames := 3, cells := 0, slots := 0, locals := 42 } : Room).cells ({ frames := 3, cells := 0, slots := 0, locals := 42 } : Room).slots) (s₁.setTop (entryFrame m #[(.ref o0), (.int i0), (.float (1061158912 : UInt32))] 3))
  refine own_by (fun t k => castTop (ef_7 m o0 i0 (1061158912 : UInt32)) k) ?_
  show own_Go p e below _ (s₁.setTop (mkF m 0 #[rv o0, iv i0, .val (.float (1061158912 : UInt32))] []))
  refine own_by (B := s₁.setTop (mkF m 3 #[rv o0, iv i0, .val (.float (1061158912 : UInt32))] [(.float (1061158912 : UInt32)), (.int i0), (.ref o0)])) (fun t k => ?_) ?_
  · show Steps p.tables e below (s₁.setTop (mkF m 0 #[rv o0, iv i0, .val (.float (1061158912 : UInt32))] [])) _
    refine XS.aloadN X0.here hx rfl (hb hby d7_0) rfl rfl ?_
    show Steps p.tables e below (s₁.setTop (mkF m 1 #[rv o0, iv i0, .val (.float (1061158912 : UInt32))] [(.ref o0)])) _
    refine XS.iloadN X0.here hx rfl (hb hby d7_1) rfl ?_
    show Steps p.tables e below (s₁.setTop (mkF m 2 #[rv o0, iv i0, .val (.float (1061158912 : UInt32))] [(.int i0), (.ref o0)])) _
    refine own_floadN X0.here hx rfl (hb hby d7_2) rfl ?_
    show Steps p.tables e below (s₁.setTop (mkF m 3 #[rv o0, iv i0, .val (.float (1061158912 : UInt32))] [(.float (1061158912 : UInt32)), (.int i0), (.ref o0)])) _
    exact k
  refine own_cc (own_callI X0 hx hZ (y := (⟨"java/util/HashMap", "<init>", "(IF)V"⟩ : MethodName)) rfl hown (hw _ (List.mem_of_getElem? (i := 50) rfl)) (hw _ (List.mem_of_getElem? (i := 51) rfl)) (hw _ (List.mem_of_getElem? (i := 54) rfl)) (hw _ (List.mem_of_getElem? (i := 55) rfl)) (by decide) (rm8_7 l Z a0 hw [] o0 i0 i1 i2 i3 h0 n0 Z0 g_o0 E_o0 F_loadFactor_o0 F_threshold_o0 F_putMode_o0 F_accessOrder_o0 hp0 hp1 hp2 hp3 hp4 hp5 hp6 hp7 hp8) e0 0 (by decide) (by decide) (by decide) (by decide) rfl (by rw [hml]; rfl) o0 [(.int i0), (.float (1061158912 : UInt32))] [] rfl (lenOf pd_3 rfl) rfl (by show 2 * 0 + _ ≤ _; exact Nat.le_of_eq rfl) (hb hby d7_3)) fun T2 L2 v2 X2 hQ2 => ?_
  obtain ⟨rfl, N2, K2, E_o0', F_loadFactor_o0', F_threshold_o0', F_putMode_o0', F_accessOrder_o0'⟩ := hQ2
  replace N0 := Fr.app N0 N2
  replace E_o0 := E_o0.keep K2
  replace K0 := K0.trans K2 (allS (Or.inl (List.mem_of_getElem? (i := 0) rfl)) all0)
  replace Z0 := Nat.le_trans Z0 K2.1
  replace E_o0 := E_o0'
  have F_loadFactor_o0 := F_loadFactor_o0'
  have F_threshold_o0 := F_threshold_o0'
  have F_putMode_o0 := F_putMode_o0'
  have F_accessOrder_o0 := F_accessOrder_o0'
  show own_Go p e below _ (T2.setTop (mkF m 6 #[rv o0, iv i0, .val (.float (1061158912 : UInt32))] []))
  refine own_by (B := T2.setTop (mkF m 8 #[rv o0, iv i0, .val (.float (1061158912 : UInt32))] [(.int (0 : Int32)), (.ref o0)])) (fun t k => ?_) ?_
  · show Steps p.tables e below (T2.setTop (mkF m 6 #[rv o0, iv i0, .val (.float (1061158912 : UInt32))] [])) _
    refine XS.aloadN X2.here hx rfl (hb hby d7_6) rfl rfl ?_
    show Steps p.tables e below (T2.setTop (mkF m 7 #[rv o0, iv i0, .val (.float (1061158912 : UInt32))] [(.ref o0)])) _
    refine XS.iconst X2.here hx rfl (hb hby d7_7) ?_
    show Steps p.tables e below (T2.setTop (mkF m 8 #[rv o0, iv i0, .val (.float (1061158912 : UInt32))] [(.int (0 : Int32)), (.ref o0)])) _
    exact k
  refine own_c2 (putF X2 hx hZ hown (host := "") (Or.inl (hw _ (List.mem_of_getElem? (i := 80) rfl))) Via.refl rfl F_putMode_o0 E_o0 (Or.inl (hw _ (List.mem_of_getElem? (i := 81) rfl))) (hw _ (List.mem_of_getElem? (i := 44) rfl)) (ty := .int) (by decide) rfl rfl rfl rfl (hb hby d7_8)) fun T3 h3 X3 e3 W3 => ?_
  replace F_putMode_o0 := F_putMode_o0.same W3
  replace E_o0 := E_o0.wr W3
  replace F_loadFactor_o0 := F_loadFactor_o0.other W3 (Or.inr (sn6 hw))
  replace F_threshold_o0 := F_threshold_o0.other W3 (Or.inr (sn7 hw))
  replace F_accessOrder_o0 := F_accessOrder_o0.other W3 (Or.inr (sn8 hw))
  replace K0 := K0.wr W3 (Or.inl (List.mem_of_getElem? (i := 0) rfl))
  replace Z0 := Nat.le_trans Z0 (Keep.of_wr W3).1
  replace N0 := Fr.snoc X3 N0 g_o0
  show own_Go p e below _ (T3.setTop (mkF m 11 #[rv o0, iv i0, .val (.float (1061158912 : UInt32))] []))
  refine own_by (B := T3.setTop (mkF m 13 #[rv o0, iv i0, .val (.float (1061158912 : UInt32))] [(.int (0 : Int32)), (.ref o0)])) (fun t k => ?_) ?_
  · show Steps p.tables e below (T3.setTop (mkF m 11 #[rv o0, iv i0, .val (.float (1061158912 : UInt32))] [])) _
    refine XS.aloadN X3.here hx rfl (hb hby d7_11) rfl rfl ?_
    show Steps p.tables e below (T3.setTop (mkF m 12 #[rv o0, iv i0, .val (.float (1061158912 : UInt32))] [(.ref o0)])) _
    refine XS.iconst X3.here hx rfl (hb hby d7_12) ?_
    show Steps p.tables e below (T3.setTop (mkF m 13 #[rv o0, iv i0, .val (.float (1061158912 : UInt32))] [(.int (0 : Int32)), (.ref o0)])) _
    exact k
  refine own_c2 (putFN X3 hx hZ hown (hw _ (List.mem_of_getElem? (i := 82) rfl)) Via.refl e3 F_accessOrder_o0 E_o0 (Or.inr ⟨(hw _ (List.mem_of_getElem? (i := 83) rfl)), rfl, hnm⟩) (hw _ (List.mem_of_getElem? (i := 44) rfl)) (ty := .boolean) (v' := (.int (0 : Int32))) (by decide) rfl rfl rfl rfl (hb hby d7_13)) fun T4 h4 X4 e4 W4 => ?_
  replace F_accessOrder_o0 := F_accessOrder_o0.same W4
  replace E_o0 := E_o0.wr W4
  replace F_loadFactor_o0 := F_loadFactor_o0.other W4 (Or.inr (sn9 hw))
  replace F_threshold_o0 := F_threshold_o0.other W4 (Or.inr (sn10 hw))
  replace F_putMode_o0 := F_putMode_o0.other W4 (Or.inr (sn11 hw))
  replace K0 := K0.wr W4 (Or.inl (List.mem_of_getElem? (i := 0) rfl))
  replace Z0 := Nat.le_trans Z0 (Keep.of_wr W4).1
  replace N0 := Fr.snoc X4 N0 g_o0
  show own_Go p e below _ (T4.setTop (mkF m 16 #[rv o0, iv i0, .val (.float (1061158912 : UInt32))] []))
  exact own_retV X4 Bd.notSynchronized hx Bd.returns (hb hby d7_16) (by
      rw [show T4.heap = h4 from e4]
      exact ⟨rfl, N0, K0, E_o0, F_loadFactor_o0, F_threshold_o0, F_putMode_o0, F_accessOrder_o0⟩) (by decide) (by decide)

theorem d4_0 : decode jdk_93_method_5_code 0 = .ok (.aload_n 0, 1) := by decide +kernel
theorem d4_1 : decode jdk_93_method_5_code 1 = .ok (.invokespecial 1, 3) := by decide +kernel
theorem d4_4 : decode jdk_93_method_5_code 4 = .ok (.aload_n 0, 1) := by decide +kernel
theorem d4_5 : decode jdk_93_method_5_code 5 = .ok (.new 42, 3) := by decide +kernel
theorem d4_8 : decode jdk_93_method_5_code 8 = .ok (.dup, 1) := by decide +kernel
theorem d4_9 : decode jdk_93_method_5_code 9 = .ok (.iload_n 1, 1) := by decide +kernel
theorem d4_10 : decode jdk_93_method_5_code 10 = .ok (.fload_n 2, 1) := by decide +kernel
theorem d4_11 : decode jdk_93_method_5_code 11 = .ok (.invokespecial 44, 3) := by decide +kernel
theorem d4_14 : decode jdk_93_method_5_code 14 = .ok (.putfield 10, 3) := by decide +kernel
theorem d4_17 : decode jdk_93_method_5_code 17 = .ok (.return_, 1) := by decide +kernel
theorem pn_4 : plainName "java/util/HashSet" = true := by first | (simp [plainName, overriddenIn]; done) | decide +kernel
theorem ef_4 (m : MethodId) (x0 : Addr) (x1 : Int32) (x2 : UInt32) (x3 : Int32) : entryFrame m #[(.ref x0), (.int x1), (.float x2), (.int x3)] 4 = mkF m 0 #[rv x0, iv x1, .val (.float x2), iv x3] [] := by first | (simp [entryFrame, mkF, argsToLocals, Value.category]; done) | rfl
def Q4_9 (Z : State) (o0 : Addr) (i0 : Int32) (i1 : Int32) (h0 : Heap) (n0 : Nat) (v : Option Value) (h : Heap) (L : List Loc) : Prop := ∃ b3 : Addr, v = none ∧ Fr n0 L ∧ Keep h0 h [o0] ∧ Exa Z h o0 "java/util/LinkedHashSet" ∧ Fld Z h o0 "java/util/HashSet" "map" "Ljava/util/HashMap;" (.ref b3) ∧ Exa Z h b3 "java/util/LinkedHashMap" ∧ Fld Z h b3 "java/util/HashMap" "loadFactor" "F" (.float (1061158912 : UInt32)) ∧ Fld Z h b3 "java/util/HashMap" "threshold" "I" (.int ((((-1 : Int32).toUInt32 >>> (((29 : Int32) - (((((i0 - (1 : Int32)).toUInt32 >>> (2 : Int32).toUInt32).toInt32).toUInt32 >>> (1 : Int32).toUInt32).toInt32)) &&& 31).toUInt32).toInt32) + (1 : Int32))) ∧ Fld Z h b3 "java/util/LinkedHashMap" "putMode" "I" (.int (0 : Int32)) ∧ Fld Z h b3 "java/util/LinkedHashMap" "accessOrder" "Z" (.int (0 : Int32)) ∧ h0.size ≤ b3
set_option maxRecDepth 65536 in
set_option maxHeartbeats 40000000 in
theorem rm4_9 (l : Launch) (Z : State) (a0 : Array Value) (hw : ∀ d ∈ tables_1, d.before a0 Z = true) (ws : List Jvm.Cond) (o0 : Addr) (i0 : Int32) (i1 : Int32) (h0 : Heap) (n0 : Nat) (Z0 : n0 ≤ h0.size) (g_o0 : n0 ≤ o0) (E_o0 : Exa Z h0 o0 "java/util/LinkedHashSet") (F_map_o0 : Fld Z h0 o0 "java/util/HashSet" "map" "Ljava/util/HashMap;" .null) (hp0 : ¬ (i0 < (0 : Int32))) (hp1 : ¬ ((1073741824 : Int32) < i0)) (hp2 : (0 : Int32) < (i0 - (1 : Int32))) (hp3 : (i0 - (1 : Int32)) < (65536 : Int32)) (hp4 : (i0 - (1 : Int32)) < (256 : Int32)) (hp5 : (i0 - (1 : Int32)) < (16 : Int32)) (hp6 : ¬ ((i0 - (1 : Int32)) < (4 : Int32))) (hp7 : ¬ ((((-1 : Int32).toUInt32 >>> (((29 : Int32) - (((((i0 - (1 : Int32)).toUInt32 >>> (2 : Int32).toUInt32).toInt32).toUInt32 >>> (1 : Int32).toUInt32).toInt32)) &&& 31).toUInt32).toInt32) < (0 : Int32))) (hp8 : (((-1 : Int32).toUInt32 >>> (((29 : Int32) - (((((i0 - (1 : Int32)).toUInt32 >>> (2 : Int32).toUInt32).toInt32).toUInt32 >>> (1 : Int32).toUInt32).toInt32)) &&& 31).toUInt32).toInt32) < (1073741824 : Int32)) :
    MetFree l (⟨"java/util/HashSet", "<init>", "(IFZ)V"⟩ : MethodName) (head1 (Jvm.Cond.code (⟨"java/util/HashSet", "<init>", "(IFZ)V"⟩ : MethodName) jdk_93_method_5_code 4 none :: ws) ({ frames := 4, cells := 1, slots := 12, locals := 58 } : Room)) (fun a U => a = #[(.ref o0), (.int i0), (.float (1061158912 : UInt32)), (.int i1)] ∧ Z.Warmed39 U.vm ∧ U.heap = h0) (fun _ _ _ _ _ => True) (fun _ U o U' => ∃ v L, o = .returned v ∧ Q4_9 Z o0 i0 i1 h0 n0 v U'.heap L ∧ FrameEnd U o U' L ({ frames := 4, cells := 1, slots := 12, locals := 58 } : Room).cells ({ frames := 4, cells := 1, slots := 12, locals := 58 } : Room).slots) := by
  refine MetFree.of_bodySF (plainFor_of_name pn_4) hisR ?_
  intro p e s m args below meth c s₁ Bd hml0 hP hK
  obtain ⟨rfl, hZ, hh⟩ := hP
  have hx := Bd.exec
  have hby := Bd.bytes
  have hml : c.maxLocals = 4 := hml0
  have hown : s.vm.findClass "java/util/HashSet" = some m.cls := findClass_of_methodNamed Bd.named
  have hnm := (name_of_methodNamed Bd.named Bd.method).1
  have X0 : Stand p l e ({ frames := 4, cells := 1, slots := 12, locals := 58 } : Room) s m #[(.ref o0), (.int i0), (.float (1061158912 : UInt32)), (.int i1)] below meth c s₁ [] 0 0 := Stand.of_body Bd
  have e0 : s₁.heap = h0 := by rw [← hh, Bd.state]; rfl
  have N0 := Fr.nil n0
  have K0 : Keep h0 h0 [o0] := Keep.refl h0 _
  change own_Go p e below (own_Post s (Q4_9 Z o0 i0 i1 h0 n0) ({ frames := 4, cells := 1, slots := 12, locals := 58 } : Room).cells ({ frames := 4, cells := 1, slots := 12, locals := 58 } : Room).slots) (s₁.setTop (entryFrame m #[(.ref o0), (.int i0), (.float (1061158912 : UInt32)), (.int i1)] 4))
  refine own_by (fun t k => castTop (ef_4 m o0 i0 (1061158912 : UInt32) i1) k) ?_
  show own_Go p e below _ (s₁.setTop (mkF m 0 #[rv o0, iv i0, .val (.float (1061158912 : UInt32)), iv i1] []))
  refine own_by (B := s₁.setTop (mkF m 1 #[rv o0, iv i0, .val (.float (1061158912 : UInt32)), iv i1] [(.ref o0)])) (fun t k => ?_) ?_
  · show Steps p.tables e below (s₁.setTop (mkF m 0 #[rv o0, iv i0, .val (.float (1061158912 : UInt32)), iv i1] [])) _
    refine XS.aloadN X0.here hx rfl (hb hby d4_0) rfl rfl ?_
    show Steps p.tables e below (s₁.setTop (mkF m 1 #[rv o0, iv i0, .val (.float (1061158912 : UInt32)), iv i1] [(.ref o0)])) _
    exact k
  refine own_cc (own_callI X0 hx hZ (y := (⟨"java/util/AbstractSet", "<init>", "()V"⟩ : MethodName)) rfl hown (hw _ (List.mem_of_getElem? (i := 30) rfl)) (hw _ (List.mem_of_getElem? (i := 31) rfl)) (hw _ (List.mem_of_getElem? (i := 34) rfl)) (hw _ (List.mem_of_getElem? (i := 35) rfl)) (by decide) (rm5_2 l Z a0 hw [] o0 h0 n0 Z0 ) e0 0 (by decide) (by decide) (by decide) (by decide) rfl (by rw [hml]; rfl) o0 [] [] rfl (lenOf pd_1 rfl) rfl (by show 2 * 0 + _ ≤ _; exact Nat.le_of_eq rfl) (hb hby d4_1)) fun T2 L2 v2 X2 hQ2 => ?_
  obtain ⟨rfl, N2, e2⟩ := hQ2
  replace N0 := Fr.app N0 N2
  show own_Go p e below _ (T2.setTop (mkF m 4 #[rv o0, iv i0, .val (.float (1061158912 : UInt32)), iv i1] []))
  refine own_by (B := T2.setTop (mkF m 5 #[rv o0, iv i0, .val (.float (1061158912 : UInt32)), iv i1] [(.ref o0)])) (fun t k => ?_) ?_
  · show Steps p.tables e below (T2.setTop (mkF m 4 #[rv o0, iv i0, .val (.float (1061158912 : UInt32)), iv i1] [])) _
    refine XS.aloadN X2.here hx rfl (hb hby d4_4) rfl rfl ?_
    show Steps p.tables e below (T2.setTop (mkF m 5 #[rv o0, iv i0, .val (.float (1061158912 : UInt32)), iv i1] [(.ref o0)])) _
    exact k
  obtain ⟨T3, h3, X3, e3, E3, A3, D3, -, st3⟩ := newO X2 hx hZ hown (hw _ (List.mem_of_getElem? (i := 43) rfl)) (hw _ (List.mem_of_getElem? (i := 44) rfl)) (hw _ (List.mem_of_getElem? (i := 45) rfl)) e2 (g := (mkF m 5 #[rv o0, iv i0, .val (.float (1061158912 : UInt32)), iv i1] [(.ref o0)])) rfl (hb hby d4_5) (by decide) (by decide)
  obtain ⟨b3, g3⟩ : ∃ z, z = h0.size := ⟨_, rfl⟩
  rw [← g3] at A3 D3 st3
  have g_b3 : n0 ≤ b3 := Nat.le_trans Z0 (Nat.le_of_eq g3.symm)
  have sz_b3 : h0.size ≤ b3 := Nat.le_trans K0.1 (Nat.le_of_eq g3.symm)
  have ne_o0_b3 : o0 ≠ b3 := Nat.ne_of_lt (Nat.lt_of_lt_of_le E_o0.lt (Nat.le_of_eq g3.symm))
  replace E_o0 := E_o0.ext E3
  replace F_map_o0 := F_map_o0.ext E3
  replace K0 := K0.ext E3
  replace Z0 := Nat.le_trans Z0 E3.1
  have E_b3 := A3
  have F_loadFactor_b3 : Fld Z h3 b3 "java/util/HashMap" "loadFactor" "F" (.float (0 : UInt32)) := D3 (Or.inr (hw _ (List.mem_of_getElem? (i := 69) rfl))) (ty := .float) (by decide)
  have F_threshold_b3 : Fld Z h3 b3 "java/util/HashMap" "threshold" "I" (.int (0 : Int32)) := D3 (Or.inl (hw _ (List.mem_of_getElem? (i := 79) rfl))) (ty := .int) (by decide)
  have F_putMode_b3 : Fld Z h3 b3 "java/util/LinkedHashMap" "putMode" "I" (.int (0 : Int32)) := D3 (Or.inl (hw _ (List.mem_of_getElem? (i := 81) rfl))) (ty := .int) (by decide)
  have F_accessOrder_b3 : Fld Z h3 b3 "java/util/LinkedHashMap" "accessOrder" "Z" (.int (0 : Int32)) := D3 (Or.inr (hw _ (List.mem_of_getElem? (i := 83) rfl))) (ty := .boolean) (by decide)
  refine own_by st3 ?_
  show own_Go p e below _ (T3.setTop (mkF m 8 #[rv o0, iv i0, .val (.float (1061158912 : UInt32)), iv i1] [(.ref b3), (.ref o0)]))
  refine own_by (B := T3.setTop (mkF m 11 #[rv o0, iv i0, .val (.float (1061158912 : UInt32)), iv i1] [(.float (1061158912 : UInt32)), (.int i0), (.ref b3), (.ref b3), (.ref o0)])) (fun t k => ?_) ?_
  · show Steps p.tables e below (T3.setTop (mkF m 8 #[rv o0, iv i0, .val (.float (1061158912 : UInt32)), iv i1] [(.ref b3), (.ref o0)])) _
    refine XS.dup X3.here hx rfl (hb hby d4_8) rfl rfl ?_
    show Steps p.tables e below (T3.setTop (mkF m 9 #[rv o0, iv i0, .val (.float (1061158912 : UInt32)), iv i1] [(.ref b3), (.ref b3), (.ref o0)])) _
    refine XS.iloadN X3.here hx rfl (hb hby d4_9) rfl ?_
    show Steps p.tables e below (T3.setTop (mkF m 10 #[rv o0, iv i0, .val (.float (1061158912 : UInt32)), iv i1] [(.int i0), (.ref b3), (.ref b3), (.ref o0)])) _
    refine own_floadN X3.here hx rfl (hb hby d4_10) rfl ?_
    show Steps p.tables e below (T3.setTop (mkF m 11 #[rv o0, iv i0, .val (.float (1061158912 : UInt32)), iv i1] [(.float (1061158912 : UInt32)), (.int i0), (.ref b3), (.ref b3), (.ref o0)])) _
    exact k
  refine own_cc (own_callI X3 hx hZ (y := (⟨"java/util/LinkedHashMap", "<init>", "(IF)V"⟩ : MethodName)) rfl hown (hw _ (List.mem_of_getElem? (i := 46) rfl)) (hw _ (List.mem_of_getElem? (i := 47) rfl)) (hw _ (List.mem_of_getElem? (i := 45) rfl)) (hw _ (List.mem_of_getElem? (i := 49) rfl)) (by decide) (rm7_8 l Z a0 hw [] b3 i0 (0 : Int32) (0 : Int32) (0 : Int32) h3 n0 Z0 g_b3 E_b3 F_loadFactor_b3 F_threshold_b3 F_putMode_b3 F_accessOrder_b3 hp0 hp1 hp2 hp3 hp4 hp5 hp6 hp7 hp8) e3 2 (by decide) (by decide) (by decide) (by decide) rfl (by rw [hml]; rfl) b3 [(.int i0), (.float (1061158912 : UInt32))] [(.ref b3), (.ref o0)] rfl (lenOf pd_3 rfl) rfl (by show 2 * 0 + _ ≤ _; exact Nat.le_of_eq rfl) (hb hby d4_11)) fun T5 L5 v5 X5 hQ5 => ?_
  obtain ⟨rfl, N5, K5, E_b3', F_loadFactor_b3', F_threshold_b3', F_putMode_b3', F_accessOrder_b3'⟩ := hQ5
  replace N0 := Fr.app N0 N5
  replace E_o0 := E_o0.keep K5
  replace F_map_o0 := F_map_o0.keep K5 (ninS ne_o0_b3 nin0)
  replace E_b3 := E_b3.keep K5
  replace K0 := K0.trans K5 (allS (Or.inr sz_b3) all0)
  replace Z0 := Nat.le_trans Z0 K5.1
  replace E_b3 := E_b3'
  have F_loadFactor_b3 := F_loadFactor_b3'
  have F_threshold_b3 := F_threshold_b3'
  have F_putMode_b3 := F_putMode_b3'
  have F_accessOrder_b3 := F_accessOrder_b3'
  show own_Go p e below _ (T5.setTop (mkF m 14 #[rv o0, iv i0, .val (.float (1061158912 : UInt32)), iv i1] [(.ref b3), (.ref o0)]))
  refine own_c2 (putF X5 hx hZ hown (host := "") (Or.inl (hw _ (List.mem_of_getElem? (i := 84) rfl))) Via.refl rfl F_map_o0 E_o0 (Or.inl (hw _ (List.mem_of_getElem? (i := 85) rfl))) (hw _ (List.mem_of_getElem? (i := 18) rfl)) (ty := (.object "java/util/HashMap")) (by decide) rfl rfl rfl rfl (hb hby d4_14)) fun T6 h6 X6 e6 W6 => ?_
  replace F_map_o0 := F_map_o0.same W6
  replace E_o0 := E_o0.wr W6
  replace E_b3 := E_b3.wr W6
  replace F_loadFactor_b3 := F_loadFactor_b3.other W6 (Or.inl (Ne.symm ne_o0_b3))
  replace F_threshold_b3 := F_threshold_b3.other W6 (Or.inl (Ne.symm ne_o0_b3))
  replace F_putMode_b3 := F_putMode_b3.other W6 (Or.inl (Ne.symm ne_o0_b3))
  replace F_accessOrder_b3 := F_accessOrder_b3.other W6 (Or.inl (Ne.symm ne_o0_b3))
  replace K0 := K0.wr W6 (Or.inl (List.mem_of_getElem? (i := 0) rfl))
  replace Z0 := Nat.le_trans Z0 (Keep.of_wr W6).1
  replace N0 := Fr.snoc X6 N0 g_o0
  show own_Go p e below _ (T6.setTop (mkF m 17 #[rv o0, iv i0, .val (.float (1061158912 : UInt32)), iv i1] []))
  exact own_retV X6 Bd.notSynchronized hx Bd.returns (hb hby d4_17) (by
      rw [show T6.heap = h6 from e6]
      exact ⟨b3, rfl, N0, K0, E_o0, F_map_o0, E_b3, F_loadFactor_b3, F_threshold_b3, F_putMode_b3, F_accessOrder_b3, sz_b3⟩) (by decide) (by decide)

theorem d3_0 : decode jdk_2620_method_3_code 0 = .ok (.aload_n 0, 1) := by decide +kernel
theorem d3_1 : decode jdk_2620_method_3_code 1 = .ok (.bipush 16, 2) := by decide +kernel
theorem d3_3 : decode jdk_2620_method_3_code 3 = .ok (.ldc 7, 2) := by decide +kernel
theorem d3_5 : decode jdk_2620_method_3_code 5 = .ok (.iconst 1, 1) := by decide +kernel
theorem d3_6 : decode jdk_2620_method_3_code 6 = .ok (.invokespecial 1, 3) := by decide +kernel
theorem d3_9 : decode jdk_2620_method_3_code 9 = .ok (.return_, 1) := by decide +kernel
theorem pn_3 : plainName "java/util/LinkedHashSet" = true := by first | (simp [plainName, overriddenIn]; done) | decide +kernel
theorem pd_2 : parseMethodDescriptor "(IFZ)V" = some ⟨[.int, .float, .boolean], none⟩ := by decide +kernel
theorem ef_3 (m : MethodId) (x0 : Addr) : entryFrame m #[(.ref x0)] 1 = mkF m 0 #[rv x0] [] := by first | (simp [entryFrame, mkF, argsToLocals, Value.category]; done) | rfl
def Q3_10 (Z : State) (o0 : Addr) (h0 : Heap) (n0 : Nat) (v : Option Value) (h : Heap) (L : List Loc) : Prop := ∃ b3_2 : Addr, v = none ∧ Fr n0 L ∧ Keep h0 h [o0] ∧ Exa Z h o0 "java/util/LinkedHashSet" ∧ Fld Z h o0 "java/util/HashSet" "map" "Ljava/util/HashMap;" (.ref b3_2) ∧ Exa Z h b3_2 "java/util/LinkedHashMap" ∧ Fld Z h b3_2 "java/util/HashMap" "loadFactor" "F" (.float (1061158912 : UInt32)) ∧ Fld Z h b3_2 "java/util/HashMap" "threshold" "I" (.int (16 : Int32)) ∧ Fld Z h b3_2 "java/util/LinkedHashMap" "putMode" "I" (.int (0 : Int32)) ∧ Fld Z h b3_2 "java/util/LinkedHashMap" "accessOrder" "Z" (.int (0 : Int32)) ∧ h0.size ≤ b3_2
set_option maxRecDepth 65536 in
set_option maxHeartbeats 40000000 in
theorem rm3_10 (l : Launch) (Z : State) (a0 : Array Value) (hw : ∀ d ∈ tables_1, d.before a0 Z = true) (ws : List Jvm.Cond) (o0 : Addr) (h0 : Heap) (n0 : Nat) (Z0 : n0 ≤ h0.size) (g_o0 : n0 ≤ o0) (E_o0 : Exa Z h0 o0 "java/util/LinkedHashSet") (F_map_o0 : Fld Z h0 o0 "java/util/HashSet" "map" "Ljava/util/HashMap;" .null) :
    MetFree l (⟨"java/util/LinkedHashSet", "<init>", "()V"⟩ : MethodName) (head1 (Jvm.Cond.code (⟨"java/util/LinkedHashSet", "<init>", "()V"⟩ : MethodName) jdk_2620_method_3_code 1 none :: ws) ({ frames := 5, cells := 1, slots := 12, locals := 73 } : Room)) (fun a U => a = #[(.ref o0)] ∧ Z.Warmed39 U.vm ∧ U.heap = h0) (fun _ _ _ _ _ => True) (fun _ U o U' => ∃ v L, o = .returned v ∧ Q3_10 Z o0 h0 n0 v U'.heap L ∧ FrameEnd U o U' L ({ frames := 5, cells := 1, slots := 12, locals := 73 } : Room).cells ({ frames := 5, cells := 1, slots := 12, locals := 73 } : Room).slots) := by
  refine MetFree.of_bodySF (plainFor_of_name pn_3) hisR ?_
  intro p e s m args below meth c s₁ Bd hml0 hP hK
  obtain ⟨rfl, hZ, hh⟩ := hP
  have hx := Bd.exec
  have hby := Bd.bytes
  have hml : c.maxLocals = 1 := hml0
  have hown : s.vm.findClass "java/util/LinkedHashSet" = some m.cls := findClass_of_methodNamed Bd.named
  have hnm := (name_of_methodNamed Bd.named Bd.method).1
  have X0 : Stand p l e ({ frames := 5, cells := 1, slots := 12, locals := 73 } : Room) s m #[(.ref o0)] below meth c s₁ [] 0 0 := Stand.of_body Bd
  have e0 : s₁.heap = h0 := by rw [← hh, Bd.state]; rfl
  have N0 := Fr.nil n0
  have K0 : Keep h0 h0 [o0] := Keep.refl h0 _
  change own_Go p e below (own_Post s (Q3_10 Z o0 h0 n0) ({ frames := 5, cells := 1, slots := 12, locals := 73 } : Room).cells ({ frames := 5, cells := 1, slots := 12, locals := 73 } : Room).slots) (s₁.setTop (entryFrame m #[(.ref o0)] 1))
  refine own_by (fun t k => castTop (ef_3 m o0) k) ?_
  show own_Go p e below _ (s₁.setTop (mkF m 0 #[rv o0] []))
  refine own_by (B := s₁.setTop (mkF m 6 #[rv o0] [(.int (1 : Int32)), (.float (1061158912 : UInt32)), (.int (16 : Int32)), (.ref o0)])) (fun t k => ?_) ?_
  · show Steps p.tables e below (s₁.setTop (mkF m 0 #[rv o0] [])) _
    refine XS.aloadN X0.here hx rfl (hb hby d3_0) rfl rfl ?_
    show Steps p.tables e below (s₁.setTop (mkF m 1 #[rv o0] [(.ref o0)])) _
    refine XS.bipush X0.here hx rfl (hb hby d3_1) ?_
    show Steps p.tables e below (s₁.setTop (mkF m 3 #[rv o0] [(.int (16 : Int32)), (.ref o0)])) _
    refine X0.ldcFloatC hx hown (mvT hZ (hw _ (List.mem_of_getElem? (i := 23) rfl))) (g := (mkF m 3 #[rv o0] [(.int (16 : Int32)), (.ref o0)])) rfl (hb hby d3_3) _ ?_
    show Steps p.tables e below (s₁.setTop (mkF m 5 #[rv o0] [(.float (1061158912 : UInt32)), (.int (16 : Int32)), (.ref o0)])) _
    refine XS.iconst X0.here hx rfl (hb hby d3_5) ?_
    show Steps p.tables e below (s₁.setTop (mkF m 6 #[rv o0] [(.int (1 : Int32)), (.float (1061158912 : UInt32)), (.int (16 : Int32)), (.ref o0)])) _
    exact k
  refine own_cc (own_callI X0 hx hZ (y := (⟨"java/util/HashSet", "<init>", "(IFZ)V"⟩ : MethodName)) rfl hown (hw _ (List.mem_of_getElem? (i := 24) rfl)) (hw _ (List.mem_of_getElem? (i := 25) rfl)) (hw _ (List.mem_of_getElem? (i := 28) rfl)) (hw _ (List.mem_of_getElem? (i := 29) rfl)) (by decide) (rm4_9 l Z a0 hw [] o0 (16 : Int32) (1 : Int32) h0 n0 Z0 g_o0 E_o0 F_map_o0 (by decide : ¬ ((16 : Int32) < (0 : Int32))) (by decide : ¬ ((1073741824 : Int32) < (16 : Int32))) (by decide : (0 : Int32) < (15 : Int32)) (by decide : (15 : Int32) < (65536 : Int32)) (by decide : (15 : Int32) < (256 : Int32)) (by decide : (15 : Int32) < (16 : Int32)) (by decide : ¬ ((15 : Int32) < (4 : Int32))) (by decide : ¬ ((15 : Int32) < (0 : Int32))) (by decide : (15 : Int32) < (1073741824 : Int32))) e0 0 (by decide) (by decide) (by decide) (by decide) rfl (by rw [hml]; rfl) o0 [(.int (16 : Int32)), (.float (1061158912 : UInt32)), (.int (1 : Int32))] [] rfl (lenOf pd_2 rfl) rfl (by show 2 * 0 + _ ≤ _; exact Nat.le_of_eq rfl) (hb hby d3_6)) fun T2 L2 v2 X2 hQ2 => ?_
  obtain ⟨b3_2, rfl, N2, K2, E_o0', F_map_o0', E_b3_2', F_loadFactor_b3_2', F_threshold_b3_2', F_putMode_b3_2', F_accessOrder_b3_2', sz_b3_2'⟩ := hQ2
  replace N0 := Fr.app N0 N2
  have g_b3_2 : n0 ≤ b3_2 := Nat.le_trans Z0 sz_b3_2'
  have sz_b3_2 : h0.size ≤ b3_2 := Nat.le_trans K0.1 sz_b3_2'
  have ne_o0_b3_2 : o0 ≠ b3_2 := Nat.ne_of_lt (Nat.lt_of_lt_of_le E_o0.lt sz_b3_2')
  replace E_o0 := E_o0.keep K2
  replace K0 := K0.trans K2 (allS (Or.inl (List.mem_of_getElem? (i := 0) rfl)) all0)
  replace Z0 := Nat.le_trans Z0 K2.1
  replace E_o0 := E_o0'
  have F_map_o0 := F_map_o0'
  have E_b3_2 := E_b3_2'
  have F_loadFactor_b3_2 := F_loadFactor_b3_2'
  have F_threshold_b3_2 : Fld Z T2.heap b3_2 "java/util/HashMap" "threshold" "I" (.int (16 : Int32)) := F_threshold_b3_2'
  have F_putMode_b3_2 := F_putMode_b3_2'
  have F_accessOrder_b3_2 := F_accessOrder_b3_2'
  show own_Go p e below _ (T2.setTop (mkF m 9 #[rv o0] []))
  exact own_retV X2 Bd.notSynchronized hx Bd.returns (hb hby d3_9) ⟨b3_2, rfl, N0, K0, E_o0, F_map_o0, E_b3_2, F_loadFactor_b3_2, F_threshold_b3_2, F_putMode_b3_2, F_accessOrder_b3_2, sz_b3_2⟩ (by decide) (by decide)

theorem d1_0 : decode prog_17_method_1_code 0 = .ok (.aload_n 0, 1) := by decide +kernel
theorem d1_1 : decode prog_17_method_1_code 1 = .ok (.invokespecial 1, 3) := by decide +kernel
theorem d1_4 : decode prog_17_method_1_code 4 = .ok (.aload_n 0, 1) := by decide +kernel
theorem d1_5 : decode prog_17_method_1_code 5 = .ok (.new 7, 3) := by decide +kernel
theorem d1_8 : decode prog_17_method_1_code 8 = .ok (.dup, 1) := by decide +kernel
theorem d1_9 : decode prog_17_method_1_code 9 = .ok (.invokespecial 9, 3) := by decide +kernel
theorem d1_12 : decode prog_17_method_1_code 12 = .ok (.putfield 10, 3) := by decide +kernel
theorem d1_15 : decode prog_17_method_1_code 15 = .ok (.aload_n 0, 1) := by decide +kernel
theorem d1_16 : decode prog_17_method_1_code 16 = .ok (.aload_n 1, 1) := by decide +kernel
theorem d1_17 : decode prog_17_method_1_code 17 = .ok (.putfield 16, 3) := by decide +kernel
theorem d1_20 : decode prog_17_method_1_code 20 = .ok (.aload_n 0, 1) := by decide +kernel
theorem d1_21 : decode prog_17_method_1_code 21 = .ok (.aload_n 2, 1) := by decide +kernel
theorem d1_22 : decode prog_17_method_1_code 22 = .ok (.putfield 20, 3) := by decide +kernel
theorem d1_25 : decode prog_17_method_1_code 25 = .ok (.return_, 1) := by decide +kernel
theorem pn_1 : plainName "com/example/chartwell/chartwell/http/Client" = true := by first | (simp [plainName, overriddenIn]; done) | decide +kernel
theorem ef_1n (m : MethodId) (x0 : Addr) (x1 : Addr) : entryFrame m #[(.ref x0), (.ref x1), .null] 3 = mkF m 0 #[rv x0, rv x1, .val .null] [] := by first | (simp [entryFrame, mkF, argsToLocals, Value.category]; done) | rfl
def Q1_11 (Z : State) (o0 : Addr) (o1 : Addr) (j0 : Int64) (j1 : Int64) (h0 : Heap) (n0 : Nat) (v : Option Value) (h : Heap) (L : List Loc) : Prop := ∃ b3 : Addr, ∃ b3_2_5 : Addr, v = none ∧ Fr n0 L ∧ Keep h0 h [o0] ∧ Exa Z h o0 "com/example/chartwell/chartwell/http/Client" ∧ Fld Z h o0 "com/example/chartwell/chartwell/http/Client" "connections" "Ljava/util/Set;" (.ref b3) ∧ Fld Z h o0 "com/example/chartwell/chartwell/http/Client" "name" "Ljava/lang/String;" (.ref o1) ∧ Fld Z h o0 "com/example/chartwell/chartwell/http/Client" "memory" "Lcom/example/chartwell/chartwell/http/HeldMemory;" .null ∧ Fld Z h o0 "com/example/chartwell/chartwell/http/Client" "held" "J" (.long j0) ∧ Fld Z h o0 "com/example/chartwell/chartwell/http/Client" "heldLarge" "J" (.long j1) ∧ Exa Z h b3 "java/util/LinkedHashSet" ∧ Fld Z h b3 "java/util/HashSet" "map" "Ljava/util/HashMap;" (.ref b3_2_5) ∧ Exa Z h b3_2_5 "java/util/LinkedHashMap" ∧ Fld Z h b3_2_5 "java/util/HashMap" "loadFactor" "F" (.float (1061158912 : UInt32)) ∧ Fld Z h b3_2_5 "java/util/HashMap" "threshold" "I" (.int (16 : Int32)) ∧ Fld Z h b3_2_5 "java/util/LinkedHashMap" "putMode" "I" (.int (0 : Int32)) ∧ Fld Z h b3_2_5 "java/util/LinkedHashMap" "accessOrder" "Z" (.int (0 : Int32)) ∧ h0.size ≤ b3 ∧ h0.size ≤ b3_2_5 ∧ b3 ≠ b3_2_5
set_option maxRecDepth 65536 in
set_option maxHeartbeats 40000000 in
theorem rm1_11 (l : Launch) (Z : State) (a0 : Array Value) (hw : ∀ d ∈ tables_1, d.before a0 Z = true) (ws : List Jvm.Cond) (o0 : Addr) (o1 : Addr) (j0 : Int64) (j1 : Int64) (h0 : Heap) (n0 : Nat) (Z0 : n0 ≤ h0.size) (g_o0 : n0 ≤ o0) (E_o0 : Exa Z h0 o0 "com/example/chartwell/chartwell/http/Client") (F_connections_o0 : Fld Z h0 o0 "com/example/chartwell/chartwell/http/Client" "connections" "Ljava/util/Set;" .null) (F_name_o0 : Fld Z h0 o0 "com/example/chartwell/chartwell/http/Client" "name" "Ljava/lang/String;" .null) (F_memory_o0 : Fld Z h0 o0 "com/example/chartwell/chartwell/http/Client" "memory" "Lcom/example/chartwell/chartwell/http/HeldMemory;" .null) (F_held_o0 : Fld Z h0 o0 "com/example/chartwell/chartwell/http/Client" "held" "J" (.long j0)) (F_heldLarge_o0 : Fld Z h0 o0 "com/example/chartwell/chartwell/http/Client" "heldLarge" "J" (.long j1)) :
    MetFree l (⟨"com/example/chartwell/chartwell/http/Client", "<init>", "(Ljava/lang/String;Lcom/example/chartwell/chartwell/http/HeldMemory;)V"⟩ : MethodName) (head1 (Jvm.Cond.code (⟨"com/example/chartwell/chartwell/http/Client", "<init>", "(Ljava/lang/String;Lcom/example/chartwell/chartwell/http/HeldMemory;)V"⟩ : MethodName) prog_17_method_1_code 3 none :: ws) ({ frames := 6, cells := 2, slots := 13, locals := 87 } : Room)) (fun a U => a = #[(.ref o0), (.ref o1), .null] ∧ Z.Warmed39 U.vm ∧ U.heap = h0) (fun _ _ _ _ _ => True) (fun _ U o U' => ∃ v L, o = .returned v ∧ Q1_11 Z o0 o1 j0 j1 h0 n0 v U'.heap L ∧ FrameEnd U o U' L ({ frames := 6, cells := 2, slots := 13, locals := 87 } : Room).cells ({ frames := 6, cells := 2, slots := 13, locals := 87 } : Room).slots) := by
  refine MetFree.of_bodySF (plainFor_of_name pn_1) hisR ?_
  intro p e s m args below meth c s₁ Bd hml0 hP hK
  obtain ⟨rfl, hZ, hh⟩ := hP
  have hx := Bd.exec
  have hby := Bd.bytes
  have hml : c.maxLocals = 3 := hml0
  have hown : s.vm.findClass "com/example/chartwell/chartwell/http/Client" = some m.cls := findClass_of_methodNamed Bd.named
  have hnm := (name_of_methodNamed Bd.named Bd.method).1
  have X0 : Stand p l e ({ frames := 6, cells := 2, slots := 13, locals := 87 } : Room) s m #[(.ref o0), (.ref o1), .null] below meth c s₁ [] 0 0 := Stand.of_body Bd
  have e0 : s₁.heap = h0 := by rw [← hh, Bd.state]; rfl
  have N0 := Fr.nil n0
  have K0 : Keep h0 h0 [o0] := Keep.refl h0 _
  change own_Go p e below (own_Post s (Q1_11 Z o0 o1 j0 j1 h0 n0) ({ frames := 6, cells := 2, slots := 13, locals := 87 } : Room).cells ({ frames := 6, cells := 2, slots := 13, locals := 87 } : Room).slots) (s₁.setTop (entryFrame m #[(.ref o0), (.ref o1), .null] 3))
  refine own_by (fun t k => castTop (ef_1n m o0 o1) k) ?_
  show own_Go p e below _ (s₁.setTop (mkF m 0 #[rv o0, rv o1, .val .null] []))
  refine own_by (B := s₁.setTop (mkF m 1 #[rv o0, rv o1, .val .null] [(.ref o0)])) (fun t k => ?_) ?_
  · show Steps p.tables e below (s₁.setTop (mkF m 0 #[rv o0, rv o1, .val .null] [])) _
    refine XS.aloadN X0.here hx rfl (hb hby d1_0) rfl rfl ?_
    show Steps p.tables e below (s₁.setTop (mkF m 1 #[rv o0, rv o1, .val .null] [(.ref o0)])) _
    exact k
  refine own_c1 (initO X0 hx hZ hown (hw _ (List.mem_of_getElem? (i := 14) rfl)) (hw _ (List.mem_of_getElem? (i := 15) rfl)) (hw _ (List.mem_of_getElem? (i := 16) rfl)) e0 rfl (by rw [hml]; rfl) rfl (hb hby d1_1) (by decide) (W := 0) (by show 2 * 0 + _ ≤ _; exact Nat.le_of_eq rfl) (by decide)) fun T2 X2 e2 => ?_
  show own_Go p e below _ (T2.setTop (mkF m 4 #[rv o0, rv o1, .val .null] []))
  refine own_by (B := T2.setTop (mkF m 5 #[rv o0, rv o1, .val .null] [(.ref o0)])) (fun t k => ?_) ?_
  · show Steps p.tables e below (T2.setTop (mkF m 4 #[rv o0, rv o1, .val .null] [])) _
    refine XS.aloadN X2.here hx rfl (hb hby d1_4) rfl rfl ?_
    show Steps p.tables e below (T2.setTop (mkF m 5 #[rv o0, rv o1, .val .null] [(.ref o0)])) _
    exact k
  obtain ⟨T3, h3, X3, e3, E3, A3, D3, -, st3⟩ := newO X2 hx hZ hown (hw _ (List.mem_of_getElem? (i := 17) rfl)) (hw _ (List.mem_of_getElem? (i := 18) rfl)) (hw _ (List.mem_of_getElem? (i := 19) rfl)) e2 (g := (mkF m 5 #[rv o0, rv o1, .val .null] [(.ref o0)])) rfl (hb hby d1_5) (by decide) (by decide)
  obtain ⟨b3, g3⟩ : ∃ z, z = h0.size := ⟨_, rfl⟩
  rw [← g3] at A3 D3 st3
  have g_b3 : n0 ≤ b3 := Nat.le_trans Z0 (Nat.le_of_eq g3.symm)
  have sz_b3 : h0.size ≤ b3 := Nat.le_trans K0.1 (Nat.le_of_eq g3.symm)
  have ne_o0_b3 : o0 ≠ b3 := Nat.ne_of_lt (Nat.lt_of_lt_of_le E_o0.lt (Nat.le_of_eq g3.symm))
  replace E_o0 := E_o0.ext E3
  replace F_connections_o0 := F_connections_o0.ext E3
  replace F_name_o0 := F_name_o0.ext E3
  replace F_memory_o0 := F_memory_o0.ext E3
  replace F_held_o0 := F_held_o0.ext E3
  replace F_heldLarge_o0 := F_heldLarge_o0.ext E3
  replace K0 := K0.ext E3
  replace Z0 := Nat.le_trans Z0 E3.1
  have E_b3 := A3
  have F_map_b3 : Fld Z h3 b3 "java/util/HashSet" "map" "Ljava/util/HashMap;" .null := D3 (Or.inl (hw _ (List.mem_of_getElem? (i := 85) rfl))) (ty := (.object "java/util/HashMap")) (by decide)
  refine own_by st3 ?_
  show own_Go p e below _ (T3.setTop (mkF m 8 #[rv o0, rv o1, .val .null] [(.ref b3), (.ref o0)]))
  refine own_by (B := T3.setTop (mkF m 9 #[rv o0, rv o1, .val .null] [(.ref b3), (.ref b3), (.ref o0)])) (fun t k => ?_) ?_
  · show Steps p.tables e below (T3.setTop (mkF m 8 #[rv o0, rv o1, .val .null] [(.ref b3), (.ref o0)])) _
    refine XS.dup X3.here hx rfl (hb hby d1_8) rfl rfl ?_
    show Steps p.tables e below (T3.setTop (mkF m 9 #[rv o0, rv o1, .val .null] [(.ref b3), (.ref b3), (.ref o0)])) _
    exact k
  refine own_cc (own_callI X3 hx hZ (y := (⟨"java/util/LinkedHashSet", "<init>", "()V"⟩ : MethodName)) rfl hown (hw _ (List.mem_of_getElem? (i := 20) rfl)) (hw _ (List.mem_of_getElem? (i := 21) rfl)) (hw _ (List.mem_of_getElem? (i := 19) rfl)) (hw _ (List.mem_of_getElem? (i := 22) rfl)) (by decide) (rm3_10 l Z a0 hw [] b3 h3 n0 Z0 g_b3 E_b3 F_map_b3) e3 2 (by decide) (by decide) (by decide) (by decide) rfl (by rw [hml]; rfl) b3 [] [(.ref b3), (.ref o0)] rfl (lenOf pd_1 rfl) rfl (by show 2 * 0 + _ ≤ _; exact Nat.le_of_eq rfl) (hb hby d1_9)) fun T5 L5 v5 X5 hQ5 => ?_
  obtain ⟨b3_2_5, rfl, N5, K5, E_b3', F_map_b3', E_b3_2_5', F_loadFactor_b3_2_5', F_threshold_b3_2_5', F_putMode_b3_2_5', F_accessOrder_b3_2_5', sz_b3_2_5'⟩ := hQ5
  replace N0 := Fr.app N0 N5
  have g_b3_2_5 : n0 ≤ b3_2_5 := Nat.le_trans Z0 sz_b3_2_5'
  have sz_b3_2_5 : h0.size ≤ b3_2_5 := Nat.le_trans K0.1 sz_b3_2_5'
  have ne_o0_b3_2_5 : o0 ≠ b3_2_5 := Nat.ne_of_lt (Nat.lt_of_lt_of_le E_o0.lt sz_b3_2_5')
  have ne_b3_b3_2_5 : b3 ≠ b3_2_5 := Nat.ne_of_lt (Nat.lt_of_lt_of_le E_b3.lt sz_b3_2_5')
  replace E_o0 := E_o0.keep K5
  replace F_connections_o0 := F_connections_o0.keep K5 (ninS ne_o0_b3 nin0)
  replace F_name_o0 := F_name_o0.keep K5 (ninS ne_o0_b3 nin0)
  replace F_memory_o0 := F_memory_o0.keep K5 (ninS ne_o0_b3 nin0)
  replace F_held_o0 := F_held_o0.keep K5 (ninS ne_o0_b3 nin0)
  replace F_heldLarge_o0 := F_heldLarge_o0.keep K5 (ninS ne_o0_b3 nin0)
  replace E_b3 := E_b3.keep K5
  replace K0 := K0.trans K5 (allS (Or.inr sz_b3) all0)
  replace Z0 := Nat.le_trans Z0 K5.1
  replace E_b3 := E_b3'
  have F_map_b3 := F_map_b3'
  have E_b3_2_5 := E_b3_2_5'
  have F_loadFactor_b3_2_5 := F_loadFactor_b3_2_5'
  have F_threshold_b3_2_5 := F_threshold_b3_2_5'
  have F_putMode_b3_2_5 := F_putMode_b3_2_5'
  have F_accessOrder_b3_2_5 := F_accessOrder_b3_2_5'
  show own_Go p e below _ (T5.setTop (mkF m 12 #[rv o0, rv o1, .val .null] [(.ref b3), (.ref o0)]))
  refine own_c2 (putF X5 hx hZ hown (host := "") (Or.inl (hw _ (List.mem_of_getElem? (i := 86) rfl))) Via.refl rfl F_connections_o0 E_o0 (Or.inr ⟨(hw _ (List.mem_of_getElem? (i := 87) rfl)), rfl, hnm⟩) (hw _ (List.mem_of_getElem? (i := 1) rfl)) (ty := (.object "java/util/Set")) (by decide) rfl rfl rfl rfl (hb hby d1_12)) fun T6 h6 X6 e6 W6 => ?_
  replace F_connections_o0 := F_connections_o0.same W6
  replace E_o0 := E_o0.wr W6
  replace F_name_o0 := F_name_o0.other W6 (Or.inr (sn12 hw))
  replace F_memory_o0 := F_memory_o0.other W6 (Or.inr (sn13 hw))
  replace F_held_o0 := F_held_o0.other W6 (Or.inr (sn14 hw))
  replace F_heldLarge_o0 := F_heldLarge_o0.other W6 (Or.inr (sn15 hw))
  replace E_b3 := E_b3.wr W6
  replace F_map_b3 := F_map_b3.other W6 (Or.inl (Ne.symm ne_o0_b3))
  replace E_b3_2_5 := E_b3_2_5.wr W6
  replace F_loadFactor_b3_2_5 := F_loadFactor_b3_2_5.other W6 (Or.inl (Ne.symm ne_o0_b3_2_5))
  replace F_threshold_b3_2_5 := F_threshold_b3_2_5.other W6 (Or.inl (Ne.symm ne_o0_b3_2_5))
  replace F_putMode_b3_2_5 := F_putMode_b3_2_5.other W6 (Or.inl (Ne.symm ne_o0_b3_2_5))
  replace F_accessOrder_b3_2_5 := F_accessOrder_b3_2_5.other W6 (Or.inl (Ne.symm ne_o0_b3_2_5))
  replace K0 := K0.wr W6 (Or.inl (List.mem_of_getElem? (i := 0) rfl))
  replace Z0 := Nat.le_trans Z0 (Keep.of_wr W6).1
  replace N0 := Fr.snoc X6 N0 g_o0
  show own_Go p e below _ (T6.setTop (mkF m 15 #[rv o0, rv o1, .val .null] []))
  refine own_by (B := T6.setTop (mkF m 17 #[rv o0, rv o1, .val .null] [(.ref o1), (.ref o0)])) (fun t k => ?_) ?_
  · show Steps p.tables e below (T6.setTop (mkF m 15 #[rv o0, rv o1, .val .null] [])) _
    refine XS.aloadN X6.here hx rfl (hb hby d1_15) rfl rfl ?_
    show Steps p.tables e below (T6.setTop (mkF m 16 #[rv o0, rv o1, .val .null] [(.ref o0)])) _
    refine XS.aloadN X6.here hx rfl (hb hby d1_16) rfl rfl ?_
    show Steps p.tables e below (T6.setTop (mkF m 17 #[rv o0, rv o1, .val .null] [(.ref o1), (.ref o0)])) _
    exact k
  refine own_c2 (putF X6 hx hZ hown (host := "") (Or.inl (hw _ (List.mem_of_getElem? (i := 88) rfl))) Via.refl e6 F_name_o0 E_o0 (Or.inr ⟨(hw _ (List.mem_of_getElem? (i := 89) rfl)), rfl, hnm⟩) (hw _ (List.mem_of_getElem? (i := 1) rfl)) (ty := (.object "java/lang/String")) (by decide) rfl rfl rfl rfl (hb hby d1_17)) fun T7 h7 X7 e7 W7 => ?_
  replace F_name_o0 := F_name_o0.same W7
  replace E_o0 := E_o0.wr W7
  replace F_connections_o0 := F_connections_o0.other W7 (Or.inr (sn16 hw))
  replace F_memory_o0 := F_memory_o0.other W7 (Or.inr (sn17 hw))
  replace F_held_o0 := F_held_o0.other W7 (Or.inr (sn18 hw))
  replace F_heldLarge_o0 := F_heldLarge_o0.other W7 (Or.inr (sn19 hw))
  replace E_b3 := E_b3.wr W7
  replace F_map_b3 := F_map_b3.other W7 (Or.inl (Ne.symm ne_o0_b3))
  replace E_b3_2_5 := E_b3_2_5.wr W7
  replace F_loadFactor_b3_2_5 := F_loadFactor_b3_2_5.other W7 (Or.inl (Ne.symm ne_o0_b3_2_5))
  replace F_threshold_b3_2_5 := F_threshold_b3_2_5.other W7 (Or.inl (Ne.symm ne_o0_b3_2_5))
  replace F_putMode_b3_2_5 := F_putMode_b3_2_5.other W7 (Or.inl (Ne.symm ne_o0_b3_2_5))
  replace F_accessOrder_b3_2_5 := F_accessOrder_b3_2_5.other W7 (Or.inl (Ne.symm ne_o0_b3_2_5))
  replace K0 := K0.wr W7 (Or.inl (List.mem_of_getElem? (i := 0) rfl))
  replace Z0 := Nat.le_trans Z0 (Keep.of_wr W7).1
  replace N0 := Fr.snoc X7 N0 g_o0
  show own_Go p e below _ (T7.setTop (mkF m 20 #[rv o0, rv o1, .val .null] []))
  refine own_by (B := T7.setTop (mkF m 22 #[rv o0, rv o1, .val .null] [.null, (.ref o0)])) (fun t k => ?_) ?_
  · show Steps p.tables e below (T7.setTop (mkF m 20 #[rv o0, rv o1, .val .null] [])) _
    refine XS.aloadN X7.here hx rfl (hb hby d1_20) rfl rfl ?_
    show Steps p.tables e below (T7.setTop (mkF m 21 #[rv o0, rv o1, .val .null] [(.ref o0)])) _
    refine XS.aloadN X7.here hx rfl (hb hby d1_21) rfl rfl ?_
    show Steps p.tables e below (T7.setTop (mkF m 22 #[rv o0, rv o1, .val .null] [.null, (.ref o0)])) _
    exact k
  refine own_c2 (putF X7 hx hZ hown (host := "") (Or.inl (hw _ (List.mem_of_getElem? (i := 90) rfl))) Via.refl e7 F_memory_o0 E_o0 (Or.inr ⟨(hw _ (List.mem_of_getElem? (i := 91) rfl)), rfl, hnm⟩) (hw _ (List.mem_of_getElem? (i := 1) rfl)) (ty := (.object "com/example/chartwell/chartwell/http/HeldMemory")) (by decide) rfl rfl rfl rfl (hb hby d1_22)) fun T8 h8 X8 e8 W8 => ?_
  replace F_memory_o0 := F_memory_o0.same W8
  replace E_o0 := E_o0.wr W8
  replace F_connections_o0 := F_connections_o0.other W8 (Or.inr (sn20 hw))
  replace F_name_o0 := F_name_o0.other W8 (Or.inr (sn21 hw))
  replace F_held_o0 := F_held_o0.other W8 (Or.inr (sn22 hw))
  replace F_heldLarge_o0 := F_heldLarge_o0.other W8 (Or.inr (sn23 hw))
  replace E_b3 := E_b3.wr W8
  replace F_map_b3 := F_map_b3.other W8 (Or.inl (Ne.symm ne_o0_b3))
  replace E_b3_2_5 := E_b3_2_5.wr W8
  replace F_loadFactor_b3_2_5 := F_loadFactor_b3_2_5.other W8 (Or.inl (Ne.symm ne_o0_b3_2_5))
  replace F_threshold_b3_2_5 := F_threshold_b3_2_5.other W8 (Or.inl (Ne.symm ne_o0_b3_2_5))
  replace F_putMode_b3_2_5 := F_putMode_b3_2_5.other W8 (Or.inl (Ne.symm ne_o0_b3_2_5))
  replace F_accessOrder_b3_2_5 := F_accessOrder_b3_2_5.other W8 (Or.inl (Ne.symm ne_o0_b3_2_5))
  replace K0 := K0.wr W8 (Or.inl (List.mem_of_getElem? (i := 0) rfl))
  replace Z0 := Nat.le_trans Z0 (Keep.of_wr W8).1
  replace N0 := Fr.snoc X8 N0 g_o0
  show own_Go p e below _ (T8.setTop (mkF m 25 #[rv o0, rv o1, .val .null] []))
  exact own_retV X8 Bd.notSynchronized hx Bd.returns (hb hby d1_25) (by
      rw [show T8.heap = h8 from e8]
      exact ⟨b3, b3_2_5, rfl, N0, K0, E_o0, F_connections_o0, F_name_o0, F_memory_o0, F_held_o0, F_heldLarge_o0, E_b3, F_map_b3, E_b3_2_5, F_loadFactor_b3_2_5, F_threshold_b3_2_5, F_putMode_b3_2_5, F_accessOrder_b3_2_5, sz_b3, sz_b3_2_5, ne_b3_b3_2_5⟩) (by decide) (by decide)

theorem d13_0 : decode prog_17_method_6_code 0 = .ok (.aload_n 0, 1) := by decide +kernel
theorem d13_1 : decode prog_17_method_6_code 1 = .ok (.dup, 1) := by decide +kernel
theorem d13_2 : decode prog_17_method_6_code 2 = .ok (.getfield 71, 3) := by decide +kernel
theorem d13_5 : decode prog_17_method_6_code 5 = .ok (.lload_n 1, 1) := by decide +kernel
theorem d13_6 : decode prog_17_method_6_code 6 = .ok (.ladd, 1) := by decide +kernel
theorem d13_7 : decode prog_17_method_6_code 7 = .ok (.putfield 71, 3) := by decide +kernel
theorem d13_10 : decode prog_17_method_6_code 10 = .ok (.aload_n 0, 1) := by decide +kernel
theorem d13_11 : decode prog_17_method_6_code 11 = .ok (.dup, 1) := by decide +kernel
theorem d13_12 : decode prog_17_method_6_code 12 = .ok (.getfield 75, 3) := by decide +kernel
theorem d13_15 : decode prog_17_method_6_code 15 = .ok (.lload_n 3, 1) := by decide +kernel
theorem d13_16 : decode prog_17_method_6_code 16 = .ok (.ladd, 1) := by decide +kernel
theorem d13_17 : decode prog_17_method_6_code 17 = .ok (.putfield 75, 3) := by decide +kernel
theorem d13_20 : decode prog_17_method_6_code 20 = .ok (.return_, 1) := by decide +kernel
theorem pn_13 : plainName "com/example/chartwell/chartwell/http/Client" = true := by first | (simp [plainName, overriddenIn]; done) | decide +kernel
theorem ef_13 (m : MethodId) (x0 : Addr) (x1 : Int64) (x2 : Int64) : entryFrame m #[(.ref x0), (.long x1), (.long x2)] 5 = mkF m 0 #[rv x0, oJ x1, oS, oJ x2, oS] [] := by first | (simp [entryFrame, mkF, argsToLocals, Value.category]; done) | rfl
def Q13_12 (Z : State) (o0 : Addr) (j0 : Int64) (j1 : Int64) (o3 : Addr) (o4 : Addr) (j2 : Int64) (j3 : Int64) (h0 : Heap) (n0 : Nat) (v : Option Value) (h : Heap) (L : List Loc) : Prop := v = none ∧ Fr n0 L ∧ Keep h0 h [o0] ∧ Exa Z h o0 "com/example/chartwell/chartwell/http/Client" ∧ Fld Z h o0 "com/example/chartwell/chartwell/http/Client" "connections" "Ljava/util/Set;" (.ref o3) ∧ Fld Z h o0 "com/example/chartwell/chartwell/http/Client" "name" "Ljava/lang/String;" (.ref o4) ∧ Fld Z h o0 "com/example/chartwell/chartwell/http/Client" "memory" "Lcom/example/chartwell/chartwell/http/HeldMemory;" .null ∧ Fld Z h o0 "com/example/chartwell/chartwell/http/Client" "held" "J" (.long (j2 + j0)) ∧ Fld Z h o0 "com/example/chartwell/chartwell/http/Client" "heldLarge" "J" (.long (j3 + j1))
set_option maxRecDepth 65536 in
set_option maxHeartbeats 40000000 in
theorem rm13_12 (l : Launch) (Z : State) (a0 : Array Value) (hw : ∀ d ∈ tables_1, d.before a0 Z = true) (ws : List Jvm.Cond) (o0 : Addr) (j0 : Int64) (j1 : Int64) (o3 : Addr) (o4 : Addr) (j2 : Int64) (j3 : Int64) (h0 : Heap) (n0 : Nat) (Z0 : n0 ≤ h0.size) (g_o0 : n0 ≤ o0) (E_o0 : Exa Z h0 o0 "com/example/chartwell/chartwell/http/Client") (F_connections_o0 : Fld Z h0 o0 "com/example/chartwell/chartwell/http/Client" "connections" "Ljava/util/Set;" (.ref o3)) (F_name_o0 : Fld Z h0 o0 "com/example/chartwell/chartwell/http/Client" "name" "Ljava/lang/String;" (.ref o4)) (F_memory_o0 : Fld Z h0 o0 "com/example/chartwell/chartwell/http/Client" "memory" "Lcom/example/chartwell/chartwell/http/HeldMemory;" .null) (F_held_o0 : Fld Z h0 o0 "com/example/chartwell/chartwell/http/Client" "held" "J" (.long j2)) (F_heldLarge_o0 : Fld Z h0 o0 "com/example/chartwell/chartwell/http/Client" "heldLarge" "J" (.long j3)) :
    MetFree l (⟨"com/example/chartwell/chartwell/http/Client", "count", "(JJ)V"⟩ : MethodName) (head1 (Jvm.Cond.code (⟨"com/example/chartwell/chartwell/http/Client", "count", "(JJ)V"⟩ : MethodName) prog_17_method_6_code 5 none :: ws) ({ frames := 0, cells := 0, slots := 0, locals := 0 } : Room)) (fun a U => a = #[(.ref o0), (.long j0), (.long j1)] ∧ Z.Warmed39 U.vm ∧ U.heap = h0) (fun _ _ _ _ _ => True) (fun _ U o U' => ∃ v L, o = .returned v ∧ Q13_12 Z o0 j0 j1 o3 o4 j2 j3 h0 n0 v U'.heap L ∧ FrameEnd U o U' L ({ frames := 0, cells := 0, slots := 0, locals := 0 } : Room).cells ({ frames := 0, cells := 0, slots := 0, locals := 0 } : Room).slots) := by
  refine MetFree.of_bodySF (plainFor_of_name pn_13) hisR ?_
  intro p e s m args below meth c s₁ Bd hml0 hP hK
  obtain ⟨rfl, hZ, hh⟩ := hP
  have hx := Bd.exec
  have hby := Bd.bytes
  have hml : c.maxLocals = 5 := hml0
  have hown : s.vm.findClass "com/example/chartwell/chartwell/http/Client" = some m.cls := findClass_of_methodNamed Bd.named
  have hnm := (name_of_methodNamed Bd.named Bd.method).1
  have X0 : Stand p l e ({ frames := 0, cells := 0, slots := 0, locals := 0 } : Room) s m #[(.ref o0), (.long j0), (.long j1)] below meth c s₁ [] 0 0 := Stand.of_body Bd
  have e0 : s₁.heap = h0 := by rw [← hh, Bd.state]; rfl
  have N0 := Fr.nil n0
  have K0 : Keep h0 h0 [o0] := Keep.refl h0 _
  change own_Go p e below (own_Post s (Q13_12 Z o0 j0 j1 o3 o4 j2 j3 h0 n0) ({ frames := 0, cells := 0, slots := 0, locals := 0 } : Room).cells ({ frames := 0, cells := 0, slots := 0, locals := 0 } : Room).slots) (s₁.setTop (entryFrame m #[(.ref o0), (.long j0), (.long j1)] 5))
  refine own_by (fun t k => castTop (ef_13 m o0 j0 j1) k) ?_
  show own_Go p e below _ (s₁.setTop (mkF m 0 #[rv o0, oJ j0, oS, oJ j1, oS] []))
  refine own_by (B := s₁.setTop (mkF m 2 #[rv o0, oJ j0, oS, oJ j1, oS] [(.ref o0), (.ref o0)])) (fun t k => ?_) ?_
  · show Steps p.tables e below (s₁.setTop (mkF m 0 #[rv o0, oJ j0, oS, oJ j1, oS] [])) _
    refine XS.aloadN X0.here hx rfl (hb hby d13_0) rfl rfl ?_
    show Steps p.tables e below (s₁.setTop (mkF m 1 #[rv o0, oJ j0, oS, oJ j1, oS] [(.ref o0)])) _
    refine XS.dup X0.here hx rfl (hb hby d13_1) rfl rfl ?_
    show Steps p.tables e below (s₁.setTop (mkF m 2 #[rv o0, oJ j0, oS, oJ j1, oS] [(.ref o0), (.ref o0)])) _
    exact k
  refine own_c1 (getF X0 hx hZ hown (host := "") (Or.inl (hw _ (List.mem_of_getElem? (i := 97) rfl))) Via.refl e0 F_held_o0 rfl rfl (hb hby d13_2)) fun T1 X1 e1 => ?_
  show own_Go p e below _ (T1.setTop (mkF m 5 #[rv o0, oJ j0, oS, oJ j1, oS] [(.long j2), (.ref o0)]))
  refine own_by (B := T1.setTop (mkF m 7 #[rv o0, oJ j0, oS, oJ j1, oS] [(.long (j2 + j0)), (.ref o0)])) (fun t k => ?_) ?_
  · show Steps p.tables e below (T1.setTop (mkF m 5 #[rv o0, oJ j0, oS, oJ j1, oS] [(.long j2), (.ref o0)])) _
    refine XS.lloadN X1.here hx rfl (hb hby d13_5) rfl ?_
    show Steps p.tables e below (T1.setTop (mkF m 6 #[rv o0, oJ j0, oS, oJ j1, oS] [(.long j0), (.long j2), (.ref o0)])) _
    refine XS.ladd X1.here hx rfl (hb hby d13_6) rfl ?_
    show Steps p.tables e below (T1.setTop (mkF m 7 #[rv o0, oJ j0, oS, oJ j1, oS] [(.long (j2 + j0)), (.ref o0)])) _
    exact k
  refine own_c2 (putF X1 hx hZ hown (host := "") (Or.inl (hw _ (List.mem_of_getElem? (i := 97) rfl))) Via.refl e1 F_held_o0 E_o0 (Or.inl (hw _ (List.mem_of_getElem? (i := 98) rfl))) (hw _ (List.mem_of_getElem? (i := 1) rfl)) (ty := .long) (by decide) rfl rfl rfl rfl (hb hby d13_7)) fun T2 h2 X2 e2 W2 => ?_
  replace F_held_o0 := F_held_o0.same W2
  replace E_o0 := E_o0.wr W2
  replace F_connections_o0 := F_connections_o0.other W2 (Or.inr (sn24 hw))
  replace F_name_o0 := F_name_o0.other W2 (Or.inr (sn25 hw))
  replace F_memory_o0 := F_memory_o0.other W2 (Or.inr (sn26 hw))
  replace F_heldLarge_o0 := F_heldLarge_o0.other W2 (Or.inr (sn27 hw))
  replace K0 := K0.wr W2 (Or.inl (List.mem_of_getElem? (i := 0) rfl))
  replace Z0 := Nat.le_trans Z0 (Keep.of_wr W2).1
  replace N0 := Fr.snoc X2 N0 g_o0
  show own_Go p e below _ (T2.setTop (mkF m 10 #[rv o0, oJ j0, oS, oJ j1, oS] []))
  refine own_by (B := T2.setTop (mkF m 12 #[rv o0, oJ j0, oS, oJ j1, oS] [(.ref o0), (.ref o0)])) (fun t k => ?_) ?_
  · show Steps p.tables e below (T2.setTop (mkF m 10 #[rv o0, oJ j0, oS, oJ j1, oS] [])) _
    refine XS.aloadN X2.here hx rfl (hb hby d13_10) rfl rfl ?_
    show Steps p.tables e below (T2.setTop (mkF m 11 #[rv o0, oJ j0, oS, oJ j1, oS] [(.ref o0)])) _
    refine XS.dup X2.here hx rfl (hb hby d13_11) rfl rfl ?_
    show Steps p.tables e below (T2.setTop (mkF m 12 #[rv o0, oJ j0, oS, oJ j1, oS] [(.ref o0), (.ref o0)])) _
    exact k
  refine own_c1 (getF X2 hx hZ hown (host := "") (Or.inl (hw _ (List.mem_of_getElem? (i := 99) rfl))) Via.refl e2 F_heldLarge_o0 rfl rfl (hb hby d13_12)) fun T3 X3 e3 => ?_
  show own_Go p e below _ (T3.setTop (mkF m 15 #[rv o0, oJ j0, oS, oJ j1, oS] [(.long j3), (.ref o0)]))
  refine own_by (B := T3.setTop (mkF m 17 #[rv o0, oJ j0, oS, oJ j1, oS] [(.long (j3 + j1)), (.ref o0)])) (fun t k => ?_) ?_
  · show Steps p.tables e below (T3.setTop (mkF m 15 #[rv o0, oJ j0, oS, oJ j1, oS] [(.long j3), (.ref o0)])) _
    refine XS.lloadN X3.here hx rfl (hb hby d13_15) rfl ?_
    show Steps p.tables e below (T3.setTop (mkF m 16 #[rv o0, oJ j0, oS, oJ j1, oS] [(.long j1), (.long j3), (.ref o0)])) _
    refine XS.ladd X3.here hx rfl (hb hby d13_16) rfl ?_
    show Steps p.tables e below (T3.setTop (mkF m 17 #[rv o0, oJ j0, oS, oJ j1, oS] [(.long (j3 + j1)), (.ref o0)])) _
    exact k
  refine own_c2 (putF X3 hx hZ hown (host := "") (Or.inl (hw _ (List.mem_of_getElem? (i := 99) rfl))) Via.refl e3 F_heldLarge_o0 E_o0 (Or.inl (hw _ (List.mem_of_getElem? (i := 100) rfl))) (hw _ (List.mem_of_getElem? (i := 1) rfl)) (ty := .long) (by decide) rfl rfl rfl rfl (hb hby d13_17)) fun T4 h4 X4 e4 W4 => ?_
  replace F_heldLarge_o0 := F_heldLarge_o0.same W4
  replace E_o0 := E_o0.wr W4
  replace F_connections_o0 := F_connections_o0.other W4 (Or.inr (sn28 hw))
  replace F_name_o0 := F_name_o0.other W4 (Or.inr (sn29 hw))
  replace F_memory_o0 := F_memory_o0.other W4 (Or.inr (sn30 hw))
  replace F_held_o0 := F_held_o0.other W4 (Or.inr (sn31 hw))
  replace K0 := K0.wr W4 (Or.inl (List.mem_of_getElem? (i := 0) rfl))
  replace Z0 := Nat.le_trans Z0 (Keep.of_wr W4).1
  replace N0 := Fr.snoc X4 N0 g_o0
  show own_Go p e below _ (T4.setTop (mkF m 20 #[rv o0, oJ j0, oS, oJ j1, oS] []))
  exact own_retV X4 Bd.notSynchronized hx Bd.returns (hb hby d13_20) (by
      rw [show T4.heap = h4 from e4]
      exact ⟨rfl, N0, K0, E_o0, F_connections_o0, F_name_o0, F_memory_o0, F_held_o0, F_heldLarge_o0⟩) (by decide) (by decide)

theorem d14_0 : decode prog_17_method_5_code 0 = .ok (.aload_n 1, 1) := by decide +kernel
theorem d14_1 : decode prog_17_method_5_code 1 = .ok (.getstatic 65, 3) := by decide +kernel
theorem d14_4 : decode prog_17_method_5_code 4 = .ok (.if_acmp .ne 10, 3) := by decide +kernel
theorem d14_7 : decode prog_17_method_5_code 7 = .ok (.aload_n 0, 1) := by decide +kernel
theorem d14_8 : decode prog_17_method_5_code 8 = .ok (.getfield 71, 3) := by decide +kernel
theorem d14_11 : decode prog_17_method_5_code 11 = .ok (.goto 7, 3) := by decide +kernel
theorem d14_18 : decode prog_17_method_5_code 18 = .ok (.lreturn, 1) := by decide +kernel
theorem pn_14 : plainName "com/example/chartwell/chartwell/http/Client" = true := by first | (simp [plainName, overriddenIn]; done) | decide +kernel
theorem ef_14 (m : MethodId) (x0 : Addr) (x1 : Addr) : entryFrame m #[(.ref x0), (.ref x1)] 2 = mkF m 0 #[rv x0, rv x1] [] := by first | (simp [entryFrame, mkF, argsToLocals, Value.category]; done) | rfl
def Q14_13 (Z : State) (o0 : Addr) (o1 : Addr) (j0 : Int64) (h0 : Heap) (n0 : Nat) (v : Option Value) (h : Heap) (L : List Loc) : Prop := v = some (.long j0) ∧ Fr n0 L ∧ h = h0
set_option maxRecDepth 65536 in
set_option maxHeartbeats 40000000 in
theorem rm14_13 (l : Launch) (Z : State) (a0 : Array Value) (hw : ∀ d ∈ tables_1, d.before a0 Z = true) (ws : List Jvm.Cond) (o0 : Addr) (o1 : Addr) (j0 : Int64) (h0 : Heap) (n0 : Nat) (Z0 : n0 ≤ h0.size) (F_held_o0 : Fld Z h0 o0 "com/example/chartwell/chartwell/http/Client" "held" "J" (.long j0)) (S_ALL : Sta Z Z.heap "com/example/chartwell/chartwell/http/HeldMemory$Bound" "ALL" "Lcom/example/chartwell/chartwell/http/HeldMemory$Bound;" (.ref o1)) (OZ : Old Z n0 h0) :
    MetFree l (⟨"com/example/chartwell/chartwell/http/Client", "held", "(Lcom/example/chartwell/chartwell/http/HeldMemory$Bound;)J"⟩ : MethodName) (head1 (Jvm.Cond.code (⟨"com/example/chartwell/chartwell/http/Client", "held", "(Lcom/example/chartwell/chartwell/http/HeldMemory$Bound;)J"⟩ : MethodName) prog_17_method_5_code 2 (some .long) :: ws) ({ frames := 0, cells := 0, slots := 0, locals := 0 } : Room)) (fun a U => a = #[(.ref o0), (.ref o1)] ∧ Z.Warmed39 U.vm ∧ U.heap = h0) (fun _ _ _ _ _ => True) (fun _ U o U' => ∃ v L, o = .returned v ∧ Q14_13 Z o0 o1 j0 h0 n0 v U'.heap L ∧ FrameEnd U o U' L ({ frames := 0, cells := 0, slots := 0, locals := 0 } : Room).cells ({ frames := 0, cells := 0, slots := 0, locals := 0 } : Room).slots) := by
  refine MetFree.of_bodySF (plainFor_of_name pn_14) hisR ?_
  intro p e s m args below meth c s₁ Bd hml0 hP hK
  obtain ⟨rfl, hZ, hh⟩ := hP
  have hx := Bd.exec
  have hby := Bd.bytes
  have hml : c.maxLocals = 2 := hml0
  have hown : s.vm.findClass "com/example/chartwell/chartwell/http/Client" = some m.cls := findClass_of_methodNamed Bd.named
  have hnm := (name_of_methodNamed Bd.named Bd.method).1
  have X0 : Stand p l e ({ frames := 0, cells := 0, slots := 0, locals := 0 } : Room) s m #[(.ref o0), (.ref o1)] below meth c s₁ [] 0 0 := Stand.of_body Bd
  have e0 : s₁.heap = h0 := by rw [← hh, Bd.state]; rfl
  have N0 := Fr.nil n0
  change own_Go p e below (own_Post s (Q14_13 Z o0 o1 j0 h0 n0) ({ frames := 0, cells := 0, slots := 0, locals := 0 } : Room).cells ({ frames := 0, cells := 0, slots := 0, locals := 0 } : Room).slots) (s₁.setTop (entryFrame m #[(.ref o0), (.ref o1)] 2))
  refine own_by (fun t k => castTop (ef_14 m o0 o1) k) ?_
  show own_Go p e below _ (s₁.setTop (mkF m 0 #[rv o0, rv o1] []))
  refine own_by (B := s₁.setTop (mkF m 1 #[rv o0, rv o1] [(.ref o1)])) (fun t k => ?_) ?_
  · show Steps p.tables e below (s₁.setTop (mkF m 0 #[rv o0, rv o1] [])) _
    refine XS.aloadN X0.here hx rfl (hb hby d14_0) rfl rfl ?_
    show Steps p.tables e below (s₁.setTop (mkF m 1 #[rv o0, rv o1] [(.ref o1)])) _
    exact k
  refine own_c1 (getS2 X0 hx hZ hown (host := "") (Or.inl (hw _ (List.mem_of_getElem? (i := 109) rfl))) Via.refl e0 (S_ALL.ext OZ.2) rfl (hb hby d14_1)) fun T1 X1 e1 => ?_
  show own_Go p e below _ (T1.setTop (mkF m 4 #[rv o0, rv o1] [(.ref o1), (.ref o1)]))
  refine own_by (fun t k => Jvm.RoadKit.acmp (g := (mkF m 4 #[rv o0, rv o1] [(.ref o1), (.ref o1)])) X1 hx rfl rfl rfl (pc0 := 4) (pc' := 7) (same := true) rfl (hb hby d14_4) rfl (decide_eq_true rfl) (by decide) (by decide) k) ?_
  show own_Go p e below _ (T1.setTop (mkF m 7 #[rv o0, rv o1] []))
  refine own_by (B := T1.setTop (mkF m 8 #[rv o0, rv o1] [(.ref o0)])) (fun t k => ?_) ?_
  · show Steps p.tables e below (T1.setTop (mkF m 7 #[rv o0, rv o1] [])) _
    refine XS.aloadN X1.here hx rfl (hb hby d14_7) rfl rfl ?_
    show Steps p.tables e below (T1.setTop (mkF m 8 #[rv o0, rv o1] [(.ref o0)])) _
    exact k
  refine own_c1 (getF X1 hx hZ hown (host := "") (Or.inl (hw _ (List.mem_of_getElem? (i := 97) rfl))) Via.refl e1 F_held_o0 rfl rfl (hb hby d14_8)) fun T2 X2 e2 => ?_
  show own_Go p e below _ (T2.setTop (mkF m 11 #[rv o0, rv o1] [(.long j0)]))
  refine own_by (B := T2.setTop (mkF m 18 #[rv o0, rv o1] [(.long j0)])) (fun t k => ?_) ?_
  · show Steps p.tables e below (T2.setTop (mkF m 11 #[rv o0, rv o1] [(.long j0)])) _
    refine XS.goto X2.here hx rfl (pc0 := 11) (pc' := 18) rfl (hb hby d14_11) (by decide) (by decide) ?_
    show Steps p.tables e below (T2.setTop (mkF m 18 #[rv o0, rv o1] [(.long j0)])) _
    exact k
  exact own_retL X2 Bd.notSynchronized hx Bd.returns (hb hby d14_18) (by
      rw [show T2.heap = h0 from e2]
      exact ⟨rfl, N0, rfl⟩) (by decide) (by decide)

theorem d14_14 : decode prog_17_method_5_code 14 = .ok (.aload_n 0, 1) := by decide +kernel
theorem d14_15 : decode prog_17_method_5_code 15 = .ok (.getfield 75, 3) := by decide +kernel
def Q14_14 (Z : State) (o0 : Addr) (o1 : Addr) (o2 : Addr) (j1 : Int64) (h0 : Heap) (n0 : Nat) (v : Option Value) (h : Heap) (L : List Loc) : Prop := v = some (.long j1) ∧ Fr n0 L ∧ h = h0
set_option maxRecDepth 65536 in
set_option maxHeartbeats 40000000 in
theorem rm14_14 (l : Launch) (Z : State) (a0 : Array Value) (hw : ∀ d ∈ tables_1, d.before a0 Z = true) (ws : List Jvm.Cond) (o0 : Addr) (o1 : Addr) (o2 : Addr) (j1 : Int64) (h0 : Heap) (n0 : Nat) (Z0 : n0 ≤ h0.size) (F_heldLarge_o0 : Fld Z h0 o0 "com/example/chartwell/chartwell/http/Client" "heldLarge" "J" (.long j1)) (S_ALL : Sta Z Z.heap "com/example/chartwell/chartwell/http/HeldMemory$Bound" "ALL" "Lcom/example/chartwell/chartwell/http/HeldMemory$Bound;" (.ref o2)) (OZ : Old Z n0 h0) (ne_o1_o2 : o1 ≠ o2) :
    MetFree l (⟨"com/example/chartwell/chartwell/http/Client", "held", "(Lcom/example/chartwell/chartwell/http/HeldMemory$Bound;)J"⟩ : MethodName) (head1 (Jvm.Cond.code (⟨"com/example/chartwell/chartwell/http/Client", "held", "(Lcom/example/chartwell/chartwell/http/HeldMemory$Bound;)J"⟩ : MethodName) prog_17_method_5_code 2 (some .long) :: ws) ({ frames := 0, cells := 0, slots := 0, locals := 0 } : Room)) (fun a U => a = #[(.ref o0), (.ref o1)] ∧ Z.Warmed39 U.vm ∧ U.heap = h0) (fun _ _ _ _ _ => True) (fun _ U o U' => ∃ v L, o = .returned v ∧ Q14_14 Z o0 o1 o2 j1 h0 n0 v U'.heap L ∧ FrameEnd U o U' L ({ frames := 0, cells := 0, slots := 0, locals := 0 } : Room).cells ({ frames := 0, cells := 0, slots := 0, locals := 0 } : Room).slots) := by
  refine MetFree.of_bodySF (plainFor_of_name pn_14) hisR ?_
  intro p e s m args below meth c s₁ Bd hml0 hP hK
  obtain ⟨rfl, hZ, hh⟩ := hP
  have hx := Bd.exec
  have hby := Bd.bytes
  have hml : c.maxLocals = 2 := hml0
  have hown : s.vm.findClass "com/example/chartwell/chartwell/http/Client" = some m.cls := findClass_of_methodNamed Bd.named
  have hnm := (name_of_methodNamed Bd.named Bd.method).1
  have X0 : Stand p l e ({ frames := 0, cells := 0, slots := 0, locals := 0 } : Room) s m #[(.ref o0), (.ref o1)] below meth c s₁ [] 0 0 := Stand.of_body Bd
  have e0 : s₁.heap = h0 := by rw [← hh, Bd.state]; rfl
  have N0 := Fr.nil n0
  change own_Go p e below (own_Post s (Q14_14 Z o0 o1 o2 j1 h0 n0) ({ frames := 0, cells := 0, slots := 0, locals := 0 } : Room).cells ({ frames := 0, cells := 0, slots := 0, locals := 0 } : Room).slots) (s₁.setTop (entryFrame m #[(.ref o0), (.ref o1)] 2))
  refine own_by (fun t k => castTop (ef_14 m o0 o1) k) ?_
  show own_Go p e below _ (s₁.setTop (mkF m 0 #[rv o0, rv o1] []))
  refine own_by (B := s₁.setTop (mkF m 1 #[rv o0, rv o1] [(.ref o1)])) (fun t k => ?_) ?_
  · show Steps p.tables e below (s₁.setTop (mkF m 0 #[rv o0, rv o1] [])) _
    refine XS.aloadN X0.here hx rfl (hb hby d14_0) rfl rfl ?_
    show Steps p.tables e below (s₁.setTop (mkF m 1 #[rv o0, rv o1] [(.ref o1)])) _
    exact k
  refine own_c1 (getS2 X0 hx hZ hown (host := "") (Or.inl (hw _ (List.mem_of_getElem? (i := 109) rfl))) Via.refl e0 (S_ALL.ext OZ.2) rfl (hb hby d14_1)) fun T1 X1 e1 => ?_
  show own_Go p e below _ (T1.setTop (mkF m 4 #[rv o0, rv o1] [(.ref o2), (.ref o1)]))
  refine own_by (fun t k => Jvm.RoadKit.acmp (g := (mkF m 4 #[rv o0, rv o1] [(.ref o2), (.ref o1)])) X1 hx rfl rfl rfl (pc0 := 4) (pc' := 14) (same := false) rfl (hb hby d14_4) rfl (decide_eq_false fun q => ne_o1_o2 (Value.ref.inj q)) (by decide) (by decide) k) ?_
  show own_Go p e below _ (T1.setTop (mkF m 14 #[rv o0, rv o1] []))
  refine own_by (B := T1.setTop (mkF m 15 #[rv o0, rv o1] [(.ref o0)])) (fun t k => ?_) ?_
  · show Steps p.tables e below (T1.setTop (mkF m 14 #[rv o0, rv o1] [])) _
    refine XS.aloadN X1.here hx rfl (hb hby d14_14) rfl rfl ?_
    show Steps p.tables e below (T1.setTop (mkF m 15 #[rv o0, rv o1] [(.ref o0)])) _
    exact k
  refine own_c1 (getF X1 hx hZ hown (host := "") (Or.inl (hw _ (List.mem_of_getElem? (i := 99) rfl))) Via.refl e1 F_heldLarge_o0 rfl rfl (hb hby d14_15)) fun T2 X2 e2 => ?_
  show own_Go p e below _ (T2.setTop (mkF m 18 #[rv o0, rv o1] [(.long j1)]))
  exact own_retL X2 Bd.notSynchronized hx Bd.returns (hb hby d14_18) (by
      rw [show T2.heap = h0 from e2]
      exact ⟨rfl, N0, rfl⟩) (by decide) (by decide)

theorem pn_0 : plainName "com/example/chartwell/chartwell/http/ClientCountPinLaw" = true := by first | (simp [plainName, overriddenIn]; done) | decide +kernel
theorem pd_0 : parseMethodDescriptor "(Ljava/lang/String;Lcom/example/chartwell/chartwell/http/HeldMemory;)V" = some ⟨[(.object "java/lang/String"), (.object "com/example/chartwell/chartwell/http/HeldMemory")], none⟩ := by decide +kernel
theorem pd_6 : parseMethodDescriptor "(JJ)V" = some ⟨[.long, .long], none⟩ := by decide +kernel
theorem pd_7 : parseMethodDescriptor "(Lcom/example/chartwell/chartwell/http/HeldMemory$Bound;)J" = some ⟨[(.object "com/example/chartwell/chartwell/http/HeldMemory$Bound")], some .long⟩ := by decide +kernel
theorem ef_0 (m : MethodId) (x0 : Int64) (x1 : Int64) (x2 : Int64) (x3 : Int64) : entryFrame m #[(.long x0), (.long x1), (.long x2), (.long x3)] maxLocals = mkF m 0 #[oJ x0, oS, oJ x1, oS, oJ x2, oS, oJ x3, oS, oU, oU, oU] [] := by first | (simp [entryFrame, mkF, argsToLocals, Value.category, maxLocals]; done) | rfl
def Q0 (Z : State) (q0 : Int64) (q1 : Int64) (q2 : Int64) (q3 : Int64) (w_ALL : Addr) (w_LARGE : Addr) (h0 : Heap) (n0 : Nat) (v : Option Value) (h : Heap) (L : List Loc) : Prop := v = some (.int (1 : Int32)) ∧ Fr n0 L
set_option maxRecDepth 65536 in
set_option maxHeartbeats 40000000 in
theorem rm0 (l : Launch) (Z : State) (a0 : Array Value) (hw : ∀ d ∈ tables_1, d.before a0 Z = true) (ws : List Jvm.Cond) (q0 : Int64) (q1 : Int64) (q2 : Int64) (q3 : Int64) (w_ALL : Addr) (w_LARGE : Addr) (h0 : Heap) (n0 : Nat) (Z0 : n0 ≤ h0.size) (OZ : Old Z n0 h0) (S_ALL : Sta Z Z.heap "com/example/chartwell/chartwell/http/HeldMemory$Bound" "ALL" "Lcom/example/chartwell/chartwell/http/HeldMemory$Bound;" (.ref w_ALL)) (S_LARGE : Sta Z Z.heap "com/example/chartwell/chartwell/http/HeldMemory$Bound" "LARGE" "Lcom/example/chartwell/chartwell/http/HeldMemory$Bound;" (.ref w_LARGE)) (ne_w_ALL_w_LARGE : w_ALL ≠ w_LARGE) :
    MetFree l x (head1 (Jvm.Cond.code x code maxLocals ret :: ws) room_1) (fun a U => a = #[(.long q0), (.long q1), (.long q2), (.long q3)] ∧ Z.Warmed39 U.vm ∧ U.heap = h0) (fun _ _ _ _ _ => True) (fun _ U o U' => ∃ v L, o = .returned v ∧ Q0 Z q0 q1 q2 q3 w_ALL w_LARGE h0 n0 v U'.heap L ∧ ReturnedEndW U o U' L room_1.cells room_1.slots) := by
  refine MetFree.of_bodySF (plainFor_of_name pn_0) hisR ?_
  intro p e s m args below meth c s₁ Bd hml0 hP hK
  obtain ⟨rfl, hZ, hh⟩ := hP
  have hx := Bd.exec
  have hby := Bd.bytes
  have hml : c.maxLocals = 11 := hml0
  have hown : s.vm.findClass "com/example/chartwell/chartwell/http/ClientCountPinLaw" = some m.cls := findClass_of_methodNamed Bd.named
  have hnm := (name_of_methodNamed Bd.named Bd.method).1
  have X0 : Stand p l e room_1 s m #[(.long q0), (.long q1), (.long q2), (.long q3)] below meth c s₁ [] 0 0 := Stand.of_body Bd
  have e0 : s₁.heap = h0 := by rw [← hh, Bd.state]; rfl
  have N0 := Fr.nil n0
  change own_Go p e below (own_PostW s (Q0 Z q0 q1 q2 q3 w_ALL w_LARGE h0 n0) room_1.cells room_1.slots) (s₁.setTop (entryFrame m #[(.long q0), (.long q1), (.long q2), (.long q3)] maxLocals))
  refine own_by (fun t k => castTop (ef_0 m q0 q1 q2 q3) k) ?_
  show own_Go p e below _ (s₁.setTop (mkF m 0 #[oJ q0, oS, oJ q1, oS, oJ q2, oS, oJ q3, oS, oU, oU, oU] []))
  obtain ⟨T1, h1, X1, e1, E1, A1, D1, -, st1⟩ := newO X0 hx hZ hown (hw _ (List.mem_of_getElem? (i := 0) rfl)) (hw _ (List.mem_of_getElem? (i := 1) rfl)) (hw _ (List.mem_of_getElem? (i := 2) rfl)) e0 (g := (mkF m 0 #[oJ q0, oS, oJ q1, oS, oJ q2, oS, oJ q3, oS, oU, oU, oU] [])) rfl (hb hby at_0) (by decide) (by decide)
  obtain ⟨b1, g1⟩ : ∃ z, z = h0.size := ⟨_, rfl⟩
  rw [← g1] at A1 D1 st1
  have g_b1 : n0 ≤ b1 := Nat.le_trans Z0 (Nat.le_of_eq g1.symm)
  replace OZ := OZ.ext E1
  replace Z0 := Nat.le_trans Z0 E1.1
  have E_b1 := A1
  have F_connections_b1 : Fld Z h1 b1 "com/example/chartwell/chartwell/http/Client" "connections" "Ljava/util/Set;" .null := D1 (Or.inr (hw _ (List.mem_of_getElem? (i := 87) rfl))) (ty := (.object "java/util/Set")) (by decide)
  have F_name_b1 : Fld Z h1 b1 "com/example/chartwell/chartwell/http/Client" "name" "Ljava/lang/String;" .null := D1 (Or.inr (hw _ (List.mem_of_getElem? (i := 89) rfl))) (ty := (.object "java/lang/String")) (by decide)
  have F_memory_b1 : Fld Z h1 b1 "com/example/chartwell/chartwell/http/Client" "memory" "Lcom/example/chartwell/chartwell/http/HeldMemory;" .null := D1 (Or.inr (hw _ (List.mem_of_getElem? (i := 91) rfl))) (ty := (.object "com/example/chartwell/chartwell/http/HeldMemory")) (by decide)
  have F_held_b1 : Fld Z h1 b1 "com/example/chartwell/chartwell/http/Client" "held" "J" (.long (0 : Int64)) := D1 (Or.inl (hw _ (List.mem_of_getElem? (i := 98) rfl))) (ty := .long) (by decide)
  have F_heldLarge_b1 : Fld Z h1 b1 "com/example/chartwell/chartwell/http/Client" "heldLarge" "J" (.long (0 : Int64)) := D1 (Or.inl (hw _ (List.mem_of_getElem? (i := 100) rfl))) (ty := .long) (by decide)
  refine own_by st1 ?_
  show own_Go p e below _ (T1.setTop (mkF m 3 #[oJ q0, oS, oJ q1, oS, oJ q2, oS, oJ q3, oS, oU, oU, oU] [(.ref b1)]))
  refine own_by (B := T1.setTop (mkF m 4 #[oJ q0, oS, oJ q1, oS, oJ q2, oS, oJ q3, oS, oU, oU, oU] [(.ref b1), (.ref b1)])) (fun t k => ?_) ?_
  · show Steps p.tables e below (T1.setTop (mkF m 3 #[oJ q0, oS, oJ q1, oS, oJ q2, oS, oJ q3, oS, oU, oU, oU] [(.ref b1)])) _
    refine XS.dup X1.here hx rfl (hb hby at_3) rfl rfl ?_
    show Steps p.tables e below (T1.setTop (mkF m 4 #[oJ q0, oS, oJ q1, oS, oJ q2, oS, oJ q3, oS, oU, oU, oU] [(.ref b1), (.ref b1)])) _
    exact k
  obtain ⟨sc, T2, h2, k1, X2, e2, E2, hSi, hk, hZ1, hown1, st2⟩ := ldcS (s := s) (vm0 := s.vm) (show Stand p l e room_1 (s.setVm s.vm) m _ below meth c _ _ _ _ from X1) hx hZ hown (hw _ (List.mem_of_getElem? (i := 3) rfl)) (own_wS hw) e1 ((State.WarmedH.refl s).since 0) (Nat.zero_le _) (g := (mkF m 4 #[oJ q0, oS, oJ q1, oS, oJ q2, oS, oJ q3, oS, oU, oU, oU] [(.ref b1), (.ref b1)])) rfl (hb hby at_4) (n := 4) (by decide) (by decide) (by decide) (by decide)
  replace E_b1 := E_b1.ext E2
  replace F_connections_b1 := F_connections_b1.ext E2
  replace F_name_b1 := F_name_b1.ext E2
  replace F_memory_b1 := F_memory_b1.ext E2
  replace F_held_b1 := F_held_b1.ext E2
  replace F_heldLarge_b1 := F_heldLarge_b1.ext E2
  replace OZ := OZ.ext E2
  replace Z0 := Nat.le_trans Z0 E2.1
  replace hZ := hZ1
  replace hown := hown1
  refine own_by st2 ?_
  show own_Go p e below _ (T2.setTop (mkF m 6 #[oJ q0, oS, oJ q1, oS, oJ q2, oS, oJ q3, oS, oU, oU, oU] [(.ref sc), (.ref b1), (.ref b1)]))
  refine own_by (B := T2.setTop (mkF m 7 #[oJ q0, oS, oJ q1, oS, oJ q2, oS, oJ q3, oS, oU, oU, oU] [.null, (.ref sc), (.ref b1), (.ref b1)])) (fun t k => ?_) ?_
  · show Steps p.tables e below (T2.setTop (mkF m 6 #[oJ q0, oS, oJ q1, oS, oJ q2, oS, oJ q3, oS, oU, oU, oU] [(.ref sc), (.ref b1), (.ref b1)])) _
    refine XS.aconstNull X2.here hx rfl (hb hby at_6) ?_
    show Steps p.tables e below (T2.setTop (mkF m 7 #[oJ q0, oS, oJ q1, oS, oJ q2, oS, oJ q3, oS, oU, oU, oU] [.null, (.ref sc), (.ref b1), (.ref b1)])) _
    exact k
  refine own_cc (own_callI X2 hx hZ (y := (⟨"com/example/chartwell/chartwell/http/Client", "<init>", "(Ljava/lang/String;Lcom/example/chartwell/chartwell/http/HeldMemory;)V"⟩ : MethodName)) rfl hown (hw _ (List.mem_of_getElem? (i := 11) rfl)) (hw _ (List.mem_of_getElem? (i := 12) rfl)) (hw _ (List.mem_of_getElem? (i := 2) rfl)) (hw _ (List.mem_of_getElem? (i := 13) rfl)) (by decide) (rm1_11 l Z a0 hw [] b1 sc (0 : Int64) (0 : Int64) h2 n0 Z0 g_b1 E_b1 F_connections_b1 F_name_b1 F_memory_b1 F_held_b1 F_heldLarge_b1) e2 1 (by decide) (by decide) (by decide) (by decide) rfl (by rw [hml]; rfl) b1 [(.ref sc), .null] [(.ref b1)] rfl (lenOf pd_0 rfl) rfl (by show 2 * 0 + _ ≤ _; exact Nat.le_of_eq rfl) (hb hby at_7)) fun T4 L4 v4 X4 hQ4 => ?_
  obtain ⟨b3_4, b3_2_5_4, rfl, N4, K4, E_b1', F_connections_b1', F_name_b1', F_memory_b1', F_held_b1', F_heldLarge_b1', E_b3_4', F_map_b3_4', E_b3_2_5_4', F_loadFactor_b3_2_5_4', F_threshold_b3_2_5_4', F_putMode_b3_2_5_4', F_accessOrder_b3_2_5_4', sz_b3_4', sz_b3_2_5_4', ne_b3_4_b3_2_5_4'⟩ := hQ4
  replace N0 := Fr.app N0 N4
  have g_b3_4 : n0 ≤ b3_4 := Nat.le_trans Z0 sz_b3_4'
  have ne_b1_b3_4 : b1 ≠ b3_4 := Nat.ne_of_lt (Nat.lt_of_lt_of_le E_b1.lt sz_b3_4')
  have g_b3_2_5_4 : n0 ≤ b3_2_5_4 := Nat.le_trans Z0 sz_b3_2_5_4'
  have ne_b1_b3_2_5_4 : b1 ≠ b3_2_5_4 := Nat.ne_of_lt (Nat.lt_of_lt_of_le E_b1.lt sz_b3_2_5_4')
  replace E_b1 := E_b1.keep K4
  replace hk := Nat.le_trans hk K4.1
  replace OZ := OZ.keep K4 (allS g_b1 all0)
  replace Z0 := Nat.le_trans Z0 K4.1
  replace E_b1 := E_b1'
  have F_connections_b1 := F_connections_b1'
  have F_name_b1 := F_name_b1'
  have F_memory_b1 := F_memory_b1'
  have F_held_b1 := F_held_b1'
  have F_heldLarge_b1 := F_heldLarge_b1'
  have E_b3_4 := E_b3_4'
  have F_map_b3_4 := F_map_b3_4'
  have E_b3_2_5_4 := E_b3_2_5_4'
  have F_loadFactor_b3_2_5_4 := F_loadFactor_b3_2_5_4'
  have F_threshold_b3_2_5_4 := F_threshold_b3_2_5_4'
  have F_putMode_b3_2_5_4 := F_putMode_b3_2_5_4'
  have F_accessOrder_b3_2_5_4 := F_accessOrder_b3_2_5_4'
  have ne_b3_4_b3_2_5_4 := ne_b3_4_b3_2_5_4'
  show own_Go p e below _ (T4.setTop (mkF m 10 #[oJ q0, oS, oJ q1, oS, oJ q2, oS, oJ q3, oS, oU, oU, oU] [(.ref b1)]))
  refine own_by (B := T4.setTop (mkF m 16 #[oJ q0, oS, oJ q1, oS, oJ q2, oS, oJ q3, oS, rv b1, oU, oU] [(.long q1), (.long q0), (.ref b1)])) (fun t k => ?_) ?_
  · show Steps p.tables e below (T4.setTop (mkF m 10 #[oJ q0, oS, oJ q1, oS, oJ q2, oS, oJ q3, oS, oU, oU, oU] [(.ref b1)])) _
    refine XS.astore X4.here hx rfl (hb hby at_10) rfl rfl (l' := #[oJ q0, oS, oJ q1, oS, oJ q2, oS, oJ q3, oS, rv b1, oU, oU]) rfl ?_
    show Steps p.tables e below (T4.setTop (mkF m 12 #[oJ q0, oS, oJ q1, oS, oJ q2, oS, oJ q3, oS, rv b1, oU, oU] [])) _
    refine XS.aload X4.here hx rfl (hb hby at_12) rfl rfl ?_
    show Steps p.tables e below (T4.setTop (mkF m 14 #[oJ q0, oS, oJ q1, oS, oJ q2, oS, oJ q3, oS, rv b1, oU, oU] [(.ref b1)])) _
    refine XS.lloadN X4.here hx rfl (hb hby at_14) rfl ?_
    show Steps p.tables e below (T4.setTop (mkF m 15 #[oJ q0, oS, oJ q1, oS, oJ q2, oS, oJ q3, oS, rv b1, oU, oU] [(.long q0), (.ref b1)])) _
    refine XS.lloadN X4.here hx rfl (hb hby at_15) rfl ?_
    show Steps p.tables e below (T4.setTop (mkF m 16 #[oJ q0, oS, oJ q1, oS, oJ q2, oS, oJ q3, oS, rv b1, oU, oU] [(.long q1), (.long q0), (.ref b1)])) _
    exact k
  refine own_cc (own_callV X4 hx hZ (y := (⟨"com/example/chartwell/chartwell/http/Client", "count", "(JJ)V"⟩ : MethodName)) (z := (⟨"com/example/chartwell/chartwell/http/Client", "count", "(JJ)V"⟩ : MethodName)) hown (hw _ (List.mem_of_getElem? (i := 92) rfl)) (hw _ (List.mem_of_getElem? (i := 93) rfl)) (notFace_of_selects (args := #[]) (mvT hZ (hw _ (List.mem_of_getElem? (i := 95) rfl)))) (hw _ (List.mem_of_getElem? (i := 95) rfl)) (hw _ (List.mem_of_getElem? (i := 94) rfl)) (hw _ (List.mem_of_getElem? (i := 2) rfl)) (hw _ (List.mem_of_getElem? (i := 96) rfl)) (by decide) (rm13_12 l Z a0 hw [] b1 q0 q1 b3_4 sc (0 : Int64) (0 : Int64) T4.heap n0 Z0 g_b1 E_b1 F_connections_b1 F_name_b1 F_memory_b1 F_held_b1 F_heldLarge_b1) (rfl : T4.heap = _) 0 (by decide) (by decide) (by decide) (by decide) rfl (by rw [hml]; rfl) b1 E_b1 [(.long q0), (.long q1)] [] rfl (lenOf pd_6 rfl) rfl (by show 2 * 0 + _ ≤ _; exact Nat.le_of_eq rfl) (hb hby at_16)) fun T6 L6 v6 X6 hQ6 => ?_
  obtain ⟨rfl, N6, K6, E_b1', F_connections_b1', F_name_b1', F_memory_b1', F_held_b1', F_heldLarge_b1'⟩ := hQ6
  replace N0 := Fr.app N0 N6
  replace E_b1 := E_b1.keep K6
  replace hk := Nat.le_trans hk K6.1
  replace E_b3_4 := E_b3_4.keep K6
  replace F_map_b3_4 := F_map_b3_4.keep K6 (ninS (Ne.symm ne_b1_b3_4) nin0)
  replace E_b3_2_5_4 := E_b3_2_5_4.keep K6
  replace F_loadFactor_b3_2_5_4 := F_loadFactor_b3_2_5_4.keep K6 (ninS (Ne.symm ne_b1_b3_2_5_4) nin0)
  replace F_threshold_b3_2_5_4 := F_threshold_b3_2_5_4.keep K6 (ninS (Ne.symm ne_b1_b3_2_5_4) nin0)
  replace F_putMode_b3_2_5_4 := F_putMode_b3_2_5_4.keep K6 (ninS (Ne.symm ne_b1_b3_2_5_4) nin0)
  replace F_accessOrder_b3_2_5_4 := F_accessOrder_b3_2_5_4.keep K6 (ninS (Ne.symm ne_b1_b3_2_5_4) nin0)
  replace OZ := OZ.keep K6 (allS g_b1 all0)
  replace Z0 := Nat.le_trans Z0 K6.1
  replace E_b1 := E_b1'
  have F_connections_b1 := F_connections_b1'
  have F_name_b1 := F_name_b1'
  have F_memory_b1 := F_memory_b1'
  have F_held_b1 := F_held_b1'
  have F_heldLarge_b1 := F_heldLarge_b1'
  show own_Go p e below _ (T6.setTop (mkF m 19 #[oJ q0, oS, oJ q1, oS, oJ q2, oS, oJ q3, oS, rv b1, oU, oU] []))
  refine own_by (B := T6.setTop (mkF m 21 #[oJ q0, oS, oJ q1, oS, oJ q2, oS, oJ q3, oS, rv b1, oU, oU] [(.ref b1)])) (fun t k => ?_) ?_
  · show Steps p.tables e below (T6.setTop (mkF m 19 #[oJ q0, oS, oJ q1, oS, oJ q2, oS, oJ q3, oS, rv b1, oU, oU] [])) _
    refine XS.aload X6.here hx rfl (hb hby at_19) rfl rfl ?_
    show Steps p.tables e below (T6.setTop (mkF m 21 #[oJ q0, oS, oJ q1, oS, oJ q2, oS, oJ q3, oS, rv b1, oU, oU] [(.ref b1)])) _
    exact k
  refine own_c1 (getS2 X6 hx hZ hown (host := "") (Or.inl (hw _ (List.mem_of_getElem? (i := 101) rfl))) Via.refl rfl (S_ALL.ext OZ.2) rfl (hb hby at_21)) fun T7 X7 e7 => ?_
  show own_Go p e below _ (T7.setTop (mkF m 24 #[oJ q0, oS, oJ q1, oS, oJ q2, oS, oJ q3, oS, rv b1, oU, oU] [(.ref w_ALL), (.ref b1)]))
  refine own_cc (own_callV X7 hx hZ (y := (⟨"com/example/chartwell/chartwell/http/Client", "held", "(Lcom/example/chartwell/chartwell/http/HeldMemory$Bound;)J"⟩ : MethodName)) (z := (⟨"com/example/chartwell/chartwell/http/Client", "held", "(Lcom/example/chartwell/chartwell/http/HeldMemory$Bound;)J"⟩ : MethodName)) hown (hw _ (List.mem_of_getElem? (i := 104) rfl)) (hw _ (List.mem_of_getElem? (i := 105) rfl)) (notFace_of_selects (args := #[]) (mvT hZ (hw _ (List.mem_of_getElem? (i := 107) rfl)))) (hw _ (List.mem_of_getElem? (i := 107) rfl)) (hw _ (List.mem_of_getElem? (i := 106) rfl)) (hw _ (List.mem_of_getElem? (i := 2) rfl)) (hw _ (List.mem_of_getElem? (i := 108) rfl)) (by decide) (rm14_13 l Z a0 hw [] b1 w_ALL ((0 : Int64) + q0) T6.heap n0 Z0 F_held_b1 S_ALL OZ) e7 0 (by decide) (by decide) (by decide) (by decide) rfl (by rw [hml]; rfl) b1 E_b1 [(.ref w_ALL)] [] rfl (lenOf pd_7 rfl) rfl (by show 2 * 0 + _ ≤ _; exact Nat.le_of_eq rfl) (hb hby at_24)) fun T9 L9 v9 X9 hQ9 => ?_
  obtain ⟨rfl, N9, e9⟩ := hQ9
  replace N0 := Fr.app N0 N9
  show own_Go p e below _ (T9.setTop (mkF m 27 #[oJ q0, oS, oJ q1, oS, oJ q2, oS, oJ q3, oS, rv b1, oU, oU] [(.long ((0 : Int64) + q0))]))
  refine own_by (B := T9.setTop (mkF m 34 #[oJ q0, oS, oJ q1, oS, oJ q2, oS, oJ q3, oS, rv b1, oU, oU] [(.ref b1)])) (fun t k => ?_) ?_
  · show Steps p.tables e below (T9.setTop (mkF m 27 #[oJ q0, oS, oJ q1, oS, oJ q2, oS, oJ q3, oS, rv b1, oU, oU] [(.long ((0 : Int64) + q0))])) _
    refine XS.lloadN X9.here hx rfl (hb hby at_27) rfl ?_
    show Steps p.tables e below (T9.setTop (mkF m 28 #[oJ q0, oS, oJ q1, oS, oJ q2, oS, oJ q3, oS, rv b1, oU, oU] [(.long q0), (.long ((0 : Int64) + q0))])) _
    refine XS.lcmp X9.here hx rfl (hb hby at_28) rfl ?_
    show Steps p.tables e below (T9.setTop (mkF m 29 #[oJ q0, oS, oJ q1, oS, oJ q2, oS, oJ q3, oS, rv b1, oU, oU] [(.int (lcmpW ((0 : Int64) + q0) q0))])) _
    refine XS.ifNo X9.here hx rfl (hb hby at_29) rfl ((if0 _ _).trans (teq ((lw_eq _ _).mpr (by rw [Int64.zero_add]))).2) ?_
    show Steps p.tables e below (T9.setTop (mkF m 32 #[oJ q0, oS, oJ q1, oS, oJ q2, oS, oJ q3, oS, rv b1, oU, oU] [])) _
    refine XS.aload X9.here hx rfl (hb hby at_32) rfl rfl ?_
    show Steps p.tables e below (T9.setTop (mkF m 34 #[oJ q0, oS, oJ q1, oS, oJ q2, oS, oJ q3, oS, rv b1, oU, oU] [(.ref b1)])) _
    exact k
  refine own_c1 (getS2 X9 hx hZ hown (host := "") (Or.inl (hw _ (List.mem_of_getElem? (i := 110) rfl))) Via.refl e9 (S_LARGE.ext OZ.2) rfl (hb hby at_34)) fun T10 X10 e10 => ?_
  show own_Go p e below _ (T10.setTop (mkF m 37 #[oJ q0, oS, oJ q1, oS, oJ q2, oS, oJ q3, oS, rv b1, oU, oU] [(.ref w_LARGE), (.ref b1)]))
  refine own_cc (own_callV X10 hx hZ (y := (⟨"com/example/chartwell/chartwell/http/Client", "held", "(Lcom/example/chartwell/chartwell/http/HeldMemory$Bound;)J"⟩ : MethodName)) (z := (⟨"com/example/chartwell/chartwell/http/Client", "held", "(Lcom/example/chartwell/chartwell/http/HeldMemory$Bound;)J"⟩ : MethodName)) hown (hw _ (List.mem_of_getElem? (i := 104) rfl)) (hw _ (List.mem_of_getElem? (i := 105) rfl)) (notFace_of_selects (args := #[]) (mvT hZ (hw _ (List.mem_of_getElem? (i := 107) rfl)))) (hw _ (List.mem_of_getElem? (i := 107) rfl)) (hw _ (List.mem_of_getElem? (i := 106) rfl)) (hw _ (List.mem_of_getElem? (i := 2) rfl)) (hw _ (List.mem_of_getElem? (i := 108) rfl)) (by decide) (rm14_14 l Z a0 hw [] b1 w_LARGE w_ALL ((0 : Int64) + q1) T6.heap n0 Z0 F_heldLarge_b1 S_ALL OZ (Ne.symm ne_w_ALL_w_LARGE)) e10 0 (by decide) (by decide) (by decide) (by decide) rfl (by rw [hml]; rfl) b1 E_b1 [(.ref w_LARGE)] [] rfl (lenOf pd_7 rfl) rfl (by show 2 * 0 + _ ≤ _; exact Nat.le_of_eq rfl) (hb hby at_37)) fun T12 L12 v12 X12 hQ12 => ?_
  obtain ⟨rfl, N12, e12⟩ := hQ12
  replace N0 := Fr.app N0 N12
  show own_Go p e below _ (T12.setTop (mkF m 40 #[oJ q0, oS, oJ q1, oS, oJ q2, oS, oJ q3, oS, rv b1, oU, oU] [(.long ((0 : Int64) + q1))]))
  refine own_by (B := T12.setTop (mkF m 58 #[oJ q0, oS, oJ q1, oS, oJ q2, oS, oJ q3, oS, rv b1, iv (1 : Int32), oU] [(.long q3), (.long q2), (.ref b1)])) (fun t k => ?_) ?_
  · show Steps p.tables e below (T12.setTop (mkF m 40 #[oJ q0, oS, oJ q1, oS, oJ q2, oS, oJ q3, oS, rv b1, oU, oU] [(.long ((0 : Int64) + q1))])) _
    refine XS.lloadN X12.here hx rfl (hb hby at_40) rfl ?_
    show Steps p.tables e below (T12.setTop (mkF m 41 #[oJ q0, oS, oJ q1, oS, oJ q2, oS, oJ q3, oS, rv b1, oU, oU] [(.long q1), (.long ((0 : Int64) + q1))])) _
    refine XS.lcmp X12.here hx rfl (hb hby at_41) rfl ?_
    show Steps p.tables e below (T12.setTop (mkF m 42 #[oJ q0, oS, oJ q1, oS, oJ q2, oS, oJ q3, oS, rv b1, oU, oU] [(.int (lcmpW ((0 : Int64) + q1) q1))])) _
    refine XS.ifNo X12.here hx rfl (hb hby at_42) rfl ((if0 _ _).trans (teq ((lw_eq _ _).mpr (by rw [Int64.zero_add]))).2) ?_
    show Steps p.tables e below (T12.setTop (mkF m 45 #[oJ q0, oS, oJ q1, oS, oJ q2, oS, oJ q3, oS, rv b1, oU, oU] [])) _
    refine XS.iconst X12.here hx rfl (hb hby at_45) ?_
    show Steps p.tables e below (T12.setTop (mkF m 46 #[oJ q0, oS, oJ q1, oS, oJ q2, oS, oJ q3, oS, rv b1, oU, oU] [(.int (1 : Int32))])) _
    refine XS.goto X12.here hx rfl (pc0 := 46) (pc' := 50) rfl (hb hby at_46) (by decide) (by decide) ?_
    show Steps p.tables e below (T12.setTop (mkF m 50 #[oJ q0, oS, oJ q1, oS, oJ q2, oS, oJ q3, oS, rv b1, oU, oU] [(.int (1 : Int32))])) _
    refine XS.istore X12.here hx rfl (hb hby at_50) rfl (l' := #[oJ q0, oS, oJ q1, oS, oJ q2, oS, oJ q3, oS, rv b1, iv (1 : Int32), oU]) rfl ?_
    show Steps p.tables e below (T12.setTop (mkF m 52 #[oJ q0, oS, oJ q1, oS, oJ q2, oS, oJ q3, oS, rv b1, iv (1 : Int32), oU] [])) _
    refine XS.aload X12.here hx rfl (hb hby at_52) rfl rfl ?_
    show Steps p.tables e below (T12.setTop (mkF m 54 #[oJ q0, oS, oJ q1, oS, oJ q2, oS, oJ q3, oS, rv b1, iv (1 : Int32), oU] [(.ref b1)])) _
    refine XS.lload X12.here hx rfl (hb hby at_54) rfl ?_
    show Steps p.tables e below (T12.setTop (mkF m 56 #[oJ q0, oS, oJ q1, oS, oJ q2, oS, oJ q3, oS, rv b1, iv (1 : Int32), oU] [(.long q2), (.ref b1)])) _
    refine XS.lload X12.here hx rfl (hb hby at_56) rfl ?_
    show Steps p.tables e below (T12.setTop (mkF m 58 #[oJ q0, oS, oJ q1, oS, oJ q2, oS, oJ q3, oS, rv b1, iv (1 : Int32), oU] [(.long q3), (.long q2), (.ref b1)])) _
    exact k
  refine own_cc (own_callV X12 hx hZ (y := (⟨"com/example/chartwell/chartwell/http/Client", "count", "(JJ)V"⟩ : MethodName)) (z := (⟨"com/example/chartwell/chartwell/http/Client", "count", "(JJ)V"⟩ : MethodName)) hown (hw _ (List.mem_of_getElem? (i := 92) rfl)) (hw _ (List.mem_of_getElem? (i := 93) rfl)) (notFace_of_selects (args := #[]) (mvT hZ (hw _ (List.mem_of_getElem? (i := 95) rfl)))) (hw _ (List.mem_of_getElem? (i := 95) rfl)) (hw _ (List.mem_of_getElem? (i := 94) rfl)) (hw _ (List.mem_of_getElem? (i := 2) rfl)) (hw _ (List.mem_of_getElem? (i := 96) rfl)) (by decide) (rm13_12 l Z a0 hw [] b1 q2 q3 b3_4 sc ((0 : Int64) + q0) ((0 : Int64) + q1) T6.heap n0 Z0 g_b1 E_b1 F_connections_b1 F_name_b1 F_memory_b1 F_held_b1 F_heldLarge_b1) e12 0 (by decide) (by decide) (by decide) (by decide) rfl (by rw [hml]; rfl) b1 E_b1 [(.long q2), (.long q3)] [] rfl (lenOf pd_6 rfl) rfl (by show 2 * 0 + _ ≤ _; exact Nat.le_of_eq rfl) (hb hby at_58)) fun T14 L14 v14 X14 hQ14 => ?_
  obtain ⟨rfl, N14, K14, E_b1', F_connections_b1', F_name_b1', F_memory_b1', F_held_b1', F_heldLarge_b1'⟩ := hQ14
  replace N0 := Fr.app N0 N14
  replace E_b1 := E_b1.keep K14
  replace hk := Nat.le_trans hk K14.1
  replace E_b3_4 := E_b3_4.keep K14
  replace F_map_b3_4 := F_map_b3_4.keep K14 (ninS (Ne.symm ne_b1_b3_4) nin0)
  replace E_b3_2_5_4 := E_b3_2_5_4.keep K14
  replace F_loadFactor_b3_2_5_4 := F_loadFactor_b3_2_5_4.keep K14 (ninS (Ne.symm ne_b1_b3_2_5_4) nin0)
  replace F_threshold_b3_2_5_4 := F_threshold_b3_2_5_4.keep K14 (ninS (Ne.symm ne_b1_b3_2_5_4) nin0)
  replace F_putMode_b3_2_5_4 := F_putMode_b3_2_5_4.keep K14 (ninS (Ne.symm ne_b1_b3_2_5_4) nin0)
  replace F_accessOrder_b3_2_5_4 := F_accessOrder_b3_2_5_4.keep K14 (ninS (Ne.symm ne_b1_b3_2_5_4) nin0)
  replace OZ := OZ.keep K14 (allS g_b1 all0)
  replace Z0 := Nat.le_trans Z0 K14.1
  replace E_b1 := E_b1'
  have F_connections_b1 := F_connections_b1'
  have F_name_b1 := F_name_b1'
  have F_memory_b1 := F_memory_b1'
  have F_held_b1 := F_held_b1'
  have F_heldLarge_b1 := F_heldLarge_b1'
  show own_Go p e below _ (T14.setTop (mkF m 61 #[oJ q0, oS, oJ q1, oS, oJ q2, oS, oJ q3, oS, rv b1, iv (1 : Int32), oU] []))
  refine own_by (B := T14.setTop (mkF m 63 #[oJ q0, oS, oJ q1, oS, oJ q2, oS, oJ q3, oS, rv b1, iv (1 : Int32), oU] [(.ref b1)])) (fun t k => ?_) ?_
  · show Steps p.tables e below (T14.setTop (mkF m 61 #[oJ q0, oS, oJ q1, oS, oJ q2, oS, oJ q3, oS, rv b1, iv (1 : Int32), oU] [])) _
    refine XS.aload X14.here hx rfl (hb hby at_61) rfl rfl ?_
    show Steps p.tables e below (T14.setTop (mkF m 63 #[oJ q0, oS, oJ q1, oS, oJ q2, oS, oJ q3, oS, rv b1, iv (1 : Int32), oU] [(.ref b1)])) _
    exact k
  refine own_c1 (getS2 X14 hx hZ hown (host := "") (Or.inl (hw _ (List.mem_of_getElem? (i := 101) rfl))) Via.refl rfl (S_ALL.ext OZ.2) rfl (hb hby at_63)) fun T15 X15 e15 => ?_
  show own_Go p e below _ (T15.setTop (mkF m 66 #[oJ q0, oS, oJ q1, oS, oJ q2, oS, oJ q3, oS, rv b1, iv (1 : Int32), oU] [(.ref w_ALL), (.ref b1)]))
  refine own_cc (own_callV X15 hx hZ (y := (⟨"com/example/chartwell/chartwell/http/Client", "held", "(Lcom/example/chartwell/chartwell/http/HeldMemory$Bound;)J"⟩ : MethodName)) (z := (⟨"com/example/chartwell/chartwell/http/Client", "held", "(Lcom/example/chartwell/chartwell/http/HeldMemory$Bound;)J"⟩ : MethodName)) hown (hw _ (List.mem_of_getElem? (i := 104) rfl)) (hw _ (List.mem_of_getElem? (i := 105) rfl)) (notFace_of_selects (args := #[]) (mvT hZ (hw _ (List.mem_of_getElem? (i := 107) rfl)))) (hw _ (List.mem_of_getElem? (i := 107) rfl)) (hw _ (List.mem_of_getElem? (i := 106) rfl)) (hw _ (List.mem_of_getElem? (i := 2) rfl)) (hw _ (List.mem_of_getElem? (i := 108) rfl)) (by decide) (rm14_13 l Z a0 hw [] b1 w_ALL (((0 : Int64) + q0) + q2) T14.heap n0 Z0 F_held_b1 S_ALL OZ) e15 0 (by decide) (by decide) (by decide) (by decide) rfl (by rw [hml]; rfl) b1 E_b1 [(.ref w_ALL)] [] rfl (lenOf pd_7 rfl) rfl (by show 2 * 0 + _ ≤ _; exact Nat.le_of_eq rfl) (hb hby at_66)) fun T17 L17 v17 X17 hQ17 => ?_
  obtain ⟨rfl, N17, e17⟩ := hQ17
  replace N0 := Fr.app N0 N17
  show own_Go p e below _ (T17.setTop (mkF m 69 #[oJ q0, oS, oJ q1, oS, oJ q2, oS, oJ q3, oS, rv b1, iv (1 : Int32), oU] [(.long (((0 : Int64) + q0) + q2))]))
  refine own_by (B := T17.setTop (mkF m 79 #[oJ q0, oS, oJ q1, oS, oJ q2, oS, oJ q3, oS, rv b1, iv (1 : Int32), oU] [(.ref b1)])) (fun t k => ?_) ?_
  · show Steps p.tables e below (T17.setTop (mkF m 69 #[oJ q0, oS, oJ q1, oS, oJ q2, oS, oJ q3, oS, rv b1, iv (1 : Int32), oU] [(.long (((0 : Int64) + q0) + q2))])) _
    refine XS.lloadN X17.here hx rfl (hb hby at_69) rfl ?_
    show Steps p.tables e below (T17.setTop (mkF m 70 #[oJ q0, oS, oJ q1, oS, oJ q2, oS, oJ q3, oS, rv b1, iv (1 : Int32), oU] [(.long q0), (.long (((0 : Int64) + q0) + q2))])) _
    refine XS.lload X17.here hx rfl (hb hby at_70) rfl ?_
    show Steps p.tables e below (T17.setTop (mkF m 72 #[oJ q0, oS, oJ q1, oS, oJ q2, oS, oJ q3, oS, rv b1, iv (1 : Int32), oU] [(.long q2), (.long q0), (.long (((0 : Int64) + q0) + q2))])) _
    refine XS.ladd X17.here hx rfl (hb hby at_72) rfl ?_
    show Steps p.tables e below (T17.setTop (mkF m 73 #[oJ q0, oS, oJ q1, oS, oJ q2, oS, oJ q3, oS, rv b1, iv (1 : Int32), oU] [(.long (q0 + q2)), (.long (((0 : Int64) + q0) + q2))])) _
    refine XS.lcmp X17.here hx rfl (hb hby at_73) rfl ?_
    show Steps p.tables e below (T17.setTop (mkF m 74 #[oJ q0, oS, oJ q1, oS, oJ q2, oS, oJ q3, oS, rv b1, iv (1 : Int32), oU] [(.int (lcmpW (((0 : Int64) + q0) + q2) (q0 + q2)))])) _
    refine XS.ifNo X17.here hx rfl (hb hby at_74) rfl ((if0 _ _).trans (teq ((lw_eq _ _).mpr (by rw [Int64.zero_add]))).2) ?_
    show Steps p.tables e below (T17.setTop (mkF m 77 #[oJ q0, oS, oJ q1, oS, oJ q2, oS, oJ q3, oS, rv b1, iv (1 : Int32), oU] [])) _
    refine XS.aload X17.here hx rfl (hb hby at_77) rfl rfl ?_
    show Steps p.tables e below (T17.setTop (mkF m 79 #[oJ q0, oS, oJ q1, oS, oJ q2, oS, oJ q3, oS, rv b1, iv (1 : Int32), oU] [(.ref b1)])) _
    exact k
  refine own_c1 (getS2 X17 hx hZ hown (host := "") (Or.inl (hw _ (List.mem_of_getElem? (i := 110) rfl))) Via.refl e17 (S_LARGE.ext OZ.2) rfl (hb hby at_79)) fun T18 X18 e18 => ?_
  show own_Go p e below _ (T18.setTop (mkF m 82 #[oJ q0, oS, oJ q1, oS, oJ q2, oS, oJ q3, oS, rv b1, iv (1 : Int32), oU] [(.ref w_LARGE), (.ref b1)]))
  refine own_cc (own_callV X18 hx hZ (y := (⟨"com/example/chartwell/chartwell/http/Client", "held", "(Lcom/example/chartwell/chartwell/http/HeldMemory$Bound;)J"⟩ : MethodName)) (z := (⟨"com/example/chartwell/chartwell/http/Client", "held", "(Lcom/example/chartwell/chartwell/http/HeldMemory$Bound;)J"⟩ : MethodName)) hown (hw _ (List.mem_of_getElem? (i := 104) rfl)) (hw _ (List.mem_of_getElem? (i := 105) rfl)) (notFace_of_selects (args := #[]) (mvT hZ (hw _ (List.mem_of_getElem? (i := 107) rfl)))) (hw _ (List.mem_of_getElem? (i := 107) rfl)) (hw _ (List.mem_of_getElem? (i := 106) rfl)) (hw _ (List.mem_of_getElem? (i := 2) rfl)) (hw _ (List.mem_of_getElem? (i := 108) rfl)) (by decide) (rm14_14 l Z a0 hw [] b1 w_LARGE w_ALL (((0 : Int64) + q1) + q3) T14.heap n0 Z0 F_heldLarge_b1 S_ALL OZ (Ne.symm ne_w_ALL_w_LARGE)) e18 0 (by decide) (by decide) (by decide) (by decide) rfl (by rw [hml]; rfl) b1 E_b1 [(.ref w_LARGE)] [] rfl (lenOf pd_7 rfl) rfl (by show 2 * 0 + _ ≤ _; exact Nat.le_of_eq rfl) (hb hby at_82)) fun T20 L20 v20 X20 hQ20 => ?_
  obtain ⟨rfl, N20, e20⟩ := hQ20
  replace N0 := Fr.app N0 N20
  show own_Go p e below _ (T20.setTop (mkF m 85 #[oJ q0, oS, oJ q1, oS, oJ q2, oS, oJ q3, oS, rv b1, iv (1 : Int32), oU] [(.long (((0 : Int64) + q1) + q3))]))
  refine own_by (B := T20.setTop (mkF m 115 #[oJ q0, oS, oJ q1, oS, oJ q2, oS, oJ q3, oS, rv b1, iv (1 : Int32), iv (1 : Int32)] [(.int (1 : Int32))])) (fun t k => ?_) ?_
  · show Steps p.tables e below (T20.setTop (mkF m 85 #[oJ q0, oS, oJ q1, oS, oJ q2, oS, oJ q3, oS, rv b1, iv (1 : Int32), oU] [(.long (((0 : Int64) + q1) + q3))])) _
    refine XS.lloadN X20.here hx rfl (hb hby at_85) rfl ?_
    show Steps p.tables e below (T20.setTop (mkF m 86 #[oJ q0, oS, oJ q1, oS, oJ q2, oS, oJ q3, oS, rv b1, iv (1 : Int32), oU] [(.long q1), (.long (((0 : Int64) + q1) + q3))])) _
    refine XS.lload X20.here hx rfl (hb hby at_86) rfl ?_
    show Steps p.tables e below (T20.setTop (mkF m 88 #[oJ q0, oS, oJ q1, oS, oJ q2, oS, oJ q3, oS, rv b1, iv (1 : Int32), oU] [(.long q3), (.long q1), (.long (((0 : Int64) + q1) + q3))])) _
    refine XS.ladd X20.here hx rfl (hb hby at_88) rfl ?_
    show Steps p.tables e below (T20.setTop (mkF m 89 #[oJ q0, oS, oJ q1, oS, oJ q2, oS, oJ q3, oS, rv b1, iv (1 : Int32), oU] [(.long (q1 + q3)), (.long (((0 : Int64) + q1) + q3))])) _
    refine XS.lcmp X20.here hx rfl (hb hby at_89) rfl ?_
    show Steps p.tables e below (T20.setTop (mkF m 90 #[oJ q0, oS, oJ q1, oS, oJ q2, oS, oJ q3, oS, rv b1, iv (1 : Int32), oU] [(.int (lcmpW (((0 : Int64) + q1) + q3) (q1 + q3)))])) _
    refine XS.ifNo X20.here hx rfl (hb hby at_90) rfl ((if0 _ _).trans (teq ((lw_eq _ _).mpr (by rw [Int64.zero_add]))).2) ?_
    show Steps p.tables e below (T20.setTop (mkF m 93 #[oJ q0, oS, oJ q1, oS, oJ q2, oS, oJ q3, oS, rv b1, iv (1 : Int32), oU] [])) _
    refine XS.iconst X20.here hx rfl (hb hby at_93) ?_
    show Steps p.tables e below (T20.setTop (mkF m 94 #[oJ q0, oS, oJ q1, oS, oJ q2, oS, oJ q3, oS, rv b1, iv (1 : Int32), oU] [(.int (1 : Int32))])) _
    refine XS.goto X20.here hx rfl (pc0 := 94) (pc' := 98) rfl (hb hby at_94) (by decide) (by decide) ?_
    show Steps p.tables e below (T20.setTop (mkF m 98 #[oJ q0, oS, oJ q1, oS, oJ q2, oS, oJ q3, oS, rv b1, iv (1 : Int32), oU] [(.int (1 : Int32))])) _
    refine XS.istore X20.here hx rfl (hb hby at_98) rfl (l' := #[oJ q0, oS, oJ q1, oS, oJ q2, oS, oJ q3, oS, rv b1, iv (1 : Int32), iv (1 : Int32)]) rfl ?_
    show Steps p.tables e below (T20.setTop (mkF m 100 #[oJ q0, oS, oJ q1, oS, oJ q2, oS, oJ q3, oS, rv b1, iv (1 : Int32), iv (1 : Int32)] [])) _
    refine XS.iload X20.here hx rfl (hb hby at_100) rfl ?_
    show Steps p.tables e below (T20.setTop (mkF m 102 #[oJ q0, oS, oJ q1, oS, oJ q2, oS, oJ q3, oS, rv b1, iv (1 : Int32), iv (1 : Int32)] [(.int (1 : Int32))])) _
    refine XS.ifNo X20.here hx rfl (hb hby at_102) rfl ((if0 _ _).trans (feq (by decide : ¬ ((1 : Int32) = (0 : Int32)))).1) ?_
    show Steps p.tables e below (T20.setTop (mkF m 105 #[oJ q0, oS, oJ q1, oS, oJ q2, oS, oJ q3, oS, rv b1, iv (1 : Int32), iv (1 : Int32)] [])) _
    refine XS.iload X20.here hx rfl (hb hby at_105) rfl ?_
    show Steps p.tables e below (T20.setTop (mkF m 107 #[oJ q0, oS, oJ q1, oS, oJ q2, oS, oJ q3, oS, rv b1, iv (1 : Int32), iv (1 : Int32)] [(.int (1 : Int32))])) _
    refine XS.ifNo X20.here hx rfl (hb hby at_107) rfl ((if0 _ _).trans (feq (by decide : ¬ ((1 : Int32) = (0 : Int32)))).1) ?_
    show Steps p.tables e below (T20.setTop (mkF m 110 #[oJ q0, oS, oJ q1, oS, oJ q2, oS, oJ q3, oS, rv b1, iv (1 : Int32), iv (1 : Int32)] [])) _
    refine XS.iconst X20.here hx rfl (hb hby at_110) ?_
    show Steps p.tables e below (T20.setTop (mkF m 111 #[oJ q0, oS, oJ q1, oS, oJ q2, oS, oJ q3, oS, rv b1, iv (1 : Int32), iv (1 : Int32)] [(.int (1 : Int32))])) _
    refine XS.goto X20.here hx rfl (pc0 := 111) (pc' := 115) rfl (hb hby at_111) (by decide) (by decide) ?_
    show Steps p.tables e below (T20.setTop (mkF m 115 #[oJ q0, oS, oJ q1, oS, oJ q2, oS, oJ q3, oS, rv b1, iv (1 : Int32), iv (1 : Int32)] [(.int (1 : Int32))])) _
    exact k
  exact own_retNW X20 Bd.notSynchronized hx (t := .boolean) Bd.returns (by simp) (hb hby at_115) hSi (by rw [show T20.heap = T14.heap from e20]; exact hk) (by
      rw [show T20.heap = T14.heap from e20]
      exact ⟨rfl, N0⟩) (by decide) (by decide)

set_option maxRecDepth 65536 in
set_option maxHeartbeats 40000000 in
theorem comes_1 {Post : Tables → Env → Array Value → State → Outcome → State → Prop} (hpost : ∀ tb e args s v u, (limb_1_1.after args s (.returned v) u = true ∧ limb_1_2.after args s (.returned v) u = true ∧ True) → ReturnedEndW s (.returned v) u (Jvm.fieldLocs frame_1_writes args s ++ Jvm.arrayLocs frame_1_arrays args s ++ Jvm.staticLocs frame_1_statics s) 16 1152 → Post tb e args s (.returned v) u) :
    ArmFor flags0 classFile x code maxLocals ret World_1 tables_1 room_1 Calls_1 rest_1 Pre_1 Post := by
  intro l hfl _ _ p e ha hc hk s m args below hf hA hF happ hP
  obtain ⟨hcalls, hrest, hpre⟩ := hP
  obtain ⟨-, -, -, hnamed, -, -, -, hat⟩ := (Spec.applies_iff hf).mp happ
  obtain ⟨hg, hn⟩ := and_e (Cond.before_iff.mp (show (Jvm.Cond.and given_1 narrow_1).before args s = true from hpre))
  obtain ⟨g0, g0'⟩ := and_e hg
  obtain ⟨g1, g1'⟩ := and_e g0'
  obtain ⟨g2, g2'⟩ := and_e g1'
  obtain ⟨g3, g3'⟩ := and_e g2'
  obtain ⟨w0, w1, w2, w3, rfl⟩ : ∃ w0 w1 w2 w3 : Value, args = #[w0, w1, w2, w3] := by
    have hs : args.size = 4 := by simpa [Cond.value, given_1] using g0
    obtain ⟨L⟩ := args
    match L, hs with
    | [w0, w1, w2, w3], _ => exact ⟨w0, w1, w2, w3, rfl⟩
  have hw := fun d (hd : d ∈ tables_1) => atoms_spec (ws := Jvm.Cond.code x code maxLocals ret :: tables_1) hat d (List.mem_cons_of_mem _ hd)
  have hfit : Fit s := fun {y c} hc i hi => by
    obtain ⟨ha, rfl⟩ := Array.getElem?_eq_some_iff.mp hc
    have q := List.all_eq_true.mp ((Array.all_eq_true_iff_forall_mem.mp hF) _ (Array.getElem_mem ha)) i (List.mem_range.mpr hi)
    simpa [Array.getElem?_eq_getElem hi] using q
  obtain ⟨i0, ei0⟩ := isL_v g1
  obtain rfl : w0 = (.long i0) := Option.some.inj ei0
  obtain ⟨i1, ei1⟩ := isL_v g2
  obtain rfl : w1 = (.long i1) := Option.some.inj ei1
  obtain ⟨i2, ei2⟩ := isL_v g3
  obtain rfl : w2 = (.long i2) := Option.some.inj ei2
  obtain ⟨i3, ei3⟩ := isL_v g3'
  obtain rfl : w3 = (.long i3) := Option.some.inj ei3
  obtain ⟨m0, m0'⟩ := and_e hn
  obtain ⟨m1, m1'⟩ := and_e m0'
  obtain ⟨m2, m2'⟩ := and_e m1'
  have m3 := m2'
  obtain ⟨w_ALL, v_ALL, S_ALL, E_ALL⟩ := own_sta m0 (hw _ (List.mem_of_getElem? (i := 102) rfl)) (hw _ (List.mem_of_getElem? (i := 103) rfl))
  have O_ALL := own_ord v_ALL m3
  obtain ⟨w_LARGE, v_LARGE, S_LARGE, E_LARGE⟩ := own_sta m1 (hw _ (List.mem_of_getElem? (i := 102) rfl)) (hw _ (List.mem_of_getElem? (i := 111) rfl))
  have O_LARGE := own_ord v_LARGE m2
  obtain ⟨n, o, h1, h2, h3, _, L, rfl, ⟨rfl, N⟩, hq⟩ := rm0 l s _ hw tables_1 i0 i1 i2 i3 w_ALL w_LARGE s.heap s.heap.size (Nat.le_refl _) (Old.start s) S_ALL S_LARGE (Fld.ne O_ALL O_LARGE (by decide)) p e ha hc hk s m _ below hf ((Spec.applies_iff_loose hf).mp happ).1 ⟨rfl, State.Warmed39.refl s, rfl⟩ trivial
  refine ⟨n, _, h1, h2, h3, hpost _ _ _ _ _ _ ⟨Cond.after_iff.mpr rfl, Cond.after_iff.mpr (eq_i res_at (Term.int_eval (1)) rfl), trivial⟩ ⟨hq.1, hq.2.1, hq.2.2.1, (hq.2.2.2.sift fun y hy => Or.inr (N y hy)).mono (by decide) (by decide)⟩⟩
theorem main_1_1 : Claimed_1_1 := comes_1 fun _ _ _ _ _ _ h hF => ⟨h.1, hF⟩
theorem main_1_2 : Claimed_1_2 := comes_1 fun _ _ _ _ _ _ h hF => ⟨h.2.1, hF⟩
end Jvm.Pilot.@@N@@
namespace Jvm.Pilot.@@N@@
open Jvm Jvm.ClassFile Sem Op Lib Jvm.Free Jvm.Stand Jvm.Pilot.@@N@@.Jvm.D
/-! MADE BY PROGRAM (witnessworld.py) out of the Statement's table words and the real class files: 33 classes; the members and pool entries that the words name. The judged class is class 1, her method 1. -/
namespace start1
open Jvm.ClassFile
def u (s : String) : CpInfo := .utf8 (stringToUtf16 s)
/-- a pool by its gaps: so many unusable entries, then the entry; so many at the end -/
def gap : Nat → List CpInfo → List CpInfo
  | 0, r => r
  | n + 1, r => .unusable :: gap n r
def poolList (es : List (Nat × CpInfo)) (last : Nat) : List CpInfo := es.foldr (fun e r => gap e.1 (e.2 :: r)) (gap last [])
def pool (es : List (Nat × CpInfo)) (last : Nat) : Array CpInfo := ⟨poolList es last⟩
def fileOf (pool : Array CpInfo) (this : Nat) (attrs : Array Attribute := #[]) (ms : Array MethodInfo := #[]) (fl : Nat := 33) (sup : Nat := 0) (ifs : Array Nat := #[]) (fds : Array FieldInfo := #[]) : ClassFile where
  minorVersion := 0
  majorVersion := 65
  constantPool := pool
  accessFlags := fl
  thisClass := this
  superClass := sup
  interfaces := ifs
  fields := fds
  methods := ms
  attributes := attrs
def plain (name : String) (sup : Option ClassId) : Class where
  name := name
  kind := .ordinary
  loader := none
  accessFlags := 33
  super := sup
  interfaces := #[]
  cf := none
  fields := #[]
  methods := #[]
  instanceTypes := #[]
  staticTypes := #[]
  resolved := #[]
  callSites := []
  init := .initialized
  statics := none
  mirror := none

def pool0 : Array CpInfo := pool [(5, u "<init>"), (0, u "()V"), (1, .class_ 10), (1, u "java/lang/Object")] 113

def k0c0 : Code := { maxStack := 0, maxLocals := 1, code := object_method_1_code, exceptionTable := #[], attributes := #[] }
def k0m0 : Method := { name := "<init>", desc := "()V", sig := { parameters := [], returnType := none }, accessFlags := 1, code := some k0c0 }
/-- java/lang/Object -/
def k0 : Class := { plain "java/lang/Object" none with
  accessFlags := 33
  interfaces := #[]
  cf := some (fileOf pool0 8 #[] #[{ accessFlags := 1, nameIndex := 5, descriptorIndex := 6, attributes := #[] }] 33 0 #[] #[])
  fields := #[]
  methods := #[k0m0]
  instanceTypes := #[]
  staticTypes := #[]
  resolved := Array.replicate 124 none
  statics := none }

def pool1 : Array CpInfo := pool [(2, .class_ 4), (1, u "java/lang/Object"), (0, u "<init>"), (0, u "()V"), (0, .class_ 8), (0, u "com/example/chartwell/chartwell/http/Client"), (0, .string 10), (0, u "c"), (0, .methodref 7 12), (0, .nameAndType 5 13), (0, u "(Ljava/lang/String;Lcom/example/chartwell/chartwell/http/HeldMemory;)V"), (0, .methodref 7 15), (0, .nameAndType 16 17), (0, u "count"), (0, u "(JJ)V"), (0, .fieldref 19 20), (0, .class_ 21), (0, .nameAndType 22 23), (0, u "com/example/chartwell/chartwell/http/HeldMemory$Bound"), (0, u "ALL"), (0, u "Lcom/example/chartwell/chartwell/http/HeldMemory$Bound;"), (0, .methodref 7 25), (0, .nameAndType 26 27), (0, u "held"), (0, u "(Lcom/example/chartwell/chartwell/http/HeldMemory$Bound;)J"), (0, .fieldref 19 29), (0, .nameAndType 30 23), (0, u "LARGE"), (0, .class_ 32), (0, u "com/example/chartwell/chartwell/http/ClientCountPinLaw"), (2, u "law"), (0, u "(JJJJ)Z")] 7

def k1m0 : Method := { name := "<init>", desc := "()V", sig := { parameters := [], returnType := none }, accessFlags := 1, code := none }
def k1c1 : Code := { maxStack := 6, maxLocals := 11, code := code, exceptionTable := #[], attributes := #[] }
def k1m1 : Method := { name := "law", desc := "(JJJJ)Z", sig := { parameters := [.long, .long, .long, .long], returnType := some .boolean }, accessFlags := 9, code := some k1c1 }
/-- com/example/chartwell/chartwell/http/ClientCountPinLaw -/
def k1 : Class := { plain "com/example/chartwell/chartwell/http/ClientCountPinLaw" (some 0) with
  accessFlags := 49
  interfaces := #[]
  cf := some (fileOf pool1 31 #[] #[{ accessFlags := 1, nameIndex := 5, descriptorIndex := 6, attributes := #[] }, { accessFlags := 9, nameIndex := 35, descriptorIndex := 36, attributes := #[] }] 49 2 #[] #[])
  fields := #[]
  methods := #[k1m0, k1m1]
  instanceTypes := #[]
  staticTypes := #[]
  resolved := Array.replicate 44 none
  statics := none }

def pool2 : Array CpInfo := pool [(1, .methodref 2 3), (0, .class_ 4), (0, .nameAndType 5 6), (0, u "java/lang/Object"), (0, u "<init>"), (0, u "()V"), (0, .class_ 8), (0, u "java/util/LinkedHashSet"), (0, .methodref 7 3), (0, .fieldref 11 12), (0, .class_ 13), (0, .nameAndType 14 15), (0, u "com/example/chartwell/chartwell/http/Client"), (0, u "connections"), (0, u "Ljava/util/Set;"), (0, .fieldref 11 17), (0, .nameAndType 18 19), (0, u "name"), (0, u "Ljava/lang/String;"), (0, .fieldref 11 21), (0, .nameAndType 22 23), (0, u "memory"), (0, u "Lcom/example/chartwell/chartwell/http/HeldMemory;"), (41, .fieldref 66 67), (0, .class_ 68), (0, .nameAndType 69 70), (0, u "com/example/chartwell/chartwell/http/HeldMemory$Bound"), (0, u "ALL"), (0, u "Lcom/example/chartwell/chartwell/http/HeldMemory$Bound;"), (0, .fieldref 11 72), (0, .nameAndType 73 74), (0, u "held"), (0, u "J"), (0, .fieldref 11 76), (0, .nameAndType 77 74), (0, u "heldLarge"), (0, u "IPV6_NETWORK"), (0, u "I"), (4, u "(Ljava/lang/String;Lcom/example/chartwell/chartwell/http/HeldMemory;)V"), (8, u "(Lcom/example/chartwell/chartwell/http/HeldMemory$Bound;)J"), (0, u "count"), (0, u "(JJ)V")] 23

def k2c0 : Code := { maxStack := 3, maxLocals := 3, code := prog_17_method_1_code, exceptionTable := #[], attributes := #[] }
def k2m0 : Method := { name := "<init>", desc := "(Ljava/lang/String;Lcom/example/chartwell/chartwell/http/HeldMemory;)V", sig := { parameters := [(.object "java/lang/String"), (.object "com/example/chartwell/chartwell/http/HeldMemory")], returnType := none }, accessFlags := 0, code := some k2c0 }
def k2c1 : Code := { maxStack := 2, maxLocals := 2, code := prog_17_method_5_code, exceptionTable := #[], attributes := #[] }
def k2m1 : Method := { name := "held", desc := "(Lcom/example/chartwell/chartwell/http/HeldMemory$Bound;)J", sig := { parameters := [(.object "com/example/chartwell/chartwell/http/HeldMemory$Bound")], returnType := some .long }, accessFlags := 0, code := some k2c1 }
def k2c2 : Code := { maxStack := 5, maxLocals := 5, code := prog_17_method_6_code, exceptionTable := #[], attributes := #[] }
def k2m2 : Method := { name := "count", desc := "(JJ)V", sig := { parameters := [.long, .long], returnType := none }, accessFlags := 0, code := some k2c2 }
/-- com/example/chartwell/chartwell/http/Client -/
def k2 : Class := { plain "com/example/chartwell/chartwell/http/Client" (some 0) with
  accessFlags := 48
  interfaces := #[]
  cf := some (fileOf pool2 11 #[] #[{ accessFlags := 0, nameIndex := 5, descriptorIndex := 84, attributes := #[] }, { accessFlags := 0, nameIndex := 73, descriptorIndex := 93, attributes := #[] }, { accessFlags := 0, nameIndex := 94, descriptorIndex := 95, attributes := #[] }] 48 2 #[] #[{ accessFlags := 26, nameIndex := 78, descriptorIndex := 79, attributes := #[] }, { accessFlags := 18, nameIndex := 18, descriptorIndex := 19, attributes := #[] }, { accessFlags := 18, nameIndex := 22, descriptorIndex := 23, attributes := #[] }, { accessFlags := 18, nameIndex := 14, descriptorIndex := 15, attributes := #[] }, { accessFlags := 66, nameIndex := 73, descriptorIndex := 74, attributes := #[] }, { accessFlags := 66, nameIndex := 77, descriptorIndex := 74, attributes := #[] }])
  fields := #[{ name := "IPV6_NETWORK", type := .int, accessFlags := 26, slot := 0, constantValue := 0 }, { name := "name", type := (.object "java/lang/String"), accessFlags := 18, slot := 0, constantValue := 0 }, { name := "memory", type := (.object "com/example/chartwell/chartwell/http/HeldMemory"), accessFlags := 18, slot := 1, constantValue := 0 }, { name := "connections", type := (.object "java/util/Set"), accessFlags := 18, slot := 2, constantValue := 0 }, { name := "held", type := .long, accessFlags := 66, slot := 3, constantValue := 0 }, { name := "heldLarge", type := .long, accessFlags := 66, slot := 4, constantValue := 0 }]
  methods := #[k2m0, k2m1, k2m2]
  instanceTypes := #[(.object "java/lang/String"), (.object "com/example/chartwell/chartwell/http/HeldMemory"), (.object "java/util/Set"), .long, .long]
  staticTypes := #[.int]
  resolved := Array.replicate 119 none
  statics := none }

def pool3 : Array CpInfo := pool [(1, .class_ 2), (0, u "java/io/Serializable"), (0, .class_ 4), (0, u "java/lang/Object")] 2

/-- java/io/Serializable -/
def k3 : Class := { plain "java/io/Serializable" (some 0) with
  accessFlags := 1537
  interfaces := #[]
  cf := some (fileOf pool3 1 #[] #[] 1537 3 #[] #[])
  fields := #[]
  methods := #[]
  instanceTypes := #[]
  staticTypes := #[]
  resolved := Array.replicate 7 none
  statics := none }

def pool4 : Array CpInfo := pool [(1, .class_ 2), (0, u "java/lang/Comparable"), (0, .class_ 4), (0, u "java/lang/Object")] 7

/-- java/lang/Comparable -/
def k4 : Class := { plain "java/lang/Comparable" (some 0) with
  accessFlags := 1537
  interfaces := #[]
  cf := some (fileOf pool4 1 #[] #[] 1537 3 #[] #[])
  fields := #[]
  methods := #[]
  instanceTypes := #[]
  staticTypes := #[]
  resolved := Array.replicate 12 none
  statics := none }

def pool5 : Array CpInfo := pool [(2, .class_ 4), (1, u "java/lang/CharSequence"), (42, .class_ 48), (0, u "java/lang/CharSequence$1CodePointIterator"), (10, .class_ 60), (0, u "java/lang/CharSequence$1CharIterator"), (5, .class_ 67), (0, u "java/lang/Object")] 63

/-- java/lang/CharSequence -/
def k5 : Class := { plain "java/lang/CharSequence" (some 0) with
  accessFlags := 1537
  interfaces := #[]
  cf := some (fileOf pool5 2 #[.nestMembers #[47, 59]] #[] 1537 66 #[] #[])
  fields := #[]
  methods := #[]
  instanceTypes := #[]
  staticTypes := #[]
  resolved := Array.replicate 131 none
  statics := none }

def pool6 : Array CpInfo := pool [(1, .class_ 2), (0, u "java/lang/constant/Constable"), (0, .class_ 4), (0, u "java/lang/Object")] 6

/-- java/lang/constant/Constable -/
def k6 : Class := { plain "java/lang/constant/Constable" (some 0) with
  accessFlags := 1537
  interfaces := #[]
  cf := some (fileOf pool6 1 #[] #[] 1537 3 #[] #[])
  fields := #[]
  methods := #[]
  instanceTypes := #[]
  staticTypes := #[]
  resolved := Array.replicate 11 none
  statics := none }

def pool7 : Array CpInfo := pool [(1, .class_ 2), (0, u "java/lang/constant/ConstantDesc"), (0, .class_ 4), (0, u "java/lang/Object")] 32

/-- java/lang/constant/ConstantDesc -/
def k7 : Class := { plain "java/lang/constant/ConstantDesc" (some 0) with
  accessFlags := 1537
  interfaces := #[]
  cf := some (fileOf pool7 1 #[] #[] 1537 3 #[] #[])
  fields := #[]
  methods := #[]
  instanceTypes := #[]
  staticTypes := #[]
  resolved := Array.replicate 37 none
  statics := none }

def pool8 : Array CpInfo := pool [(2, .class_ 4), (1, u "java/lang/Object"), (0, u "<init>"), (0, u "()V"), (3, .class_ 12), (1, u "java/lang/String"), (0, u "value"), (0, u "[B"), (2, u "coder"), (0, u "B"), (2, u "hash"), (0, u "I"), (2, u "hashIsZero"), (0, u "Z"), (13, u "COMPACT_STRINGS"), (534, .class_ 576), (0, u "java/lang/CharSequence"), (22, u "CASE_INSENSITIVE_ORDER"), (0, u "Ljava/util/Comparator;"), (500, u "serialPersistentFields"), (0, u "[Ljava/io/ObjectStreamField;"), (0, .class_ 1104), (0, u "java/lang/String$CaseInsensitiveComparator"), (1, .class_ 1107), (0, u "java/io/Serializable"), (0, .class_ 1109), (0, u "java/lang/Comparable"), (0, .class_ 1111), (0, u "java/lang/constant/Constable"), (0, .class_ 1113), (0, u "java/lang/constant/ConstantDesc"), (2, u "serialVersionUID"), (0, u "J"), (3, u "REPL"), (0, u "C"), (2, u "LATIN1"), (1, u "UTF16")] 323

def k8m0 : Method := { name := "<init>", desc := "()V", sig := { parameters := [], returnType := none }, accessFlags := 1, code := none }
/-- java/lang/String -/
def k8 : Class := { plain "java/lang/String" (some 0) with
  accessFlags := 49
  interfaces := #[3, 4, 5, 6, 7]
  cf := some (fileOf pool8 10 #[.nestMembers #[1103]] #[{ accessFlags := 1, nameIndex := 5, descriptorIndex := 6, attributes := #[] }] 49 2 #[1106, 1108, 575, 1110, 1112] #[{ accessFlags := 18, nameIndex := 13, descriptorIndex := 14, attributes := #[] }, { accessFlags := 18, nameIndex := 17, descriptorIndex := 18, attributes := #[] }, { accessFlags := 2, nameIndex := 21, descriptorIndex := 22, attributes := #[] }, { accessFlags := 2, nameIndex := 25, descriptorIndex := 26, attributes := #[] }, { accessFlags := 26, nameIndex := 1116, descriptorIndex := 1117, attributes := #[] }, { accessFlags := 24, nameIndex := 40, descriptorIndex := 26, attributes := #[] }, { accessFlags := 26, nameIndex := 1101, descriptorIndex := 1102, attributes := #[] }, { accessFlags := 26, nameIndex := 1121, descriptorIndex := 1122, attributes := #[] }, { accessFlags := 25, nameIndex := 599, descriptorIndex := 600, attributes := #[] }, { accessFlags := 24, nameIndex := 1125, descriptorIndex := 18, attributes := #[] }, { accessFlags := 24, nameIndex := 1127, descriptorIndex := 18, attributes := #[] }])
  fields := #[{ name := "value", type := (.array .byte), accessFlags := 18, slot := 0, constantValue := 0 }, { name := "coder", type := .byte, accessFlags := 18, slot := 1, constantValue := 0 }, { name := "hash", type := .int, accessFlags := 2, slot := 2, constantValue := 0 }, { name := "hashIsZero", type := .boolean, accessFlags := 2, slot := 3, constantValue := 0 }, { name := "serialVersionUID", type := .long, accessFlags := 26, slot := 0, constantValue := 0 }, { name := "COMPACT_STRINGS", type := .boolean, accessFlags := 24, slot := 1, constantValue := 0 }, { name := "serialPersistentFields", type := (.array (.object "java/io/ObjectStreamField")), accessFlags := 26, slot := 2, constantValue := 0 }, { name := "REPL", type := .char, accessFlags := 26, slot := 3, constantValue := 0 }, { name := "CASE_INSENSITIVE_ORDER", type := (.object "java/util/Comparator"), accessFlags := 25, slot := 4, constantValue := 0 }, { name := "LATIN1", type := .byte, accessFlags := 24, slot := 5, constantValue := 0 }, { name := "UTF16", type := .byte, accessFlags := 24, slot := 6, constantValue := 0 }]
  methods := #[k8m0]
  instanceTypes := #[(.array .byte), .byte, .int, .boolean]
  staticTypes := #[.long, .boolean, (.array (.object "java/io/ObjectStreamField")), .char, (.object "java/util/Comparator"), .byte, .byte]
  resolved := Array.replicate 1451 none
  statics := none }

def pool9 : Array CpInfo := pool [(8, .class_ 10), (1, u "java/lang/Iterable"), (24, .class_ 36), (0, u "java/lang/Object")] 25

/-- java/lang/Iterable -/
def k9 : Class := { plain "java/lang/Iterable" (some 0) with
  accessFlags := 1537
  interfaces := #[]
  cf := some (fileOf pool9 8 #[] #[] 1537 35 #[] #[])
  fields := #[]
  methods := #[]
  instanceTypes := #[]
  staticTypes := #[]
  resolved := Array.replicate 62 none
  statics := none }

def pool10 : Array CpInfo := pool [(10, .class_ 12), (1, u "java/util/Collection"), (47, .class_ 61), (0, u "java/lang/Object"), (0, .class_ 63), (0, u "java/lang/Iterable")] 51

/-- java/util/Collection -/
def k10 : Class := { plain "java/util/Collection" (some 0) with
  accessFlags := 1537
  interfaces := #[9]
  cf := some (fileOf pool10 10 #[] #[] 1537 60 #[62] #[])
  fields := #[]
  methods := #[]
  instanceTypes := #[]
  staticTypes := #[]
  resolved := Array.replicate 115 none
  statics := none }

def pool11 : Array CpInfo := pool [(1, .methodref 2 3), (0, .class_ 4), (0, .nameAndType 5 6), (0, u "java/lang/Object"), (0, u "<init>"), (0, u "()V"), (1, .class_ 10), (1, u "java/util/AbstractCollection"), (66, .class_ 78), (0, u "java/util/Collection")] 81

def k11c0 : Code := { maxStack := 1, maxLocals := 1, code := jdk_22_method_1_code, exceptionTable := #[], attributes := #[] }
def k11m0 : Method := { name := "<init>", desc := "()V", sig := { parameters := [], returnType := none }, accessFlags := 4, code := some k11c0 }
/-- java/util/AbstractCollection -/
def k11 : Class := { plain "java/util/AbstractCollection" (some 0) with
  accessFlags := 1057
  interfaces := #[10]
  cf := some (fileOf pool11 8 #[] #[{ accessFlags := 4, nameIndex := 5, descriptorIndex := 6, attributes := #[] }] 1057 2 #[77] #[])
  fields := #[]
  methods := #[k11m0]
  instanceTypes := #[]
  staticTypes := #[]
  resolved := Array.replicate 160 none
  statics := none }

def pool12 : Array CpInfo := pool [(26, .class_ 27), (0, u "java/lang/Object"), (5, .class_ 34), (0, u "java/util/Set"), (1, .class_ 38), (1, u "java/util/Collection")] 105

/-- java/util/Set -/
def k12 : Class := { plain "java/util/Set" (some 0) with
  accessFlags := 1537
  interfaces := #[10]
  cf := some (fileOf pool12 33 #[] #[] 1537 26 #[36] #[])
  fields := #[]
  methods := #[]
  instanceTypes := #[]
  staticTypes := #[]
  resolved := Array.replicate 144 none
  statics := none }

def pool13 : Array CpInfo := pool [(1, .methodref 2 3), (0, .class_ 4), (0, .nameAndType 5 6), (0, u "java/util/AbstractCollection"), (0, u "<init>"), (0, u "()V"), (0, .class_ 8), (0, u "java/util/Set"), (7, .class_ 17), (0, u "java/util/AbstractSet")] 78

def k13c0 : Code := { maxStack := 1, maxLocals := 1, code := jdk_91_method_1_code, exceptionTable := #[], attributes := #[] }
def k13m0 : Method := { name := "<init>", desc := "()V", sig := { parameters := [], returnType := none }, accessFlags := 4, code := some k13c0 }
/-- java/util/AbstractSet -/
def k13 : Class := { plain "java/util/AbstractSet" (some 11) with
  accessFlags := 1057
  interfaces := #[12]
  cf := some (fileOf pool13 16 #[] #[{ accessFlags := 4, nameIndex := 5, descriptorIndex := 6, attributes := #[] }] 1057 2 #[7] #[])
  fields := #[]
  methods := #[k13m0]
  instanceTypes := #[]
  staticTypes := #[]
  resolved := Array.replicate 96 none
  statics := none }

def pool14 : Array CpInfo := pool [(1, .class_ 2), (0, u "java/lang/Cloneable"), (0, .class_ 4), (0, u "java/lang/Object")] 2

/-- java/lang/Cloneable -/
def k14 : Class := { plain "java/lang/Cloneable" (some 0) with
  accessFlags := 1537
  interfaces := #[]
  cf := some (fileOf pool14 1 #[] #[] 1537 3 #[] #[])
  fields := #[]
  methods := #[]
  instanceTypes := #[]
  staticTypes := #[]
  resolved := Array.replicate 7 none
  statics := none }

def pool15 : Array CpInfo := pool [(1, .methodref 2 3), (0, .class_ 4), (0, .nameAndType 5 6), (0, u "java/util/AbstractSet"), (0, u "<init>"), (0, u "()V"), (3, .fieldref 11 12), (0, .class_ 13), (0, .nameAndType 14 15), (0, u "java/util/HashSet"), (0, u "map"), (0, u "Ljava/util/HashMap;"), (21, .nameAndType 5 38), (0, u "(IF)V"), (3, .class_ 43), (0, u "java/util/LinkedHashMap"), (0, .methodref 42 37), (5, .class_ 52), (1, u "java/util/Set"), (13, u "PRESENT"), (0, u "Ljava/lang/Object;"), (158, .class_ 227), (0, u "java/lang/Cloneable"), (0, .class_ 229), (0, u "java/io/Serializable"), (0, u "serialVersionUID"), (0, u "J"), (20, u "(IFZ)V")] 50

def k15m0 : Method := { name := "<init>", desc := "()V", sig := { parameters := [], returnType := none }, accessFlags := 1, code := none }
def k15c1 : Code := { maxStack := 5, maxLocals := 4, code := jdk_93_method_5_code, exceptionTable := #[], attributes := #[] }
def k15m1 : Method := { name := "<init>", desc := "(IFZ)V", sig := { parameters := [.int, .float, .boolean], returnType := none }, accessFlags := 0, code := some k15c1 }
/-- java/util/HashSet -/
def k15 : Class := { plain "java/util/HashSet" (some 13) with
  accessFlags := 33
  interfaces := #[12, 14, 3]
  cf := some (fileOf pool15 11 #[] #[{ accessFlags := 1, nameIndex := 5, descriptorIndex := 6, attributes := #[] }, { accessFlags := 0, nameIndex := 5, descriptorIndex := 252, attributes := #[] }] 33 2 #[50, 226, 228] #[{ accessFlags := 24, nameIndex := 230, descriptorIndex := 231, attributes := #[] }, { accessFlags := 128, nameIndex := 14, descriptorIndex := 15, attributes := #[] }, { accessFlags := 24, nameIndex := 66, descriptorIndex := 67, attributes := #[] }])
  fields := #[{ name := "serialVersionUID", type := .long, accessFlags := 24, slot := 0, constantValue := 0 }, { name := "map", type := (.object "java/util/HashMap"), accessFlags := 128, slot := 0, constantValue := 0 }, { name := "PRESENT", type := (.object "java/lang/Object"), accessFlags := 24, slot := 1, constantValue := 0 }]
  methods := #[k15m0, k15m1]
  instanceTypes := #[(.object "java/util/HashMap")]
  staticTypes := #[.long, (.object "java/lang/Object")]
  resolved := Array.replicate 303 none
  statics := none }

def pool16 : Array CpInfo := pool [(8, .class_ 10), (1, u "java/util/SequencedCollection"), (15, .class_ 27), (0, u "java/lang/Object"), (0, .class_ 29), (0, u "java/util/Collection")] 27

/-- java/util/SequencedCollection -/
def k16 : Class := { plain "java/util/SequencedCollection" (some 0) with
  accessFlags := 1537
  interfaces := #[10]
  cf := some (fileOf pool16 8 #[] #[] 1537 26 #[28] #[])
  fields := #[]
  methods := #[]
  instanceTypes := #[]
  staticTypes := #[]
  resolved := Array.replicate 57 none
  statics := none }

def pool17 : Array CpInfo := pool [(2, .class_ 4), (1, u "java/util/SequencedSet"), (2, .class_ 8), (0, u "java/lang/Object"), (0, .class_ 10), (0, u "java/util/SequencedCollection"), (0, .class_ 12), (0, u "java/util/Set")] 13

/-- java/util/SequencedSet -/
def k17 : Class := { plain "java/util/SequencedSet" (some 0) with
  accessFlags := 1537
  interfaces := #[16, 12]
  cf := some (fileOf pool17 2 #[] #[] 1537 7 #[9, 11] #[])
  fields := #[]
  methods := #[]
  instanceTypes := #[]
  staticTypes := #[]
  resolved := Array.replicate 26 none
  statics := none }

def pool18 : Array CpInfo := pool [(1, .methodref 2 3), (0, .class_ 4), (0, .nameAndType 5 6), (0, u "java/util/HashSet"), (0, u "<init>"), (0, u "(IFZ)V"), (0, .float 1061158912), (19, .class_ 29), (1, u "java/util/LinkedHashSet"), (16, u "()V"), (44, .class_ 93), (1, u "java/util/SequencedSet"), (11, .class_ 106), (0, u "java/util/LinkedHashSet$1ReverseLinkedHashSetView"), (6, .class_ 114), (0, u "java/lang/Cloneable"), (0, .class_ 116), (0, u "java/io/Serializable"), (0, u "serialVersionUID"), (0, u "J")] 44

def k18c0 : Code := { maxStack := 4, maxLocals := 1, code := jdk_2620_method_3_code, exceptionTable := #[], attributes := #[] }
def k18m0 : Method := { name := "<init>", desc := "()V", sig := { parameters := [], returnType := none }, accessFlags := 1, code := some k18c0 }
/-- java/util/LinkedHashSet -/
def k18 : Class := { plain "java/util/LinkedHashSet" (some 15) with
  accessFlags := 33
  interfaces := #[17, 14, 3]
  cf := some (fileOf pool18 27 #[.nestMembers #[105]] #[{ accessFlags := 1, nameIndex := 5, descriptorIndex := 46, attributes := #[] }] 33 2 #[91, 113, 115] #[{ accessFlags := 26, nameIndex := 117, descriptorIndex := 118, attributes := #[] }])
  fields := #[{ name := "serialVersionUID", type := .long, accessFlags := 26, slot := 0, constantValue := 0 }]
  methods := #[k18m0]
  instanceTypes := #[(.object "java/util/HashMap")]
  staticTypes := #[.long]
  resolved := Array.replicate 163 none
  statics := none }

def pool19 : Array CpInfo := pool [(2, .class_ 4), (1, u "java/util/Map"), (31, .class_ 37), (0, u "java/util/Map$Entry"), (55, .class_ 94), (0, u "java/lang/Object")] 168

/-- java/util/Map -/
def k19 : Class := { plain "java/util/Map" (some 0) with
  accessFlags := 1537
  interfaces := #[]
  cf := some (fileOf pool19 2 #[.nestMembers #[36]] #[] 1537 93 #[] #[])
  fields := #[]
  methods := #[]
  instanceTypes := #[]
  staticTypes := #[]
  resolved := Array.replicate 263 none
  statics := none }

def pool20 : Array CpInfo := pool [(1, .methodref 2 3), (0, .class_ 4), (0, .nameAndType 5 6), (0, u "java/lang/Object"), (0, u "<init>"), (0, u "()V"), (1, .class_ 10), (1, u "java/util/AbstractMap"), (42, .class_ 54), (0, u "java/util/Map"), (9, u "keySet"), (0, u "Ljava/util/Set;"), (0, .class_ 67), (0, u "java/util/AbstractMap$1"), (5, u "values"), (0, u "Ljava/util/Collection;"), (0, .class_ 76), (0, u "java/util/AbstractMap$2"), (104, .class_ 182), (0, u "java/util/AbstractMap$ViewCollection"), (0, .class_ 184), (0, u "java/util/AbstractMap$SimpleImmutableEntry"), (0, .class_ 186), (0, u "java/util/AbstractMap$SimpleEntry"), (0, .class_ 188), (0, u "java/util/AbstractMap$2$1"), (0, .class_ 190), (0, u "java/util/AbstractMap$1$1")] 5

def k20c0 : Code := { maxStack := 1, maxLocals := 1, code := jdk_71_method_1_code, exceptionTable := #[], attributes := #[] }
def k20m0 : Method := { name := "<init>", desc := "()V", sig := { parameters := [], returnType := none }, accessFlags := 4, code := some k20c0 }
/-- java/util/AbstractMap -/
def k20 : Class := { plain "java/util/AbstractMap" (some 0) with
  accessFlags := 1057
  interfaces := #[19]
  cf := some (fileOf pool20 8 #[.nestMembers #[181, 183, 185, 75, 187, 66, 189]] #[{ accessFlags := 4, nameIndex := 5, descriptorIndex := 6, attributes := #[] }] 1057 2 #[53] #[{ accessFlags := 128, nameIndex := 64, descriptorIndex := 65, attributes := #[] }, { accessFlags := 128, nameIndex := 73, descriptorIndex := 74, attributes := #[] }])
  fields := #[{ name := "keySet", type := (.object "java/util/Set"), accessFlags := 128, slot := 0, constantValue := 0 }, { name := "values", type := (.object "java/util/Collection"), accessFlags := 128, slot := 1, constantValue := 0 }]
  methods := #[k20m0]
  instanceTypes := #[(.object "java/util/Set"), (.object "java/util/Collection")]
  staticTypes := #[]
  resolved := Array.replicate 196 none
  statics := none }

def pool21 : Array CpInfo := pool [(34, .methodref 35 36), (0, .class_ 37), (0, .nameAndType 38 39), (0, u "java/lang/Integer"), (0, u "numberOfLeadingZeros"), (0, u "(I)I"), (0, .class_ 41), (0, u "java/util/HashMap"), (0, .integer 1073741824), (0, .methodref 44 45), (0, .class_ 46), (0, .nameAndType 47 48), (0, u "java/util/AbstractMap"), (0, u "<init>"), (0, u "()V"), (21, .methodref 71 72), (0, .class_ 73), (0, .nameAndType 74 75), (0, u "java/lang/Float"), (0, u "isNaN"), (0, u "(F)Z"), (5, .fieldref 40 82), (0, .nameAndType 83 84), (0, u "loadFactor"), (0, u "F"), (0, .methodref 40 86), (0, .nameAndType 87 39), (0, u "tableSizeFor"), (0, .fieldref 40 89), (0, .nameAndType 90 91), (0, u "threshold"), (0, u "I"), (3, u "(IF)V"), (5, .class_ 103), (1, u "java/util/Map"), (0, u "size"), (2, u "table"), (0, u "[Ljava/util/HashMap$Node;"), (14, u "entrySet"), (39, .class_ 165), (1, u "java/util/HashMap$Node"), (14, .class_ 181), (0, u "java/util/HashMap$TreeNode"), (22, u "modCount"), (37, u "Ljava/util/Set;"), (0, .class_ 244), (0, u "java/util/HashMap$KeySet"), (18, .class_ 264), (0, u "java/util/HashMap$Values"), (3, .class_ 269), (0, u "java/util/HashMap$EntrySet"), (76, .class_ 348), (1, u "java/util/HashMap$UnsafeHolder"), (43, .class_ 393), (0, u "java/lang/Cloneable"), (0, .class_ 395), (0, u "java/io/Serializable"), (0, u "serialVersionUID"), (0, u "J"), (3, u "DEFAULT_INITIAL_CAPACITY"), (1, u "MAXIMUM_CAPACITY"), (0, u "DEFAULT_LOAD_FACTOR"), (0, u "TREEIFY_THRESHOLD"), (1, u "UNTREEIFY_THRESHOLD"), (1, u "MIN_TREEIFY_CAPACITY"), (186, .class_ 597), (0, u "java/util/HashMap$EntrySpliterator"), (0, .class_ 599), (0, u "java/util/HashMap$ValueSpliterator"), (0, .class_ 601), (0, u "java/util/HashMap$KeySpliterator"), (0, .class_ 603), (0, u "java/util/HashMap$HashMapSpliterator"), (0, .class_ 605), (0, u "java/util/HashMap$EntryIterator"), (0, .class_ 607), (0, u "java/util/HashMap$ValueIterator"), (0, .class_ 609), (0, u "java/util/HashMap$KeyIterator"), (0, .class_ 611), (0, u "java/util/HashMap$HashIterator")] 17

def k21c0 : Code := { maxStack := 3, maxLocals := 2, code := jdk_69_method_4_code, exceptionTable := #[], attributes := #[] }
def k21m0 : Method := { name := "tableSizeFor", desc := "(I)I", sig := { parameters := [.int], returnType := some .int }, accessFlags := 24, code := some k21c0 }
def k21c1 : Code := { maxStack := 4, maxLocals := 3, code := jdk_69_method_5_code, exceptionTable := #[], attributes := #[] }
def k21m1 : Method := { name := "<init>", desc := "(IF)V", sig := { parameters := [.int, .float], returnType := none }, accessFlags := 1, code := some k21c1 }
def k21m2 : Method := { name := "<init>", desc := "()V", sig := { parameters := [], returnType := none }, accessFlags := 1, code := none }
/-- java/util/HashMap -/
def k21 : Class := { plain "java/util/HashMap" (some 20) with
  accessFlags := 33
  interfaces := #[19, 14, 3]
  cf := some (fileOf pool21 40 #[.nestMembers #[180, 596, 598, 600, 602, 604, 606, 608, 610, 346, 268, 263, 243, 163]] #[{ accessFlags := 24, nameIndex := 87, descriptorIndex := 39, attributes := #[] }, { accessFlags := 1, nameIndex := 47, descriptorIndex := 95, attributes := #[] }, { accessFlags := 1, nameIndex := 47, descriptorIndex := 48, attributes := #[] }] 33 44 #[101, 392, 394] #[{ accessFlags := 26, nameIndex := 396, descriptorIndex := 397, attributes := #[] }, { accessFlags := 24, nameIndex := 401, descriptorIndex := 91, attributes := #[] }, { accessFlags := 24, nameIndex := 403, descriptorIndex := 91, attributes := #[] }, { accessFlags := 24, nameIndex := 404, descriptorIndex := 84, attributes := #[] }, { accessFlags := 24, nameIndex := 405, descriptorIndex := 91, attributes := #[] }, { accessFlags := 24, nameIndex := 407, descriptorIndex := 91, attributes := #[] }, { accessFlags := 24, nameIndex := 409, descriptorIndex := 91, attributes := #[] }, { accessFlags := 128, nameIndex := 107, descriptorIndex := 108, attributes := #[] }, { accessFlags := 128, nameIndex := 123, descriptorIndex := 242, attributes := #[] }, { accessFlags := 128, nameIndex := 104, descriptorIndex := 91, attributes := #[] }, { accessFlags := 128, nameIndex := 204, descriptorIndex := 91, attributes := #[] }, { accessFlags := 0, nameIndex := 90, descriptorIndex := 91, attributes := #[] }, { accessFlags := 16, nameIndex := 83, descriptorIndex := 84, attributes := #[] }])
  fields := #[{ name := "serialVersionUID", type := .long, accessFlags := 26, slot := 0, constantValue := 0 }, { name := "DEFAULT_INITIAL_CAPACITY", type := .int, accessFlags := 24, slot := 1, constantValue := 0 }, { name := "MAXIMUM_CAPACITY", type := .int, accessFlags := 24, slot := 2, constantValue := 0 }, { name := "DEFAULT_LOAD_FACTOR", type := .float, accessFlags := 24, slot := 3, constantValue := 0 }, { name := "TREEIFY_THRESHOLD", type := .int, accessFlags := 24, slot := 4, constantValue := 0 }, { name := "UNTREEIFY_THRESHOLD", type := .int, accessFlags := 24, slot := 5, constantValue := 0 }, { name := "MIN_TREEIFY_CAPACITY", type := .int, accessFlags := 24, slot := 6, constantValue := 0 }, { name := "table", type := (.array (.object "java/util/HashMap$Node")), accessFlags := 128, slot := 2, constantValue := 0 }, { name := "entrySet", type := (.object "java/util/Set"), accessFlags := 128, slot := 3, constantValue := 0 }, { name := "size", type := .int, accessFlags := 128, slot := 4, constantValue := 0 }, { name := "modCount", type := .int, accessFlags := 128, slot := 5, constantValue := 0 }, { name := "threshold", type := .int, accessFlags := 0, slot := 6, constantValue := 0 }, { name := "loadFactor", type := .float, accessFlags := 16, slot := 7, constantValue := 0 }]
  methods := #[k21m0, k21m1, k21m2]
  instanceTypes := #[(.object "java/util/Set"), (.object "java/util/Collection"), (.array (.object "java/util/HashMap$Node")), (.object "java/util/Set"), .int, .int, .int, .float]
  staticTypes := #[.long, .int, .int, .float, .int, .int, .int]
  resolved := Array.replicate 629 none
  statics := none }

def pool22 : Array CpInfo := pool [(2, .class_ 4), (1, u "java/util/SequencedMap"), (38, .class_ 44), (0, u "java/util/SequencedMap$1SeqKeySet"), (3, .class_ 49), (0, u "java/util/SequencedMap$1SeqValues"), (1, .class_ 52), (0, u "java/util/SequencedMap$1SeqEntrySet"), (1, .class_ 55), (0, u "java/lang/Object"), (0, .class_ 57), (0, u "java/util/Map")] 48

/-- java/util/SequencedMap -/
def k22 : Class := { plain "java/util/SequencedMap" (some 0) with
  accessFlags := 1537
  interfaces := #[19]
  cf := some (fileOf pool22 2 #[.nestMembers #[51, 48, 43]] #[] 1537 54 #[56] #[])
  fields := #[]
  methods := #[]
  instanceTypes := #[]
  staticTypes := #[]
  resolved := Array.replicate 106 none
  statics := none }

def pool23 : Array CpInfo := pool [(1, .fieldref 2 3), (0, .class_ 4), (0, .nameAndType 5 6), (0, u "java/util/LinkedHashMap"), (0, u "putMode"), (0, u "I"), (2, u "head"), (0, u "Ljava/util/LinkedHashMap$Entry;"), (2, u "tail"), (1, .class_ 17), (1, u "java/util/LinkedHashMap$Entry"), (5, .class_ 25), (1, u "java/util/HashMap"), (1, u "()V"), (2, u "<init>"), (33, .fieldref 2 65), (0, .nameAndType 66 67), (0, u "accessOrder"), (0, u "Z"), (13, .methodref 23 82), (0, .nameAndType 30 83), (0, u "(IF)V"), (37, .class_ 122), (0, u "java/util/LinkedHashMap$LinkedKeySet"), (20, .class_ 144), (0, u "java/util/LinkedHashMap$LinkedValues"), (9, .class_ 155), (0, u "java/util/LinkedHashMap$LinkedEntrySet"), (44, .class_ 201), (0, u "java/util/LinkedHashMap$ReversedLinkedHashMapView"), (3, .class_ 206), (0, u "java/util/SequencedMap"), (0, u "serialVersionUID"), (0, u "J"), (5, u "PUT_NORM"), (1, u "PUT_FIRST"), (1, u "PUT_LAST"), (143, .class_ 363), (0, u "java/util/LinkedHashMap$LinkedEntryIterator"), (0, .class_ 365), (0, u "java/util/LinkedHashMap$LinkedValueIterator"), (0, .class_ 367), (0, u "java/util/LinkedHashMap$LinkedKeyIterator"), (0, .class_ 369), (0, u "java/util/LinkedHashMap$LinkedHashIterator")] 16

def k23c0 : Code := { maxStack := 3, maxLocals := 3, code := jdk_94_method_14_code, exceptionTable := #[], attributes := #[] }
def k23m0 : Method := { name := "<init>", desc := "(IF)V", sig := { parameters := [.int, .float], returnType := none }, accessFlags := 1, code := some k23c0 }
def k23m1 : Method := { name := "<init>", desc := "()V", sig := { parameters := [], returnType := none }, accessFlags := 1, code := none }
/-- java/util/LinkedHashMap -/
def k23 : Class := { plain "java/util/LinkedHashMap" (some 21) with
  accessFlags := 33
  interfaces := #[22]
  cf := some (fileOf pool23 2 #[.nestMembers #[200, 362, 364, 366, 368, 154, 143, 121, 15]] #[{ accessFlags := 1, nameIndex := 30, descriptorIndex := 83, attributes := #[] }, { accessFlags := 1, nameIndex := 30, descriptorIndex := 27, attributes := #[] }] 33 23 #[205] #[{ accessFlags := 26, nameIndex := 207, descriptorIndex := 208, attributes := #[] }, { accessFlags := 128, nameIndex := 9, descriptorIndex := 10, attributes := #[] }, { accessFlags := 128, nameIndex := 13, descriptorIndex := 10, attributes := #[] }, { accessFlags := 16, nameIndex := 66, descriptorIndex := 67, attributes := #[] }, { accessFlags := 24, nameIndex := 214, descriptorIndex := 6, attributes := #[] }, { accessFlags := 24, nameIndex := 216, descriptorIndex := 6, attributes := #[] }, { accessFlags := 24, nameIndex := 218, descriptorIndex := 6, attributes := #[] }, { accessFlags := 128, nameIndex := 5, descriptorIndex := 6, attributes := #[] }])
  fields := #[{ name := "serialVersionUID", type := .long, accessFlags := 26, slot := 0, constantValue := 0 }, { name := "head", type := (.object "java/util/LinkedHashMap$Entry"), accessFlags := 128, slot := 8, constantValue := 0 }, { name := "tail", type := (.object "java/util/LinkedHashMap$Entry"), accessFlags := 128, slot := 9, constantValue := 0 }, { name := "accessOrder", type := .boolean, accessFlags := 16, slot := 10, constantValue := 0 }, { name := "PUT_NORM", type := .int, accessFlags := 24, slot := 1, constantValue := 0 }, { name := "PUT_FIRST", type := .int, accessFlags := 24, slot := 2, constantValue := 0 }, { name := "PUT_LAST", type := .int, accessFlags := 24, slot := 3, constantValue := 0 }, { name := "putMode", type := .int, accessFlags := 128, slot := 11, constantValue := 0 }]
  methods := #[k23m0, k23m1]
  instanceTypes := #[(.object "java/util/Set"), (.object "java/util/Collection"), (.array (.object "java/util/HashMap$Node")), (.object "java/util/Set"), .int, .int, .int, .float, (.object "java/util/LinkedHashMap$Entry"), (.object "java/util/LinkedHashMap$Entry"), .boolean, .int]
  staticTypes := #[.long, .int, .int, .int]
  resolved := Array.replicate 386 none
  statics := none }

def pool24 : Array CpInfo := pool [(2, .class_ 4), (1, u "java/lang/Object"), (0, u "<init>"), (0, u "()V"), (1, .class_ 10), (1, u "java/lang/Number"), (2, .class_ 14), (0, u "java/io/Serializable"), (0, u "serialVersionUID"), (0, u "J")] 20

def k24m0 : Method := { name := "<init>", desc := "()V", sig := { parameters := [], returnType := none }, accessFlags := 1, code := none }
/-- java/lang/Number -/
def k24 : Class := { plain "java/lang/Number" (some 0) with
  accessFlags := 1057
  interfaces := #[3]
  cf := some (fileOf pool24 8 #[] #[{ accessFlags := 1, nameIndex := 5, descriptorIndex := 6, attributes := #[] }] 1057 2 #[13] #[{ accessFlags := 26, nameIndex := 15, descriptorIndex := 16, attributes := #[] }])
  fields := #[{ name := "serialVersionUID", type := .long, accessFlags := 26, slot := 0, constantValue := 0 }]
  methods := #[k24m0]
  instanceTypes := #[]
  staticTypes := #[.long]
  resolved := Array.replicate 37 none
  statics := none }

def pool25 : Array CpInfo := pool [(1, .class_ 2), (0, u "java/lang/Float"), (48, .class_ 53), (1, u "java/lang/Number"), (3, u "value"), (0, u "F"), (2, u "isNaN"), (0, u "(F)Z"), (28, u "$assertionsDisabled"), (0, u "Z"), (52, u "TYPE"), (0, u "Ljava/lang/Class;"), (0, .class_ 148), (0, u "java/lang/Comparable"), (0, .class_ 150), (0, u "java/lang/constant/Constable"), (0, .class_ 152), (0, u "java/lang/constant/ConstantDesc"), (0, u "POSITIVE_INFINITY"), (1, u "NEGATIVE_INFINITY"), (1, u "NaN"), (1, u "MAX_VALUE"), (0, u "MIN_NORMAL"), (0, u "MIN_VALUE"), (1, u "SIZE"), (0, u "I"), (1, u "PRECISION"), (1, u "MAX_EXPONENT"), (1, u "MIN_EXPONENT"), (1, u "BYTES"), (3, u "serialVersionUID"), (0, u "J")] 101

def k25c0 : Code := { maxStack := 2, maxLocals := 1, code := jdk_118_method_6_code, exceptionTable := #[], attributes := #[] }
def k25m0 : Method := { name := "isNaN", desc := "(F)Z", sig := { parameters := [.float], returnType := some .boolean }, accessFlags := 9, code := some k25c0 }
/-- java/lang/Float -/
def k25 : Class := { plain "java/lang/Float" (some 24) with
  accessFlags := 49
  interfaces := #[4, 6, 7]
  cf := some (fileOf pool25 1 #[] #[{ accessFlags := 9, nameIndex := 61, descriptorIndex := 62, attributes := #[] }] 49 51 #[147, 149, 151] #[{ accessFlags := 25, nameIndex := 153, descriptorIndex := 58, attributes := #[] }, { accessFlags := 25, nameIndex := 155, descriptorIndex := 58, attributes := #[] }, { accessFlags := 25, nameIndex := 157, descriptorIndex := 58, attributes := #[] }, { accessFlags := 25, nameIndex := 159, descriptorIndex := 58, attributes := #[] }, { accessFlags := 25, nameIndex := 160, descriptorIndex := 58, attributes := #[] }, { accessFlags := 25, nameIndex := 161, descriptorIndex := 58, attributes := #[] }, { accessFlags := 25, nameIndex := 163, descriptorIndex := 164, attributes := #[] }, { accessFlags := 25, nameIndex := 166, descriptorIndex := 164, attributes := #[] }, { accessFlags := 25, nameIndex := 168, descriptorIndex := 164, attributes := #[] }, { accessFlags := 25, nameIndex := 170, descriptorIndex := 164, attributes := #[] }, { accessFlags := 25, nameIndex := 172, descriptorIndex := 164, attributes := #[] }, { accessFlags := 25, nameIndex := 145, descriptorIndex := 146, attributes := #[] }, { accessFlags := 18, nameIndex := 57, descriptorIndex := 58, attributes := #[] }, { accessFlags := 26, nameIndex := 176, descriptorIndex := 177, attributes := #[] }, { accessFlags := 4120, nameIndex := 91, descriptorIndex := 92, attributes := #[] }])
  fields := #[{ name := "POSITIVE_INFINITY", type := .float, accessFlags := 25, slot := 0, constantValue := 0 }, { name := "NEGATIVE_INFINITY", type := .float, accessFlags := 25, slot := 1, constantValue := 0 }, { name := "NaN", type := .float, accessFlags := 25, slot := 2, constantValue := 0 }, { name := "MAX_VALUE", type := .float, accessFlags := 25, slot := 3, constantValue := 0 }, { name := "MIN_NORMAL", type := .float, accessFlags := 25, slot := 4, constantValue := 0 }, { name := "MIN_VALUE", type := .float, accessFlags := 25, slot := 5, constantValue := 0 }, { name := "SIZE", type := .int, accessFlags := 25, slot := 6, constantValue := 0 }, { name := "PRECISION", type := .int, accessFlags := 25, slot := 7, constantValue := 0 }, { name := "MAX_EXPONENT", type := .int, accessFlags := 25, slot := 8, constantValue := 0 }, { name := "MIN_EXPONENT", type := .int, accessFlags := 25, slot := 9, constantValue := 0 }, { name := "BYTES", type := .int, accessFlags := 25, slot := 10, constantValue := 0 }, { name := "TYPE", type := (.object "java/lang/Class"), accessFlags := 25, slot := 11, constantValue := 0 }, { name := "value", type := .float, accessFlags := 18, slot := 0, constantValue := 0 }, { name := "serialVersionUID", type := .long, accessFlags := 26, slot := 12, constantValue := 0 }, { name := "$assertionsDisabled", type := .boolean, accessFlags := 4120, slot := 13, constantValue := 0 }]
  methods := #[k25m0]
  instanceTypes := #[.float]
  staticTypes := #[.float, .float, .float, .float, .float, .float, .int, .int, .int, .int, .int, (.object "java/lang/Class"), .long, .boolean]
  resolved := Array.replicate 279 none
  statics := none }

def pool26 : Array CpInfo := pool [(1, .class_ 2), (0, u "java/lang/Integer"), (16, u "digits"), (0, u "[C"), (32, u "numberOfLeadingZeros"), (0, u "(I)I"), (30, u "DigitOnes"), (0, u "[B"), (2, u "DigitTens"), (99, .class_ 190), (0, u "java/lang/Integer$IntegerCache"), (3, u "I"), (8, .class_ 204), (0, u "java/lang/Number"), (2, u "value"), (56, .integer 65536), (37, u "TYPE"), (0, u "Ljava/lang/Class;"), (0, .class_ 305), (0, u "java/lang/Comparable"), (0, .class_ 307), (0, u "java/lang/constant/Constable"), (0, .class_ 309), (0, u "java/lang/constant/ConstantDesc"), (0, u "MIN_VALUE"), (1, u "MAX_VALUE"), (3, u "SIZE"), (1, u "BYTES"), (1, u "serialVersionUID"), (0, u "J")] 131

def k26c0 : Code := { maxStack := 3, maxLocals := 2, code := jdk_33_method_47_code, exceptionTable := #[], attributes := #[] }
def k26m0 : Method := { name := "numberOfLeadingZeros", desc := "(I)I", sig := { parameters := [.int], returnType := some .int }, accessFlags := 9, code := some k26c0 }
/-- java/lang/Integer -/
def k26 : Class := { plain "java/lang/Integer" (some 24) with
  accessFlags := 49
  interfaces := #[4, 6, 7]
  cf := some (fileOf pool26 1 #[.nestMembers #[189]] #[{ accessFlags := 9, nameIndex := 53, descriptorIndex := 54, attributes := #[] }] 49 203 #[304, 306, 308] #[{ accessFlags := 25, nameIndex := 310, descriptorIndex := 194, attributes := #[] }, { accessFlags := 25, nameIndex := 312, descriptorIndex := 194, attributes := #[] }, { accessFlags := 25, nameIndex := 302, descriptorIndex := 303, attributes := #[] }, { accessFlags := 24, nameIndex := 19, descriptorIndex := 20, attributes := #[] }, { accessFlags := 24, nameIndex := 89, descriptorIndex := 86, attributes := #[] }, { accessFlags := 24, nameIndex := 85, descriptorIndex := 86, attributes := #[] }, { accessFlags := 18, nameIndex := 207, descriptorIndex := 194, attributes := #[] }, { accessFlags := 25, nameIndex := 316, descriptorIndex := 194, attributes := #[] }, { accessFlags := 25, nameIndex := 318, descriptorIndex := 194, attributes := #[] }, { accessFlags := 26, nameIndex := 320, descriptorIndex := 321, attributes := #[] }])
  fields := #[{ name := "MIN_VALUE", type := .int, accessFlags := 25, slot := 0, constantValue := 0 }, { name := "MAX_VALUE", type := .int, accessFlags := 25, slot := 1, constantValue := 0 }, { name := "TYPE", type := (.object "java/lang/Class"), accessFlags := 25, slot := 2, constantValue := 0 }, { name := "digits", type := (.array .char), accessFlags := 24, slot := 3, constantValue := 0 }, { name := "DigitTens", type := (.array .byte), accessFlags := 24, slot := 4, constantValue := 0 }, { name := "DigitOnes", type := (.array .byte), accessFlags := 24, slot := 5, constantValue := 0 }, { name := "value", type := .int, accessFlags := 18, slot := 0, constantValue := 0 }, { name := "SIZE", type := .int, accessFlags := 25, slot := 6, constantValue := 0 }, { name := "BYTES", type := .int, accessFlags := 25, slot := 7, constantValue := 0 }, { name := "serialVersionUID", type := .long, accessFlags := 26, slot := 8, constantValue := 0 }]
  methods := #[k26m0]
  instanceTypes := #[.int]
  staticTypes := #[.int, .int, (.object "java/lang/Class"), (.array .char), (.array .byte), (.array .byte), .int, .int, .long]
  resolved := Array.replicate 453 none
  statics := none }

def pool27 : Array CpInfo := pool [(2, .class_ 4), (1, u "java/lang/Enum"), (0, u "name"), (0, u "Ljava/lang/String;"), (2, u "ordinal"), (0, u "I"), (1, .class_ 14), (1, u "java/lang/Object"), (4, u "hash"), (86, .class_ 108), (1, u "java/lang/Enum$EnumDesc"), (2, .class_ 112), (0, u "java/lang/constant/Constable"), (0, .class_ 114), (0, u "java/lang/Comparable"), (0, .class_ 116), (0, u "java/io/Serializable")] 87

/-- java/lang/Enum -/
def k27 : Class := { plain "java/lang/Enum" (some 0) with
  accessFlags := 1057
  interfaces := #[6, 4, 3]
  cf := some (fileOf pool27 2 #[.nestMembers #[106]] #[] 1057 12 #[111, 113, 115] #[{ accessFlags := 18, nameIndex := 5, descriptorIndex := 6, attributes := #[] }, { accessFlags := 18, nameIndex := 9, descriptorIndex := 10, attributes := #[] }, { accessFlags := 2, nameIndex := 19, descriptorIndex := 10, attributes := #[] }])
  fields := #[{ name := "name", type := (.object "java/lang/String"), accessFlags := 18, slot := 0, constantValue := 0 }, { name := "ordinal", type := .int, accessFlags := 18, slot := 1, constantValue := 0 }, { name := "hash", type := .int, accessFlags := 2, slot := 2, constantValue := 0 }]
  methods := #[]
  instanceTypes := #[(.object "java/lang/String"), .int, .int]
  staticTypes := #[]
  resolved := Array.replicate 204 none
  statics := none }

def pool28 : Array CpInfo := pool [(1, .class_ 2), (0, u "com/example/chartwell/chartwell/http/HeldMemory$Bound"), (2, u "ALL"), (0, u "Lcom/example/chartwell/chartwell/http/HeldMemory$Bound;"), (2, u "LARGE"), (2, u "$VALUES"), (0, u "[Lcom/example/chartwell/chartwell/http/HeldMemory$Bound;"), (6, .class_ 22), (1, u "java/lang/Enum"), (13, .class_ 38), (1, u "com/example/chartwell/chartwell/http/HeldMemory")] 28

/-- com/example/chartwell/chartwell/http/HeldMemory$Bound -/
def k28 : Class := { plain "com/example/chartwell/chartwell/http/HeldMemory$Bound" (some 27) with
  accessFlags := 16432
  interfaces := #[]
  cf := some (fileOf pool28 1 #[.nestHost 36] #[] 16432 20 #[] #[{ accessFlags := 16409, nameIndex := 5, descriptorIndex := 6, attributes := #[] }, { accessFlags := 16409, nameIndex := 9, descriptorIndex := 6, attributes := #[] }, { accessFlags := 4122, nameIndex := 12, descriptorIndex := 13, attributes := #[] }])
  fields := #[{ name := "ALL", type := (.object "com/example/chartwell/chartwell/http/HeldMemory$Bound"), accessFlags := 16409, slot := 0, constantValue := 0 }, { name := "LARGE", type := (.object "com/example/chartwell/chartwell/http/HeldMemory$Bound"), accessFlags := 16409, slot := 1, constantValue := 0 }, { name := "$VALUES", type := (.array (.object "com/example/chartwell/chartwell/http/HeldMemory$Bound")), accessFlags := 4122, slot := 2, constantValue := 0 }]
  methods := #[]
  instanceTypes := #[(.object "java/lang/String"), .int, .int]
  staticTypes := #[(.object "com/example/chartwell/chartwell/http/HeldMemory$Bound"), (.object "com/example/chartwell/chartwell/http/HeldMemory$Bound"), (.array (.object "com/example/chartwell/chartwell/http/HeldMemory$Bound"))]
  resolved := Array.replicate 67 none
  statics := some 0 }

/-- the primitive byte -/
def k29 : Class := { plain "byte" none with kind := .primitive 'B', accessFlags := 0x411 }
/-- [B -/
def k30 : Class := { plain "[B" (some 0) with kind := .array 29 .byte, interfaces := #[14, 3], accessFlags := 1041 }

/-- the primitive int -/
def k31 : Class := { plain "int" none with kind := .primitive 'I', accessFlags := 0x411 }
/-- [I -/
def k32 : Class := { plain "[I" (some 0) with kind := .array 31 .int, interfaces := #[14, 3], accessFlags := 1041 }

def heap : Heap := #[{ cls := 28, slots := #[.ref 1, .ref 2, .null], vm := .statics 28 },
  { cls := 28, slots := #[.null, .int 0, .int 0], vm := .none },
  { cls := 28, slots := #[.null, .int 1, .int 0], vm := .none }]
def classes : Array Class := #[k0, k1, k2, k3, k4, k5, k6, k7, k8, k9, k10, k11, k12, k13, k14, k15, k16, k17, k18, k19, k20, k21, k22, k23, k24, k25, k26, k27, k28, k29, k30, k31, k32]
def interned : List (Array UInt16 × Addr) := []
def slotsUsed : Nat := 9
def theMethod : MethodId := ⟨1, 1⟩
def args0 : Array Value := #[.long 5, .long 7, .long 9, .long 11]
def aboutOver (below : List Frame) : State where
  vm := { classes := classes, interned := interned.toArray }
  heap := heap
  slotsUsed := slotsUsed
  threads := #[{ frames := .invoking theMethod args0 :: below }]
def below0 : List Frame := [.native { method := ⟨0, 0⟩, args := #[] }]
def about1 : State := aboutOver below0
def p0 : Program := .bare "" "" ""
def e0 : Env := launch0.env 0 0 0
theorem w_frames : about1.frames = Frame.invoking theMethod args0 :: below0 := rfl
set_option maxRecDepth 65536 in
theorem w_args : argsFit about1.vm theMethod args0 = true := by decide +kernel
set_option maxRecDepth 65536 in
theorem w_heap : heapFits about1 = true := by decide +kernel
set_option maxRecDepth 65536 in
theorem w_runnable : about1.curStatus? = some .runnable := by decide +kernel
set_option maxRecDepth 65536 in
theorem w_alone : about1.alone = true := by decide +kernel
set_option maxRecDepth 65536 in
theorem w_named : about1.methodNamed? x = some theMethod := by decide +kernel
set_option maxRecDepth 65536 in
theorem w_hears : about1.hears theMethod below0 = true := by decide +kernel
set_option maxRecDepth 65536 in
theorem w_ripe : about1.ripe theMethod args0 below0 = true := by decide +kernel
theorem w_running : about1.status = .running := rfl
set_option maxRecDepth 65536 in
theorem w_room : about1.hasRoom e0.platform room_1 = true :=
  launch0.hasRoom_least _ room_1 (by decide +kernel) (by decide +kernel) (by decide +kernel) (by decide +kernel) (by decide +kernel) (by decide +kernel)
theorem allAtoms_all (ts : List Jvm.Cond) (a : Array Jvm.Value) (st : Jvm.State) : (allAtoms ts).before a st = ts.all (fun c => c.before a st) := by
  induction ts with
  | nil => rfl
  | cons c t ih =>
    show (Jvm.Cond.and c (allAtoms t)).before a st = _
    rw [Jvm.Cond.before_and, ih, List.all_cons]
def words1 : List Jvm.Cond := Jvm.Cond.code x code maxLocals ret :: tables_1
/-- a 'code' word, met by the world's own term for the bytes: nothing is compared byte by byte -/
theorem code_word {y : MethodName} {bytes : ByteArray} {mx : Nat} {rt : Option FieldType} {a : Array Value} {s : State} {m : MethodId} {meth : Method} {c : Code} (h1 : s.methodNamed? y = some m) (h2 : s.vm.method? m = some meth) (h3 : meth.code = some c) (h4 : c.code = bytes)
    (h5 : (c.maxLocals == mx && c.exceptionTable.isEmpty && decide (c.maxStack ≤ mostOperands) && decide (meth.sig.returnType = rt) && !meth.locks && decide (parseMethodDescriptor y.desc = some meth.sig)) = true) : (Jvm.Cond.code y bytes mx rt).before a s = true := by
  simp only [Bool.and_eq_true, beq_iff_eq, Bool.not_eq_true', decide_eq_true_eq] at h5
  obtain ⟨⟨⟨⟨⟨g1, g2⟩, g3⟩, g4⟩, g5⟩, g6⟩ := h5
  simp [Cond.before, Cond.holds, Cond.value, h1, h2, h3, h4, g1, g2, g3, g4, g5, g6]
def isCode : Jvm.Cond → Bool
  | .code _ _ _ _ => true
  | _ => false
theorem all_split {L : List Jvm.Cond} {P : Jvm.Cond → Bool} (h1 : L.all (fun c => isCode c || P c) = true) (h2 : ∀ c ∈ L.filter isCode, P c = true) : L.all P = true := by
  refine List.all_eq_true.mpr fun c hc => ?_
  have h := List.all_eq_true.mp h1 c hc
  rcases Bool.eq_false_or_eq_true (isCode c) with hi | hi
  · exact h2 c (List.mem_filter.mpr ⟨hc, hi⟩)
  · simpa [hi] using h
set_option maxRecDepth 65536 in
theorem w_c0 : (Jvm.Cond.code x code maxLocals ret).before args0 about1 = true := code_word (m := ⟨1, 1⟩) (meth := k1m1) (c := k1c1) (by decide +kernel) rfl rfl rfl (by decide +kernel)
set_option maxRecDepth 65536 in
theorem w_c1 : (Jvm.Cond.code ({ cls := "com/example/chartwell/chartwell/http/Client", name := "<init>", desc := "(Ljava/lang/String;Lcom/example/chartwell/chartwell/http/HeldMemory;)V" } : Jvm.MethodName) prog_17_method_1_code (3 : Nat) (Option.none : Option Jvm.ClassFile.FieldType)).before args0 about1 = true := code_word (m := ⟨2, 0⟩) (meth := k2m0) (c := k2c0) (by decide +kernel) rfl rfl rfl (by decide +kernel)
set_option maxRecDepth 65536 in
theorem w_c2 : (Jvm.Cond.code ({ cls := "java/lang/Object", name := "<init>", desc := "()V" } : Jvm.MethodName) object_method_1_code (1 : Nat) (Option.none : Option Jvm.ClassFile.FieldType)).before args0 about1 = true := code_word (m := ⟨0, 0⟩) (meth := k0m0) (c := k0c0) (by decide +kernel) rfl rfl rfl (by decide +kernel)
set_option maxRecDepth 65536 in
theorem w_c3 : (Jvm.Cond.code ({ cls := "java/util/LinkedHashSet", name := "<init>", desc := "()V" } : Jvm.MethodName) jdk_2620_method_3_code (1 : Nat) (Option.none : Option Jvm.ClassFile.FieldType)).before args0 about1 = true := code_word (m := ⟨18, 0⟩) (meth := k18m0) (c := k18c0) (by decide +kernel) rfl rfl rfl (by decide +kernel)
set_option maxRecDepth 65536 in
theorem w_c4 : (Jvm.Cond.code ({ cls := "java/util/HashSet", name := "<init>", desc := "(IFZ)V" } : Jvm.MethodName) jdk_93_method_5_code (4 : Nat) (Option.none : Option Jvm.ClassFile.FieldType)).before args0 about1 = true := code_word (m := ⟨15, 1⟩) (meth := k15m1) (c := k15c1) (by decide +kernel) rfl rfl rfl (by decide +kernel)
set_option maxRecDepth 65536 in
theorem w_c5 : (Jvm.Cond.code ({ cls := "java/util/AbstractSet", name := "<init>", desc := "()V" } : Jvm.MethodName) jdk_91_method_1_code (1 : Nat) (Option.none : Option Jvm.ClassFile.FieldType)).before args0 about1 = true := code_word (m := ⟨13, 0⟩) (meth := k13m0) (c := k13c0) (by decide +kernel) rfl rfl rfl (by decide +kernel)
set_option maxRecDepth 65536 in
theorem w_c6 : (Jvm.Cond.code ({ cls := "java/util/AbstractCollection", name := "<init>", desc := "()V" } : Jvm.MethodName) jdk_22_method_1_code (1 : Nat) (Option.none : Option Jvm.ClassFile.FieldType)).before args0 about1 = true := code_word (m := ⟨11, 0⟩) (meth := k11m0) (c := k11c0) (by decide +kernel) rfl rfl rfl (by decide +kernel)
set_option maxRecDepth 65536 in
theorem w_c7 : (Jvm.Cond.code ({ cls := "java/util/LinkedHashMap", name := "<init>", desc := "(IF)V" } : Jvm.MethodName) jdk_94_method_14_code (3 : Nat) (Option.none : Option Jvm.ClassFile.FieldType)).before args0 about1 = true := code_word (m := ⟨23, 0⟩) (meth := k23m0) (c := k23c0) (by decide +kernel) rfl rfl rfl (by decide +kernel)
set_option maxRecDepth 65536 in
theorem w_c8 : (Jvm.Cond.code ({ cls := "java/util/HashMap", name := "<init>", desc := "(IF)V" } : Jvm.MethodName) jdk_69_method_5_code (3 : Nat) (Option.none : Option Jvm.ClassFile.FieldType)).before args0 about1 = true := code_word (m := ⟨21, 1⟩) (meth := k21m1) (c := k21c1) (by decide +kernel) rfl rfl rfl (by decide +kernel)
set_option maxRecDepth 65536 in
theorem w_c9 : (Jvm.Cond.code ({ cls := "java/util/AbstractMap", name := "<init>", desc := "()V" } : Jvm.MethodName) jdk_71_method_1_code (1 : Nat) (Option.none : Option Jvm.ClassFile.FieldType)).before args0 about1 = true := code_word (m := ⟨20, 0⟩) (meth := k20m0) (c := k20c0) (by decide +kernel) rfl rfl rfl (by decide +kernel)
set_option maxRecDepth 65536 in
theorem w_c10 : (Jvm.Cond.code ({ cls := "java/lang/Float", name := "isNaN", desc := "(F)Z" } : Jvm.MethodName) jdk_118_method_6_code (1 : Nat) (Option.some Jvm.ClassFile.FieldType.boolean)).before args0 about1 = true := code_word (m := ⟨25, 0⟩) (meth := k25m0) (c := k25c0) (by decide +kernel) rfl rfl rfl (by decide +kernel)
set_option maxRecDepth 65536 in
theorem w_c11 : (Jvm.Cond.code ({ cls := "java/util/HashMap", name := "tableSizeFor", desc := "(I)I" } : Jvm.MethodName) jdk_69_method_4_code (2 : Nat) (Option.some Jvm.ClassFile.FieldType.int)).before args0 about1 = true := code_word (m := ⟨21, 0⟩) (meth := k21m0) (c := k21c0) (by decide +kernel) rfl rfl rfl (by decide +kernel)
set_option maxRecDepth 65536 in
theorem w_c12 : (Jvm.Cond.code ({ cls := "java/lang/Integer", name := "numberOfLeadingZeros", desc := "(I)I" } : Jvm.MethodName) jdk_33_method_47_code (2 : Nat) (Option.some Jvm.ClassFile.FieldType.int)).before args0 about1 = true := code_word (m := ⟨26, 0⟩) (meth := k26m0) (c := k26c0) (by decide +kernel) rfl rfl rfl (by decide +kernel)
set_option maxRecDepth 65536 in
theorem w_c13 : (Jvm.Cond.code ({ cls := "com/example/chartwell/chartwell/http/Client", name := "count", desc := "(JJ)V" } : Jvm.MethodName) prog_17_method_6_code (5 : Nat) (Option.none : Option Jvm.ClassFile.FieldType)).before args0 about1 = true := code_word (m := ⟨2, 2⟩) (meth := k2m2) (c := k2c2) (by decide +kernel) rfl rfl rfl (by decide +kernel)
set_option maxRecDepth 65536 in
theorem w_c14 : (Jvm.Cond.code ({ cls := "com/example/chartwell/chartwell/http/Client", name := "held", desc := "(Lcom/example/chartwell/chartwell/http/HeldMemory$Bound;)J" } : Jvm.MethodName) prog_17_method_5_code (2 : Nat) (Option.some Jvm.ClassFile.FieldType.long)).before args0 about1 = true := code_word (m := ⟨2, 1⟩) (meth := k2m1) (c := k2c1) (by decide +kernel) rfl rfl rfl (by decide +kernel)
def codes1 : List Jvm.Cond := [Jvm.Cond.code x code maxLocals ret, Jvm.Cond.code ({ cls := "com/example/chartwell/chartwell/http/Client", name := "<init>", desc := "(Ljava/lang/String;Lcom/example/chartwell/chartwell/http/HeldMemory;)V" } : Jvm.MethodName) prog_17_method_1_code (3 : Nat) (Option.none : Option Jvm.ClassFile.FieldType), Jvm.Cond.code ({ cls := "java/lang/Object", name := "<init>", desc := "()V" } : Jvm.MethodName) object_method_1_code (1 : Nat) (Option.none : Option Jvm.ClassFile.FieldType), Jvm.Cond.code ({ cls := "java/util/LinkedHashSet", name := "<init>", desc := "()V" } : Jvm.MethodName) jdk_2620_method_3_code (1 : Nat) (Option.none : Option Jvm.ClassFile.FieldType), Jvm.Cond.code ({ cls := "java/util/HashSet", name := "<init>", desc := "(IFZ)V" } : Jvm.MethodName) jdk_93_method_5_code (4 : Nat) (Option.none : Option Jvm.ClassFile.FieldType), Jvm.Cond.code ({ cls := "java/util/AbstractSet", name := "<init>", desc := "()V" } : Jvm.MethodName) jdk_91_method_1_code (1 : Nat) (Option.none : Option Jvm.ClassFile.FieldType), Jvm.Cond.code ({ cls := "java/util/AbstractCollection", name := "<init>", desc := "()V" } : Jvm.MethodName) jdk_22_method_1_code (1 : Nat) (Option.none : Option Jvm.ClassFile.FieldType), Jvm.Cond.code ({ cls := "java/util/LinkedHashMap", name := "<init>", desc := "(IF)V" } : Jvm.MethodName) jdk_94_method_14_code (3 : Nat) (Option.none : Option Jvm.ClassFile.FieldType), Jvm.Cond.code ({ cls := "java/util/HashMap", name := "<init>", desc := "(IF)V" } : Jvm.MethodName) jdk_69_method_5_code (3 : Nat) (Option.none : Option Jvm.ClassFile.FieldType), Jvm.Cond.code ({ cls := "java/util/AbstractMap", name := "<init>", desc := "()V" } : Jvm.MethodName) jdk_71_method_1_code (1 : Nat) (Option.none : Option Jvm.ClassFile.FieldType), Jvm.Cond.code ({ cls := "java/lang/Float", name := "isNaN", desc := "(F)Z" } : Jvm.MethodName) jdk_118_method_6_code (1 : Nat) (Option.some Jvm.ClassFile.FieldType.boolean), Jvm.Cond.code ({ cls := "java/util/HashMap", name := "tableSizeFor", desc := "(I)I" } : Jvm.MethodName) jdk_69_method_4_code (2 : Nat) (Option.some Jvm.ClassFile.FieldType.int), Jvm.Cond.code ({ cls := "java/lang/Integer", name := "numberOfLeadingZeros", desc := "(I)I" } : Jvm.MethodName) jdk_33_method_47_code (2 : Nat) (Option.some Jvm.ClassFile.FieldType.int), Jvm.Cond.code ({ cls := "com/example/chartwell/chartwell/http/Client", name := "count", desc := "(JJ)V" } : Jvm.MethodName) prog_17_method_6_code (5 : Nat) (Option.none : Option Jvm.ClassFile.FieldType), Jvm.Cond.code ({ cls := "com/example/chartwell/chartwell/http/Client", name := "held", desc := "(Lcom/example/chartwell/chartwell/http/HeldMemory$Bound;)J" } : Jvm.MethodName) prog_17_method_5_code (2 : Nat) (Option.some Jvm.ClassFile.FieldType.long)]
set_option maxRecDepth 65536 in
theorem codes_eq : words1.filter isCode = codes1 := rfl
theorem w_codes : ∀ c ∈ words1.filter isCode, c.before args0 about1 = true := by
  rw [codes_eq]
  intro c hc
  simp only [codes1, List.mem_cons, List.not_mem_nil, or_false] at hc
  rcases hc with rfl | rfl | rfl | rfl | rfl | rfl | rfl | rfl | rfl | rfl | rfl | rfl | rfl | rfl | rfl
  · exact w_c0
  · exact w_c1
  · exact w_c2
  · exact w_c3
  · exact w_c4
  · exact w_c5
  · exact w_c6
  · exact w_c7
  · exact w_c8
  · exact w_c9
  · exact w_c10
  · exact w_c11
  · exact w_c12
  · exact w_c13
  · exact w_c14
set_option maxRecDepth 65536 in
theorem w_t1 : (words1.take 24).all (fun c => isCode c || c.before args0 about1) = true := by decide +kernel
set_option maxRecDepth 65536 in
theorem w_t2 : ((words1.drop 24).take 24).all (fun c => isCode c || c.before args0 about1) = true := by decide +kernel
set_option maxRecDepth 65536 in
theorem w_t3 : (((words1.drop 24).drop 24).take 24).all (fun c => isCode c || c.before args0 about1) = true := by decide +kernel
set_option maxRecDepth 65536 in
theorem w_t4 : ((((words1.drop 24).drop 24).drop 24).take 24).all (fun c => isCode c || c.before args0 about1) = true := by decide +kernel
set_option maxRecDepth 65536 in
theorem w_t5 : ((((words1.drop 24).drop 24).drop 24).drop 24).all (fun c => isCode c || c.before args0 about1) = true := by decide +kernel
theorem w_tables : (allAtoms (Jvm.Cond.code x code maxLocals ret :: tables_1)).before args0 about1 = true := by
  rw [allAtoms_all]
  show words1.all (fun c => c.before args0 about1) = true
  refine all_split ?_ w_codes
  rw [← List.take_append_drop 24 words1, List.all_append, w_t1, ← List.take_append_drop 24 (words1.drop 24), List.all_append, w_t2, ← List.take_append_drop 24 ((words1.drop 24).drop 24), List.all_append, w_t3, ← List.take_append_drop 24 (((words1.drop 24).drop 24).drop 24), List.all_append, w_t4, w_t5]
  rfl
set_option maxRecDepth 65536 in
theorem w_case : (Jvm.Cond.and given_1 narrow_1).before args0 about1 = true := by decide +kernel
theorem w_applies : (headSpec (Jvm.Cond.code x code maxLocals ret :: tables_1) room_1).applies x e0.platform about1 = true :=
  (Spec.applies_iff w_frames).mpr ⟨w_running, w_runnable, w_alone, w_named, w_hears, w_ripe, w_room, w_tables⟩
theorem atStart : AtStart classFile x code maxLocals ret World_1 tables_1 room_1 Calls_1 rest_1 Pre_1 launch0 p0 e0 about1 theMethod args0 below0 :=
  ⟨lists_1, trivial, launch0.admits_env _ _ _, launch0.least_env, fairChoices_fair.cas, fairChoices_fair.clock, w_frames, w_args, w_heap, w_applies, trivial, trivial, w_case⟩
end start1
theorem witness_1 : WitnessClaimed_1 := ⟨start1.p0, start1.e0, start1.about1, start1.theMethod, start1.args0, start1.below0, start1.atStart⟩
end Jvm.Pilot.@@N@@
