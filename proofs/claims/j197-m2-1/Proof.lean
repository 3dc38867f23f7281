import JvmDerived
import JvmDerived.Pilot.@@N@@Statement
import JvmDerived.Pilot.@@N@@Code
set_option linter.unusedVariables false
set_option linter.unusedSimpArgs false
namespace Jvm.Pilot.@@N@@
open Jvm Jvm.ClassFile Sem Op Lib Jvm.Free Jvm.Stand Jvm.LawKit Jvm.RoadKit Bundle Jvm.Pilot.@@N@@.Jvm.D
section OwnKit
abbrev oU : Slot := .unset
abbrev oS : Slot := .second
abbrev oJ (x : Int64) : Slot := .val (.long x)
variable {p : Program} {l : Launch} {e : Env} {R : Room} {s : State} {m : MethodId} {args : Array Value} {below : List Frame} {meth : Method} {c : Code} {T A B : State} {locs : List Loc} {cells slots : Nat} {G : State → Outcome → Prop} {Q : Option Value → Heap → List Loc → Prop} {C S : Nat} {pc : Nat} {Ls : Array Slot} {rest : List Value}
/-- from A the run ends, and what it leaves is G -/
def own_Go (p : Program) (e : Env) (below : List Frame) (G : State → Outcome → Prop) (A : State) : Prop := ∃ u o, Steps p.tables e below A u ∧ u.status = .running ∧ Ended u below o ∧ G u o
def own_Post (s : State) (Q : Option Value → Heap → List Loc → Prop) (C S : Nat) : State → Outcome → Prop := fun u o => ∃ v L, o = .returned v ∧ Q v u.heap L ∧ FrameEnd s o u L C S
def own_PostW (s : State) (Q : Option Value → Heap → List Loc → Prop) (C S : Nat) : State → Outcome → Prop := fun u o => ∃ v L, o = .returned v ∧ Q v u.heap L ∧ ReturnedEndW s o u L C S
theorem own_by (k : ∀ t, Steps p.tables e below B t → Steps p.tables e below A t) (h : own_Go p e below G B) : own_Go p e below G A := by
  obtain ⟨u, o, h1, h2⟩ := h
  exact ⟨u, o, k _ h1, h2⟩
theorem own_tr (k : Steps p.tables e below A B) (h : own_Go p e below G B) : own_Go p e below G A := by
  obtain ⟨u, o, h1, h2⟩ := h
  exact ⟨u, o, k.trans h1, h2⟩
theorem own_retI (X : Stand p l e R s m args below meth c T locs cells slots) (hlk : meth.locks = false) (hx : p.tables.exec = Jvm.exec) (hret : meth.sig.returnType = some .int) {z : Int32} (hd : decode c.code pc = .ok (.ireturn, 1)) (hq : Q (some (.int z)) T.heap locs) (hC : cells ≤ C) (hS : slots ≤ S) :
    own_Go p e below (own_Post s Q C S) (T.setTop (mkF m pc Ls (.int z :: rest))) := by
  obtain ⟨fs, hr, hrun, hended, hW, hsame⟩ := X.leave (v := some (.int z)) (fun h => by rw [hret] at h; cases h) hlk
  have hm' : T.vm.method? m = some meth := X.method'
  have hn : narrow .int (.int z) = .int z := rfl
  refine ⟨_, _, ?_, hrun, hended, _, _, rfl, hq, ⟨_, rfl⟩, hW, hsame.mono hC hS⟩
  show Steps p.tables e below (T.setTop { method := m, pc := pc, locals := Ls, stack := _ :: rest, locked := none }) _
  jvm_step X.here [X.here.top, hx, hd, hm', hret, hn]
  first | (intro acts; rw [hr _ acts rfl rfl rfl]) | rw [hr _ _ rfl rfl rfl]
  exact Steps.refl _
theorem own_retN (X : Stand p l e R s m args below meth c T locs cells slots) (hlk : meth.locks = false) (hx : p.tables.exec = Jvm.exec) {t : FieldType} (hret : meth.sig.returnType = some t) (ht : t = .boolean ∨ t = .byte ∨ t = .char ∨ t = .short) {z : Int32} (hd : decode c.code pc = .ok (.ireturn, 1)) (hq : Q (some (.int (nar t z))) T.heap locs) (hC : cells ≤ C) (hS : slots ≤ S) :
    own_Go p e below (own_Post s Q C S) (T.setTop (mkF m pc Ls (.int z :: rest))) := by
  obtain ⟨fs, hr, hrun, hended, hW, hsame⟩ := X.leave (v := some (.int (nar t z))) (fun h => by rw [hret] at h; cases h) hlk
  exact ⟨_, _, retN X hx hret ht hd hr, hrun, hended, _, _, rfl, hq, ⟨_, rfl⟩, hW, hsame.mono hC hS⟩
theorem own_retNW {vm₁ : Vm} (X : Stand p l e R (s.setVm vm₁) m args below meth c T locs cells slots) (hlk : meth.locks = false) (hx : p.tables.exec = Jvm.exec) {t : FieldType} (hret : meth.sig.returnType = some t) (ht : t = .boolean ∨ t = .byte ∨ t = .char ∨ t = .short) {z : Int32} (hd : decode c.code pc = .ok (.ireturn, 1)) {n : Nat} (hSi : s.Since vm₁ n) (hn : n ≤ T.heap.size) (hq : Q (some (.int (nar t z))) T.heap locs) (hC : cells ≤ C) (hS : slots ≤ S) :
    own_Go p e below (own_PostW s Q C S) (T.setTop (mkF m pc Ls (.int z :: rest))) := by
  obtain ⟨fs, hr, hrun, hended, h1, h2, h3, h4⟩ := X.leaveW hSi hn (v := some (.int (nar t z))) (fun h => by rw [hret] at h; cases h) hlk
  exact ⟨_, _, retN X hx hret ht hd hr, hrun, hended, _, _, rfl, hq, h1, h2, h3, h4.mono hC hS⟩
theorem own_retL (X : Stand p l e R s m args below meth c T locs cells slots) (hlk : meth.locks = false) (hx : p.tables.exec = Jvm.exec) (hret : meth.sig.returnType = some .long) {z : Int64} (hd : decode c.code pc = .ok (.lreturn, 1)) (hq : Q (some (.long z)) T.heap locs) (hC : cells ≤ C) (hS : slots ≤ S) :
    own_Go p e below (own_Post s Q C S) (T.setTop (mkF m pc Ls [.long z])) := by
  obtain ⟨fs, hr, hrun, hended, hW, hsame⟩ := X.leave (v := some (.long z)) (fun h => by rw [hret] at h; cases h) hlk
  exact ⟨_, _, retOut X hx (t := .long) (i := .lreturn) hret rfl (Or.inr (Or.inl ⟨rfl, rfl, _, rfl⟩)) hd hr, hrun, hended, _, _, rfl, hq, ⟨_, rfl⟩, hW, hsame.mono hC hS⟩
theorem own_retR (X : Stand p l e R s m args below meth c T locs cells slots) (hlk : meth.locks = false) (hx : p.tables.exec = Jvm.exec) {t : FieldType} (hret : meth.sig.returnType = some t) {w : Value} (ht : t.isReference = true) (hn : narrow t w = w) (hw : w.isRef = true) (hd : decode c.code pc = .ok (.areturn, 1)) (hq : Q (some w) T.heap locs) (hC : cells ≤ C) (hS : slots ≤ S) :
    own_Go p e below (own_Post s Q C S) (T.setTop (mkF m pc Ls (w :: rest))) := by
  obtain ⟨fs, hr, hrun, hended, hW, hsame⟩ := X.leave (v := some w) (fun h => by rw [hret] at h; cases h) hlk
  exact ⟨_, _, retOut X hx (t := t) (i := .areturn) hret hn (Or.inr (Or.inr (Or.inr (Or.inr ⟨rfl, ht, hw⟩)))) hd hr, hrun, hended, _, _, rfl, hq, ⟨_, rfl⟩, hW, hsame.mono hC hS⟩
theorem own_retV (X : Stand p l e R s m args below meth c T locs cells slots) (hlk : meth.locks = false) (hx : p.tables.exec = Jvm.exec) (hret : meth.sig.returnType = none) (hd : decode c.code pc = .ok (.return_, 1)) (hq : Q none T.heap locs) (hC : cells ≤ C) (hS : slots ≤ S) :
    own_Go p e below (own_Post s Q C S) (T.setTop (mkF m pc Ls [])) := by
  obtain ⟨fs, hr, hrun, hended, hW, hsame⟩ := X.leave (v := none) (fun _ => rfl) hlk
  exact ⟨_, _, X.returnOut hx hret hd hr, hrun, hended, _, _, rfl, hq, ⟨_, rfl⟩, hW, hsame.mono hC hS⟩
theorem own_nev {Z : State} {h : Heap} {a b : Addr} {C : String} {a0 : Array Value} {n : Nat} {k : ClassId} {ty : FieldType} {z : Int32} {vs : List Value} {dv : Value} (E : Exa Z h a C) (wi : (Jvm.Cond.instantiable C n).before a0 Z = true) (F : Arv Z h b k ty z vs dv) : a ≠ b := by
  obtain ⟨c, A, -⟩ := F
  exact ne_arr E wi A
theorem own_selp {args' : Array Value} {y : MethodName} {n : Nat} (hins : (Jvm.Cond.instantiable y.cls n).before args' s = true) (hpriv : (Jvm.Cond.privateMethod y).before args' s = true) (hinst : (Jvm.Cond.instanceMethod y).before args' s = true) (hy : y.cls ≠ "java/lang/invoke/MethodHandle" ∧ y.cls ≠ "java/lang/invoke/VarHandle") : (Jvm.Cond.selects y.cls y y).before args' s = true := by
  obtain ⟨c, k, hc, hk, -, hniab, -, -⟩ := Cond.instantiable_spec hins
  exact selects_self_of_private hc hk (Bool.or_eq_false_iff.mp hniab).1 (Cond.privateMethod_at hpriv) hinst hy
theorem own_callS (X : Stand p l e R s m args below meth c T locs cells slots) (hx : p.tables.exec = Jvm.exec) {Z : State} {a0 : Array Value} {h : Heap} (hZ : Z.Warmed39 s.vm) {own : String} {index : Nat} {y : MethodName} (hown : s.vm.findClass own = some m.cls) {bytes : ByteArray} {maxL : Nat} {ret : Option FieldType} {rm : Room} {as' : Array Value} {Q : Option Value → Heap → List Loc → Prop} (w1 : (Jvm.Cond.methodLink own index y).before a0 Z = true) (w2 : (Jvm.Cond.static y).before a0 Z = true) (w3 : (Jvm.Cond.initialized y.cls).before a0 Z = true) (w4 : (Jvm.Cond.code y bytes maxL ret).before a0 Z = true) (hy : y.cls ≠ "java/lang/invoke/MethodHandle" ∧ y.cls ≠ "java/lang/invoke/VarHandle")
    (hM : MetFree l y (head1 [Jvm.Cond.code y bytes maxL ret] rm) (fun a U => a = as' ∧ Z.Warmed39 U.vm ∧ U.heap = h) (fun _ _ _ _ _ => True) (fun _ U o U' => ∃ v L, o = .returned v ∧ Q v U'.heap L ∧ FrameEnd U o U' L rm.cells rm.slots)) (eT : T.heap = h) (W : Nat) (hf : rm.frames + 1 ≤ R.frames) (hl : W + (maxL + 11) + rm.locals ≤ R.locals) (hc : cells + rm.cells ≤ R.cells) (hs : slots + rm.slots ≤ R.slots) {g : JFrame} (hg : g.method = m) (hsize : g.locals.size = c.maxLocals) (argsL rest : List Value) (ha : argsL.toArray = as') (hlen : ∀ sig, parseMethodDescriptor y.desc = some sig → argsL.length = sig.parameters.length) (hstack : g.stack = argsL.reverse ++ rest) (hW : 2 * g.monitorRoom + (rest.map fun v => v.category).sum ≤ W) (hd : decode c.code g.pc = .ok (.invokestatic index, 3)) :
    ∃ (T' : State) (L : List Loc) (v : Option Value), Stand p l e R s m args below meth c T' (locs ++ L) (cells + rm.cells) (slots + rm.slots) ∧ Q v T'.heap L ∧ ∀ t, Steps p.tables e below (T'.setTop { g with pc := g.pc + 3, stack := v.toList ++ rest }) t → Steps p.tables e below (T.setTop g) t := by
  obtain ⟨v, _, ⟨T', L', k', n'⟩, -, X', ⟨L, hQ, h2, h3, h4⟩, st⟩ := Jvm.LawKit.callS X hx (y := y) hown (mvT hZ w1) (mvT hZ w2) (mvT hZ w3) (mvT hZ w4) hy (backOf (W := W) hM hZ w4 w3 hf hl) (g := g) hg hsize (argsL := argsL) (rest := rest) hlen hstack hW hd (fun _ _ => ⟨ha, eT, hc, hs⟩)
  dsimp only [Pt.U, Pt.locs, Pt.cells, Pt.slots] at X' h2 h3 h4 st hQ
  subst h2 h3 h4
  exact ⟨T', L, v, X', hQ, st⟩
theorem own_callI (X : Stand p l e R s m args below meth c T locs cells slots) (hx : p.tables.exec = Jvm.exec) {Z : State} {a0 : Array Value} {h : Heap} (hZ : Z.Warmed39 s.vm) {own : String} {index : Nat} {y : MethodName} (hy1 : y.name = "<init>") (hown : s.vm.findClass own = some m.cls) {bytes : ByteArray} {maxL : Nat} {rm : Room} {as' : Array Value} {Q : Option Value → Heap → List Loc → Prop} (w1 : (Jvm.Cond.methodLink own index y).before a0 Z = true) (w2 : (Jvm.Cond.instanceMethod y).before a0 Z = true) (w3 : (Jvm.Cond.initialized y.cls).before a0 Z = true) (w4 : (Jvm.Cond.code y bytes maxL none).before a0 Z = true) (hy : y.cls ≠ "java/lang/invoke/MethodHandle" ∧ y.cls ≠ "java/lang/invoke/VarHandle")
    (hM : MetFree l y (head1 [Jvm.Cond.code y bytes maxL none] rm) (fun a U => a = as' ∧ Z.Warmed39 U.vm ∧ U.heap = h) (fun _ _ _ _ _ => True) (fun _ U o U' => ∃ v L, o = .returned v ∧ Q v U'.heap L ∧ FrameEnd U o U' L rm.cells rm.slots)) (eT : T.heap = h) (W : Nat) (hf : rm.frames + 1 ≤ R.frames) (hl : W + (maxL + 11) + rm.locals ≤ R.locals) (hc : cells + rm.cells ≤ R.cells) (hs : slots + rm.slots ≤ R.slots) {g : JFrame} (hg : g.method = m) (hsize : g.locals.size = c.maxLocals) (a : Addr) (argsL rest : List Value) (ha : (.ref a :: argsL).toArray = as') (hlen : ∀ sig, parseMethodDescriptor y.desc = some sig → argsL.length = sig.parameters.length) (hstack : g.stack = argsL.reverse ++ .ref a :: rest) (hW : 2 * g.monitorRoom + (rest.map fun v => v.category).sum ≤ W) (hd : decode c.code g.pc = .ok (.invokespecial index, 3)) :
    ∃ (T' : State) (L : List Loc) (v : Option Value), Stand p l e R s m args below meth c T' (locs ++ L) (cells + rm.cells) (slots + rm.slots) ∧ Q v T'.heap L ∧ ∀ t, Steps p.tables e below (T'.setTop { g with pc := g.pc + 3, stack := v.toList ++ rest }) t → Steps p.tables e below (T.setTop g) t := by
  obtain ⟨v, _, ⟨T', L', k', n'⟩, -, X', ⟨L, hQ, h2, h3, h4⟩, st⟩ := X.specialBack hx (y := y) hy1 hown (mvT hZ w1) (mvT hZ w2) (mvT hZ w4) hy (backOf (W := W) hM hZ w4 w3 hf hl) (g := g) hg hsize (Steps.refl _) (a := a) (argsL := argsL) (rest := rest) hlen hstack hW hd (fun _ _ => ⟨ha, eT, hc, hs⟩)
  dsimp only [Pt.U, Pt.locs, Pt.cells, Pt.slots] at X' h2 h3 h4 st hQ
  subst h2 h3 h4
  exact ⟨T', L, v, X', hQ, fun t k => st.trans k⟩
theorem own_callP (X : Stand p l e R s m args below meth c T locs cells slots) (hx : p.tables.exec = Jvm.exec) {Z : State} {a0 : Array Value} {h : Heap} (hZ : Z.Warmed39 s.vm) {own C : String} {index n : Nat} {y : MethodName} (hown : s.vm.findClass own = some m.cls) {bytes : ByteArray} {maxL : Nat} {ret : Option FieldType} {rm : Room} {as' : Array Value} {Q : Option Value → Heap → List Loc → Prop} (w1 : (Jvm.Cond.methodLink own index y).before a0 Z = true) (w2 : (Jvm.Cond.instanceMethod y).before a0 Z = true) (w3 : (Jvm.Cond.initialized y.cls).before a0 Z = true) (w4 : (Jvm.Cond.code y bytes maxL ret).before a0 Z = true) (w5 : (Jvm.Cond.privateMethod y).before a0 Z = true) (w6 : (Jvm.Cond.instantiable y.cls n).before a0 Z = true) (hy : y.cls ≠ "java/lang/invoke/MethodHandle" ∧ y.cls ≠ "java/lang/invoke/VarHandle")
    (hM : MetFree l y (head1 [Jvm.Cond.code y bytes maxL ret] rm) (fun a U => a = as' ∧ Z.Warmed39 U.vm ∧ U.heap = h) (fun _ _ _ _ _ => True) (fun _ U o U' => ∃ v L, o = .returned v ∧ Q v U'.heap L ∧ FrameEnd U o U' L rm.cells rm.slots)) (eT : T.heap = h) (W : Nat) (hf : rm.frames + 1 ≤ R.frames) (hl : W + (maxL + 11) + rm.locals ≤ R.locals) (hc : cells + rm.cells ≤ R.cells) (hs : slots + rm.slots ≤ R.slots) {g : JFrame} (hg : g.method = m) (hsize : g.locals.size = c.maxLocals) (a : Addr) (E : Exa Z h a C) (argsL rest : List Value) (ha : (.ref a :: argsL).toArray = as') (hlen : ∀ sig, parseMethodDescriptor y.desc = some sig → argsL.length = sig.parameters.length) (hstack : g.stack = argsL.reverse ++ .ref a :: rest) (hW : 2 * g.monitorRoom + (rest.map fun v => v.category).sum ≤ W) (hd : decode c.code g.pc = .ok (.invokevirtual index, 3)) :
    ∃ (T' : State) (L : List Loc) (v : Option Value), Stand p l e R s m args below meth c T' (locs ++ L) (cells + rm.cells) (slots + rm.slots) ∧ Q v T'.heap L ∧ ∀ t, Steps p.tables e below (T'.setTop { g with pc := g.pc + 3, stack := v.toList ++ rest }) t → Steps p.tables e below (T.setTop g) t := by
  obtain ⟨cq, q1, q2⟩ := E.cell
  obtain ⟨v, _, ⟨T', L', k', n'⟩, -, X', ⟨L, hQ, h2, h3, h4⟩, st⟩ := X.privateBack hx (y := y) hown (mvT hZ w1) (mvT hZ w2) (own_selp (y := y) (mvT hZ w6) (mvP hZ w5) (mvT hZ w2) hy) (Cond.privateMethod_at (mvP hZ w5 (args := #[]))) (mvT hZ w4) hy (backOf (W := W) hM hZ w4 w3 hf hl) (g := g) hg hsize (Steps.refl _) (a := a) (by rw [eT]; exact q1) q2 (argsL := argsL) (rest := rest) hlen hstack hW hd (fun _ _ => ⟨ha, eT, hc, hs⟩)
  dsimp only [Pt.U, Pt.locs, Pt.cells, Pt.slots] at X' h2 h3 h4 st hQ
  subst h2 h3 h4
  exact ⟨T', L, v, X', hQ, fun t k => st.trans k⟩
theorem own_callV (X : Stand p l e R s m args below meth c T locs cells slots) (hx : p.tables.exec = Jvm.exec) {Z : State} {a0 : Array Value} {h : Heap} (hZ : Z.Warmed39 s.vm) {own C : String} {index : Nat} {y z : MethodName} (hown : s.vm.findClass own = some m.cls) {bytes : ByteArray} {maxL : Nat} {ret : Option FieldType} {rm : Room} {as' : Array Value} {Q : Option Value → Heap → List Loc → Prop} (w1 : (Jvm.Cond.methodLink own index y).before a0 Z = true) (w2 : (Jvm.Cond.declares y).before a0 Z = true) (hnf : NotFace s y) (w3 : (Jvm.Cond.selects C y z).before a0 Z = true) (w4 : (Jvm.Cond.instanceMethod z).before a0 Z = true) (w5 : (Jvm.Cond.initialized z.cls).before a0 Z = true) (w6 : (Jvm.Cond.code z bytes maxL ret).before a0 Z = true) (hy : y.cls ≠ "java/lang/invoke/MethodHandle" ∧ y.cls ≠ "java/lang/invoke/VarHandle")
    (hM : MetFree l z (head1 [Jvm.Cond.code z bytes maxL ret] rm) (fun a U => a = as' ∧ Z.Warmed39 U.vm ∧ U.heap = h) (fun _ _ _ _ _ => True) (fun _ U o U' => ∃ v L, o = .returned v ∧ Q v U'.heap L ∧ FrameEnd U o U' L rm.cells rm.slots)) (eT : T.heap = h) (W : Nat) (hf : rm.frames + 1 ≤ R.frames) (hl : W + (maxL + 11) + rm.locals ≤ R.locals) (hc : cells + rm.cells ≤ R.cells) (hs : slots + rm.slots ≤ R.slots) {g : JFrame} (hg : g.method = m) (hsize : g.locals.size = c.maxLocals) (a : Addr) (E : Exa Z h a C) (argsL rest : List Value) (ha : (.ref a :: argsL).toArray = as') (hlen : ∀ sig, parseMethodDescriptor y.desc = some sig → argsL.length = sig.parameters.length) (hstack : g.stack = argsL.reverse ++ .ref a :: rest) (hW : 2 * g.monitorRoom + (rest.map fun v => v.category).sum ≤ W) (hd : decode c.code g.pc = .ok (.invokevirtual index, 3)) :
    ∃ (T' : State) (L : List Loc) (v : Option Value), Stand p l e R s m args below meth c T' (locs ++ L) (cells + rm.cells) (slots + rm.slots) ∧ Q v T'.heap L ∧ ∀ t, Steps p.tables e below (T'.setTop { g with pc := g.pc + 3, stack := v.toList ++ rest }) t → Steps p.tables e below (T.setTop g) t := by
  obtain ⟨cq, kq, qa, qb, qc⟩ := isOf hZ eT E
  obtain ⟨v, _, ⟨T', L', k', n'⟩, -, X', ⟨L, hQ, h2, h3, h4⟩, st⟩ := X.virtualBack hx (y := y) (z := z) hown (mvT hZ w1) (mvT hZ w2) hnf (mvT hZ w3) (mvT hZ w4) hy (backOf (W := W) hM hZ w6 w5 hf hl) qa qc (g := g) hg hsize (Steps.refl _) (argsL := argsL) (rest := rest) hlen hstack hW hd (fun _ _ => ⟨ha, eT, hc, hs⟩)
  dsimp only [Pt.U, Pt.locs, Pt.cells, Pt.slots] at X' h2 h3 h4 st hQ
  subst h2 h3 h4
  exact ⟨T', L, v, X', hQ, fun t k => st.trans k⟩
theorem own_callF (X : Stand p l e R s m args below meth c T locs cells slots) (hx : p.tables.exec = Jvm.exec) {Z : State} {a0 : Array Value} {h : Heap} (hZ : Z.Warmed39 s.vm) {own C : String} {index count : Nat} {y z : MethodName} (hown : s.vm.findClass own = some m.cls) {bytes : ByteArray} {maxL : Nat} {ret : Option FieldType} {rm : Room} {as' : Array Value} {Q : Option Value → Heap → List Loc → Prop} (w1 : (Jvm.Cond.methodLink own index y).before a0 Z = true) (w2 : (Jvm.Cond.declares y).before a0 Z = true) (w3 : (Jvm.Cond.interfaceMethod y.cls y.cls y.name y.desc).before a0 Z = true) (w4 : (Jvm.Cond.selects C y z).before a0 Z = true) (w5 : (Jvm.Cond.instanceMethod z).before a0 Z = true) (w6 : (Jvm.Cond.publicMethod z).before a0 Z = true) (w7 : (Jvm.Cond.unhidden C y.name y.desc).before a0 Z = true) (w8 : (Jvm.Cond.castable C y.cls).before a0 Z = true) (w9 : (Jvm.Cond.initialized z.cls).before a0 Z = true) (w10 : (Jvm.Cond.code z bytes maxL ret).before a0 Z = true) (hy : y.cls ≠ "java/lang/invoke/MethodHandle" ∧ y.cls ≠ "java/lang/invoke/VarHandle")
    (hM : MetFree l z (head1 [Jvm.Cond.code z bytes maxL ret] rm) (fun a U => a = as' ∧ Z.Warmed39 U.vm ∧ U.heap = h) (fun _ _ _ _ _ => True) (fun _ U o U' => ∃ v L, o = .returned v ∧ Q v U'.heap L ∧ FrameEnd U o U' L rm.cells rm.slots)) (eT : T.heap = h) (W : Nat) (hf : rm.frames + 1 ≤ R.frames) (hl : W + (maxL + 11) + rm.locals ≤ R.locals) (hc : cells + rm.cells ≤ R.cells) (hs : slots + rm.slots ≤ R.slots) {g : JFrame} (hg : g.method = m) (hsize : g.locals.size = c.maxLocals) (a : Addr) (E : Exa Z h a C) (argsL rest : List Value) (ha : (.ref a :: argsL).toArray = as') (hlen : ∀ sig, parseMethodDescriptor y.desc = some sig → argsL.length = sig.parameters.length) (hstack : g.stack = argsL.reverse ++ .ref a :: rest) (hW : 2 * g.monitorRoom + (rest.map fun v => v.category).sum ≤ W) (hd : decode c.code g.pc = .ok (.invokeinterface index count, 5)) (hw3 : ((Jvm.Cond.interfaceMethod y.cls y.cls y.name y.desc).onTables && (Jvm.Cond.interfaceMethod y.cls y.cls y.name y.desc).keepsFace) = true := by first | rfl | simp [Cond.onTables, Cond.keepsFace, Cond.keeps, Cond.steady]) :
    ∃ (T' : State) (L : List Loc) (v : Option Value), Stand p l e R s m args below meth c T' (locs ++ L) (cells + rm.cells) (slots + rm.slots) ∧ Q v T'.heap L ∧ ∀ t, Steps p.tables e below (T'.setTop { g with pc := g.pc + 5, stack := v.toList ++ rest }) t → Steps p.tables e below (T.setTop g) t := by
  obtain ⟨cq, kq, qa, qb, qc⟩ := isOf hZ eT E
  obtain ⟨v, _, ⟨T', L', k', n'⟩, -, X', ⟨L, hQ, h2, h3, h4⟩, st⟩ := X.interfaceBack hx (xi := y) (y := z) hown (mvT hZ w1) (mvT hZ w2) (mvT hZ w3 hw3) (mvT hZ w4) (mvT hZ w5) (mvT hZ w6) (mvT hZ w7) (mvT hZ w8) hy (backOf (W := W) hM hZ w10 w9 hf hl) qa qb qc (g := g) hg hsize (Steps.refl _) (argsL := argsL) (rest := rest) hlen hstack hW hd (fun _ _ => ⟨ha, eT, hc, hs⟩)
  dsimp only [Pt.U, Pt.locs, Pt.cells, Pt.slots] at X' h2 h3 h4 st hQ
  subst h2 h3 h4
  exact ⟨T', L, v, X', hQ, fun t k => st.trans k⟩
theorem own_c1 {g g' : JFrame} {h : Heap} (h1 : ∃ T', Stand p l e R s m args below meth c T' locs cells slots ∧ T'.heap = h ∧ ∀ t, Steps p.tables e below (T'.setTop g') t → Steps p.tables e below (T.setTop g) t) (k : ∀ T', Stand p l e R s m args below meth c T' locs cells slots → T'.heap = h → own_Go p e below G (T'.setTop g')) : own_Go p e below G (T.setTop g) := by
  obtain ⟨T', X', e', st⟩ := h1
  exact own_by st (k T' X' e')
theorem own_c2 {g g' : JFrame} {h : Heap} {a : Addr} {sl : Nat} {v : Value} (h1 : ∃ T' h', Stand p l e R s m args below meth c T' (locs ++ [⟨a, sl⟩]) cells slots ∧ T'.heap = h' ∧ Wr h h' a sl v ∧ ∀ t, Steps p.tables e below (T'.setTop g') t → Steps p.tables e below (T.setTop g) t) (k : ∀ T' h', Stand p l e R s m args below meth c T' (locs ++ [⟨a, sl⟩]) cells slots → T'.heap = h' → Wr h h' a sl v → own_Go p e below G (T'.setTop g')) : own_Go p e below G (T.setTop g) := by
  obtain ⟨T', h', X', e', W, st⟩ := h1
  exact own_by st (k T' h' X' e' W)
theorem own_cc {g : JFrame} {c1 s1 : Nat} {Q : Option Value → Heap → List Loc → Prop} {f : Option Value → JFrame} (h1 : ∃ (T' : State) (L : List Loc) (v : Option Value), Stand p l e R s m args below meth c T' (locs ++ L) c1 s1 ∧ Q v T'.heap L ∧ ∀ t, Steps p.tables e below (T'.setTop (f v)) t → Steps p.tables e below (T.setTop g) t) (k : ∀ (T' : State) (L : List Loc) (v : Option Value), Stand p l e R s m args below meth c T' (locs ++ L) c1 s1 → Q v T'.heap L → own_Go p e below G (T'.setTop (f v))) : own_Go p e below G (T.setTop g) := by
  obtain ⟨T', L, v, X', hQ, st⟩ := h1
  exact own_by st (k T' L v X' hQ)
end OwnKit
theorem sn0 {Z : State} {a0 : Array Value} (hw : ∀ d ∈ tables_1, d.before a0 Z = true) : Jvm.RoadKit.slotOf Z "java/math/BigDecimal" "precision" "I" ≠ Jvm.RoadKit.slotOf Z "java/math/BigDecimal" "scale" "I" := slot_ne (Or.inl (hw _ (List.mem_of_getElem? (i := 71) rfl))) (Or.inr (hw _ (List.mem_of_getElem? (i := 52) rfl))) (by decide) (t := .int) (t' := .int) (by decide) (by decide)
theorem sn1 {Z : State} {a0 : Array Value} (hw : ∀ d ∈ tables_1, d.before a0 Z = true) : Jvm.RoadKit.slotOf Z "java/math/BigDecimal" "intCompact" "J" ≠ Jvm.RoadKit.slotOf Z "java/math/BigDecimal" "scale" "I" := slot_ne (Or.inr (hw _ (List.mem_of_getElem? (i := 40) rfl))) (Or.inr (hw _ (List.mem_of_getElem? (i := 52) rfl))) (by decide) (t := .long) (t' := .int) (by decide) (by decide)
theorem sn2 {Z : State} {a0 : Array Value} (hw : ∀ d ∈ tables_1, d.before a0 Z = true) : Jvm.RoadKit.slotOf Z "java/math/BigDecimal" "intVal" "Ljava/math/BigInteger;" ≠ Jvm.RoadKit.slotOf Z "java/math/BigDecimal" "scale" "I" := slot_ne (Or.inr (hw _ (List.mem_of_getElem? (i := 73) rfl))) (Or.inr (hw _ (List.mem_of_getElem? (i := 52) rfl))) (by decide) (t := (.object "java/math/BigInteger")) (t' := .int) (by decide) (by decide)
theorem sn3 {Z : State} {a0 : Array Value} (hw : ∀ d ∈ tables_1, d.before a0 Z = true) : Jvm.RoadKit.slotOf Z "java/math/BigDecimal" "scale" "I" ≠ Jvm.RoadKit.slotOf Z "java/math/BigDecimal" "precision" "I" := slot_ne (Or.inr (hw _ (List.mem_of_getElem? (i := 52) rfl))) (Or.inl (hw _ (List.mem_of_getElem? (i := 71) rfl))) (by decide) (t := .int) (t' := .int) (by decide) (by decide)
theorem sn4 {Z : State} {a0 : Array Value} (hw : ∀ d ∈ tables_1, d.before a0 Z = true) : Jvm.RoadKit.slotOf Z "java/math/BigDecimal" "intCompact" "J" ≠ Jvm.RoadKit.slotOf Z "java/math/BigDecimal" "precision" "I" := slot_ne (Or.inr (hw _ (List.mem_of_getElem? (i := 40) rfl))) (Or.inl (hw _ (List.mem_of_getElem? (i := 71) rfl))) (by decide) (t := .long) (t' := .int) (by decide) (by decide)
theorem sn5 {Z : State} {a0 : Array Value} (hw : ∀ d ∈ tables_1, d.before a0 Z = true) : Jvm.RoadKit.slotOf Z "java/math/BigDecimal" "intVal" "Ljava/math/BigInteger;" ≠ Jvm.RoadKit.slotOf Z "java/math/BigDecimal" "precision" "I" := slot_ne (Or.inr (hw _ (List.mem_of_getElem? (i := 73) rfl))) (Or.inl (hw _ (List.mem_of_getElem? (i := 71) rfl))) (by decide) (t := (.object "java/math/BigInteger")) (t' := .int) (by decide) (by decide)
theorem sn6 {Z : State} {a0 : Array Value} (hw : ∀ d ∈ tables_1, d.before a0 Z = true) : Jvm.RoadKit.slotOf Z "java/math/BigDecimal" "scale" "I" ≠ Jvm.RoadKit.slotOf Z "java/math/BigDecimal" "intCompact" "J" := slot_ne (Or.inr (hw _ (List.mem_of_getElem? (i := 52) rfl))) (Or.inr (hw _ (List.mem_of_getElem? (i := 40) rfl))) (by decide) (t := .int) (t' := .long) (by decide) (by decide)
theorem sn7 {Z : State} {a0 : Array Value} (hw : ∀ d ∈ tables_1, d.before a0 Z = true) : Jvm.RoadKit.slotOf Z "java/math/BigDecimal" "precision" "I" ≠ Jvm.RoadKit.slotOf Z "java/math/BigDecimal" "intCompact" "J" := slot_ne (Or.inl (hw _ (List.mem_of_getElem? (i := 71) rfl))) (Or.inr (hw _ (List.mem_of_getElem? (i := 40) rfl))) (by decide) (t := .int) (t' := .long) (by decide) (by decide)
theorem sn8 {Z : State} {a0 : Array Value} (hw : ∀ d ∈ tables_1, d.before a0 Z = true) : Jvm.RoadKit.slotOf Z "java/math/BigDecimal" "intVal" "Ljava/math/BigInteger;" ≠ Jvm.RoadKit.slotOf Z "java/math/BigDecimal" "intCompact" "J" := slot_ne (Or.inr (hw _ (List.mem_of_getElem? (i := 73) rfl))) (Or.inr (hw _ (List.mem_of_getElem? (i := 40) rfl))) (by decide) (t := (.object "java/math/BigInteger")) (t' := .long) (by decide) (by decide)
theorem sn9 {Z : State} {a0 : Array Value} (hw : ∀ d ∈ tables_1, d.before a0 Z = true) : Jvm.RoadKit.slotOf Z "java/math/BigDecimal" "scale" "I" ≠ Jvm.RoadKit.slotOf Z "java/math/BigDecimal" "intVal" "Ljava/math/BigInteger;" := slot_ne (Or.inr (hw _ (List.mem_of_getElem? (i := 52) rfl))) (Or.inr (hw _ (List.mem_of_getElem? (i := 73) rfl))) (by decide) (t := .int) (t' := (.object "java/math/BigInteger")) (by decide) (by decide)
theorem sn10 {Z : State} {a0 : Array Value} (hw : ∀ d ∈ tables_1, d.before a0 Z = true) : Jvm.RoadKit.slotOf Z "java/math/BigDecimal" "precision" "I" ≠ Jvm.RoadKit.slotOf Z "java/math/BigDecimal" "intVal" "Ljava/math/BigInteger;" := slot_ne (Or.inl (hw _ (List.mem_of_getElem? (i := 71) rfl))) (Or.inr (hw _ (List.mem_of_getElem? (i := 73) rfl))) (by decide) (t := .int) (t' := (.object "java/math/BigInteger")) (by decide) (by decide)
theorem sn11 {Z : State} {a0 : Array Value} (hw : ∀ d ∈ tables_1, d.before a0 Z = true) : Jvm.RoadKit.slotOf Z "java/math/BigDecimal" "intCompact" "J" ≠ Jvm.RoadKit.slotOf Z "java/math/BigDecimal" "intVal" "Ljava/math/BigInteger;" := slot_ne (Or.inr (hw _ (List.mem_of_getElem? (i := 40) rfl))) (Or.inr (hw _ (List.mem_of_getElem? (i := 73) rfl))) (by decide) (t := .long) (t' := (.object "java/math/BigInteger")) (by decide) (by decide)
theorem sn12 {Z : State} {a0 : Array Value} (hw : ∀ d ∈ tables_1, d.before a0 Z = true) : Jvm.RoadKit.slotOf Z "com/example/foray/foray/graph/Sum" "whole" "J" ≠ Jvm.RoadKit.slotOf Z "com/example/foray/foray/graph/Sum" "rest" "Ljava/math/BigDecimal;" := slot_ne (Or.inl (hw _ (List.mem_of_getElem? (i := 26) rfl))) (Or.inl (hw _ (List.mem_of_getElem? (i := 15) rfl))) (by decide) (t := .long) (t' := (.object "java/math/BigDecimal")) (by decide) (by decide)
theorem sn13 {Z : State} {a0 : Array Value} (hw : ∀ d ∈ tables_1, d.before a0 Z = true) : Jvm.RoadKit.slotOf Z "com/example/foray/foray/graph/Sum" "rest" "Ljava/math/BigDecimal;" ≠ Jvm.RoadKit.slotOf Z "com/example/foray/foray/graph/Sum" "whole" "J" := slot_ne (Or.inl (hw _ (List.mem_of_getElem? (i := 15) rfl))) (Or.inl (hw _ (List.mem_of_getElem? (i := 26) rfl))) (by decide) (t := (.object "java/math/BigDecimal")) (t' := .long) (by decide) (by decide)
theorem own_sta {C K n d : String} {args : Array Value} {s : State} (hx : (Jvm.Cond.exactly (.static C n d) K).value args s none s [] = some true) (wi : (Jvm.Cond.initialized C).before args s = true) (wl : (Jvm.Cond.laysStatic C n d).before args s = true) :
    ∃ a, (Term.static C n d).eval args s none [] s = some (.ref a) ∧ Sta s s.heap C n d (.ref a) ∧ Exa s s.heap a K := by
  have hx' : (Jvm.Cond.exactly (.static C n d) K).before args s = true := Cond.before_iff.mpr hx
  obtain ⟨a', c', cell, k, e1, e2, e3, e4, e5, e6, e7⟩ := Cond.exactly_spec hx'
  exact ⟨a', e1, Sta.start e1 (Or.inr ⟨wi, wl⟩), Exa.start e1 hx⟩
theorem own_ord {t : Term} {a : Addr} {args : Array Value} {s : State} {C n d : String} {k : Int32} (e : t.eval args s none [] s = some (.ref a)) (h : (Jvm.Cond.eq (.field t C n d) (.int k)).value args s none s [] = some true) : Fld s s.heap a C n d (.int k) := by
  have h1 : (Term.field t C n d).eval args s none [] s = some (.int k) := Jvm.Free.NT.SwA.eq_int (Cond.before_iff.mpr h)
  have h2 : s.fieldOf? a C n d = some (.int k) := by
    rw [← h1]
    show _ = (t.eval args s none [] s >>= _)
    rw [e]
    rfl
  exact Fld.start h2
theorem own_arr {t : Term} {args : Array Value} {s : State} {ty : FieldType} {n : Int32} {a : Addr} (ev : t.eval args s none [] s = some (.ref a)) (hx : (Jvm.Cond.arrayOf t ty).value args s none s [] = some true) (hl : (Jvm.Cond.eq (.length t) (.int n)).value args s none s [] = some true) :
    ∃ cl, Arr s s.heap a cl ty ∧ cl.slots.size < 2 ^ 31 ∧ cl.slots.size.toInt32 = n := by
  obtain ⟨cl, A⟩ := Arr.start ev hx
  have h1 : (Term.length t).eval args s none [] s = some (.int n) := Jvm.Free.NT.SwA.eq_int (Cond.before_iff.mpr hl)
  refine ⟨cl, A, ?_⟩
  cases hat : s.arrayAt? a with
  | none => simp [Term.eval, ev, hat] at h1
  | some c' =>
    have hc := (State.arrayAt?_spec hat).1
    cases A.1.symm.trans hc
    simp only [Term.eval, ev, hat, Option.bind_eq_bind, Option.bind_some] at h1
    split at h1
    · rename_i hlt
      exact ⟨hlt, by simpa using h1⟩
    · simp at h1
theorem own_elem {t : Term} {args : Array Value} {s : State} {ty : FieldType} {a w : Addr} {cl : Cell} {k : Int32} (ev : t.eval args s none [] s = some (.ref a)) (A : Arr s s.heap a cl ty) (h : (Term.elem t (.int k)).eval args s none [] s = some (.ref w)) : cl.slots[k.toNatClampNeg]? = some (.ref w) := (elem_in h ev rfl A.1).2
theorem own_eqR {t u : Term} {args : Array Value} {s : State} {w : Addr} (h : (Jvm.Cond.eq t u).value args s none s [] = some true) (hu : u.eval args s none [] s = some (.ref w)) : t.eval args s none [] s = some (.ref w) := by
  obtain ⟨x, y, e1, e2, k1, k2⟩ := cmp_v (Or.inl h)
  cases hu.symm.trans e2
  have hx : x.isRef = true := by cases x <;> simp [Kin, Value.isRef] at k1 k2 ⊢
  have := gotT (eq_R e1 hu hx rfl) h
  rw [e1, this]
theorem own_ordL {t : Term} {a : Addr} {args : Array Value} {s : State} {C n d : String} {k : Int64} (e : t.eval args s none [] s = some (.ref a)) (h : (Jvm.Cond.eq (.field t C n d) (.long k)).value args s none s [] = some true) : Fld s s.heap a C n d (.long k) := by
  obtain ⟨x, y, e1, e2, k1, k2⟩ := cmp_v (Or.inl h)
  have e2' : y = .long k := Option.some.inj (e2.symm.trans rfl)
  subst e2'
  obtain ⟨z, rfl⟩ : ∃ z, x = .long z := k2
  have := gotT (eq_L e1 e2) h
  subst this
  rw [fld_at e] at e1
  exact Fld.start e1

def own_BD (Z : State) : Prop := ∃ (zt : Addr) (kt : ClassId) (w0 w1 w2 w3 w4 w5 w6 w7 w8 w9 w10 : Addr), Sta Z Z.heap "java/math/BigDecimal" "ZERO_THROUGH_TEN" "[Ljava/math/BigDecimal;" (.ref zt) ∧ Arv Z Z.heap zt kt (.object "java/math/BigDecimal") (11 : Int32) [(.ref w0), (.ref w1), (.ref w2), (.ref w3), (.ref w4), (.ref w5), (.ref w6), (.ref w7), (.ref w8), (.ref w9), (.ref w10)] .null ∧ (Exa Z Z.heap w0 "java/math/BigDecimal" ∧ Fld Z Z.heap w0 "java/math/BigDecimal" "intCompact" "J" (.long (0 : Int64)) ∧ Fld Z Z.heap w0 "java/math/BigDecimal" "scale" "I" (.int (0 : Int32))) ∧ (Exa Z Z.heap w1 "java/math/BigDecimal" ∧ Fld Z Z.heap w1 "java/math/BigDecimal" "intCompact" "J" (.long (1 : Int64)) ∧ Fld Z Z.heap w1 "java/math/BigDecimal" "scale" "I" (.int (0 : Int32))) ∧ (Exa Z Z.heap w2 "java/math/BigDecimal" ∧ Fld Z Z.heap w2 "java/math/BigDecimal" "intCompact" "J" (.long (2 : Int64)) ∧ Fld Z Z.heap w2 "java/math/BigDecimal" "scale" "I" (.int (0 : Int32))) ∧ (Exa Z Z.heap w3 "java/math/BigDecimal" ∧ Fld Z Z.heap w3 "java/math/BigDecimal" "intCompact" "J" (.long (3 : Int64)) ∧ Fld Z Z.heap w3 "java/math/BigDecimal" "scale" "I" (.int (0 : Int32))) ∧ (Exa Z Z.heap w4 "java/math/BigDecimal" ∧ Fld Z Z.heap w4 "java/math/BigDecimal" "intCompact" "J" (.long (4 : Int64)) ∧ Fld Z Z.heap w4 "java/math/BigDecimal" "scale" "I" (.int (0 : Int32))) ∧ (Exa Z Z.heap w5 "java/math/BigDecimal" ∧ Fld Z Z.heap w5 "java/math/BigDecimal" "intCompact" "J" (.long (5 : Int64)) ∧ Fld Z Z.heap w5 "java/math/BigDecimal" "scale" "I" (.int (0 : Int32))) ∧ (Exa Z Z.heap w6 "java/math/BigDecimal" ∧ Fld Z Z.heap w6 "java/math/BigDecimal" "intCompact" "J" (.long (6 : Int64)) ∧ Fld Z Z.heap w6 "java/math/BigDecimal" "scale" "I" (.int (0 : Int32))) ∧ (Exa Z Z.heap w7 "java/math/BigDecimal" ∧ Fld Z Z.heap w7 "java/math/BigDecimal" "intCompact" "J" (.long (7 : Int64)) ∧ Fld Z Z.heap w7 "java/math/BigDecimal" "scale" "I" (.int (0 : Int32))) ∧ (Exa Z Z.heap w8 "java/math/BigDecimal" ∧ Fld Z Z.heap w8 "java/math/BigDecimal" "intCompact" "J" (.long (8 : Int64)) ∧ Fld Z Z.heap w8 "java/math/BigDecimal" "scale" "I" (.int (0 : Int32))) ∧ (Exa Z Z.heap w9 "java/math/BigDecimal" ∧ Fld Z Z.heap w9 "java/math/BigDecimal" "intCompact" "J" (.long (9 : Int64)) ∧ Fld Z Z.heap w9 "java/math/BigDecimal" "scale" "I" (.int (0 : Int32))) ∧ (Exa Z Z.heap w10 "java/math/BigDecimal" ∧ Fld Z Z.heap w10 "java/math/BigDecimal" "intCompact" "J" (.long (10 : Int64)) ∧ Fld Z Z.heap w10 "java/math/BigDecimal" "scale" "I" (.int (0 : Int32)))
def fsgn (q0 : Int64) : Int32 := (((q0 >>> ((63 : Int32) &&& 0x3f).toInt64) ||| (((-q0).toUInt64 >>> ((63 : Int32) &&& 0x3f).toInt64.toUInt64).toInt64)).toInt32)
theorem d7_0 : decode jdk_35_method_57_code 0 = .ok (.lload_n 0, 1) := by decide +kernel
theorem d7_1 : decode jdk_35_method_57_code 1 = .ok (.bipush 63, 2) := by decide +kernel
theorem d7_3 : decode jdk_35_method_57_code 3 = .ok (.lshr, 1) := by decide +kernel
theorem d7_4 : decode jdk_35_method_57_code 4 = .ok (.lload_n 0, 1) := by decide +kernel
theorem d7_5 : decode jdk_35_method_57_code 5 = .ok (.lneg, 1) := by decide +kernel
theorem d7_6 : decode jdk_35_method_57_code 6 = .ok (.bipush 63, 2) := by decide +kernel
theorem d7_8 : decode jdk_35_method_57_code 8 = .ok (.lushr, 1) := by decide +kernel
theorem d7_9 : decode jdk_35_method_57_code 9 = .ok (.lor, 1) := by decide +kernel
theorem d7_10 : decode jdk_35_method_57_code 10 = .ok (.l2i, 1) := by decide +kernel
theorem d7_11 : decode jdk_35_method_57_code 11 = .ok (.ireturn, 1) := by decide +kernel
theorem pn_7 : plainName "java/lang/Long" = true := by first | (simp [plainName, overriddenIn]; done) | decide +kernel
theorem ef_7 (m : MethodId) (x0 : Int64) : entryFrame m #[(.long x0)] 2 = mkF m 0 #[oJ x0, oS] [] := by first | (simp [entryFrame, mkF, argsToLocals, Value.category]; done) | rfl
def Q7 (Z : State) (q0 : Int64) (h0 : Heap) (n0 : Nat) (v : Option Value) (h : Heap) (L : List Loc) : Prop := v = some (.int (fsgn q0)) ∧ Fr n0 L ∧ h = h0
set_option maxRecDepth 65536 in
set_option maxHeartbeats 40000000 in
theorem rm7 (l : Launch) (Z : State) (a0 : Array Value) (hw : ∀ d ∈ tables_1, d.before a0 Z = true) (ws : List Jvm.Cond) (q0 : Int64) (h0 : Heap) (n0 : Nat) (Z0 : n0 ≤ h0.size) :
    MetFree l (⟨"java/lang/Long", "signum", "(J)I"⟩ : MethodName) (head1 (Jvm.Cond.code (⟨"java/lang/Long", "signum", "(J)I"⟩ : MethodName) jdk_35_method_57_code 2 (some .int) :: ws) ({ frames := 0, cells := 0, slots := 0, locals := 0 } : Room)) (fun a U => a = #[(.long q0)] ∧ Z.Warmed39 U.vm ∧ U.heap = h0) (fun _ _ _ _ _ => True) (fun _ U o U' => ∃ v L, o = .returned v ∧ Q7 Z q0 h0 n0 v U'.heap L ∧ FrameEnd U o U' L ({ frames := 0, cells := 0, slots := 0, locals := 0 } : Room).cells ({ frames := 0, cells := 0, slots := 0, locals := 0 } : Room).slots) := by
  refine MetFree.of_bodySF (plainFor_of_name pn_7) hisR ?_
  intro p e s m args below meth c s₁ Bd hml0 hP hK
  obtain ⟨rfl, hZ, hh⟩ := hP
  have hx := Bd.exec
  have hby := Bd.bytes
  have hml : c.maxLocals = 2 := hml0
  have hown : s.vm.findClass "java/lang/Long" = some m.cls := findClass_of_methodNamed Bd.named
  have hnm := (name_of_methodNamed Bd.named Bd.method).1
  have X0 : Stand p l e ({ frames := 0, cells := 0, slots := 0, locals := 0 } : Room) s m #[(.long q0)] below meth c s₁ [] 0 0 := Stand.of_body Bd
  have e0 : s₁.heap = h0 := by rw [← hh, Bd.state]; rfl
  have N0 := Fr.nil n0
  change own_Go p e below (own_Post s (Q7 Z q0 h0 n0) ({ frames := 0, cells := 0, slots := 0, locals := 0 } : Room).cells ({ frames := 0, cells := 0, slots := 0, locals := 0 } : Room).slots) (s₁.setTop (entryFrame m #[(.long q0)] 2))
  refine own_by (fun t k => castTop (ef_7 m q0) k) ?_
  show own_Go p e below _ (s₁.setTop (mkF m 0 #[oJ q0, oS] []))
  refine own_by (B := s₁.setTop (mkF m 11 #[oJ q0, oS] [(.int (((q0 >>> ((63 : Int32) &&& 0x3f).toInt64) ||| (((-q0).toUInt64 >>> ((63 : Int32) &&& 0x3f).toInt64.toUInt64).toInt64)).toInt32))])) (fun t k => ?_) ?_
  · show Steps p.tables e below (s₁.setTop (mkF m 0 #[oJ q0, oS] [])) _
    refine XS.lloadN X0.here hx rfl (hb hby d7_0) rfl ?_
    show Steps p.tables e below (s₁.setTop (mkF m 1 #[oJ q0, oS] [(.long q0)])) _
    refine XS.bipush X0.here hx rfl (hb hby d7_1) ?_
    show Steps p.tables e below (s₁.setTop (mkF m 3 #[oJ q0, oS] [(.int (63 : Int32)), (.long q0)])) _
    refine XS.lshr X0.here hx rfl (hb hby d7_3) rfl ?_
    show Steps p.tables e below (s₁.setTop (mkF m 4 #[oJ q0, oS] [(.long (q0 >>> ((63 : Int32) &&& 0x3f).toInt64))])) _
    refine XS.lloadN X0.here hx rfl (hb hby d7_4) rfl ?_
    show Steps p.tables e below (s₁.setTop (mkF m 5 #[oJ q0, oS] [(.long q0), (.long (q0 >>> ((63 : Int32) &&& 0x3f).toInt64))])) _
    refine XS.lneg X0.here hx rfl (hb hby d7_5) rfl ?_
    show Steps p.tables e below (s₁.setTop (mkF m 6 #[oJ q0, oS] [(.long (-q0)), (.long (q0 >>> ((63 : Int32) &&& 0x3f).toInt64))])) _
    refine XS.bipush X0.here hx rfl (hb hby d7_6) ?_
    show Steps p.tables e below (s₁.setTop (mkF m 8 #[oJ q0, oS] [(.int (63 : Int32)), (.long (-q0)), (.long (q0 >>> ((63 : Int32) &&& 0x3f).toInt64))])) _
    refine XS.lushr X0.here hx rfl (hb hby d7_8) rfl ?_
    show Steps p.tables e below (s₁.setTop (mkF m 9 #[oJ q0, oS] [(.long (((-q0).toUInt64 >>> ((63 : Int32) &&& 0x3f).toInt64.toUInt64).toInt64)), (.long (q0 >>> ((63 : Int32) &&& 0x3f).toInt64))])) _
    refine XS.lor X0.here hx rfl (hb hby d7_9) rfl ?_
    show Steps p.tables e below (s₁.setTop (mkF m 10 #[oJ q0, oS] [(.long ((q0 >>> ((63 : Int32) &&& 0x3f).toInt64) ||| (((-q0).toUInt64 >>> ((63 : Int32) &&& 0x3f).toInt64.toUInt64).toInt64)))])) _
    refine XS.l2i X0.here hx rfl (hb hby d7_10) rfl ?_
    show Steps p.tables e below (s₁.setTop (mkF m 11 #[oJ q0, oS] [(.int (((q0 >>> ((63 : Int32) &&& 0x3f).toInt64) ||| (((-q0).toUInt64 >>> ((63 : Int32) &&& 0x3f).toInt64.toUInt64).toInt64)).toInt32))])) _
    exact k
  exact own_retI X0 Bd.notSynchronized hx Bd.returns (hb hby d7_11) (by
      rw [show s₁.heap = h0 from e0]
      exact ⟨congrArg (fun z => some (Value.int z)) (show (((q0 >>> ((63 : Int32) &&& 0x3f).toInt64) ||| (((-q0).toUInt64 >>> ((63 : Int32) &&& 0x3f).toInt64.toUInt64).toInt64)).toInt32) = (fsgn q0) from rfl), N0, rfl⟩) (by decide) (by decide)

def fcmp (q0 : Int64) (q1 : Int64) : Int32 := (if q0 < q1 then (-1 : Int32) else (if q0 = q1 then (0 : Int32) else (1 : Int32)))
theorem d19_0 : decode jdk_35_method_42_code 0 = .ok (.lload_n 0, 1) := by decide +kernel
theorem d19_1 : decode jdk_35_method_42_code 1 = .ok (.lload_n 2, 1) := by decide +kernel
theorem d19_2 : decode jdk_35_method_42_code 2 = .ok (.lcmp, 1) := by decide +kernel
theorem d19_3 : decode jdk_35_method_42_code 3 = .ok (.ifCond .ge 7, 3) := by decide +kernel
theorem d19_6 : decode jdk_35_method_42_code 6 = .ok (.iconst (-1), 1) := by decide +kernel
theorem d19_7 : decode jdk_35_method_42_code 7 = .ok (.goto 14, 3) := by decide +kernel
theorem d19_10 : decode jdk_35_method_42_code 10 = .ok (.lload_n 0, 1) := by decide +kernel
theorem d19_11 : decode jdk_35_method_42_code 11 = .ok (.lload_n 2, 1) := by decide +kernel
theorem d19_12 : decode jdk_35_method_42_code 12 = .ok (.lcmp, 1) := by decide +kernel
theorem d19_13 : decode jdk_35_method_42_code 13 = .ok (.ifCond .ne 7, 3) := by decide +kernel
theorem d19_16 : decode jdk_35_method_42_code 16 = .ok (.iconst 0, 1) := by decide +kernel
theorem d19_17 : decode jdk_35_method_42_code 17 = .ok (.goto 4, 3) := by decide +kernel
theorem d19_20 : decode jdk_35_method_42_code 20 = .ok (.iconst 1, 1) := by decide +kernel
theorem d19_21 : decode jdk_35_method_42_code 21 = .ok (.ireturn, 1) := by decide +kernel
theorem pn_19 : plainName "java/lang/Long" = true := by first | (simp [plainName, overriddenIn]; done) | decide +kernel
theorem ef_19 (m : MethodId) (x0 : Int64) (x1 : Int64) : entryFrame m #[(.long x0), (.long x1)] 4 = mkF m 0 #[oJ x0, oS, oJ x1, oS] [] := by first | (simp [entryFrame, mkF, argsToLocals, Value.category]; done) | rfl
def Q19 (Z : State) (q0 : Int64) (q1 : Int64) (h0 : Heap) (n0 : Nat) (v : Option Value) (h : Heap) (L : List Loc) : Prop := v = some (.int (fcmp q0 q1)) ∧ Fr n0 L ∧ h = h0
set_option maxRecDepth 65536 in
set_option maxHeartbeats 40000000 in
theorem rm19 (l : Launch) (Z : State) (a0 : Array Value) (hw : ∀ d ∈ tables_1, d.before a0 Z = true) (ws : List Jvm.Cond) (q0 : Int64) (q1 : Int64) (h0 : Heap) (n0 : Nat) (Z0 : n0 ≤ h0.size) :
    MetFree l (⟨"java/lang/Long", "compare", "(JJ)I"⟩ : MethodName) (head1 (Jvm.Cond.code (⟨"java/lang/Long", "compare", "(JJ)I"⟩ : MethodName) jdk_35_method_42_code 4 (some .int) :: ws) ({ frames := 0, cells := 0, slots := 0, locals := 0 } : Room)) (fun a U => a = #[(.long q0), (.long q1)] ∧ Z.Warmed39 U.vm ∧ U.heap = h0) (fun _ _ _ _ _ => True) (fun _ U o U' => ∃ v L, o = .returned v ∧ Q19 Z q0 q1 h0 n0 v U'.heap L ∧ FrameEnd U o U' L ({ frames := 0, cells := 0, slots := 0, locals := 0 } : Room).cells ({ frames := 0, cells := 0, slots := 0, locals := 0 } : Room).slots) := by
  refine MetFree.of_bodySF (plainFor_of_name pn_19) hisR ?_
  intro p e s m args below meth c s₁ Bd hml0 hP hK
  obtain ⟨rfl, hZ, hh⟩ := hP
  have hx := Bd.exec
  have hby := Bd.bytes
  have hml : c.maxLocals = 4 := hml0
  have hown : s.vm.findClass "java/lang/Long" = some m.cls := findClass_of_methodNamed Bd.named
  have hnm := (name_of_methodNamed Bd.named Bd.method).1
  have X0 : Stand p l e ({ frames := 0, cells := 0, slots := 0, locals := 0 } : Room) s m #[(.long q0), (.long q1)] below meth c s₁ [] 0 0 := Stand.of_body Bd
  have e0 : s₁.heap = h0 := by rw [← hh, Bd.state]; rfl
  have N0 := Fr.nil n0
  change own_Go p e below (own_Post s (Q19 Z q0 q1 h0 n0) ({ frames := 0, cells := 0, slots := 0, locals := 0 } : Room).cells ({ frames := 0, cells := 0, slots := 0, locals := 0 } : Room).slots) (s₁.setTop (entryFrame m #[(.long q0), (.long q1)] 4))
  refine own_by (fun t k => castTop (ef_19 m q0 q1) k) ?_
  show own_Go p e below _ (s₁.setTop (mkF m 0 #[oJ q0, oS, oJ q1, oS] []))
  refine own_by (B := s₁.setTop (mkF m 21 #[oJ q0, oS, oJ q1, oS] [(.int (if q0 < q1 then (-1 : Int32) else (if q0 = q1 then (0 : Int32) else (1 : Int32))))])) (fun t k => ?_) ?_
  · show Steps p.tables e below (s₁.setTop (mkF m 0 #[oJ q0, oS, oJ q1, oS] [])) _
    refine XS.lloadN X0.here hx rfl (hb hby d19_0) rfl ?_
    show Steps p.tables e below (s₁.setTop (mkF m 1 #[oJ q0, oS, oJ q1, oS] [(.long q0)])) _
    refine XS.lloadN X0.here hx rfl (hb hby d19_1) rfl ?_
    show Steps p.tables e below (s₁.setTop (mkF m 2 #[oJ q0, oS, oJ q1, oS] [(.long q1), (.long q0)])) _
    refine XS.lcmp X0.here hx rfl (hb hby d19_2) rfl ?_
    show Steps p.tables e below (s₁.setTop (mkF m 3 #[oJ q0, oS, oJ q1, oS] [(.int (lcmpW q0 q1))])) _
    refine (fun t (k : Steps p.tables e below (s₁.setTop (mkF m 21 #[oJ q0, oS, oJ q1, oS] [(.int (if q0 < q1 then (-1 : Int32) else (if q0 = q1 then (0 : Int32) else (1 : Int32))))])) t) => (?_ : Steps p.tables e below _ t)) _ ?_
    · by_cases hc1 : q0 < q1
      · simp only [if_pos hc1] at k
        refine XS.ifNo X0.here hx rfl (hb hby d19_3) rfl ((if0 _ _).trans (tlt ((lw_lt _ _).mpr hc1)).2.1) ?_
        show Steps p.tables e below (s₁.setTop (mkF m 6 #[oJ q0, oS, oJ q1, oS] [])) _
        refine XS.iconst X0.here hx rfl (hb hby d19_6) ?_
        show Steps p.tables e below (s₁.setTop (mkF m 7 #[oJ q0, oS, oJ q1, oS] [(.int (-1 : Int32))])) _
        refine XS.goto X0.here hx rfl (pc0 := 7) (pc' := 21) rfl (hb hby d19_7) (by decide) (by decide) ?_
        show Steps p.tables e below (s₁.setTop (mkF m 21 #[oJ q0, oS, oJ q1, oS] [(.int (-1 : Int32))])) _
        exact k
      · simp only [if_neg hc1] at k
        refine XS.ifYes X0.here hx rfl (pc0 := 3) (pc' := 10) rfl (hb hby d19_3) rfl ((if0 _ _).trans (flt (fun q => hc1 ((lw_lt _ _).mp q))).2.1) (by decide) (by decide) ?_
        show Steps p.tables e below (s₁.setTop (mkF m 10 #[oJ q0, oS, oJ q1, oS] [])) _
        refine XS.lloadN X0.here hx rfl (hb hby d19_10) rfl ?_
        show Steps p.tables e below (s₁.setTop (mkF m 11 #[oJ q0, oS, oJ q1, oS] [(.long q0)])) _
        refine XS.lloadN X0.here hx rfl (hb hby d19_11) rfl ?_
        show Steps p.tables e below (s₁.setTop (mkF m 12 #[oJ q0, oS, oJ q1, oS] [(.long q1), (.long q0)])) _
        refine XS.lcmp X0.here hx rfl (hb hby d19_12) rfl ?_
        show Steps p.tables e below (s₁.setTop (mkF m 13 #[oJ q0, oS, oJ q1, oS] [(.int (lcmpW q0 q1))])) _
        refine (fun t (k : Steps p.tables e below (s₁.setTop (mkF m 21 #[oJ q0, oS, oJ q1, oS] [(.int (if q0 = q1 then (0 : Int32) else (1 : Int32)))])) t) => (?_ : Steps p.tables e below _ t)) _ ?_
        · by_cases hc2 : q0 = q1
          · simp only [if_pos hc2] at k
            refine XS.ifNo X0.here hx rfl (hb hby d19_13) rfl ((if0 _ _).trans (teq ((lw_eq _ _).mpr hc2)).2) ?_
            show Steps p.tables e below (s₁.setTop (mkF m 16 #[oJ q0, oS, oJ q1, oS] [])) _
            refine XS.iconst X0.here hx rfl (hb hby d19_16) ?_
            show Steps p.tables e below (s₁.setTop (mkF m 17 #[oJ q0, oS, oJ q1, oS] [(.int (0 : Int32))])) _
            refine XS.goto X0.here hx rfl (pc0 := 17) (pc' := 21) rfl (hb hby d19_17) (by decide) (by decide) ?_
            show Steps p.tables e below (s₁.setTop (mkF m 21 #[oJ q0, oS, oJ q1, oS] [(.int (0 : Int32))])) _
            exact k
          · simp only [if_neg hc2] at k
            refine XS.ifYes X0.here hx rfl (pc0 := 13) (pc' := 20) rfl (hb hby d19_13) rfl ((if0 _ _).trans (feq (fun q => hc2 ((lw_eq _ _).mp q))).2) (by decide) (by decide) ?_
            show Steps p.tables e below (s₁.setTop (mkF m 20 #[oJ q0, oS, oJ q1, oS] [])) _
            refine XS.iconst X0.here hx rfl (hb hby d19_20) ?_
            show Steps p.tables e below (s₁.setTop (mkF m 21 #[oJ q0, oS, oJ q1, oS] [(.int (1 : Int32))])) _
            exact k
        show Steps p.tables e below (s₁.setTop (mkF m 21 #[oJ q0, oS, oJ q1, oS] [(.int (if q0 = q1 then (0 : Int32) else (1 : Int32)))])) _
        exact k
    show Steps p.tables e below (s₁.setTop (mkF m 21 #[oJ q0, oS, oJ q1, oS] [(.int (if q0 < q1 then (-1 : Int32) else (if q0 = q1 then (0 : Int32) else (1 : Int32))))])) _
    exact k
  exact own_retI X0 Bd.notSynchronized hx Bd.returns (hb hby d19_21) (by
      rw [show s₁.heap = h0 from e0]
      exact ⟨congrArg (fun z => some (Value.int z)) (show (if q0 < q1 then (-1 : Int32) else (if q0 = q1 then (0 : Int32) else (1 : Int32))) = (fcmp q0 q1) from rfl), N0, rfl⟩) (by decide) (by decide)

def fsg (w1 : Int64) : Int32 := (fsgn w1)
theorem d6_0 : decode jdk_17_method_58_code 0 = .ok (.aload_n 0, 1) := by decide +kernel
theorem d6_1 : decode jdk_17_method_58_code 1 = .ok (.getfield 24, 3) := by decide +kernel
theorem d6_4 : decode jdk_17_method_58_code 4 = .ok (.ldc2_w 125, 3) := by decide +kernel
theorem d6_7 : decode jdk_17_method_58_code 7 = .ok (.lcmp, 1) := by decide +kernel
theorem d6_8 : decode jdk_17_method_58_code 8 = .ok (.ifCond .eq 13, 3) := by decide +kernel
theorem d6_11 : decode jdk_17_method_58_code 11 = .ok (.aload_n 0, 1) := by decide +kernel
theorem d6_12 : decode jdk_17_method_58_code 12 = .ok (.getfield 24, 3) := by decide +kernel
theorem d6_15 : decode jdk_17_method_58_code 15 = .ok (.invokestatic 596, 3) := by decide +kernel
theorem d6_18 : decode jdk_17_method_58_code 18 = .ok (.goto 10, 3) := by decide +kernel
theorem d6_28 : decode jdk_17_method_58_code 28 = .ok (.ireturn, 1) := by decide +kernel
theorem pn_6 : plainName "java/math/BigDecimal" = true := by first | (simp [plainName, overriddenIn]; done) | decide +kernel
theorem pd_4 : parseMethodDescriptor "(J)I" = some ⟨[.long], some .int⟩ := by decide +kernel
theorem ef_6 (m : MethodId) (x0 : Addr) : entryFrame m #[(.ref x0)] 1 = mkF m 0 #[rv x0] [] := by first | (simp [entryFrame, mkF, argsToLocals, Value.category]; done) | rfl
def Q6 (Z : State) (o0 : Addr) (w1 : Int64) (h0 : Heap) (n0 : Nat) (v : Option Value) (h : Heap) (L : List Loc) : Prop := v = some (.int (fsg w1)) ∧ Fr n0 L ∧ h = h0
set_option maxRecDepth 65536 in
set_option maxHeartbeats 40000000 in
theorem rm6 (l : Launch) (Z : State) (a0 : Array Value) (hw : ∀ d ∈ tables_1, d.before a0 Z = true) (ws : List Jvm.Cond) (o0 : Addr) (w1 : Int64) (h0 : Heap) (n0 : Nat) (Z0 : n0 ≤ h0.size) (F_intCompact_o0 : Fld Z h0 o0 "java/math/BigDecimal" "intCompact" "J" (.long w1)) (hp0 : ¬ (w1 = (-9223372036854775808 : Int64))) :
    MetFree l (⟨"java/math/BigDecimal", "signum", "()I"⟩ : MethodName) (head1 (Jvm.Cond.code (⟨"java/math/BigDecimal", "signum", "()I"⟩ : MethodName) jdk_17_method_58_code 1 (some .int) :: ws) ({ frames := 1, cells := 0, slots := 0, locals := 13 } : Room)) (fun a U => a = #[(.ref o0)] ∧ Z.Warmed39 U.vm ∧ U.heap = h0) (fun _ _ _ _ _ => True) (fun _ U o U' => ∃ v L, o = .returned v ∧ Q6 Z o0 w1 h0 n0 v U'.heap L ∧ FrameEnd U o U' L ({ frames := 1, cells := 0, slots := 0, locals := 13 } : Room).cells ({ frames := 1, cells := 0, slots := 0, locals := 13 } : Room).slots) := by
  refine MetFree.of_bodySF (plainFor_of_name pn_6) hisR ?_
  intro p e s m args below meth c s₁ Bd hml0 hP hK
  obtain ⟨rfl, hZ, hh⟩ := hP
  have hx := Bd.exec
  have hby := Bd.bytes
  have hml : c.maxLocals = 1 := hml0
  have hown : s.vm.findClass "java/math/BigDecimal" = some m.cls := findClass_of_methodNamed Bd.named
  have hnm := (name_of_methodNamed Bd.named Bd.method).1
  have X0 : Stand p l e ({ frames := 1, cells := 0, slots := 0, locals := 13 } : Room) s m #[(.ref o0)] below meth c s₁ [] 0 0 := Stand.of_body Bd
  have e0 : s₁.heap = h0 := by rw [← hh, Bd.state]; rfl
  have N0 := Fr.nil n0
  change own_Go p e below (own_Post s (Q6 Z o0 w1 h0 n0) ({ frames := 1, cells := 0, slots := 0, locals := 13 } : Room).cells ({ frames := 1, cells := 0, slots := 0, locals := 13 } : Room).slots) (s₁.setTop (entryFrame m #[(.ref o0)] 1))
  refine own_by (fun t k => castTop (ef_6 m o0) k) ?_
  show own_Go p e below _ (s₁.setTop (mkF m 0 #[rv o0] []))
  refine own_by (B := s₁.setTop (mkF m 1 #[rv o0] [(.ref o0)])) (fun t k => ?_) ?_
  · show Steps p.tables e below (s₁.setTop (mkF m 0 #[rv o0] [])) _
    refine XS.aloadN X0.here hx rfl (hb hby d6_0) rfl rfl ?_
    show Steps p.tables e below (s₁.setTop (mkF m 1 #[rv o0] [(.ref o0)])) _
    exact k
  refine own_c1 (getF X0 hx hZ hown (host := "") (Or.inl (hw _ (List.mem_of_getElem? (i := 39) rfl))) Via.refl e0 F_intCompact_o0 rfl rfl (hb hby d6_1)) fun T1 X1 e1 => ?_
  show own_Go p e below _ (T1.setTop (mkF m 4 #[rv o0] [(.long w1)]))
  refine own_by (B := T1.setTop (mkF m 12 #[rv o0] [(.ref o0)])) (fun t k => ?_) ?_
  · show Steps p.tables e below (T1.setTop (mkF m 4 #[rv o0] [(.long w1)])) _
    refine X1.ldc2Long hx hown (mvT hZ (hw _ (List.mem_of_getElem? (i := 41) rfl))) (g := (mkF m 4 #[rv o0] [(.long w1)])) rfl (hb hby d6_4) _ ?_
    show Steps p.tables e below (T1.setTop (mkF m 7 #[rv o0] [(.long (-9223372036854775808 : Int64)), (.long w1)])) _
    refine XS.lcmp X1.here hx rfl (hb hby d6_7) rfl ?_
    show Steps p.tables e below (T1.setTop (mkF m 8 #[rv o0] [(.int (lcmpW w1 (-9223372036854775808 : Int64)))])) _
    refine XS.ifNo X1.here hx rfl (hb hby d6_8) rfl ((if0 _ _).trans (feq (fun q => hp0 ((lw_eq _ _).mp q))).1) ?_
    show Steps p.tables e below (T1.setTop (mkF m 11 #[rv o0] [])) _
    refine XS.aloadN X1.here hx rfl (hb hby d6_11) rfl rfl ?_
    show Steps p.tables e below (T1.setTop (mkF m 12 #[rv o0] [(.ref o0)])) _
    exact k
  refine own_c1 (getF X1 hx hZ hown (host := "") (Or.inl (hw _ (List.mem_of_getElem? (i := 39) rfl))) Via.refl e1 F_intCompact_o0 rfl rfl (hb hby d6_12)) fun T2 X2 e2 => ?_
  show own_Go p e below _ (T2.setTop (mkF m 15 #[rv o0] [(.long w1)]))
  refine own_cc (own_callS X2 hx hZ (y := (⟨"java/lang/Long", "signum", "(J)I"⟩ : MethodName)) hown (hw _ (List.mem_of_getElem? (i := 42) rfl)) (hw _ (List.mem_of_getElem? (i := 43) rfl)) (hw _ (List.mem_of_getElem? (i := 44) rfl)) (hw _ (List.mem_of_getElem? (i := 45) rfl)) (by decide) (rm7 l Z a0 hw [] w1 h0 n0 Z0 ) e2 0 (by decide) (by decide) (by decide) (by decide) rfl (by rw [hml]; rfl) [(.long w1)] [] rfl (lenOf pd_4 rfl) rfl (by show 2 * 0 + _ ≤ _; exact Nat.le_of_eq rfl) (hb hby d6_15)) fun T4 L4 v4 X4 hQ4 => ?_
  obtain ⟨rfl, N4, e4⟩ := hQ4
  replace N0 := Fr.app N0 N4
  show own_Go p e below _ (T4.setTop (mkF m 18 #[rv o0] [(.int (fsgn w1))]))
  refine own_by (B := T4.setTop (mkF m 28 #[rv o0] [(.int (fsgn w1))])) (fun t k => ?_) ?_
  · show Steps p.tables e below (T4.setTop (mkF m 18 #[rv o0] [(.int (fsgn w1))])) _
    refine XS.goto X4.here hx rfl (pc0 := 18) (pc' := 28) rfl (hb hby d6_18) (by decide) (by decide) ?_
    show Steps p.tables e below (T4.setTop (mkF m 28 #[rv o0] [(.int (fsgn w1))])) _
    exact k
  exact own_retI X4 Bd.notSynchronized hx Bd.returns (hb hby d6_28) (by
      rw [show T4.heap = h0 from e4]
      exact ⟨congrArg (fun z => some (Value.int z)) (show (fsgn w1) = (fsg w1) from rfl), N0, rfl⟩) (by decide) (by decide)

theorem d8_0 : decode jdk_17_method_59_code 0 = .ok (.aload_n 0, 1) := by decide +kernel
theorem d8_1 : decode jdk_17_method_59_code 1 = .ok (.getfield 17, 3) := by decide +kernel
theorem d8_4 : decode jdk_17_method_59_code 4 = .ok (.ireturn, 1) := by decide +kernel
theorem pn_8 : plainName "java/math/BigDecimal" = true := by first | (simp [plainName, overriddenIn]; done) | decide +kernel
theorem ef_8 (m : MethodId) (x0 : Addr) : entryFrame m #[(.ref x0)] 1 = mkF m 0 #[rv x0] [] := by first | (simp [entryFrame, mkF, argsToLocals, Value.category]; done) | rfl
def Q8 (Z : State) (o0 : Addr) (w1 : Int32) (h0 : Heap) (n0 : Nat) (v : Option Value) (h : Heap) (L : List Loc) : Prop := v = some (.int w1) ∧ Fr n0 L ∧ h = h0
set_option maxRecDepth 65536 in
set_option maxHeartbeats 40000000 in
theorem rm8 (l : Launch) (Z : State) (a0 : Array Value) (hw : ∀ d ∈ tables_1, d.before a0 Z = true) (ws : List Jvm.Cond) (o0 : Addr) (w1 : Int32) (h0 : Heap) (n0 : Nat) (Z0 : n0 ≤ h0.size) (F_scale_o0 : Fld Z h0 o0 "java/math/BigDecimal" "scale" "I" (.int w1)) :
    MetFree l (⟨"java/math/BigDecimal", "scale", "()I"⟩ : MethodName) (head1 (Jvm.Cond.code (⟨"java/math/BigDecimal", "scale", "()I"⟩ : MethodName) jdk_17_method_59_code 1 (some .int) :: ws) ({ frames := 0, cells := 0, slots := 0, locals := 0 } : Room)) (fun a U => a = #[(.ref o0)] ∧ Z.Warmed39 U.vm ∧ U.heap = h0) (fun _ _ _ _ _ => True) (fun _ U o U' => ∃ v L, o = .returned v ∧ Q8 Z o0 w1 h0 n0 v U'.heap L ∧ FrameEnd U o U' L ({ frames := 0, cells := 0, slots := 0, locals := 0 } : Room).cells ({ frames := 0, cells := 0, slots := 0, locals := 0 } : Room).slots) := by
  refine MetFree.of_bodySF (plainFor_of_name pn_8) hisR ?_
  intro p e s m args below meth c s₁ Bd hml0 hP hK
  obtain ⟨rfl, hZ, hh⟩ := hP
  have hx := Bd.exec
  have hby := Bd.bytes
  have hml : c.maxLocals = 1 := hml0
  have hown : s.vm.findClass "java/math/BigDecimal" = some m.cls := findClass_of_methodNamed Bd.named
  have hnm := (name_of_methodNamed Bd.named Bd.method).1
  have X0 : Stand p l e ({ frames := 0, cells := 0, slots := 0, locals := 0 } : Room) s m #[(.ref o0)] below meth c s₁ [] 0 0 := Stand.of_body Bd
  have e0 : s₁.heap = h0 := by rw [← hh, Bd.state]; rfl
  have N0 := Fr.nil n0
  change own_Go p e below (own_Post s (Q8 Z o0 w1 h0 n0) ({ frames := 0, cells := 0, slots := 0, locals := 0 } : Room).cells ({ frames := 0, cells := 0, slots := 0, locals := 0 } : Room).slots) (s₁.setTop (entryFrame m #[(.ref o0)] 1))
  refine own_by (fun t k => castTop (ef_8 m o0) k) ?_
  show own_Go p e below _ (s₁.setTop (mkF m 0 #[rv o0] []))
  refine own_by (B := s₁.setTop (mkF m 1 #[rv o0] [(.ref o0)])) (fun t k => ?_) ?_
  · show Steps p.tables e below (s₁.setTop (mkF m 0 #[rv o0] [])) _
    refine XS.aloadN X0.here hx rfl (hb hby d8_0) rfl rfl ?_
    show Steps p.tables e below (s₁.setTop (mkF m 1 #[rv o0] [(.ref o0)])) _
    exact k
  refine own_c1 (getF X0 hx hZ hown (host := "") (Or.inl (hw _ (List.mem_of_getElem? (i := 51) rfl))) Via.refl e0 F_scale_o0 rfl rfl (hb hby d8_1)) fun T1 X1 e1 => ?_
  show own_Go p e below _ (T1.setTop (mkF m 4 #[rv o0] [(.int w1)]))
  exact own_retI X1 Bd.notSynchronized hx Bd.returns (hb hby d8_4) (by
      rw [show T1.heap = h0 from e1]
      exact ⟨rfl, N0, rfl⟩) (by decide) (by decide)

theorem d11_0 : decode jdk_18_method_1_code 0 = .ok (.aload_n 0, 1) := by decide +kernel
theorem d11_1 : decode jdk_18_method_1_code 1 = .ok (.invokespecial 1, 3) := by decide +kernel
theorem d11_4 : decode jdk_18_method_1_code 4 = .ok (.return_, 1) := by decide +kernel
theorem pn_11 : plainName "java/lang/Number" = true := by first | (simp [plainName, overriddenIn]; done) | decide +kernel
theorem ef_11 (m : MethodId) (x0 : Addr) : entryFrame m #[(.ref x0)] 1 = mkF m 0 #[rv x0] [] := by first | (simp [entryFrame, mkF, argsToLocals, Value.category]; done) | rfl
def Q11 (Z : State) (o0 : Addr) (h0 : Heap) (n0 : Nat) (v : Option Value) (h : Heap) (L : List Loc) : Prop := v = none ∧ Fr n0 L ∧ h = h0
set_option maxRecDepth 65536 in
set_option maxHeartbeats 40000000 in
theorem rm11 (l : Launch) (Z : State) (a0 : Array Value) (hw : ∀ d ∈ tables_1, d.before a0 Z = true) (ws : List Jvm.Cond) (o0 : Addr) (h0 : Heap) (n0 : Nat) (Z0 : n0 ≤ h0.size) :
    MetFree l (⟨"java/lang/Number", "<init>", "()V"⟩ : MethodName) (head1 (Jvm.Cond.code (⟨"java/lang/Number", "<init>", "()V"⟩ : MethodName) jdk_18_method_1_code 1 none :: ws) ({ frames := 1, cells := 0, slots := 0, locals := 12 } : Room)) (fun a U => a = #[(.ref o0)] ∧ Z.Warmed39 U.vm ∧ U.heap = h0) (fun _ _ _ _ _ => True) (fun _ U o U' => ∃ v L, o = .returned v ∧ Q11 Z o0 h0 n0 v U'.heap L ∧ FrameEnd U o U' L ({ frames := 1, cells := 0, slots := 0, locals := 12 } : Room).cells ({ frames := 1, cells := 0, slots := 0, locals := 12 } : Room).slots) := by
  refine MetFree.of_bodySF (plainFor_of_name pn_11) hisR ?_
  intro p e s m args below meth c s₁ Bd hml0 hP hK
  obtain ⟨rfl, hZ, hh⟩ := hP
  have hx := Bd.exec
  have hby := Bd.bytes
  have hml : c.maxLocals = 1 := hml0
  have hown : s.vm.findClass "java/lang/Number" = some m.cls := findClass_of_methodNamed Bd.named
  have hnm := (name_of_methodNamed Bd.named Bd.method).1
  have X0 : Stand p l e ({ frames := 1, cells := 0, slots := 0, locals := 12 } : Room) s m #[(.ref o0)] below meth c s₁ [] 0 0 := Stand.of_body Bd
  have e0 : s₁.heap = h0 := by rw [← hh, Bd.state]; rfl
  have N0 := Fr.nil n0
  change own_Go p e below (own_Post s (Q11 Z o0 h0 n0) ({ frames := 1, cells := 0, slots := 0, locals := 12 } : Room).cells ({ frames := 1, cells := 0, slots := 0, locals := 12 } : Room).slots) (s₁.setTop (entryFrame m #[(.ref o0)] 1))
  refine own_by (fun t k => castTop (ef_11 m o0) k) ?_
  show own_Go p e below _ (s₁.setTop (mkF m 0 #[rv o0] []))
  refine own_by (B := s₁.setTop (mkF m 1 #[rv o0] [(.ref o0)])) (fun t k => ?_) ?_
  · show Steps p.tables e below (s₁.setTop (mkF m 0 #[rv o0] [])) _
    refine XS.aloadN X0.here hx rfl (hb hby d11_0) rfl rfl ?_
    show Steps p.tables e below (s₁.setTop (mkF m 1 #[rv o0] [(.ref o0)])) _
    exact k
  refine own_c1 (initO X0 hx hZ hown (hw _ (List.mem_of_getElem? (i := 69) rfl)) (hw _ (List.mem_of_getElem? (i := 10) rfl)) (hw _ (List.mem_of_getElem? (i := 11) rfl)) e0 rfl (by rw [hml]; rfl) rfl (hb hby d11_1) (by decide) (W := 0) (by show 2 * 0 + _ ≤ _; exact Nat.le_of_eq rfl) (by decide)) fun T2 X2 e2 => ?_
  show own_Go p e below _ (T2.setTop (mkF m 4 #[rv o0] []))
  exact own_retV X2 Bd.notSynchronized hx Bd.returns (hb hby d11_4) (by
      rw [show T2.heap = h0 from e2]
      exact ⟨rfl, N0, rfl⟩) (by decide) (by decide)

theorem d10_0 : decode jdk_17_method_1_code 0 = .ok (.aload_n 0, 1) := by decide +kernel
theorem d10_1 : decode jdk_17_method_1_code 1 = .ok (.invokespecial 11, 3) := by decide +kernel
theorem d10_4 : decode jdk_17_method_1_code 4 = .ok (.aload_n 0, 1) := by decide +kernel
theorem d10_5 : decode jdk_17_method_1_code 5 = .ok (.iload 4, 2) := by decide +kernel
theorem d10_7 : decode jdk_17_method_1_code 7 = .ok (.putfield 17, 3) := by decide +kernel
theorem d10_10 : decode jdk_17_method_1_code 10 = .ok (.aload_n 0, 1) := by decide +kernel
theorem d10_11 : decode jdk_17_method_1_code 11 = .ok (.iload 5, 2) := by decide +kernel
theorem d10_13 : decode jdk_17_method_1_code 13 = .ok (.putfield 21, 3) := by decide +kernel
theorem d10_16 : decode jdk_17_method_1_code 16 = .ok (.aload_n 0, 1) := by decide +kernel
theorem d10_17 : decode jdk_17_method_1_code 17 = .ok (.lload_n 2, 1) := by decide +kernel
theorem d10_18 : decode jdk_17_method_1_code 18 = .ok (.putfield 24, 3) := by decide +kernel
theorem d10_21 : decode jdk_17_method_1_code 21 = .ok (.aload_n 0, 1) := by decide +kernel
theorem d10_22 : decode jdk_17_method_1_code 22 = .ok (.aload_n 1, 1) := by decide +kernel
theorem d10_23 : decode jdk_17_method_1_code 23 = .ok (.putfield 28, 3) := by decide +kernel
theorem d10_26 : decode jdk_17_method_1_code 26 = .ok (.return_, 1) := by decide +kernel
theorem pn_10 : plainName "java/math/BigDecimal" = true := by first | (simp [plainName, overriddenIn]; done) | decide +kernel
theorem pd_0 : parseMethodDescriptor "()V" = some ⟨[], none⟩ := by decide +kernel
theorem ef_10n (m : MethodId) (x0 : Addr) (x2 : Int64) (x3 : Int32) (x4 : Int32) : entryFrame m #[(.ref x0), .null, (.long x2), (.int x3), (.int x4)] 6 = mkF m 0 #[rv x0, .val .null, oJ x2, oS, iv x3, iv x4] [] := by first | (simp [entryFrame, mkF, argsToLocals, Value.category]; done) | rfl
def Q10 (Z : State) (o0 : Addr) (q2 : Int64) (p3 : Int32) (p4 : Int32) (h0 : Heap) (n0 : Nat) (v : Option Value) (h : Heap) (L : List Loc) : Prop := v = none ∧ Fr n0 L ∧ Keep h0 h [o0] ∧ Exa Z h o0 "java/math/BigDecimal" ∧ Fld Z h o0 "java/math/BigDecimal" "intCompact" "J" (.long q2) ∧ Fld Z h o0 "java/math/BigDecimal" "scale" "I" (.int p3)
set_option maxRecDepth 65536 in
set_option maxHeartbeats 40000000 in
theorem rm10 (l : Launch) (Z : State) (a0 : Array Value) (hw : ∀ d ∈ tables_1, d.before a0 Z = true) (ws : List Jvm.Cond) (o0 : Addr) (q2 : Int64) (p3 : Int32) (p4 : Int32) (h0 : Heap) (n0 : Nat) (Z0 : n0 ≤ h0.size) (E_o0 : Exa Z h0 o0 "java/math/BigDecimal") (F_scale_o0 : Fld Z h0 o0 "java/math/BigDecimal" "scale" "I" (.int (0 : Int32))) (F_precision_o0 : Fld Z h0 o0 "java/math/BigDecimal" "precision" "I" (.int (0 : Int32))) (F_intCompact_o0 : Fld Z h0 o0 "java/math/BigDecimal" "intCompact" "J" (.long (0 : Int64))) (F_intVal_o0 : Fld Z h0 o0 "java/math/BigDecimal" "intVal" "Ljava/math/BigInteger;" .null) (g_o0 : n0 ≤ o0) :
    MetFree l (⟨"java/math/BigDecimal", "<init>", "(Ljava/math/BigInteger;JII)V"⟩ : MethodName) (head1 (Jvm.Cond.code (⟨"java/math/BigDecimal", "<init>", "(Ljava/math/BigInteger;JII)V"⟩ : MethodName) jdk_17_method_1_code 6 none :: ws) ({ frames := 2, cells := 0, slots := 0, locals := 24 } : Room)) (fun a U => a = #[(.ref o0), .null, (.long q2), (.int p3), (.int p4)] ∧ Z.Warmed39 U.vm ∧ U.heap = h0) (fun _ _ _ _ _ => True) (fun _ U o U' => ∃ v L, o = .returned v ∧ Q10 Z o0 q2 p3 p4 h0 n0 v U'.heap L ∧ FrameEnd U o U' L ({ frames := 2, cells := 0, slots := 0, locals := 24 } : Room).cells ({ frames := 2, cells := 0, slots := 0, locals := 24 } : Room).slots) := by
  refine MetFree.of_bodySF (plainFor_of_name pn_10) hisR ?_
  intro p e s m args below meth c s₁ Bd hml0 hP hK
  obtain ⟨rfl, hZ, hh⟩ := hP
  have hx := Bd.exec
  have hby := Bd.bytes
  have hml : c.maxLocals = 6 := hml0
  have hown : s.vm.findClass "java/math/BigDecimal" = some m.cls := findClass_of_methodNamed Bd.named
  have hnm := (name_of_methodNamed Bd.named Bd.method).1
  have X0 : Stand p l e ({ frames := 2, cells := 0, slots := 0, locals := 24 } : Room) s m #[(.ref o0), .null, (.long q2), (.int p3), (.int p4)] below meth c s₁ [] 0 0 := Stand.of_body Bd
  have e0 : s₁.heap = h0 := by rw [← hh, Bd.state]; rfl
  have N0 := Fr.nil n0
  have K0 : Keep h0 h0 [o0] := Keep.refl h0 _
  change own_Go p e below (own_Post s (Q10 Z o0 q2 p3 p4 h0 n0) ({ frames := 2, cells := 0, slots := 0, locals := 24 } : Room).cells ({ frames := 2, cells := 0, slots := 0, locals := 24 } : Room).slots) (s₁.setTop (entryFrame m #[(.ref o0), .null, (.long q2), (.int p3), (.int p4)] 6))
  refine own_by (fun t k => castTop (ef_10n m o0 q2 p3 p4) k) ?_
  show own_Go p e below _ (s₁.setTop (mkF m 0 #[rv o0, .val .null, oJ q2, oS, iv p3, iv p4] []))
  refine own_by (B := s₁.setTop (mkF m 1 #[rv o0, .val .null, oJ q2, oS, iv p3, iv p4] [(.ref o0)])) (fun t k => ?_) ?_
  · show Steps p.tables e below (s₁.setTop (mkF m 0 #[rv o0, .val .null, oJ q2, oS, iv p3, iv p4] [])) _
    refine XS.aloadN X0.here hx rfl (hb hby d10_0) rfl rfl ?_
    show Steps p.tables e below (s₁.setTop (mkF m 1 #[rv o0, .val .null, oJ q2, oS, iv p3, iv p4] [(.ref o0)])) _
    exact k
  refine own_cc (own_callI X0 hx hZ (y := (⟨"java/lang/Number", "<init>", "()V"⟩ : MethodName)) rfl hown (hw _ (List.mem_of_getElem? (i := 63) rfl)) (hw _ (List.mem_of_getElem? (i := 64) rfl)) (hw _ (List.mem_of_getElem? (i := 67) rfl)) (hw _ (List.mem_of_getElem? (i := 68) rfl)) (by decide) (rm11 l Z a0 hw [] o0 h0 n0 Z0 ) e0 0 (by decide) (by decide) (by decide) (by decide) rfl (by rw [hml]; rfl) o0 [] [] rfl (lenOf pd_0 rfl) rfl (by show 2 * 0 + _ ≤ _; exact Nat.le_of_eq rfl) (hb hby d10_1)) fun T2 L2 v2 X2 hQ2 => ?_
  obtain ⟨rfl, N2, e2⟩ := hQ2
  replace N0 := Fr.app N0 N2
  show own_Go p e below _ (T2.setTop (mkF m 4 #[rv o0, .val .null, oJ q2, oS, iv p3, iv p4] []))
  refine own_by (B := T2.setTop (mkF m 7 #[rv o0, .val .null, oJ q2, oS, iv p3, iv p4] [(.int p3), (.ref o0)])) (fun t k => ?_) ?_
  · show Steps p.tables e below (T2.setTop (mkF m 4 #[rv o0, .val .null, oJ q2, oS, iv p3, iv p4] [])) _
    refine XS.aloadN X2.here hx rfl (hb hby d10_4) rfl rfl ?_
    show Steps p.tables e below (T2.setTop (mkF m 5 #[rv o0, .val .null, oJ q2, oS, iv p3, iv p4] [(.ref o0)])) _
    refine XS.iload X2.here hx rfl (hb hby d10_5) rfl ?_
    show Steps p.tables e below (T2.setTop (mkF m 7 #[rv o0, .val .null, oJ q2, oS, iv p3, iv p4] [(.int p3), (.ref o0)])) _
    exact k
  refine own_c2 (putF X2 hx hZ hown (host := "") (Or.inl (hw _ (List.mem_of_getElem? (i := 51) rfl))) Via.refl e2 F_scale_o0 E_o0 (Or.inr ⟨(hw _ (List.mem_of_getElem? (i := 52) rfl)), rfl, hnm⟩) (hw _ (List.mem_of_getElem? (i := 58) rfl)) (ty := .int) (by decide) rfl rfl rfl rfl (hb hby d10_7)) fun T3 h3 X3 e3 W3 => ?_
  replace F_scale_o0 := F_scale_o0.same W3
  replace E_o0 := E_o0.wr W3
  replace F_precision_o0 := F_precision_o0.other W3 (Or.inr (sn0 hw))
  replace F_intCompact_o0 := F_intCompact_o0.other W3 (Or.inr (sn1 hw))
  replace F_intVal_o0 := F_intVal_o0.other W3 (Or.inr (sn2 hw))
  replace K0 := K0.wr W3 (Or.inl (List.mem_of_getElem? (i := 0) rfl))
  replace Z0 := Nat.le_trans Z0 (Keep.of_wr W3).1
  replace N0 := Fr.snoc X3 N0 g_o0
  show own_Go p e below _ (T3.setTop (mkF m 10 #[rv o0, .val .null, oJ q2, oS, iv p3, iv p4] []))
  refine own_by (B := T3.setTop (mkF m 13 #[rv o0, .val .null, oJ q2, oS, iv p3, iv p4] [(.int p4), (.ref o0)])) (fun t k => ?_) ?_
  · show Steps p.tables e below (T3.setTop (mkF m 10 #[rv o0, .val .null, oJ q2, oS, iv p3, iv p4] [])) _
    refine XS.aloadN X3.here hx rfl (hb hby d10_10) rfl rfl ?_
    show Steps p.tables e below (T3.setTop (mkF m 11 #[rv o0, .val .null, oJ q2, oS, iv p3, iv p4] [(.ref o0)])) _
    refine XS.iload X3.here hx rfl (hb hby d10_11) rfl ?_
    show Steps p.tables e below (T3.setTop (mkF m 13 #[rv o0, .val .null, oJ q2, oS, iv p3, iv p4] [(.int p4), (.ref o0)])) _
    exact k
  refine own_c2 (putF X3 hx hZ hown (host := "") (Or.inl (hw _ (List.mem_of_getElem? (i := 70) rfl))) Via.refl e3 F_precision_o0 E_o0 (Or.inl (hw _ (List.mem_of_getElem? (i := 71) rfl))) (hw _ (List.mem_of_getElem? (i := 58) rfl)) (ty := .int) (by decide) rfl rfl rfl rfl (hb hby d10_13)) fun T4 h4 X4 e4 W4 => ?_
  replace F_precision_o0 := F_precision_o0.same W4
  replace E_o0 := E_o0.wr W4
  replace F_scale_o0 := F_scale_o0.other W4 (Or.inr (sn3 hw))
  replace F_intCompact_o0 := F_intCompact_o0.other W4 (Or.inr (sn4 hw))
  replace F_intVal_o0 := F_intVal_o0.other W4 (Or.inr (sn5 hw))
  replace K0 := K0.wr W4 (Or.inl (List.mem_of_getElem? (i := 0) rfl))
  replace Z0 := Nat.le_trans Z0 (Keep.of_wr W4).1
  replace N0 := Fr.snoc X4 N0 g_o0
  show own_Go p e below _ (T4.setTop (mkF m 16 #[rv o0, .val .null, oJ q2, oS, iv p3, iv p4] []))
  refine own_by (B := T4.setTop (mkF m 18 #[rv o0, .val .null, oJ q2, oS, iv p3, iv p4] [(.long q2), (.ref o0)])) (fun t k => ?_) ?_
  · show Steps p.tables e below (T4.setTop (mkF m 16 #[rv o0, .val .null, oJ q2, oS, iv p3, iv p4] [])) _
    refine XS.aloadN X4.here hx rfl (hb hby d10_16) rfl rfl ?_
    show Steps p.tables e below (T4.setTop (mkF m 17 #[rv o0, .val .null, oJ q2, oS, iv p3, iv p4] [(.ref o0)])) _
    refine XS.lloadN X4.here hx rfl (hb hby d10_17) rfl ?_
    show Steps p.tables e below (T4.setTop (mkF m 18 #[rv o0, .val .null, oJ q2, oS, iv p3, iv p4] [(.long q2), (.ref o0)])) _
    exact k
  refine own_c2 (putF X4 hx hZ hown (host := "") (Or.inl (hw _ (List.mem_of_getElem? (i := 39) rfl))) Via.refl e4 F_intCompact_o0 E_o0 (Or.inr ⟨(hw _ (List.mem_of_getElem? (i := 40) rfl)), rfl, hnm⟩) (hw _ (List.mem_of_getElem? (i := 58) rfl)) (ty := .long) (by decide) rfl rfl rfl rfl (hb hby d10_18)) fun T5 h5 X5 e5 W5 => ?_
  replace F_intCompact_o0 := F_intCompact_o0.same W5
  replace E_o0 := E_o0.wr W5
  replace F_scale_o0 := F_scale_o0.other W5 (Or.inr (sn6 hw))
  replace F_precision_o0 := F_precision_o0.other W5 (Or.inr (sn7 hw))
  replace F_intVal_o0 := F_intVal_o0.other W5 (Or.inr (sn8 hw))
  replace K0 := K0.wr W5 (Or.inl (List.mem_of_getElem? (i := 0) rfl))
  replace Z0 := Nat.le_trans Z0 (Keep.of_wr W5).1
  replace N0 := Fr.snoc X5 N0 g_o0
  show own_Go p e below _ (T5.setTop (mkF m 21 #[rv o0, .val .null, oJ q2, oS, iv p3, iv p4] []))
  refine own_by (B := T5.setTop (mkF m 23 #[rv o0, .val .null, oJ q2, oS, iv p3, iv p4] [.null, (.ref o0)])) (fun t k => ?_) ?_
  · show Steps p.tables e below (T5.setTop (mkF m 21 #[rv o0, .val .null, oJ q2, oS, iv p3, iv p4] [])) _
    refine XS.aloadN X5.here hx rfl (hb hby d10_21) rfl rfl ?_
    show Steps p.tables e below (T5.setTop (mkF m 22 #[rv o0, .val .null, oJ q2, oS, iv p3, iv p4] [(.ref o0)])) _
    refine XS.aloadN X5.here hx rfl (hb hby d10_22) rfl rfl ?_
    show Steps p.tables e below (T5.setTop (mkF m 23 #[rv o0, .val .null, oJ q2, oS, iv p3, iv p4] [.null, (.ref o0)])) _
    exact k
  refine own_c2 (putF X5 hx hZ hown (host := "") (Or.inl (hw _ (List.mem_of_getElem? (i := 72) rfl))) Via.refl e5 F_intVal_o0 E_o0 (Or.inr ⟨(hw _ (List.mem_of_getElem? (i := 73) rfl)), rfl, hnm⟩) (hw _ (List.mem_of_getElem? (i := 58) rfl)) (ty := (.object "java/math/BigInteger")) (by decide) rfl rfl rfl rfl (hb hby d10_23)) fun T6 h6 X6 e6 W6 => ?_
  replace F_intVal_o0 := F_intVal_o0.same W6
  replace E_o0 := E_o0.wr W6
  replace F_scale_o0 := F_scale_o0.other W6 (Or.inr (sn9 hw))
  replace F_precision_o0 := F_precision_o0.other W6 (Or.inr (sn10 hw))
  replace F_intCompact_o0 := F_intCompact_o0.other W6 (Or.inr (sn11 hw))
  replace K0 := K0.wr W6 (Or.inl (List.mem_of_getElem? (i := 0) rfl))
  replace Z0 := Nat.le_trans Z0 (Keep.of_wr W6).1
  replace N0 := Fr.snoc X6 N0 g_o0
  show own_Go p e below _ (T6.setTop (mkF m 26 #[rv o0, .val .null, oJ q2, oS, iv p3, iv p4] []))
  exact own_retV X6 Bd.notSynchronized hx Bd.returns (hb hby d10_26) (by
      rw [show T6.heap = h6 from e6]
      exact ⟨rfl, N0, K0, E_o0, F_intCompact_o0, F_scale_o0⟩) (by decide) (by decide)

def fadd2 (q0 : Int64) (q1 : Int64) : Int64 := (if (((q0 + q1) ^^^ q0) &&& ((q0 + q1) ^^^ q1)) < (0 : Int64) then (-9223372036854775808 : Int64) else (q0 + q1))
theorem d15_0 : decode jdk_17_method_132_code 0 = .ok (.lload_n 0, 1) := by decide +kernel
theorem d15_1 : decode jdk_17_method_132_code 1 = .ok (.lload_n 2, 1) := by decide +kernel
theorem d15_2 : decode jdk_17_method_132_code 2 = .ok (.ladd, 1) := by decide +kernel
theorem d15_3 : decode jdk_17_method_132_code 3 = .ok (.lstore 4, 2) := by decide +kernel
theorem d15_5 : decode jdk_17_method_132_code 5 = .ok (.lload 4, 2) := by decide +kernel
theorem d15_7 : decode jdk_17_method_132_code 7 = .ok (.lload_n 0, 1) := by decide +kernel
theorem d15_8 : decode jdk_17_method_132_code 8 = .ok (.lxor, 1) := by decide +kernel
theorem d15_9 : decode jdk_17_method_132_code 9 = .ok (.lload 4, 2) := by decide +kernel
theorem d15_11 : decode jdk_17_method_132_code 11 = .ok (.lload_n 2, 1) := by decide +kernel
theorem d15_12 : decode jdk_17_method_132_code 12 = .ok (.lxor, 1) := by decide +kernel
theorem d15_13 : decode jdk_17_method_132_code 13 = .ok (.land, 1) := by decide +kernel
theorem d15_14 : decode jdk_17_method_132_code 14 = .ok (.lconst 0, 1) := by decide +kernel
theorem d15_15 : decode jdk_17_method_132_code 15 = .ok (.lcmp, 1) := by decide +kernel
theorem d15_16 : decode jdk_17_method_132_code 16 = .ok (.ifCond .lt 6, 3) := by decide +kernel
theorem d15_19 : decode jdk_17_method_132_code 19 = .ok (.lload 4, 2) := by decide +kernel
theorem d15_21 : decode jdk_17_method_132_code 21 = .ok (.lreturn, 1) := by decide +kernel
theorem d15_22 : decode jdk_17_method_132_code 22 = .ok (.ldc2_w 125, 3) := by decide +kernel
theorem d15_25 : decode jdk_17_method_132_code 25 = .ok (.lreturn, 1) := by decide +kernel
theorem pn_15 : plainName "java/math/BigDecimal" = true := by first | (simp [plainName, overriddenIn]; done) | decide +kernel
theorem ef_15 (m : MethodId) (x0 : Int64) (x1 : Int64) : entryFrame m #[(.long x0), (.long x1)] 6 = mkF m 0 #[oJ x0, oS, oJ x1, oS, oU, oU] [] := by first | (simp [entryFrame, mkF, argsToLocals, Value.category]; done) | rfl
def Q15 (Z : State) (q0 : Int64) (q1 : Int64) (h0 : Heap) (n0 : Nat) (v : Option Value) (h : Heap) (L : List Loc) : Prop := v = some (.long (fadd2 q0 q1)) ∧ Fr n0 L ∧ h = h0
set_option maxRecDepth 65536 in
set_option maxHeartbeats 40000000 in
theorem rm15 (l : Launch) (Z : State) (a0 : Array Value) (hw : ∀ d ∈ tables_1, d.before a0 Z = true) (ws : List Jvm.Cond) (q0 : Int64) (q1 : Int64) (h0 : Heap) (n0 : Nat) (Z0 : n0 ≤ h0.size) :
    MetFree l (⟨"java/math/BigDecimal", "add", "(JJ)J"⟩ : MethodName) (head1 (Jvm.Cond.code (⟨"java/math/BigDecimal", "add", "(JJ)J"⟩ : MethodName) jdk_17_method_132_code 6 (some .long) :: ws) ({ frames := 0, cells := 0, slots := 0, locals := 0 } : Room)) (fun a U => a = #[(.long q0), (.long q1)] ∧ Z.Warmed39 U.vm ∧ U.heap = h0) (fun _ _ _ _ _ => True) (fun _ U o U' => ∃ v L, o = .returned v ∧ Q15 Z q0 q1 h0 n0 v U'.heap L ∧ FrameEnd U o U' L ({ frames := 0, cells := 0, slots := 0, locals := 0 } : Room).cells ({ frames := 0, cells := 0, slots := 0, locals := 0 } : Room).slots) := by
  refine MetFree.of_bodySF (plainFor_of_name pn_15) hisR ?_
  intro p e s m args below meth c s₁ Bd hml0 hP hK
  obtain ⟨rfl, hZ, hh⟩ := hP
  have hx := Bd.exec
  have hby := Bd.bytes
  have hml : c.maxLocals = 6 := hml0
  have hown : s.vm.findClass "java/math/BigDecimal" = some m.cls := findClass_of_methodNamed Bd.named
  have hnm := (name_of_methodNamed Bd.named Bd.method).1
  have X0 : Stand p l e ({ frames := 0, cells := 0, slots := 0, locals := 0 } : Room) s m #[(.long q0), (.long q1)] below meth c s₁ [] 0 0 := Stand.of_body Bd
  have e0 : s₁.heap = h0 := by rw [← hh, Bd.state]; rfl
  have N0 := Fr.nil n0
  change own_Go p e below (own_Post s (Q15 Z q0 q1 h0 n0) ({ frames := 0, cells := 0, slots := 0, locals := 0 } : Room).cells ({ frames := 0, cells := 0, slots := 0, locals := 0 } : Room).slots) (s₁.setTop (entryFrame m #[(.long q0), (.long q1)] 6))
  refine own_by (fun t k => castTop (ef_15 m q0 q1) k) ?_
  show own_Go p e below _ (s₁.setTop (mkF m 0 #[oJ q0, oS, oJ q1, oS, oU, oU] []))
  refine own_by (B := s₁.setTop (mkF m 16 #[oJ q0, oS, oJ q1, oS, oJ (q0 + q1), oS] [(.int (lcmpW (((q0 + q1) ^^^ q0) &&& ((q0 + q1) ^^^ q1)) (0 : Int64)))])) (fun t k => ?_) ?_
  · show Steps p.tables e below (s₁.setTop (mkF m 0 #[oJ q0, oS, oJ q1, oS, oU, oU] [])) _
    refine XS.lloadN X0.here hx rfl (hb hby d15_0) rfl ?_
    show Steps p.tables e below (s₁.setTop (mkF m 1 #[oJ q0, oS, oJ q1, oS, oU, oU] [(.long q0)])) _
    refine XS.lloadN X0.here hx rfl (hb hby d15_1) rfl ?_
    show Steps p.tables e below (s₁.setTop (mkF m 2 #[oJ q0, oS, oJ q1, oS, oU, oU] [(.long q1), (.long q0)])) _
    refine XS.ladd X0.here hx rfl (hb hby d15_2) rfl ?_
    show Steps p.tables e below (s₁.setTop (mkF m 3 #[oJ q0, oS, oJ q1, oS, oU, oU] [(.long (q0 + q1))])) _
    refine XS.lstore X0.here hx rfl (hb hby d15_3) rfl (l' := #[oJ q0, oS, oJ q1, oS, oJ (q0 + q1), oS]) rfl ?_
    show Steps p.tables e below (s₁.setTop (mkF m 5 #[oJ q0, oS, oJ q1, oS, oJ (q0 + q1), oS] [])) _
    refine XS.lload X0.here hx rfl (hb hby d15_5) rfl ?_
    show Steps p.tables e below (s₁.setTop (mkF m 7 #[oJ q0, oS, oJ q1, oS, oJ (q0 + q1), oS] [(.long (q0 + q1))])) _
    refine XS.lloadN X0.here hx rfl (hb hby d15_7) rfl ?_
    show Steps p.tables e below (s₁.setTop (mkF m 8 #[oJ q0, oS, oJ q1, oS, oJ (q0 + q1), oS] [(.long q0), (.long (q0 + q1))])) _
    refine XS.lxor X0.here hx rfl (hb hby d15_8) rfl ?_
    show Steps p.tables e below (s₁.setTop (mkF m 9 #[oJ q0, oS, oJ q1, oS, oJ (q0 + q1), oS] [(.long ((q0 + q1) ^^^ q0))])) _
    refine XS.lload X0.here hx rfl (hb hby d15_9) rfl ?_
    show Steps p.tables e below (s₁.setTop (mkF m 11 #[oJ q0, oS, oJ q1, oS, oJ (q0 + q1), oS] [(.long (q0 + q1)), (.long ((q0 + q1) ^^^ q0))])) _
    refine XS.lloadN X0.here hx rfl (hb hby d15_11) rfl ?_
    show Steps p.tables e below (s₁.setTop (mkF m 12 #[oJ q0, oS, oJ q1, oS, oJ (q0 + q1), oS] [(.long q1), (.long (q0 + q1)), (.long ((q0 + q1) ^^^ q0))])) _
    refine XS.lxor X0.here hx rfl (hb hby d15_12) rfl ?_
    show Steps p.tables e below (s₁.setTop (mkF m 13 #[oJ q0, oS, oJ q1, oS, oJ (q0 + q1), oS] [(.long ((q0 + q1) ^^^ q1)), (.long ((q0 + q1) ^^^ q0))])) _
    refine XS.land X0.here hx rfl (hb hby d15_13) rfl ?_
    show Steps p.tables e below (s₁.setTop (mkF m 14 #[oJ q0, oS, oJ q1, oS, oJ (q0 + q1), oS] [(.long (((q0 + q1) ^^^ q0) &&& ((q0 + q1) ^^^ q1)))])) _
    refine XS.lconst X0.here hx rfl (hb hby d15_14) ?_
    show Steps p.tables e below (s₁.setTop (mkF m 15 #[oJ q0, oS, oJ q1, oS, oJ (q0 + q1), oS] [(.long (0 : Int64)), (.long (((q0 + q1) ^^^ q0) &&& ((q0 + q1) ^^^ q1)))])) _
    refine XS.lcmp X0.here hx rfl (hb hby d15_15) rfl ?_
    show Steps p.tables e below (s₁.setTop (mkF m 16 #[oJ q0, oS, oJ q1, oS, oJ (q0 + q1), oS] [(.int (lcmpW (((q0 + q1) ^^^ q0) &&& ((q0 + q1) ^^^ q1)) (0 : Int64)))])) _
    exact k
  by_cases hc1 : (((q0 + q1) ^^^ q0) &&& ((q0 + q1) ^^^ q1)) < (0 : Int64)
  · skip
    refine own_by (fun t k => XS.ifYes X0.here hx rfl (pc0 := 16) (pc' := 22) rfl (hb hby d15_16) rfl ((if0 _ _).trans (tlt ((lw_lt _ _).mpr hc1)).1) (by decide) (by decide) k) ?_
    show own_Go p e below _ (s₁.setTop (mkF m 22 #[oJ q0, oS, oJ q1, oS, oJ (q0 + q1), oS] []))
    refine own_by (B := s₁.setTop (mkF m 25 #[oJ q0, oS, oJ q1, oS, oJ (q0 + q1), oS] [(.long (-9223372036854775808 : Int64))])) (fun t k => ?_) ?_
    · show Steps p.tables e below (s₁.setTop (mkF m 22 #[oJ q0, oS, oJ q1, oS, oJ (q0 + q1), oS] [])) _
      refine X0.ldc2Long hx hown (mvT hZ (hw _ (List.mem_of_getElem? (i := 41) rfl))) (g := (mkF m 22 #[oJ q0, oS, oJ q1, oS, oJ (q0 + q1), oS] [])) rfl (hb hby d15_22) _ ?_
      show Steps p.tables e below (s₁.setTop (mkF m 25 #[oJ q0, oS, oJ q1, oS, oJ (q0 + q1), oS] [(.long (-9223372036854775808 : Int64))])) _
      exact k
    exact own_retL X0 Bd.notSynchronized hx Bd.returns (hb hby d15_25) (by
        rw [show s₁.heap = h0 from e0]
        exact ⟨congrArg (fun z => some (Value.long z)) (show (-9223372036854775808 : Int64) = (fadd2 q0 q1) from (by simp only [fadd2, if_pos hc1])), N0, rfl⟩) (by decide) (by decide)
  · skip
    refine own_by (fun t k => XS.ifNo X0.here hx rfl (hb hby d15_16) rfl ((if0 _ _).trans (flt (fun q => hc1 ((lw_lt _ _).mp q))).1) k) ?_
    show own_Go p e below _ (s₁.setTop (mkF m 19 #[oJ q0, oS, oJ q1, oS, oJ (q0 + q1), oS] []))
    refine own_by (B := s₁.setTop (mkF m 21 #[oJ q0, oS, oJ q1, oS, oJ (q0 + q1), oS] [(.long (q0 + q1))])) (fun t k => ?_) ?_
    · show Steps p.tables e below (s₁.setTop (mkF m 19 #[oJ q0, oS, oJ q1, oS, oJ (q0 + q1), oS] [])) _
      refine XS.lload X0.here hx rfl (hb hby d15_19) rfl ?_
      show Steps p.tables e below (s₁.setTop (mkF m 21 #[oJ q0, oS, oJ q1, oS, oJ (q0 + q1), oS] [(.long (q0 + q1))])) _
      exact k
    exact own_retL X0 Bd.notSynchronized hx Bd.returns (hb hby d15_21) (by
        rw [show s₁.heap = h0 from e0]
        exact ⟨congrArg (fun z => some (Value.long z)) (show (q0 + q1) = (fadd2 q0 q1) from (by simp only [fadd2, if_neg hc1])), N0, rfl⟩) (by decide) (by decide)

theorem own_11 (x : Int64) (h0 : ¬ (x < (0 : Int64))) (h1 : x < (11 : Int64)) : x = (0 : Int64) ∨ x = (1 : Int64) ∨ x = (2 : Int64) ∨ x = (3 : Int64) ∨ x = (4 : Int64) ∨ x = (5 : Int64) ∨ x = (6 : Int64) ∨ x = (7 : Int64) ∨ x = (8 : Int64) ∨ x = (9 : Int64) ∨ x = (10 : Int64) := by
  have e0 : (0 : Int64).toInt = 0 := by decide
  have e1 : (1 : Int64).toInt = 1 := by decide
  have e2 : (2 : Int64).toInt = 2 := by decide
  have e3 : (3 : Int64).toInt = 3 := by decide
  have e4 : (4 : Int64).toInt = 4 := by decide
  have e5 : (5 : Int64).toInt = 5 := by decide
  have e6 : (6 : Int64).toInt = 6 := by decide
  have e7 : (7 : Int64).toInt = 7 := by decide
  have e8 : (8 : Int64).toInt = 8 := by decide
  have e9 : (9 : Int64).toInt = 9 := by decide
  have e10 : (10 : Int64).toInt = 10 := by decide
  rw [Int64.lt_iff_toInt_lt] at h0 h1
  simp only [← Int64.toInt_inj, e0, e1, e2, e3, e4, e5, e6, e7, e8, e9, e10]
  have e11 : (11 : Int64).toInt = 11 := by decide
  omega

theorem d9_0 : decode jdk_17_method_21_code 0 = .ok (.lload_n 0, 1) := by decide +kernel
theorem d9_1 : decode jdk_17_method_21_code 1 = .ok (.lconst 0, 1) := by decide +kernel
theorem d9_2 : decode jdk_17_method_21_code 2 = .ok (.lcmp, 1) := by decide +kernel
theorem d9_3 : decode jdk_17_method_21_code 3 = .ok (.ifCond .lt 20, 3) := by decide +kernel
theorem d9_6 : decode jdk_17_method_21_code 6 = .ok (.lload_n 0, 1) := by decide +kernel
theorem d9_7 : decode jdk_17_method_21_code 7 = .ok (.getstatic 246, 3) := by decide +kernel
theorem d9_10 : decode jdk_17_method_21_code 10 = .ok (.arraylength, 1) := by decide +kernel
theorem d9_11 : decode jdk_17_method_21_code 11 = .ok (.i2l, 1) := by decide +kernel
theorem d9_12 : decode jdk_17_method_21_code 12 = .ok (.lcmp, 1) := by decide +kernel
theorem d9_13 : decode jdk_17_method_21_code 13 = .ok (.ifCond .ge 10, 3) := by decide +kernel
theorem d9_16 : decode jdk_17_method_21_code 16 = .ok (.getstatic 246, 3) := by decide +kernel
theorem d9_19 : decode jdk_17_method_21_code 19 = .ok (.lload_n 0, 1) := by decide +kernel
theorem d9_20 : decode jdk_17_method_21_code 20 = .ok (.l2i, 1) := by decide +kernel
theorem d9_21 : decode jdk_17_method_21_code 21 = .ok (.aaload, 1) := by decide +kernel
theorem d9_22 : decode jdk_17_method_21_code 22 = .ok (.areturn, 1) := by decide +kernel
theorem d9_23 : decode jdk_17_method_21_code 23 = .ok (.lload_n 0, 1) := by decide +kernel
theorem d9_24 : decode jdk_17_method_21_code 24 = .ok (.ldc2_w 125, 3) := by decide +kernel
theorem d9_27 : decode jdk_17_method_21_code 27 = .ok (.lcmp, 1) := by decide +kernel
theorem d9_28 : decode jdk_17_method_21_code 28 = .ok (.ifCond .eq 15, 3) := by decide +kernel
theorem d9_31 : decode jdk_17_method_21_code 31 = .ok (.new 3, 3) := by decide +kernel
theorem d9_34 : decode jdk_17_method_21_code 34 = .ok (.dup, 1) := by decide +kernel
theorem d9_35 : decode jdk_17_method_21_code 35 = .ok (.aconst_null, 1) := by decide +kernel
theorem d9_36 : decode jdk_17_method_21_code 36 = .ok (.lload_n 0, 1) := by decide +kernel
theorem d9_37 : decode jdk_17_method_21_code 37 = .ok (.iconst 0, 1) := by decide +kernel
theorem d9_38 : decode jdk_17_method_21_code 38 = .ok (.iconst 0, 1) := by decide +kernel
theorem d9_39 : decode jdk_17_method_21_code 39 = .ok (.invokespecial 243, 3) := by decide +kernel
theorem d9_42 : decode jdk_17_method_21_code 42 = .ok (.areturn, 1) := by decide +kernel
theorem pn_9 : plainName "java/math/BigDecimal" = true := by first | (simp [plainName, overriddenIn]; done) | decide +kernel
theorem pd_6 : parseMethodDescriptor "(Ljava/math/BigInteger;JII)V" = some ⟨[(.object "java/math/BigInteger"), .long, .int, .int], none⟩ := by decide +kernel
theorem ef_9 (m : MethodId) (x0 : Int64) : entryFrame m #[(.long x0)] 2 = mkF m 0 #[oJ x0, oS] [] := by first | (simp [entryFrame, mkF, argsToLocals, Value.category]; done) | rfl
def Q9 (Z : State) (q0 : Int64) (h0 : Heap) (n0 : Nat) (v : Option Value) (h : Heap) (L : List Loc) : Prop := ∃ r : Addr, v = some (.ref r) ∧ Fr n0 L ∧ Keep h0 h [] ∧ Exa Z h r "java/math/BigDecimal" ∧ Fld Z h r "java/math/BigDecimal" "intCompact" "J" (.long q0) ∧ Fld Z h r "java/math/BigDecimal" "scale" "I" (.int (0 : Int32))
set_option maxRecDepth 65536 in
set_option maxHeartbeats 40000000 in
theorem rm9 (l : Launch) (Z : State) (a0 : Array Value) (hw : ∀ d ∈ tables_1, d.before a0 Z = true) (ws : List Jvm.Cond) (q0 : Int64) (h0 : Heap) (n0 : Nat) (Z0 : n0 ≤ h0.size) (OZ : Old Z n0 h0) (hBD : own_BD Z) (hp0 : ¬ (q0 = (-9223372036854775808 : Int64))) :
    MetFree l (⟨"java/math/BigDecimal", "valueOf", "(J)Ljava/math/BigDecimal;"⟩ : MethodName) (head1 (Jvm.Cond.code (⟨"java/math/BigDecimal", "valueOf", "(J)Ljava/math/BigDecimal;"⟩ : MethodName) jdk_17_method_21_code 2 (some (.object "java/math/BigDecimal")) :: ws) ({ frames := 3, cells := 1, slots := 5, locals := 42 } : Room)) (fun a U => a = #[(.long q0)] ∧ Z.Warmed39 U.vm ∧ U.heap = h0) (fun _ _ _ _ _ => True) (fun _ U o U' => ∃ v L, o = .returned v ∧ Q9 Z q0 h0 n0 v U'.heap L ∧ FrameEnd U o U' L ({ frames := 3, cells := 1, slots := 5, locals := 42 } : Room).cells ({ frames := 3, cells := 1, slots := 5, locals := 42 } : Room).slots) := by
  refine MetFree.of_bodySF (plainFor_of_name pn_9) hisR ?_
  intro p e s m args below meth c s₁ Bd hml0 hP hK
  obtain ⟨rfl, hZ, hh⟩ := hP
  have hx := Bd.exec
  have hby := Bd.bytes
  have hml : c.maxLocals = 2 := hml0
  have hown : s.vm.findClass "java/math/BigDecimal" = some m.cls := findClass_of_methodNamed Bd.named
  have hnm := (name_of_methodNamed Bd.named Bd.method).1
  have X0 : Stand p l e ({ frames := 3, cells := 1, slots := 5, locals := 42 } : Room) s m #[(.long q0)] below meth c s₁ [] 0 0 := Stand.of_body Bd
  have e0 : s₁.heap = h0 := by rw [← hh, Bd.state]; rfl
  have N0 := Fr.nil n0
  have K0 : Keep h0 h0 [] := Keep.refl h0 _
  obtain ⟨zt, kt, w0, w1, w2, w3, w4, w5, w6, w7, w8, w9, w10, S_ZERO_THROUGH_TEN, V_zt, ⟨E_w0, F_intCompact_w0, F_scale_w0⟩, ⟨E_w1, F_intCompact_w1, F_scale_w1⟩, ⟨E_w2, F_intCompact_w2, F_scale_w2⟩, ⟨E_w3, F_intCompact_w3, F_scale_w3⟩, ⟨E_w4, F_intCompact_w4, F_scale_w4⟩, ⟨E_w5, F_intCompact_w5, F_scale_w5⟩, ⟨E_w6, F_intCompact_w6, F_scale_w6⟩, ⟨E_w7, F_intCompact_w7, F_scale_w7⟩, ⟨E_w8, F_intCompact_w8, F_scale_w8⟩, ⟨E_w9, F_intCompact_w9, F_scale_w9⟩, ⟨E_w10, F_intCompact_w10, F_scale_w10⟩⟩ := hBD
  replace V_zt := V_zt.ext OZ.2
  change own_Go p e below (own_Post s (Q9 Z q0 h0 n0) ({ frames := 3, cells := 1, slots := 5, locals := 42 } : Room).cells ({ frames := 3, cells := 1, slots := 5, locals := 42 } : Room).slots) (s₁.setTop (entryFrame m #[(.long q0)] 2))
  refine own_by (fun t k => castTop (ef_9 m q0) k) ?_
  show own_Go p e below _ (s₁.setTop (mkF m 0 #[oJ q0, oS] []))
  refine own_by (B := s₁.setTop (mkF m 3 #[oJ q0, oS] [(.int (lcmpW q0 (0 : Int64)))])) (fun t k => ?_) ?_
  · show Steps p.tables e below (s₁.setTop (mkF m 0 #[oJ q0, oS] [])) _
    refine XS.lloadN X0.here hx rfl (hb hby d9_0) rfl ?_
    show Steps p.tables e below (s₁.setTop (mkF m 1 #[oJ q0, oS] [(.long q0)])) _
    refine XS.lconst X0.here hx rfl (hb hby d9_1) ?_
    show Steps p.tables e below (s₁.setTop (mkF m 2 #[oJ q0, oS] [(.long (0 : Int64)), (.long q0)])) _
    refine XS.lcmp X0.here hx rfl (hb hby d9_2) rfl ?_
    show Steps p.tables e below (s₁.setTop (mkF m 3 #[oJ q0, oS] [(.int (lcmpW q0 (0 : Int64)))])) _
    exact k
  by_cases hc1 : q0 < (0 : Int64)
  · skip
    refine own_by (fun t k => XS.ifYes X0.here hx rfl (pc0 := 3) (pc' := 23) rfl (hb hby d9_3) rfl ((if0 _ _).trans (tlt ((lw_lt _ _).mpr hc1)).1) (by decide) (by decide) k) ?_
    show own_Go p e below _ (s₁.setTop (mkF m 23 #[oJ q0, oS] []))
    refine own_by (B := s₁.setTop (mkF m 31 #[oJ q0, oS] [])) (fun t k => ?_) ?_
    · show Steps p.tables e below (s₁.setTop (mkF m 23 #[oJ q0, oS] [])) _
      refine XS.lloadN X0.here hx rfl (hb hby d9_23) rfl ?_
      show Steps p.tables e below (s₁.setTop (mkF m 24 #[oJ q0, oS] [(.long q0)])) _
      refine X0.ldc2Long hx hown (mvT hZ (hw _ (List.mem_of_getElem? (i := 41) rfl))) (g := (mkF m 24 #[oJ q0, oS] [(.long q0)])) rfl (hb hby d9_24) _ ?_
      show Steps p.tables e below (s₁.setTop (mkF m 27 #[oJ q0, oS] [(.long (-9223372036854775808 : Int64)), (.long q0)])) _
      refine XS.lcmp X0.here hx rfl (hb hby d9_27) rfl ?_
      show Steps p.tables e below (s₁.setTop (mkF m 28 #[oJ q0, oS] [(.int (lcmpW q0 (-9223372036854775808 : Int64)))])) _
      refine XS.ifNo X0.here hx rfl (hb hby d9_28) rfl ((if0 _ _).trans (feq (fun q => hp0 ((lw_eq _ _).mp q))).1) ?_
      show Steps p.tables e below (s₁.setTop (mkF m 31 #[oJ q0, oS] [])) _
      exact k
    obtain ⟨T2, h2, X2, e2, E2, A2, D2, -, st2⟩ := newO X0 hx hZ hown (hw _ (List.mem_of_getElem? (i := 57) rfl)) (hw _ (List.mem_of_getElem? (i := 58) rfl)) (hw _ (List.mem_of_getElem? (i := 13) rfl)) e0 (g := (mkF m 31 #[oJ q0, oS] [])) rfl (hb hby d9_31) (by decide) (by decide)
    obtain ⟨b2, g2⟩ : ∃ z, z = h0.size := ⟨_, rfl⟩
    rw [← g2] at A2 D2 st2
    have g_b2 : n0 ≤ b2 := Nat.le_trans Z0 (Nat.le_of_eq g2.symm)
    have sz_b2 : h0.size ≤ b2 := Nat.le_trans K0.1 (Nat.le_of_eq g2.symm)
    have ne_zt_b2 : zt ≠ b2 := Nat.ne_of_lt (Nat.lt_of_lt_of_le V_zt.lt (Nat.le_of_eq g2.symm))
    replace V_zt := V_zt.ext E2
    replace OZ := OZ.ext E2
    replace K0 := K0.ext E2
    replace Z0 := Nat.le_trans Z0 E2.1
    have E_b2 := A2
    have F_intCompact_b2 : Fld Z h2 b2 "java/math/BigDecimal" "intCompact" "J" (.long (0 : Int64)) := D2 (Or.inr (hw _ (List.mem_of_getElem? (i := 40) rfl))) (ty := .long) (by decide)
    have F_scale_b2 : Fld Z h2 b2 "java/math/BigDecimal" "scale" "I" (.int (0 : Int32)) := D2 (Or.inr (hw _ (List.mem_of_getElem? (i := 52) rfl))) (ty := .int) (by decide)
    have F_precision_b2 : Fld Z h2 b2 "java/math/BigDecimal" "precision" "I" (.int (0 : Int32)) := D2 (Or.inl (hw _ (List.mem_of_getElem? (i := 71) rfl))) (ty := .int) (by decide)
    have F_intVal_b2 : Fld Z h2 b2 "java/math/BigDecimal" "intVal" "Ljava/math/BigInteger;" .null := D2 (Or.inr (hw _ (List.mem_of_getElem? (i := 73) rfl))) (ty := (.object "java/math/BigInteger")) (by decide)
    refine own_by st2 ?_
    show own_Go p e below _ (T2.setTop (mkF m 34 #[oJ q0, oS] [(.ref b2)]))
    refine own_by (B := T2.setTop (mkF m 39 #[oJ q0, oS] [(.int (0 : Int32)), (.int (0 : Int32)), (.long q0), .null, (.ref b2), (.ref b2)])) (fun t k => ?_) ?_
    · show Steps p.tables e below (T2.setTop (mkF m 34 #[oJ q0, oS] [(.ref b2)])) _
      refine XS.dup X2.here hx rfl (hb hby d9_34) rfl rfl ?_
      show Steps p.tables e below (T2.setTop (mkF m 35 #[oJ q0, oS] [(.ref b2), (.ref b2)])) _
      refine XS.aconstNull X2.here hx rfl (hb hby d9_35) ?_
      show Steps p.tables e below (T2.setTop (mkF m 36 #[oJ q0, oS] [.null, (.ref b2), (.ref b2)])) _
      refine XS.lloadN X2.here hx rfl (hb hby d9_36) rfl ?_
      show Steps p.tables e below (T2.setTop (mkF m 37 #[oJ q0, oS] [(.long q0), .null, (.ref b2), (.ref b2)])) _
      refine XS.iconst X2.here hx rfl (hb hby d9_37) ?_
      show Steps p.tables e below (T2.setTop (mkF m 38 #[oJ q0, oS] [(.int (0 : Int32)), (.long q0), .null, (.ref b2), (.ref b2)])) _
      refine XS.iconst X2.here hx rfl (hb hby d9_38) ?_
      show Steps p.tables e below (T2.setTop (mkF m 39 #[oJ q0, oS] [(.int (0 : Int32)), (.int (0 : Int32)), (.long q0), .null, (.ref b2), (.ref b2)])) _
      exact k
    refine own_cc (own_callI X2 hx hZ (y := (⟨"java/math/BigDecimal", "<init>", "(Ljava/math/BigInteger;JII)V"⟩ : MethodName)) rfl hown (hw _ (List.mem_of_getElem? (i := 59) rfl)) (hw _ (List.mem_of_getElem? (i := 60) rfl)) (hw _ (List.mem_of_getElem? (i := 13) rfl)) (hw _ (List.mem_of_getElem? (i := 62) rfl)) (by decide) (rm10 l Z a0 hw [] b2 q0 (0 : Int32) (0 : Int32) h2 n0 Z0 E_b2 F_scale_b2 F_precision_b2 F_intCompact_b2 F_intVal_b2 g_b2) e2 1 (by decide) (by decide) (by decide) (by decide) rfl (by rw [hml]; rfl) b2 [.null, (.long q0), (.int (0 : Int32)), (.int (0 : Int32))] [(.ref b2)] rfl (lenOf pd_6 rfl) rfl (by show 2 * 0 + _ ≤ _; exact Nat.le_of_eq rfl) (hb hby d9_39)) fun T4 L4 v4 X4 hQ4 => ?_
    obtain ⟨rfl, N4, K4, E_b2', F_intCompact_b2', F_scale_b2'⟩ := hQ4
    replace N0 := Fr.app N0 N4
    replace V_zt := V_zt.keep K4 (ninS ne_zt_b2 nin0)
    replace E_b2 := E_b2.keep K4
    replace OZ := OZ.keep K4 (allS g_b2 all0)
    replace K0 := K0.trans K4 (allS (Or.inr sz_b2) all0)
    replace Z0 := Nat.le_trans Z0 K4.1
    replace E_b2 := E_b2'
    have F_intCompact_b2 := F_intCompact_b2'
    have F_scale_b2 := F_scale_b2'
    show own_Go p e below _ (T4.setTop (mkF m 42 #[oJ q0, oS] [(.ref b2)]))
    exact own_retR X4 Bd.notSynchronized hx Bd.returns rfl rfl rfl (hb hby d9_42) ⟨b2, rfl, N0, K0, E_b2, F_intCompact_b2, F_scale_b2⟩ (by decide) (by decide)
  · skip
    refine own_by (fun t k => XS.ifNo X0.here hx rfl (hb hby d9_3) rfl ((if0 _ _).trans (flt (fun q => hc1 ((lw_lt _ _).mp q))).1) k) ?_
    show own_Go p e below _ (s₁.setTop (mkF m 6 #[oJ q0, oS] []))
    refine own_by (B := s₁.setTop (mkF m 7 #[oJ q0, oS] [(.long q0)])) (fun t k => ?_) ?_
    · show Steps p.tables e below (s₁.setTop (mkF m 6 #[oJ q0, oS] [])) _
      refine XS.lloadN X0.here hx rfl (hb hby d9_6) rfl ?_
      show Steps p.tables e below (s₁.setTop (mkF m 7 #[oJ q0, oS] [(.long q0)])) _
      exact k
    refine own_c1 (getS2 X0 hx hZ hown (host := "") (Or.inl (hw _ (List.mem_of_getElem? (i := 56) rfl))) Via.refl e0 (S_ZERO_THROUGH_TEN.ext OZ.2) rfl (hb hby d9_7)) fun T5 X5 e5 => ?_
    show own_Go p e below _ (T5.setTop (mkF m 10 #[oJ q0, oS] [(.ref zt), (.long q0)]))
    refine own_by (B := T5.setTop (mkF m 13 #[oJ q0, oS] [(.int (lcmpW q0 (11 : Int64)))])) (fun t k => ?_) ?_
    · show Steps p.tables e below (T5.setTop (mkF m 10 #[oJ q0, oS] [(.ref zt), (.long q0)])) _
      obtain ⟨cl6, Ar6, -, S6, N6, -, -⟩ := id V_zt
      refine X5.arraylength hx (by rw [show T5.heap = h0 from e5]; exact Ar6.1) (State.isArrayOf_alike hZ.alike Ar6.2.1) (g := (mkF m 10 #[oJ q0, oS] [(.ref zt), (.long q0)])) rfl rfl (hb hby d9_10) _ ?_
      rw [len_of S6 N6]
      show Steps p.tables e below (T5.setTop (mkF m 11 #[oJ q0, oS] [(.int (11 : Int32)), (.long q0)])) _
      refine XS.i2l X5.here hx rfl (hb hby d9_11) rfl ?_
      rw [show ((11 : Int32).toInt64) = (11 : Int64) from by decide]
      show Steps p.tables e below (T5.setTop (mkF m 12 #[oJ q0, oS] [(.long (11 : Int64)), (.long q0)])) _
      refine XS.lcmp X5.here hx rfl (hb hby d9_12) rfl ?_
      show Steps p.tables e below (T5.setTop (mkF m 13 #[oJ q0, oS] [(.int (lcmpW q0 (11 : Int64)))])) _
      exact k
    by_cases hc7 : q0 < (11 : Int64)
    · skip
      refine own_by (fun t k => XS.ifNo X5.here hx rfl (hb hby d9_13) rfl ((if0 _ _).trans (tlt ((lw_lt _ _).mpr hc7)).2.1) k) ?_
      show own_Go p e below _ (T5.setTop (mkF m 16 #[oJ q0, oS] []))
      rcases own_11 q0 hc1 hc7 with rfl | rfl | rfl | rfl | rfl | rfl | rfl | rfl | rfl | rfl | rfl
      · skip
        show own_Go p e below _ (T5.setTop (mkF m 16 #[oJ (0 : Int64), oS] []))
        refine own_c1 (getS2 X5 hx hZ hown (host := "") (Or.inl (hw _ (List.mem_of_getElem? (i := 56) rfl))) Via.refl e5 (S_ZERO_THROUGH_TEN.ext OZ.2) rfl (hb hby d9_16)) fun T8 X8 e8 => ?_
        show own_Go p e below _ (T8.setTop (mkF m 19 #[oJ (0 : Int64), oS] [(.ref zt)]))
        refine own_by (B := T8.setTop (mkF m 22 #[oJ (0 : Int64), oS] [(.ref w0)])) (fun t k => ?_) ?_
        · show Steps p.tables e below (T8.setTop (mkF m 19 #[oJ (0 : Int64), oS] [(.ref zt)])) _
          refine XS.lloadN X8.here hx rfl (hb hby d9_19) rfl ?_
          show Steps p.tables e below (T8.setTop (mkF m 20 #[oJ (0 : Int64), oS] [(.long (0 : Int64)), (.ref zt)])) _
          refine XS.l2i X8.here hx rfl (hb hby d9_20) rfl ?_
          rw [show ((0 : Int64).toInt32) = (0 : Int32) from by decide]
          show Steps p.tables e below (T8.setTop (mkF m 21 #[oJ (0 : Int64), oS] [(.int (0 : Int32)), (.ref zt)])) _
          obtain ⟨cl9, Ar9, q9, S9, N9, H9, G9⟩ := id V_zt
          have hin9 : ¬ ((0 : Int32) < 0 ∨ cl9.slots.size ≤ ((0 : Int32)).toNatClampNeg) := inb_of S9 ⟨by decide, by decide⟩
          have hat9 : cl9.slots[((0 : Int32)).toNatClampNeg]? = some (.ref w0) := H9.at hin9 rfl
          refine X8.aaload hx (j := (0 : Int32)) (v := (.ref w0)) (by rw [show T8.heap = h0 from e8]; exact Ar9.1) (State.isArrayOf_alike hZ.alike Ar9.2.1) rfl Ar9.2.2 hin9 hat9 (g := (mkF m 21 #[oJ (0 : Int64), oS] [(.int (0 : Int32)), (.ref zt)])) rfl rfl (hb hby d9_21) _ ?_
          show Steps p.tables e below (T8.setTop (mkF m 22 #[oJ (0 : Int64), oS] [(.ref w0)])) _
          exact k
        exact own_retR X8 Bd.notSynchronized hx Bd.returns rfl rfl rfl (hb hby d9_22) (by
            rw [show T8.heap = h0 from e8]
            exact ⟨w0, rfl, N0, K0, E_w0.ext OZ.2, F_intCompact_w0.ext OZ.2, F_scale_w0.ext OZ.2⟩) (by decide) (by decide)
      · skip
        show own_Go p e below _ (T5.setTop (mkF m 16 #[oJ (1 : Int64), oS] []))
        refine own_c1 (getS2 X5 hx hZ hown (host := "") (Or.inl (hw _ (List.mem_of_getElem? (i := 56) rfl))) Via.refl e5 (S_ZERO_THROUGH_TEN.ext OZ.2) rfl (hb hby d9_16)) fun T10 X10 e10 => ?_
        show own_Go p e below _ (T10.setTop (mkF m 19 #[oJ (1 : Int64), oS] [(.ref zt)]))
        refine own_by (B := T10.setTop (mkF m 22 #[oJ (1 : Int64), oS] [(.ref w1)])) (fun t k => ?_) ?_
        · show Steps p.tables e below (T10.setTop (mkF m 19 #[oJ (1 : Int64), oS] [(.ref zt)])) _
          refine XS.lloadN X10.here hx rfl (hb hby d9_19) rfl ?_
          show Steps p.tables e below (T10.setTop (mkF m 20 #[oJ (1 : Int64), oS] [(.long (1 : Int64)), (.ref zt)])) _
          refine XS.l2i X10.here hx rfl (hb hby d9_20) rfl ?_
          rw [show ((1 : Int64).toInt32) = (1 : Int32) from by decide]
          show Steps p.tables e below (T10.setTop (mkF m 21 #[oJ (1 : Int64), oS] [(.int (1 : Int32)), (.ref zt)])) _
          obtain ⟨cl11, Ar11, q11, S11, N11, H11, G11⟩ := id V_zt
          have hin11 : ¬ ((1 : Int32) < 0 ∨ cl11.slots.size ≤ ((1 : Int32)).toNatClampNeg) := inb_of S11 ⟨by decide, by decide⟩
          have hat11 : cl11.slots[((1 : Int32)).toNatClampNeg]? = some (.ref w1) := H11.at hin11 rfl
          refine X10.aaload hx (j := (1 : Int32)) (v := (.ref w1)) (by rw [show T10.heap = h0 from e10]; exact Ar11.1) (State.isArrayOf_alike hZ.alike Ar11.2.1) rfl Ar11.2.2 hin11 hat11 (g := (mkF m 21 #[oJ (1 : Int64), oS] [(.int (1 : Int32)), (.ref zt)])) rfl rfl (hb hby d9_21) _ ?_
          show Steps p.tables e below (T10.setTop (mkF m 22 #[oJ (1 : Int64), oS] [(.ref w1)])) _
          exact k
        exact own_retR X10 Bd.notSynchronized hx Bd.returns rfl rfl rfl (hb hby d9_22) (by
            rw [show T10.heap = h0 from e10]
            exact ⟨w1, rfl, N0, K0, E_w1.ext OZ.2, F_intCompact_w1.ext OZ.2, F_scale_w1.ext OZ.2⟩) (by decide) (by decide)
      · skip
        show own_Go p e below _ (T5.setTop (mkF m 16 #[oJ (2 : Int64), oS] []))
        refine own_c1 (getS2 X5 hx hZ hown (host := "") (Or.inl (hw _ (List.mem_of_getElem? (i := 56) rfl))) Via.refl e5 (S_ZERO_THROUGH_TEN.ext OZ.2) rfl (hb hby d9_16)) fun T12 X12 e12 => ?_
        show own_Go p e below _ (T12.setTop (mkF m 19 #[oJ (2 : Int64), oS] [(.ref zt)]))
        refine own_by (B := T12.setTop (mkF m 22 #[oJ (2 : Int64), oS] [(.ref w2)])) (fun t k => ?_) ?_
        · show Steps p.tables e below (T12.setTop (mkF m 19 #[oJ (2 : Int64), oS] [(.ref zt)])) _
          refine XS.lloadN X12.here hx rfl (hb hby d9_19) rfl ?_
          show Steps p.tables e below (T12.setTop (mkF m 20 #[oJ (2 : Int64), oS] [(.long (2 : Int64)), (.ref zt)])) _
          refine XS.l2i X12.here hx rfl (hb hby d9_20) rfl ?_
          rw [show ((2 : Int64).toInt32) = (2 : Int32) from by decide]
          show Steps p.tables e below (T12.setTop (mkF m 21 #[oJ (2 : Int64), oS] [(.int (2 : Int32)), (.ref zt)])) _
          obtain ⟨cl13, Ar13, q13, S13, N13, H13, G13⟩ := id V_zt
          have hin13 : ¬ ((2 : Int32) < 0 ∨ cl13.slots.size ≤ ((2 : Int32)).toNatClampNeg) := inb_of S13 ⟨by decide, by decide⟩
          have hat13 : cl13.slots[((2 : Int32)).toNatClampNeg]? = some (.ref w2) := H13.at hin13 rfl
          refine X12.aaload hx (j := (2 : Int32)) (v := (.ref w2)) (by rw [show T12.heap = h0 from e12]; exact Ar13.1) (State.isArrayOf_alike hZ.alike Ar13.2.1) rfl Ar13.2.2 hin13 hat13 (g := (mkF m 21 #[oJ (2 : Int64), oS] [(.int (2 : Int32)), (.ref zt)])) rfl rfl (hb hby d9_21) _ ?_
          show Steps p.tables e below (T12.setTop (mkF m 22 #[oJ (2 : Int64), oS] [(.ref w2)])) _
          exact k
        exact own_retR X12 Bd.notSynchronized hx Bd.returns rfl rfl rfl (hb hby d9_22) (by
            rw [show T12.heap = h0 from e12]
            exact ⟨w2, rfl, N0, K0, E_w2.ext OZ.2, F_intCompact_w2.ext OZ.2, F_scale_w2.ext OZ.2⟩) (by decide) (by decide)
      · skip
        show own_Go p e below _ (T5.setTop (mkF m 16 #[oJ (3 : Int64), oS] []))
        refine own_c1 (getS2 X5 hx hZ hown (host := "") (Or.inl (hw _ (List.mem_of_getElem? (i := 56) rfl))) Via.refl e5 (S_ZERO_THROUGH_TEN.ext OZ.2) rfl (hb hby d9_16)) fun T14 X14 e14 => ?_
        show own_Go p e below _ (T14.setTop (mkF m 19 #[oJ (3 : Int64), oS] [(.ref zt)]))
        refine own_by (B := T14.setTop (mkF m 22 #[oJ (3 : Int64), oS] [(.ref w3)])) (fun t k => ?_) ?_
        · show Steps p.tables e below (T14.setTop (mkF m 19 #[oJ (3 : Int64), oS] [(.ref zt)])) _
          refine XS.lloadN X14.here hx rfl (hb hby d9_19) rfl ?_
          show Steps p.tables e below (T14.setTop (mkF m 20 #[oJ (3 : Int64), oS] [(.long (3 : Int64)), (.ref zt)])) _
          refine XS.l2i X14.here hx rfl (hb hby d9_20) rfl ?_
          rw [show ((3 : Int64).toInt32) = (3 : Int32) from by decide]
          show Steps p.tables e below (T14.setTop (mkF m 21 #[oJ (3 : Int64), oS] [(.int (3 : Int32)), (.ref zt)])) _
          obtain ⟨cl15, Ar15, q15, S15, N15, H15, G15⟩ := id V_zt
          have hin15 : ¬ ((3 : Int32) < 0 ∨ cl15.slots.size ≤ ((3 : Int32)).toNatClampNeg) := inb_of S15 ⟨by decide, by decide⟩
          have hat15 : cl15.slots[((3 : Int32)).toNatClampNeg]? = some (.ref w3) := H15.at hin15 rfl
          refine X14.aaload hx (j := (3 : Int32)) (v := (.ref w3)) (by rw [show T14.heap = h0 from e14]; exact Ar15.1) (State.isArrayOf_alike hZ.alike Ar15.2.1) rfl Ar15.2.2 hin15 hat15 (g := (mkF m 21 #[oJ (3 : Int64), oS] [(.int (3 : Int32)), (.ref zt)])) rfl rfl (hb hby d9_21) _ ?_
          show Steps p.tables e below (T14.setTop (mkF m 22 #[oJ (3 : Int64), oS] [(.ref w3)])) _
          exact k
        exact own_retR X14 Bd.notSynchronized hx Bd.returns rfl rfl rfl (hb hby d9_22) (by
            rw [show T14.heap = h0 from e14]
            exact ⟨w3, rfl, N0, K0, E_w3.ext OZ.2, F_intCompact_w3.ext OZ.2, F_scale_w3.ext OZ.2⟩) (by decide) (by decide)
      · skip
        show own_Go p e below _ (T5.setTop (mkF m 16 #[oJ (4 : Int64), oS] []))
        refine own_c1 (getS2 X5 hx hZ hown (host := "") (Or.inl (hw _ (List.mem_of_getElem? (i := 56) rfl))) Via.refl e5 (S_ZERO_THROUGH_TEN.ext OZ.2) rfl (hb hby d9_16)) fun T16 X16 e16 => ?_
        show own_Go p e below _ (T16.setTop (mkF m 19 #[oJ (4 : Int64), oS] [(.ref zt)]))
        refine own_by (B := T16.setTop (mkF m 22 #[oJ (4 : Int64), oS] [(.ref w4)])) (fun t k => ?_) ?_
        · show Steps p.tables e below (T16.setTop (mkF m 19 #[oJ (4 : Int64), oS] [(.ref zt)])) _
          refine XS.lloadN X16.here hx rfl (hb hby d9_19) rfl ?_
          show Steps p.tables e below (T16.setTop (mkF m 20 #[oJ (4 : Int64), oS] [(.long (4 : Int64)), (.ref zt)])) _
          refine XS.l2i X16.here hx rfl (hb hby d9_20) rfl ?_
          rw [show ((4 : Int64).toInt32) = (4 : Int32) from by decide]
          show Steps p.tables e below (T16.setTop (mkF m 21 #[oJ (4 : Int64), oS] [(.int (4 : Int32)), (.ref zt)])) _
          obtain ⟨cl17, Ar17, q17, S17, N17, H17, G17⟩ := id V_zt
          have hin17 : ¬ ((4 : Int32) < 0 ∨ cl17.slots.size ≤ ((4 : Int32)).toNatClampNeg) := inb_of S17 ⟨by decide, by decide⟩
          have hat17 : cl17.slots[((4 : Int32)).toNatClampNeg]? = some (.ref w4) := H17.at hin17 rfl
          refine X16.aaload hx (j := (4 : Int32)) (v := (.ref w4)) (by rw [show T16.heap = h0 from e16]; exact Ar17.1) (State.isArrayOf_alike hZ.alike Ar17.2.1) rfl Ar17.2.2 hin17 hat17 (g := (mkF m 21 #[oJ (4 : Int64), oS] [(.int (4 : Int32)), (.ref zt)])) rfl rfl (hb hby d9_21) _ ?_
          show Steps p.tables e below (T16.setTop (mkF m 22 #[oJ (4 : Int64), oS] [(.ref w4)])) _
          exact k
        exact own_retR X16 Bd.notSynchronized hx Bd.returns rfl rfl rfl (hb hby d9_22) (by
            rw [show T16.heap = h0 from e16]
            exact ⟨w4, rfl, N0, K0, E_w4.ext OZ.2, F_intCompact_w4.ext OZ.2, F_scale_w4.ext OZ.2⟩) (by decide) (by decide)
      · skip
        show own_Go p e below _ (T5.setTop (mkF m 16 #[oJ (5 : Int64), oS] []))
        refine own_c1 (getS2 X5 hx hZ hown (host := "") (Or.inl (hw _ (List.mem_of_getElem? (i := 56) rfl))) Via.refl e5 (S_ZERO_THROUGH_TEN.ext OZ.2) rfl (hb hby d9_16)) fun T18 X18 e18 => ?_
        show own_Go p e below _ (T18.setTop (mkF m 19 #[oJ (5 : Int64), oS] [(.ref zt)]))
        refine own_by (B := T18.setTop (mkF m 22 #[oJ (5 : Int64), oS] [(.ref w5)])) (fun t k => ?_) ?_
        · show Steps p.tables e below (T18.setTop (mkF m 19 #[oJ (5 : Int64), oS] [(.ref zt)])) _
          refine XS.lloadN X18.here hx rfl (hb hby d9_19) rfl ?_
          show Steps p.tables e below (T18.setTop (mkF m 20 #[oJ (5 : Int64), oS] [(.long (5 : Int64)), (.ref zt)])) _
          refine XS.l2i X18.here hx rfl (hb hby d9_20) rfl ?_
          rw [show ((5 : Int64).toInt32) = (5 : Int32) from by decide]
          show Steps p.tables e below (T18.setTop (mkF m 21 #[oJ (5 : Int64), oS] [(.int (5 : Int32)), (.ref zt)])) _
          obtain ⟨cl19, Ar19, q19, S19, N19, H19, G19⟩ := id V_zt
          have hin19 : ¬ ((5 : Int32) < 0 ∨ cl19.slots.size ≤ ((5 : Int32)).toNatClampNeg) := inb_of S19 ⟨by decide, by decide⟩
          have hat19 : cl19.slots[((5 : Int32)).toNatClampNeg]? = some (.ref w5) := H19.at hin19 rfl
          refine X18.aaload hx (j := (5 : Int32)) (v := (.ref w5)) (by rw [show T18.heap = h0 from e18]; exact Ar19.1) (State.isArrayOf_alike hZ.alike Ar19.2.1) rfl Ar19.2.2 hin19 hat19 (g := (mkF m 21 #[oJ (5 : Int64), oS] [(.int (5 : Int32)), (.ref zt)])) rfl rfl (hb hby d9_21) _ ?_
          show Steps p.tables e below (T18.setTop (mkF m 22 #[oJ (5 : Int64), oS] [(.ref w5)])) _
          exact k
        exact own_retR X18 Bd.notSynchronized hx Bd.returns rfl rfl rfl (hb hby d9_22) (by
            rw [show T18.heap = h0 from e18]
            exact ⟨w5, rfl, N0, K0, E_w5.ext OZ.2, F_intCompact_w5.ext OZ.2, F_scale_w5.ext OZ.2⟩) (by decide) (by decide)
      · skip
        show own_Go p e below _ (T5.setTop (mkF m 16 #[oJ (6 : Int64), oS] []))
        refine own_c1 (getS2 X5 hx hZ hown (host := "") (Or.inl (hw _ (List.mem_of_getElem? (i := 56) rfl))) Via.refl e5 (S_ZERO_THROUGH_TEN.ext OZ.2) rfl (hb hby d9_16)) fun T20 X20 e20 => ?_
        show own_Go p e below _ (T20.setTop (mkF m 19 #[oJ (6 : Int64), oS] [(.ref zt)]))
        refine own_by (B := T20.setTop (mkF m 22 #[oJ (6 : Int64), oS] [(.ref w6)])) (fun t k => ?_) ?_
        · show Steps p.tables e below (T20.setTop (mkF m 19 #[oJ (6 : Int64), oS] [(.ref zt)])) _
          refine XS.lloadN X20.here hx rfl (hb hby d9_19) rfl ?_
          show Steps p.tables e below (T20.setTop (mkF m 20 #[oJ (6 : Int64), oS] [(.long (6 : Int64)), (.ref zt)])) _
          refine XS.l2i X20.here hx rfl (hb hby d9_20) rfl ?_
          rw [show ((6 : Int64).toInt32) = (6 : Int32) from by decide]
          show Steps p.tables e below (T20.setTop (mkF m 21 #[oJ (6 : Int64), oS] [(.int (6 : Int32)), (.ref zt)])) _
          obtain ⟨cl21, Ar21, q21, S21, N21, H21, G21⟩ := id V_zt
          have hin21 : ¬ ((6 : Int32) < 0 ∨ cl21.slots.size ≤ ((6 : Int32)).toNatClampNeg) := inb_of S21 ⟨by decide, by decide⟩
          have hat21 : cl21.slots[((6 : Int32)).toNatClampNeg]? = some (.ref w6) := H21.at hin21 rfl
          refine X20.aaload hx (j := (6 : Int32)) (v := (.ref w6)) (by rw [show T20.heap = h0 from e20]; exact Ar21.1) (State.isArrayOf_alike hZ.alike Ar21.2.1) rfl Ar21.2.2 hin21 hat21 (g := (mkF m 21 #[oJ (6 : Int64), oS] [(.int (6 : Int32)), (.ref zt)])) rfl rfl (hb hby d9_21) _ ?_
          show Steps p.tables e below (T20.setTop (mkF m 22 #[oJ (6 : Int64), oS] [(.ref w6)])) _
          exact k
        exact own_retR X20 Bd.notSynchronized hx Bd.returns rfl rfl rfl (hb hby d9_22) (by
            rw [show T20.heap = h0 from e20]
            exact ⟨w6, rfl, N0, K0, E_w6.ext OZ.2, F_intCompact_w6.ext OZ.2, F_scale_w6.ext OZ.2⟩) (by decide) (by decide)
      · skip
        show own_Go p e below _ (T5.setTop (mkF m 16 #[oJ (7 : Int64), oS] []))
        refine own_c1 (getS2 X5 hx hZ hown (host := "") (Or.inl (hw _ (List.mem_of_getElem? (i := 56) rfl))) Via.refl e5 (S_ZERO_THROUGH_TEN.ext OZ.2) rfl (hb hby d9_16)) fun T22 X22 e22 => ?_
        show own_Go p e below _ (T22.setTop (mkF m 19 #[oJ (7 : Int64), oS] [(.ref zt)]))
        refine own_by (B := T22.setTop (mkF m 22 #[oJ (7 : Int64), oS] [(.ref w7)])) (fun t k => ?_) ?_
        · show Steps p.tables e below (T22.setTop (mkF m 19 #[oJ (7 : Int64), oS] [(.ref zt)])) _
          refine XS.lloadN X22.here hx rfl (hb hby d9_19) rfl ?_
          show Steps p.tables e below (T22.setTop (mkF m 20 #[oJ (7 : Int64), oS] [(.long (7 : Int64)), (.ref zt)])) _
          refine XS.l2i X22.here hx rfl (hb hby d9_20) rfl ?_
          rw [show ((7 : Int64).toInt32) = (7 : Int32) from by decide]
          show Steps p.tables e below (T22.setTop (mkF m 21 #[oJ (7 : Int64), oS] [(.int (7 : Int32)), (.ref zt)])) _
          obtain ⟨cl23, Ar23, q23, S23, N23, H23, G23⟩ := id V_zt
          have hin23 : ¬ ((7 : Int32) < 0 ∨ cl23.slots.size ≤ ((7 : Int32)).toNatClampNeg) := inb_of S23 ⟨by decide, by decide⟩
          have hat23 : cl23.slots[((7 : Int32)).toNatClampNeg]? = some (.ref w7) := H23.at hin23 rfl
          refine X22.aaload hx (j := (7 : Int32)) (v := (.ref w7)) (by rw [show T22.heap = h0 from e22]; exact Ar23.1) (State.isArrayOf_alike hZ.alike Ar23.2.1) rfl Ar23.2.2 hin23 hat23 (g := (mkF m 21 #[oJ (7 : Int64), oS] [(.int (7 : Int32)), (.ref zt)])) rfl rfl (hb hby d9_21) _ ?_
          show Steps p.tables e below (T22.setTop (mkF m 22 #[oJ (7 : Int64), oS] [(.ref w7)])) _
          exact k
        exact own_retR X22 Bd.notSynchronized hx Bd.returns rfl rfl rfl (hb hby d9_22) (by
            rw [show T22.heap = h0 from e22]
            exact ⟨w7, rfl, N0, K0, E_w7.ext OZ.2, F_intCompact_w7.ext OZ.2, F_scale_w7.ext OZ.2⟩) (by decide) (by decide)
      · skip
        show own_Go p e below _ (T5.setTop (mkF m 16 #[oJ (8 : Int64), oS] []))
        refine own_c1 (getS2 X5 hx hZ hown (host := "") (Or.inl (hw _ (List.mem_of_getElem? (i := 56) rfl))) Via.refl e5 (S_ZERO_THROUGH_TEN.ext OZ.2) rfl (hb hby d9_16)) fun T24 X24 e24 => ?_
        show own_Go p e below _ (T24.setTop (mkF m 19 #[oJ (8 : Int64), oS] [(.ref zt)]))
        refine own_by (B := T24.setTop (mkF m 22 #[oJ (8 : Int64), oS] [(.ref w8)])) (fun t k => ?_) ?_
        · show Steps p.tables e below (T24.setTop (mkF m 19 #[oJ (8 : Int64), oS] [(.ref zt)])) _
          refine XS.lloadN X24.here hx rfl (hb hby d9_19) rfl ?_
          show Steps p.tables e below (T24.setTop (mkF m 20 #[oJ (8 : Int64), oS] [(.long (8 : Int64)), (.ref zt)])) _
          refine XS.l2i X24.here hx rfl (hb hby d9_20) rfl ?_
          rw [show ((8 : Int64).toInt32) = (8 : Int32) from by decide]
          show Steps p.tables e below (T24.setTop (mkF m 21 #[oJ (8 : Int64), oS] [(.int (8 : Int32)), (.ref zt)])) _
          obtain ⟨cl25, Ar25, q25, S25, N25, H25, G25⟩ := id V_zt
          have hin25 : ¬ ((8 : Int32) < 0 ∨ cl25.slots.size ≤ ((8 : Int32)).toNatClampNeg) := inb_of S25 ⟨by decide, by decide⟩
          have hat25 : cl25.slots[((8 : Int32)).toNatClampNeg]? = some (.ref w8) := H25.at hin25 rfl
          refine X24.aaload hx (j := (8 : Int32)) (v := (.ref w8)) (by rw [show T24.heap = h0 from e24]; exact Ar25.1) (State.isArrayOf_alike hZ.alike Ar25.2.1) rfl Ar25.2.2 hin25 hat25 (g := (mkF m 21 #[oJ (8 : Int64), oS] [(.int (8 : Int32)), (.ref zt)])) rfl rfl (hb hby d9_21) _ ?_
          show Steps p.tables e below (T24.setTop (mkF m 22 #[oJ (8 : Int64), oS] [(.ref w8)])) _
          exact k
        exact own_retR X24 Bd.notSynchronized hx Bd.returns rfl rfl rfl (hb hby d9_22) (by
            rw [show T24.heap = h0 from e24]
            exact ⟨w8, rfl, N0, K0, E_w8.ext OZ.2, F_intCompact_w8.ext OZ.2, F_scale_w8.ext OZ.2⟩) (by decide) (by decide)
      · skip
        show own_Go p e below _ (T5.setTop (mkF m 16 #[oJ (9 : Int64), oS] []))
        refine own_c1 (getS2 X5 hx hZ hown (host := "") (Or.inl (hw _ (List.mem_of_getElem? (i := 56) rfl))) Via.refl e5 (S_ZERO_THROUGH_TEN.ext OZ.2) rfl (hb hby d9_16)) fun T26 X26 e26 => ?_
        show own_Go p e below _ (T26.setTop (mkF m 19 #[oJ (9 : Int64), oS] [(.ref zt)]))
        refine own_by (B := T26.setTop (mkF m 22 #[oJ (9 : Int64), oS] [(.ref w9)])) (fun t k => ?_) ?_
        · show Steps p.tables e below (T26.setTop (mkF m 19 #[oJ (9 : Int64), oS] [(.ref zt)])) _
          refine XS.lloadN X26.here hx rfl (hb hby d9_19) rfl ?_
          show Steps p.tables e below (T26.setTop (mkF m 20 #[oJ (9 : Int64), oS] [(.long (9 : Int64)), (.ref zt)])) _
          refine XS.l2i X26.here hx rfl (hb hby d9_20) rfl ?_
          rw [show ((9 : Int64).toInt32) = (9 : Int32) from by decide]
          show Steps p.tables e below (T26.setTop (mkF m 21 #[oJ (9 : Int64), oS] [(.int (9 : Int32)), (.ref zt)])) _
          obtain ⟨cl27, Ar27, q27, S27, N27, H27, G27⟩ := id V_zt
          have hin27 : ¬ ((9 : Int32) < 0 ∨ cl27.slots.size ≤ ((9 : Int32)).toNatClampNeg) := inb_of S27 ⟨by decide, by decide⟩
          have hat27 : cl27.slots[((9 : Int32)).toNatClampNeg]? = some (.ref w9) := H27.at hin27 rfl
          refine X26.aaload hx (j := (9 : Int32)) (v := (.ref w9)) (by rw [show T26.heap = h0 from e26]; exact Ar27.1) (State.isArrayOf_alike hZ.alike Ar27.2.1) rfl Ar27.2.2 hin27 hat27 (g := (mkF m 21 #[oJ (9 : Int64), oS] [(.int (9 : Int32)), (.ref zt)])) rfl rfl (hb hby d9_21) _ ?_
          show Steps p.tables e below (T26.setTop (mkF m 22 #[oJ (9 : Int64), oS] [(.ref w9)])) _
          exact k
        exact own_retR X26 Bd.notSynchronized hx Bd.returns rfl rfl rfl (hb hby d9_22) (by
            rw [show T26.heap = h0 from e26]
            exact ⟨w9, rfl, N0, K0, E_w9.ext OZ.2, F_intCompact_w9.ext OZ.2, F_scale_w9.ext OZ.2⟩) (by decide) (by decide)
      · skip
        show own_Go p e below _ (T5.setTop (mkF m 16 #[oJ (10 : Int64), oS] []))
        refine own_c1 (getS2 X5 hx hZ hown (host := "") (Or.inl (hw _ (List.mem_of_getElem? (i := 56) rfl))) Via.refl e5 (S_ZERO_THROUGH_TEN.ext OZ.2) rfl (hb hby d9_16)) fun T28 X28 e28 => ?_
        show own_Go p e below _ (T28.setTop (mkF m 19 #[oJ (10 : Int64), oS] [(.ref zt)]))
        refine own_by (B := T28.setTop (mkF m 22 #[oJ (10 : Int64), oS] [(.ref w10)])) (fun t k => ?_) ?_
        · show Steps p.tables e below (T28.setTop (mkF m 19 #[oJ (10 : Int64), oS] [(.ref zt)])) _
          refine XS.lloadN X28.here hx rfl (hb hby d9_19) rfl ?_
          show Steps p.tables e below (T28.setTop (mkF m 20 #[oJ (10 : Int64), oS] [(.long (10 : Int64)), (.ref zt)])) _
          refine XS.l2i X28.here hx rfl (hb hby d9_20) rfl ?_
          rw [show ((10 : Int64).toInt32) = (10 : Int32) from by decide]
          show Steps p.tables e below (T28.setTop (mkF m 21 #[oJ (10 : Int64), oS] [(.int (10 : Int32)), (.ref zt)])) _
          obtain ⟨cl29, Ar29, q29, S29, N29, H29, G29⟩ := id V_zt
          have hin29 : ¬ ((10 : Int32) < 0 ∨ cl29.slots.size ≤ ((10 : Int32)).toNatClampNeg) := inb_of S29 ⟨by decide, by decide⟩
          have hat29 : cl29.slots[((10 : Int32)).toNatClampNeg]? = some (.ref w10) := H29.at hin29 rfl
          refine X28.aaload hx (j := (10 : Int32)) (v := (.ref w10)) (by rw [show T28.heap = h0 from e28]; exact Ar29.1) (State.isArrayOf_alike hZ.alike Ar29.2.1) rfl Ar29.2.2 hin29 hat29 (g := (mkF m 21 #[oJ (10 : Int64), oS] [(.int (10 : Int32)), (.ref zt)])) rfl rfl (hb hby d9_21) _ ?_
          show Steps p.tables e below (T28.setTop (mkF m 22 #[oJ (10 : Int64), oS] [(.ref w10)])) _
          exact k
        exact own_retR X28 Bd.notSynchronized hx Bd.returns rfl rfl rfl (hb hby d9_22) (by
            rw [show T28.heap = h0 from e28]
            exact ⟨w10, rfl, N0, K0, E_w10.ext OZ.2, F_intCompact_w10.ext OZ.2, F_scale_w10.ext OZ.2⟩) (by decide) (by decide)
    · skip
      refine own_by (fun t k => XS.ifYes X5.here hx rfl (pc0 := 13) (pc' := 23) rfl (hb hby d9_13) rfl ((if0 _ _).trans (flt (fun q => hc7 ((lw_lt _ _).mp q))).2.1) (by decide) (by decide) k) ?_
      show own_Go p e below _ (T5.setTop (mkF m 23 #[oJ q0, oS] []))
      refine own_by (B := T5.setTop (mkF m 31 #[oJ q0, oS] [])) (fun t k => ?_) ?_
      · show Steps p.tables e below (T5.setTop (mkF m 23 #[oJ q0, oS] [])) _
        refine XS.lloadN X5.here hx rfl (hb hby d9_23) rfl ?_
        show Steps p.tables e below (T5.setTop (mkF m 24 #[oJ q0, oS] [(.long q0)])) _
        refine X5.ldc2Long hx hown (mvT hZ (hw _ (List.mem_of_getElem? (i := 41) rfl))) (g := (mkF m 24 #[oJ q0, oS] [(.long q0)])) rfl (hb hby d9_24) _ ?_
        show Steps p.tables e below (T5.setTop (mkF m 27 #[oJ q0, oS] [(.long (-9223372036854775808 : Int64)), (.long q0)])) _
        refine XS.lcmp X5.here hx rfl (hb hby d9_27) rfl ?_
        show Steps p.tables e below (T5.setTop (mkF m 28 #[oJ q0, oS] [(.int (lcmpW q0 (-9223372036854775808 : Int64)))])) _
        refine XS.ifNo X5.here hx rfl (hb hby d9_28) rfl ((if0 _ _).trans (feq (fun q => hp0 ((lw_eq _ _).mp q))).1) ?_
        show Steps p.tables e below (T5.setTop (mkF m 31 #[oJ q0, oS] [])) _
        exact k
      obtain ⟨T30, h30, X30, e30, E30, A30, D30, -, st30⟩ := newO X5 hx hZ hown (hw _ (List.mem_of_getElem? (i := 57) rfl)) (hw _ (List.mem_of_getElem? (i := 58) rfl)) (hw _ (List.mem_of_getElem? (i := 13) rfl)) e5 (g := (mkF m 31 #[oJ q0, oS] [])) rfl (hb hby d9_31) (by decide) (by decide)
      obtain ⟨b30, g30⟩ : ∃ z, z = h0.size := ⟨_, rfl⟩
      rw [← g30] at A30 D30 st30
      have g_b30 : n0 ≤ b30 := Nat.le_trans Z0 (Nat.le_of_eq g30.symm)
      have sz_b30 : h0.size ≤ b30 := Nat.le_trans K0.1 (Nat.le_of_eq g30.symm)
      have ne_zt_b30 : zt ≠ b30 := Nat.ne_of_lt (Nat.lt_of_lt_of_le V_zt.lt (Nat.le_of_eq g30.symm))
      replace V_zt := V_zt.ext E30
      replace OZ := OZ.ext E30
      replace K0 := K0.ext E30
      replace Z0 := Nat.le_trans Z0 E30.1
      have E_b30 := A30
      have F_intCompact_b30 : Fld Z h30 b30 "java/math/BigDecimal" "intCompact" "J" (.long (0 : Int64)) := D30 (Or.inr (hw _ (List.mem_of_getElem? (i := 40) rfl))) (ty := .long) (by decide)
      have F_scale_b30 : Fld Z h30 b30 "java/math/BigDecimal" "scale" "I" (.int (0 : Int32)) := D30 (Or.inr (hw _ (List.mem_of_getElem? (i := 52) rfl))) (ty := .int) (by decide)
      have F_precision_b30 : Fld Z h30 b30 "java/math/BigDecimal" "precision" "I" (.int (0 : Int32)) := D30 (Or.inl (hw _ (List.mem_of_getElem? (i := 71) rfl))) (ty := .int) (by decide)
      have F_intVal_b30 : Fld Z h30 b30 "java/math/BigDecimal" "intVal" "Ljava/math/BigInteger;" .null := D30 (Or.inr (hw _ (List.mem_of_getElem? (i := 73) rfl))) (ty := (.object "java/math/BigInteger")) (by decide)
      refine own_by st30 ?_
      show own_Go p e below _ (T30.setTop (mkF m 34 #[oJ q0, oS] [(.ref b30)]))
      refine own_by (B := T30.setTop (mkF m 39 #[oJ q0, oS] [(.int (0 : Int32)), (.int (0 : Int32)), (.long q0), .null, (.ref b30), (.ref b30)])) (fun t k => ?_) ?_
      · show Steps p.tables e below (T30.setTop (mkF m 34 #[oJ q0, oS] [(.ref b30)])) _
        refine XS.dup X30.here hx rfl (hb hby d9_34) rfl rfl ?_
        show Steps p.tables e below (T30.setTop (mkF m 35 #[oJ q0, oS] [(.ref b30), (.ref b30)])) _
        refine XS.aconstNull X30.here hx rfl (hb hby d9_35) ?_
        show Steps p.tables e below (T30.setTop (mkF m 36 #[oJ q0, oS] [.null, (.ref b30), (.ref b30)])) _
        refine XS.lloadN X30.here hx rfl (hb hby d9_36) rfl ?_
        show Steps p.tables e below (T30.setTop (mkF m 37 #[oJ q0, oS] [(.long q0), .null, (.ref b30), (.ref b30)])) _
        refine XS.iconst X30.here hx rfl (hb hby d9_37) ?_
        show Steps p.tables e below (T30.setTop (mkF m 38 #[oJ q0, oS] [(.int (0 : Int32)), (.long q0), .null, (.ref b30), (.ref b30)])) _
        refine XS.iconst X30.here hx rfl (hb hby d9_38) ?_
        show Steps p.tables e below (T30.setTop (mkF m 39 #[oJ q0, oS] [(.int (0 : Int32)), (.int (0 : Int32)), (.long q0), .null, (.ref b30), (.ref b30)])) _
        exact k
      refine own_cc (own_callI X30 hx hZ (y := (⟨"java/math/BigDecimal", "<init>", "(Ljava/math/BigInteger;JII)V"⟩ : MethodName)) rfl hown (hw _ (List.mem_of_getElem? (i := 59) rfl)) (hw _ (List.mem_of_getElem? (i := 60) rfl)) (hw _ (List.mem_of_getElem? (i := 13) rfl)) (hw _ (List.mem_of_getElem? (i := 62) rfl)) (by decide) (rm10 l Z a0 hw [] b30 q0 (0 : Int32) (0 : Int32) h30 n0 Z0 E_b30 F_scale_b30 F_precision_b30 F_intCompact_b30 F_intVal_b30 g_b30) e30 1 (by decide) (by decide) (by decide) (by decide) rfl (by rw [hml]; rfl) b30 [.null, (.long q0), (.int (0 : Int32)), (.int (0 : Int32))] [(.ref b30)] rfl (lenOf pd_6 rfl) rfl (by show 2 * 0 + _ ≤ _; exact Nat.le_of_eq rfl) (hb hby d9_39)) fun T32 L32 v32 X32 hQ32 => ?_
      obtain ⟨rfl, N32, K32, E_b30', F_intCompact_b30', F_scale_b30'⟩ := hQ32
      replace N0 := Fr.app N0 N32
      replace V_zt := V_zt.keep K32 (ninS ne_zt_b30 nin0)
      replace E_b30 := E_b30.keep K32
      replace OZ := OZ.keep K32 (allS g_b30 all0)
      replace K0 := K0.trans K32 (allS (Or.inr sz_b30) all0)
      replace Z0 := Nat.le_trans Z0 K32.1
      replace E_b30 := E_b30'
      have F_intCompact_b30 := F_intCompact_b30'
      have F_scale_b30 := F_scale_b30'
      show own_Go p e below _ (T32.setTop (mkF m 42 #[oJ q0, oS] [(.ref b30)]))
      exact own_retR X32 Bd.notSynchronized hx Bd.returns rfl rfl rfl (hb hby d9_42) ⟨b30, rfl, N0, K0, E_b30, F_intCompact_b30, F_scale_b30⟩ (by decide) (by decide)

theorem d16_0 : decode jdk_17_method_20_code 0 = .ok (.iload_n 2, 1) := by decide +kernel
theorem d16_1 : decode jdk_17_method_20_code 1 = .ok (.ifCond .ne 8, 3) := by decide +kernel
theorem d16_4 : decode jdk_17_method_20_code 4 = .ok (.lload_n 0, 1) := by decide +kernel
theorem d16_5 : decode jdk_17_method_20_code 5 = .ok (.invokestatic 236, 3) := by decide +kernel
theorem d16_8 : decode jdk_17_method_20_code 8 = .ok (.areturn, 1) := by decide +kernel
theorem pn_16 : plainName "java/math/BigDecimal" = true := by first | (simp [plainName, overriddenIn]; done) | decide +kernel
theorem pd_5 : parseMethodDescriptor "(J)Ljava/math/BigDecimal;" = some ⟨[.long], some (.object "java/math/BigDecimal")⟩ := by decide +kernel
theorem ef_16 (m : MethodId) (x0 : Int64) (x1 : Int32) : entryFrame m #[(.long x0), (.int x1)] 3 = mkF m 0 #[oJ x0, oS, iv x1] [] := by first | (simp [entryFrame, mkF, argsToLocals, Value.category]; done) | rfl
def Q16 (Z : State) (q0 : Int64) (h0 : Heap) (n0 : Nat) (v : Option Value) (h : Heap) (L : List Loc) : Prop := ∃ r : Addr, v = some (.ref r) ∧ Fr n0 L ∧ Keep h0 h [] ∧ Exa Z h r "java/math/BigDecimal" ∧ Fld Z h r "java/math/BigDecimal" "intCompact" "J" (.long q0) ∧ Fld Z h r "java/math/BigDecimal" "scale" "I" (.int (0 : Int32))
set_option maxRecDepth 65536 in
set_option maxHeartbeats 40000000 in
theorem rm16 (l : Launch) (Z : State) (a0 : Array Value) (hw : ∀ d ∈ tables_1, d.before a0 Z = true) (ws : List Jvm.Cond) (q0 : Int64) (h0 : Heap) (n0 : Nat) (Z0 : n0 ≤ h0.size) (OZ : Old Z n0 h0) (hBD : own_BD Z) (hp0 : ¬ (q0 = (-9223372036854775808 : Int64))) :
    MetFree l (⟨"java/math/BigDecimal", "valueOf", "(JI)Ljava/math/BigDecimal;"⟩ : MethodName) (head1 (Jvm.Cond.code (⟨"java/math/BigDecimal", "valueOf", "(JI)Ljava/math/BigDecimal;"⟩ : MethodName) jdk_17_method_20_code 3 (some (.object "java/math/BigDecimal")) :: ws) ({ frames := 4, cells := 1, slots := 5, locals := 55 } : Room)) (fun a U => a = #[(.long q0), (.int (0 : Int32))] ∧ Z.Warmed39 U.vm ∧ U.heap = h0) (fun _ _ _ _ _ => True) (fun _ U o U' => ∃ v L, o = .returned v ∧ Q16 Z q0 h0 n0 v U'.heap L ∧ FrameEnd U o U' L ({ frames := 4, cells := 1, slots := 5, locals := 55 } : Room).cells ({ frames := 4, cells := 1, slots := 5, locals := 55 } : Room).slots) := by
  refine MetFree.of_bodySF (plainFor_of_name pn_16) hisR ?_
  intro p e s m args below meth c s₁ Bd hml0 hP hK
  obtain ⟨rfl, hZ, hh⟩ := hP
  have hx := Bd.exec
  have hby := Bd.bytes
  have hml : c.maxLocals = 3 := hml0
  have hown : s.vm.findClass "java/math/BigDecimal" = some m.cls := findClass_of_methodNamed Bd.named
  have hnm := (name_of_methodNamed Bd.named Bd.method).1
  have X0 : Stand p l e ({ frames := 4, cells := 1, slots := 5, locals := 55 } : Room) s m #[(.long q0), (.int (0 : Int32))] below meth c s₁ [] 0 0 := Stand.of_body Bd
  have e0 : s₁.heap = h0 := by rw [← hh, Bd.state]; rfl
  have N0 := Fr.nil n0
  have K0 : Keep h0 h0 [] := Keep.refl h0 _
  change own_Go p e below (own_Post s (Q16 Z q0 h0 n0) ({ frames := 4, cells := 1, slots := 5, locals := 55 } : Room).cells ({ frames := 4, cells := 1, slots := 5, locals := 55 } : Room).slots) (s₁.setTop (entryFrame m #[(.long q0), (.int (0 : Int32))] 3))
  refine own_by (fun t k => castTop (ef_16 m q0 (0 : Int32)) k) ?_
  show own_Go p e below _ (s₁.setTop (mkF m 0 #[oJ q0, oS, iv (0 : Int32)] []))
  refine own_by (B := s₁.setTop (mkF m 5 #[oJ q0, oS, iv (0 : Int32)] [(.long q0)])) (fun t k => ?_) ?_
  · show Steps p.tables e below (s₁.setTop (mkF m 0 #[oJ q0, oS, iv (0 : Int32)] [])) _
    refine XS.iloadN X0.here hx rfl (hb hby d16_0) rfl ?_
    show Steps p.tables e below (s₁.setTop (mkF m 1 #[oJ q0, oS, iv (0 : Int32)] [(.int (0 : Int32))])) _
    refine XS.ifNo X0.here hx rfl (hb hby d16_1) rfl ((if0 _ _).trans (teq (by decide : (0 : Int32) = (0 : Int32))).2) ?_
    show Steps p.tables e below (s₁.setTop (mkF m 4 #[oJ q0, oS, iv (0 : Int32)] [])) _
    refine XS.lloadN X0.here hx rfl (hb hby d16_4) rfl ?_
    show Steps p.tables e below (s₁.setTop (mkF m 5 #[oJ q0, oS, iv (0 : Int32)] [(.long q0)])) _
    exact k
  refine own_cc (own_callS X0 hx hZ (y := (⟨"java/math/BigDecimal", "valueOf", "(J)Ljava/math/BigDecimal;"⟩ : MethodName)) hown (hw _ (List.mem_of_getElem? (i := 91) rfl)) (hw _ (List.mem_of_getElem? (i := 54) rfl)) (hw _ (List.mem_of_getElem? (i := 13) rfl)) (hw _ (List.mem_of_getElem? (i := 55) rfl)) (by decide) (rm9 l Z a0 hw [] q0 h0 n0 Z0 OZ hBD hp0) e0 0 (by decide) (by decide) (by decide) (by decide) rfl (by rw [hml]; rfl) [(.long q0)] [] rfl (lenOf pd_5 rfl) rfl (by show 2 * 0 + _ ≤ _; exact Nat.le_of_eq rfl) (hb hby d16_5)) fun T2 L2 v2 X2 hQ2 => ?_
  obtain ⟨r_2, rfl, N2, K2, E_r_2', F_intCompact_r_2', F_scale_r_2'⟩ := hQ2
  replace N0 := Fr.app N0 N2
  replace OZ := OZ.keep K2 all0
  replace K0 := K0.trans K2 all0
  replace Z0 := Nat.le_trans Z0 K2.1
  have E_r_2 := E_r_2'
  have F_intCompact_r_2 := F_intCompact_r_2'
  have F_scale_r_2 := F_scale_r_2'
  show own_Go p e below _ (T2.setTop (mkF m 8 #[oJ q0, oS, iv (0 : Int32)] [(.ref r_2)]))
  exact own_retR X2 Bd.notSynchronized hx Bd.returns rfl rfl rfl (hb hby d16_8) ⟨r_2, rfl, N0, K0, E_r_2, F_intCompact_r_2, F_scale_r_2⟩ (by decide) (by decide)

theorem d14_0 : decode jdk_17_method_133_code 0 = .ok (.lload_n 0, 1) := by decide +kernel
theorem d14_1 : decode jdk_17_method_133_code 1 = .ok (.lload_n 2, 1) := by decide +kernel
theorem d14_2 : decode jdk_17_method_133_code 2 = .ok (.invokestatic 996, 3) := by decide +kernel
theorem d14_5 : decode jdk_17_method_133_code 5 = .ok (.lstore 5, 2) := by decide +kernel
theorem d14_7 : decode jdk_17_method_133_code 7 = .ok (.lload 5, 2) := by decide +kernel
theorem d14_9 : decode jdk_17_method_133_code 9 = .ok (.ldc2_w 125, 3) := by decide +kernel
theorem d14_12 : decode jdk_17_method_133_code 12 = .ok (.lcmp, 1) := by decide +kernel
theorem d14_13 : decode jdk_17_method_133_code 13 = .ok (.ifCond .eq 11, 3) := by decide +kernel
theorem d14_16 : decode jdk_17_method_133_code 16 = .ok (.lload 5, 2) := by decide +kernel
theorem d14_18 : decode jdk_17_method_133_code 18 = .ok (.iload 4, 2) := by decide +kernel
theorem d14_20 : decode jdk_17_method_133_code 20 = .ok (.invokestatic 328, 3) := by decide +kernel
theorem d14_23 : decode jdk_17_method_133_code 23 = .ok (.areturn, 1) := by decide +kernel
theorem pn_14 : plainName "java/math/BigDecimal" = true := by first | (simp [plainName, overriddenIn]; done) | decide +kernel
theorem pd_10 : parseMethodDescriptor "(JJ)J" = some ⟨[.long, .long], some .long⟩ := by decide +kernel
theorem pd_11 : parseMethodDescriptor "(JI)Ljava/math/BigDecimal;" = some ⟨[.long, .int], some (.object "java/math/BigDecimal")⟩ := by decide +kernel
theorem ef_14 (m : MethodId) (x0 : Int64) (x1 : Int64) (x2 : Int32) : entryFrame m #[(.long x0), (.long x1), (.int x2)] 7 = mkF m 0 #[oJ x0, oS, oJ x1, oS, iv x2, oU, oU] [] := by first | (simp [entryFrame, mkF, argsToLocals, Value.category]; done) | rfl
def Q14 (Z : State) (q0 : Int64) (q2 : Int64) (h0 : Heap) (n0 : Nat) (v : Option Value) (h : Heap) (L : List Loc) : Prop := ∃ r : Addr, v = some (.ref r) ∧ Fr n0 L ∧ Keep h0 h [] ∧ Exa Z h r "java/math/BigDecimal" ∧ Fld Z h r "java/math/BigDecimal" "intCompact" "J" (.long (fadd2 q0 q2)) ∧ Fld Z h r "java/math/BigDecimal" "scale" "I" (.int (0 : Int32))
set_option maxRecDepth 65536 in
set_option maxHeartbeats 40000000 in
theorem rm14 (l : Launch) (Z : State) (a0 : Array Value) (hw : ∀ d ∈ tables_1, d.before a0 Z = true) (ws : List Jvm.Cond) (q0 : Int64) (q2 : Int64) (h0 : Heap) (n0 : Nat) (Z0 : n0 ≤ h0.size) (OZ : Old Z n0 h0) (hBD : own_BD Z) (hp0 : ¬ ((fadd2 q0 q2) = (-9223372036854775808 : Int64))) :
    MetFree l (⟨"java/math/BigDecimal", "add", "(JJI)Ljava/math/BigDecimal;"⟩ : MethodName) (head1 (Jvm.Cond.code (⟨"java/math/BigDecimal", "add", "(JJI)Ljava/math/BigDecimal;"⟩ : MethodName) jdk_17_method_133_code 7 (some (.object "java/math/BigDecimal")) :: ws) ({ frames := 5, cells := 1, slots := 5, locals := 69 } : Room)) (fun a U => a = #[(.long q0), (.long q2), (.int (0 : Int32))] ∧ Z.Warmed39 U.vm ∧ U.heap = h0) (fun _ _ _ _ _ => True) (fun _ U o U' => ∃ v L, o = .returned v ∧ Q14 Z q0 q2 h0 n0 v U'.heap L ∧ FrameEnd U o U' L ({ frames := 5, cells := 1, slots := 5, locals := 69 } : Room).cells ({ frames := 5, cells := 1, slots := 5, locals := 69 } : Room).slots) := by
  refine MetFree.of_bodySF (plainFor_of_name pn_14) hisR ?_
  intro p e s m args below meth c s₁ Bd hml0 hP hK
  obtain ⟨rfl, hZ, hh⟩ := hP
  have hx := Bd.exec
  have hby := Bd.bytes
  have hml : c.maxLocals = 7 := hml0
  have hown : s.vm.findClass "java/math/BigDecimal" = some m.cls := findClass_of_methodNamed Bd.named
  have hnm := (name_of_methodNamed Bd.named Bd.method).1
  have X0 : Stand p l e ({ frames := 5, cells := 1, slots := 5, locals := 69 } : Room) s m #[(.long q0), (.long q2), (.int (0 : Int32))] below meth c s₁ [] 0 0 := Stand.of_body Bd
  have e0 : s₁.heap = h0 := by rw [← hh, Bd.state]; rfl
  have N0 := Fr.nil n0
  have K0 : Keep h0 h0 [] := Keep.refl h0 _
  change own_Go p e below (own_Post s (Q14 Z q0 q2 h0 n0) ({ frames := 5, cells := 1, slots := 5, locals := 69 } : Room).cells ({ frames := 5, cells := 1, slots := 5, locals := 69 } : Room).slots) (s₁.setTop (entryFrame m #[(.long q0), (.long q2), (.int (0 : Int32))] 7))
  refine own_by (fun t k => castTop (ef_14 m q0 q2 (0 : Int32)) k) ?_
  show own_Go p e below _ (s₁.setTop (mkF m 0 #[oJ q0, oS, oJ q2, oS, iv (0 : Int32), oU, oU] []))
  refine own_by (B := s₁.setTop (mkF m 2 #[oJ q0, oS, oJ q2, oS, iv (0 : Int32), oU, oU] [(.long q2), (.long q0)])) (fun t k => ?_) ?_
  · show Steps p.tables e below (s₁.setTop (mkF m 0 #[oJ q0, oS, oJ q2, oS, iv (0 : Int32), oU, oU] [])) _
    refine XS.lloadN X0.here hx rfl (hb hby d14_0) rfl ?_
    show Steps p.tables e below (s₁.setTop (mkF m 1 #[oJ q0, oS, oJ q2, oS, iv (0 : Int32), oU, oU] [(.long q0)])) _
    refine XS.lloadN X0.here hx rfl (hb hby d14_1) rfl ?_
    show Steps p.tables e below (s₁.setTop (mkF m 2 #[oJ q0, oS, oJ q2, oS, iv (0 : Int32), oU, oU] [(.long q2), (.long q0)])) _
    exact k
  refine own_cc (own_callS X0 hx hZ (y := (⟨"java/math/BigDecimal", "add", "(JJ)J"⟩ : MethodName)) hown (hw _ (List.mem_of_getElem? (i := 85) rfl)) (hw _ (List.mem_of_getElem? (i := 86) rfl)) (hw _ (List.mem_of_getElem? (i := 13) rfl)) (hw _ (List.mem_of_getElem? (i := 87) rfl)) (by decide) (rm15 l Z a0 hw [] q0 q2 h0 n0 Z0 ) e0 0 (by decide) (by decide) (by decide) (by decide) rfl (by rw [hml]; rfl) [(.long q0), (.long q2)] [] rfl (lenOf pd_10 rfl) rfl (by show 2 * 0 + _ ≤ _; exact Nat.le_of_eq rfl) (hb hby d14_2)) fun T2 L2 v2 X2 hQ2 => ?_
  obtain ⟨rfl, N2, e2⟩ := hQ2
  replace N0 := Fr.app N0 N2
  show own_Go p e below _ (T2.setTop (mkF m 5 #[oJ q0, oS, oJ q2, oS, iv (0 : Int32), oU, oU] [(.long (fadd2 q0 q2))]))
  refine own_by (B := T2.setTop (mkF m 20 #[oJ q0, oS, oJ q2, oS, iv (0 : Int32), oJ (fadd2 q0 q2), oS] [(.int (0 : Int32)), (.long (fadd2 q0 q2))])) (fun t k => ?_) ?_
  · show Steps p.tables e below (T2.setTop (mkF m 5 #[oJ q0, oS, oJ q2, oS, iv (0 : Int32), oU, oU] [(.long (fadd2 q0 q2))])) _
    refine XS.lstore X2.here hx rfl (hb hby d14_5) rfl (l' := #[oJ q0, oS, oJ q2, oS, iv (0 : Int32), oJ (fadd2 q0 q2), oS]) rfl ?_
    show Steps p.tables e below (T2.setTop (mkF m 7 #[oJ q0, oS, oJ q2, oS, iv (0 : Int32), oJ (fadd2 q0 q2), oS] [])) _
    refine XS.lload X2.here hx rfl (hb hby d14_7) rfl ?_
    show Steps p.tables e below (T2.setTop (mkF m 9 #[oJ q0, oS, oJ q2, oS, iv (0 : Int32), oJ (fadd2 q0 q2), oS] [(.long (fadd2 q0 q2))])) _
    refine X2.ldc2Long hx hown (mvT hZ (hw _ (List.mem_of_getElem? (i := 41) rfl))) (g := (mkF m 9 #[oJ q0, oS, oJ q2, oS, iv (0 : Int32), oJ (fadd2 q0 q2), oS] [(.long (fadd2 q0 q2))])) rfl (hb hby d14_9) _ ?_
    show Steps p.tables e below (T2.setTop (mkF m 12 #[oJ q0, oS, oJ q2, oS, iv (0 : Int32), oJ (fadd2 q0 q2), oS] [(.long (-9223372036854775808 : Int64)), (.long (fadd2 q0 q2))])) _
    refine XS.lcmp X2.here hx rfl (hb hby d14_12) rfl ?_
    show Steps p.tables e below (T2.setTop (mkF m 13 #[oJ q0, oS, oJ q2, oS, iv (0 : Int32), oJ (fadd2 q0 q2), oS] [(.int (lcmpW (fadd2 q0 q2) (-9223372036854775808 : Int64)))])) _
    refine XS.ifNo X2.here hx rfl (hb hby d14_13) rfl ((if0 _ _).trans (feq (fun q => hp0 ((lw_eq _ _).mp q))).1) ?_
    show Steps p.tables e below (T2.setTop (mkF m 16 #[oJ q0, oS, oJ q2, oS, iv (0 : Int32), oJ (fadd2 q0 q2), oS] [])) _
    refine XS.lload X2.here hx rfl (hb hby d14_16) rfl ?_
    show Steps p.tables e below (T2.setTop (mkF m 18 #[oJ q0, oS, oJ q2, oS, iv (0 : Int32), oJ (fadd2 q0 q2), oS] [(.long (fadd2 q0 q2))])) _
    refine XS.iload X2.here hx rfl (hb hby d14_18) rfl ?_
    show Steps p.tables e below (T2.setTop (mkF m 20 #[oJ q0, oS, oJ q2, oS, iv (0 : Int32), oJ (fadd2 q0 q2), oS] [(.int (0 : Int32)), (.long (fadd2 q0 q2))])) _
    exact k
  refine own_cc (own_callS X2 hx hZ (y := (⟨"java/math/BigDecimal", "valueOf", "(JI)Ljava/math/BigDecimal;"⟩ : MethodName)) hown (hw _ (List.mem_of_getElem? (i := 88) rfl)) (hw _ (List.mem_of_getElem? (i := 89) rfl)) (hw _ (List.mem_of_getElem? (i := 13) rfl)) (hw _ (List.mem_of_getElem? (i := 90) rfl)) (by decide) (rm16 l Z a0 hw [] (fadd2 q0 q2) h0 n0 Z0 OZ hBD hp0) e2 0 (by decide) (by decide) (by decide) (by decide) rfl (by rw [hml]; rfl) [(.long (fadd2 q0 q2)), (.int (0 : Int32))] [] rfl (lenOf pd_11 rfl) rfl (by show 2 * 0 + _ ≤ _; exact Nat.le_of_eq rfl) (hb hby d14_20)) fun T4 L4 v4 X4 hQ4 => ?_
  obtain ⟨r_4, rfl, N4, K4, E_r_4', F_intCompact_r_4', F_scale_r_4'⟩ := hQ4
  replace N0 := Fr.app N0 N4
  replace OZ := OZ.keep K4 all0
  replace K0 := K0.trans K4 all0
  replace Z0 := Nat.le_trans Z0 K4.1
  have E_r_4 := E_r_4'
  have F_intCompact_r_4 := F_intCompact_r_4'
  have F_scale_r_4 := F_scale_r_4'
  show own_Go p e below _ (T4.setTop (mkF m 23 #[oJ q0, oS, oJ q2, oS, iv (0 : Int32), oJ (fadd2 q0 q2), oS] [(.ref r_4)]))
  exact own_retR X4 Bd.notSynchronized hx Bd.returns rfl rfl rfl (hb hby d14_23) ⟨r_4, rfl, N0, K0, E_r_4, F_intCompact_r_4, F_scale_r_4⟩ (by decide) (by decide)

theorem d13_0 : decode jdk_17_method_134_code 0 = .ok (.iload_n 2, 1) := by decide +kernel
theorem d13_1 : decode jdk_17_method_134_code 1 = .ok (.i2l, 1) := by decide +kernel
theorem d13_2 : decode jdk_17_method_134_code 2 = .ok (.iload 5, 2) := by decide +kernel
theorem d13_4 : decode jdk_17_method_134_code 4 = .ok (.i2l, 1) := by decide +kernel
theorem d13_5 : decode jdk_17_method_134_code 5 = .ok (.lsub, 1) := by decide +kernel
theorem d13_6 : decode jdk_17_method_134_code 6 = .ok (.lstore 6, 2) := by decide +kernel
theorem d13_8 : decode jdk_17_method_134_code 8 = .ok (.lload 6, 2) := by decide +kernel
theorem d13_10 : decode jdk_17_method_134_code 10 = .ok (.lconst 0, 1) := by decide +kernel
theorem d13_11 : decode jdk_17_method_134_code 11 = .ok (.lcmp, 1) := by decide +kernel
theorem d13_12 : decode jdk_17_method_134_code 12 = .ok (.ifCond .ne 10, 3) := by decide +kernel
theorem d13_15 : decode jdk_17_method_134_code 15 = .ok (.lload_n 0, 1) := by decide +kernel
theorem d13_16 : decode jdk_17_method_134_code 16 = .ok (.lload_n 3, 1) := by decide +kernel
theorem d13_17 : decode jdk_17_method_134_code 17 = .ok (.iload_n 2, 1) := by decide +kernel
theorem d13_18 : decode jdk_17_method_134_code 18 = .ok (.invokestatic 1000, 3) := by decide +kernel
theorem d13_21 : decode jdk_17_method_134_code 21 = .ok (.areturn, 1) := by decide +kernel
theorem pn_13 : plainName "java/math/BigDecimal" = true := by first | (simp [plainName, overriddenIn]; done) | decide +kernel
theorem pd_9 : parseMethodDescriptor "(JJI)Ljava/math/BigDecimal;" = some ⟨[.long, .long, .int], some (.object "java/math/BigDecimal")⟩ := by decide +kernel
theorem ef_13 (m : MethodId) (x0 : Int64) (x1 : Int32) (x2 : Int64) (x3 : Int32) : entryFrame m #[(.long x0), (.int x1), (.long x2), (.int x3)] 12 = mkF m 0 #[oJ x0, oS, iv x1, oJ x2, oS, iv x3, oU, oU, oU, oU, oU, oU] [] := by first | (simp [entryFrame, mkF, argsToLocals, Value.category]; done) | rfl
def Q13 (Z : State) (q0 : Int64) (q2 : Int64) (h0 : Heap) (n0 : Nat) (v : Option Value) (h : Heap) (L : List Loc) : Prop := ∃ r : Addr, v = some (.ref r) ∧ Fr n0 L ∧ Keep h0 h [] ∧ Exa Z h r "java/math/BigDecimal" ∧ Fld Z h r "java/math/BigDecimal" "intCompact" "J" (.long (fadd2 q0 q2)) ∧ Fld Z h r "java/math/BigDecimal" "scale" "I" (.int (0 : Int32))
set_option maxRecDepth 65536 in
set_option maxHeartbeats 40000000 in
theorem rm13 (l : Launch) (Z : State) (a0 : Array Value) (hw : ∀ d ∈ tables_1, d.before a0 Z = true) (ws : List Jvm.Cond) (q0 : Int64) (q2 : Int64) (h0 : Heap) (n0 : Nat) (Z0 : n0 ≤ h0.size) (OZ : Old Z n0 h0) (hBD : own_BD Z) (hp0 : ¬ ((fadd2 q0 q2) = (-9223372036854775808 : Int64))) :
    MetFree l (⟨"java/math/BigDecimal", "add", "(JIJI)Ljava/math/BigDecimal;"⟩ : MethodName) (head1 (Jvm.Cond.code (⟨"java/math/BigDecimal", "add", "(JIJI)Ljava/math/BigDecimal;"⟩ : MethodName) jdk_17_method_134_code 12 (some (.object "java/math/BigDecimal")) :: ws) ({ frames := 6, cells := 1, slots := 5, locals := 87 } : Room)) (fun a U => a = #[(.long q0), (.int (0 : Int32)), (.long q2), (.int (0 : Int32))] ∧ Z.Warmed39 U.vm ∧ U.heap = h0) (fun _ _ _ _ _ => True) (fun _ U o U' => ∃ v L, o = .returned v ∧ Q13 Z q0 q2 h0 n0 v U'.heap L ∧ FrameEnd U o U' L ({ frames := 6, cells := 1, slots := 5, locals := 87 } : Room).cells ({ frames := 6, cells := 1, slots := 5, locals := 87 } : Room).slots) := by
  refine MetFree.of_bodySF (plainFor_of_name pn_13) hisR ?_
  intro p e s m args below meth c s₁ Bd hml0 hP hK
  obtain ⟨rfl, hZ, hh⟩ := hP
  have hx := Bd.exec
  have hby := Bd.bytes
  have hml : c.maxLocals = 12 := hml0
  have hown : s.vm.findClass "java/math/BigDecimal" = some m.cls := findClass_of_methodNamed Bd.named
  have hnm := (name_of_methodNamed Bd.named Bd.method).1
  have X0 : Stand p l e ({ frames := 6, cells := 1, slots := 5, locals := 87 } : Room) s m #[(.long q0), (.int (0 : Int32)), (.long q2), (.int (0 : Int32))] below meth c s₁ [] 0 0 := Stand.of_body Bd
  have e0 : s₁.heap = h0 := by rw [← hh, Bd.state]; rfl
  have N0 := Fr.nil n0
  have K0 : Keep h0 h0 [] := Keep.refl h0 _
  change own_Go p e below (own_Post s (Q13 Z q0 q2 h0 n0) ({ frames := 6, cells := 1, slots := 5, locals := 87 } : Room).cells ({ frames := 6, cells := 1, slots := 5, locals := 87 } : Room).slots) (s₁.setTop (entryFrame m #[(.long q0), (.int (0 : Int32)), (.long q2), (.int (0 : Int32))] 12))
  refine own_by (fun t k => castTop (ef_13 m q0 (0 : Int32) q2 (0 : Int32)) k) ?_
  show own_Go p e below _ (s₁.setTop (mkF m 0 #[oJ q0, oS, iv (0 : Int32), oJ q2, oS, iv (0 : Int32), oU, oU, oU, oU, oU, oU] []))
  refine own_by (B := s₁.setTop (mkF m 18 #[oJ q0, oS, iv (0 : Int32), oJ q2, oS, iv (0 : Int32), oJ (0 : Int64), oS, oU, oU, oU, oU] [(.int (0 : Int32)), (.long q2), (.long q0)])) (fun t k => ?_) ?_
  · show Steps p.tables e below (s₁.setTop (mkF m 0 #[oJ q0, oS, iv (0 : Int32), oJ q2, oS, iv (0 : Int32), oU, oU, oU, oU, oU, oU] [])) _
    refine XS.iloadN X0.here hx rfl (hb hby d13_0) rfl ?_
    show Steps p.tables e below (s₁.setTop (mkF m 1 #[oJ q0, oS, iv (0 : Int32), oJ q2, oS, iv (0 : Int32), oU, oU, oU, oU, oU, oU] [(.int (0 : Int32))])) _
    refine XS.i2l X0.here hx rfl (hb hby d13_1) rfl ?_
    rw [show ((0 : Int32).toInt64) = (0 : Int64) from by decide]
    show Steps p.tables e below (s₁.setTop (mkF m 2 #[oJ q0, oS, iv (0 : Int32), oJ q2, oS, iv (0 : Int32), oU, oU, oU, oU, oU, oU] [(.long (0 : Int64))])) _
    refine XS.iload X0.here hx rfl (hb hby d13_2) rfl ?_
    show Steps p.tables e below (s₁.setTop (mkF m 4 #[oJ q0, oS, iv (0 : Int32), oJ q2, oS, iv (0 : Int32), oU, oU, oU, oU, oU, oU] [(.int (0 : Int32)), (.long (0 : Int64))])) _
    refine XS.i2l X0.here hx rfl (hb hby d13_4) rfl ?_
    rw [show ((0 : Int32).toInt64) = (0 : Int64) from by decide]
    show Steps p.tables e below (s₁.setTop (mkF m 5 #[oJ q0, oS, iv (0 : Int32), oJ q2, oS, iv (0 : Int32), oU, oU, oU, oU, oU, oU] [(.long (0 : Int64)), (.long (0 : Int64))])) _
    refine XS.lsub X0.here hx rfl (hb hby d13_5) rfl ?_
    show Steps p.tables e below (s₁.setTop (mkF m 6 #[oJ q0, oS, iv (0 : Int32), oJ q2, oS, iv (0 : Int32), oU, oU, oU, oU, oU, oU] [(.long (0 : Int64))])) _
    refine XS.lstore X0.here hx rfl (hb hby d13_6) rfl (l' := #[oJ q0, oS, iv (0 : Int32), oJ q2, oS, iv (0 : Int32), oJ (0 : Int64), oS, oU, oU, oU, oU]) rfl ?_
    show Steps p.tables e below (s₁.setTop (mkF m 8 #[oJ q0, oS, iv (0 : Int32), oJ q2, oS, iv (0 : Int32), oJ (0 : Int64), oS, oU, oU, oU, oU] [])) _
    refine XS.lload X0.here hx rfl (hb hby d13_8) rfl ?_
    show Steps p.tables e below (s₁.setTop (mkF m 10 #[oJ q0, oS, iv (0 : Int32), oJ q2, oS, iv (0 : Int32), oJ (0 : Int64), oS, oU, oU, oU, oU] [(.long (0 : Int64))])) _
    refine XS.lconst X0.here hx rfl (hb hby d13_10) ?_
    show Steps p.tables e below (s₁.setTop (mkF m 11 #[oJ q0, oS, iv (0 : Int32), oJ q2, oS, iv (0 : Int32), oJ (0 : Int64), oS, oU, oU, oU, oU] [(.long (0 : Int64)), (.long (0 : Int64))])) _
    refine XS.lcmp X0.here hx rfl (hb hby d13_11) rfl ?_
    show Steps p.tables e below (s₁.setTop (mkF m 12 #[oJ q0, oS, iv (0 : Int32), oJ q2, oS, iv (0 : Int32), oJ (0 : Int64), oS, oU, oU, oU, oU] [(.int (lcmpW (0 : Int64) (0 : Int64)))])) _
    rw [show (lcmpW (0 : Int64) (0 : Int64)) = (0 : Int32) from by decide]
    show Steps p.tables e below (s₁.setTop (mkF m 12 #[oJ q0, oS, iv (0 : Int32), oJ q2, oS, iv (0 : Int32), oJ (0 : Int64), oS, oU, oU, oU, oU] [(.int (0 : Int32))])) _
    refine XS.ifNo X0.here hx rfl (hb hby d13_12) rfl ((if0 _ _).trans (teq (by decide : (0 : Int32) = (0 : Int32))).2) ?_
    show Steps p.tables e below (s₁.setTop (mkF m 15 #[oJ q0, oS, iv (0 : Int32), oJ q2, oS, iv (0 : Int32), oJ (0 : Int64), oS, oU, oU, oU, oU] [])) _
    refine XS.lloadN X0.here hx rfl (hb hby d13_15) rfl ?_
    show Steps p.tables e below (s₁.setTop (mkF m 16 #[oJ q0, oS, iv (0 : Int32), oJ q2, oS, iv (0 : Int32), oJ (0 : Int64), oS, oU, oU, oU, oU] [(.long q0)])) _
    refine XS.lloadN X0.here hx rfl (hb hby d13_16) rfl ?_
    show Steps p.tables e below (s₁.setTop (mkF m 17 #[oJ q0, oS, iv (0 : Int32), oJ q2, oS, iv (0 : Int32), oJ (0 : Int64), oS, oU, oU, oU, oU] [(.long q2), (.long q0)])) _
    refine XS.iloadN X0.here hx rfl (hb hby d13_17) rfl ?_
    show Steps p.tables e below (s₁.setTop (mkF m 18 #[oJ q0, oS, iv (0 : Int32), oJ q2, oS, iv (0 : Int32), oJ (0 : Int64), oS, oU, oU, oU, oU] [(.int (0 : Int32)), (.long q2), (.long q0)])) _
    exact k
  refine own_cc (own_callS X0 hx hZ (y := (⟨"java/math/BigDecimal", "add", "(JJI)Ljava/math/BigDecimal;"⟩ : MethodName)) hown (hw _ (List.mem_of_getElem? (i := 82) rfl)) (hw _ (List.mem_of_getElem? (i := 83) rfl)) (hw _ (List.mem_of_getElem? (i := 13) rfl)) (hw _ (List.mem_of_getElem? (i := 84) rfl)) (by decide) (rm14 l Z a0 hw [] q0 q2 h0 n0 Z0 OZ hBD hp0) e0 0 (by decide) (by decide) (by decide) (by decide) rfl (by rw [hml]; rfl) [(.long q0), (.long q2), (.int (0 : Int32))] [] rfl (lenOf pd_9 rfl) rfl (by show 2 * 0 + _ ≤ _; exact Nat.le_of_eq rfl) (hb hby d13_18)) fun T2 L2 v2 X2 hQ2 => ?_
  obtain ⟨r_2, rfl, N2, K2, E_r_2', F_intCompact_r_2', F_scale_r_2'⟩ := hQ2
  replace N0 := Fr.app N0 N2
  replace OZ := OZ.keep K2 all0
  replace K0 := K0.trans K2 all0
  replace Z0 := Nat.le_trans Z0 K2.1
  have E_r_2 := E_r_2'
  have F_intCompact_r_2 := F_intCompact_r_2'
  have F_scale_r_2 := F_scale_r_2'
  show own_Go p e below _ (T2.setTop (mkF m 21 #[oJ q0, oS, iv (0 : Int32), oJ q2, oS, iv (0 : Int32), oJ (0 : Int64), oS, oU, oU, oU, oU] [(.ref r_2)]))
  exact own_retR X2 Bd.notSynchronized hx Bd.returns rfl rfl rfl (hb hby d13_21) ⟨r_2, rfl, N0, K0, E_r_2, F_intCompact_r_2, F_scale_r_2⟩ (by decide) (by decide)

theorem d12_0 : decode jdk_17_method_26_code 0 = .ok (.aload_n 0, 1) := by decide +kernel
theorem d12_1 : decode jdk_17_method_26_code 1 = .ok (.getfield 24, 3) := by decide +kernel
theorem d12_4 : decode jdk_17_method_26_code 4 = .ok (.ldc2_w 125, 3) := by decide +kernel
theorem d12_7 : decode jdk_17_method_26_code 7 = .ok (.lcmp, 1) := by decide +kernel
theorem d12_8 : decode jdk_17_method_26_code 8 = .ok (.ifCond .eq 54, 3) := by decide +kernel
theorem d12_11 : decode jdk_17_method_26_code 11 = .ok (.aload_n 1, 1) := by decide +kernel
theorem d12_12 : decode jdk_17_method_26_code 12 = .ok (.getfield 24, 3) := by decide +kernel
theorem d12_15 : decode jdk_17_method_26_code 15 = .ok (.ldc2_w 125, 3) := by decide +kernel
theorem d12_18 : decode jdk_17_method_26_code 18 = .ok (.lcmp, 1) := by decide +kernel
theorem d12_19 : decode jdk_17_method_26_code 19 = .ok (.ifCond .eq 23, 3) := by decide +kernel
theorem d12_22 : decode jdk_17_method_26_code 22 = .ok (.aload_n 0, 1) := by decide +kernel
theorem d12_23 : decode jdk_17_method_26_code 23 = .ok (.getfield 24, 3) := by decide +kernel
theorem d12_26 : decode jdk_17_method_26_code 26 = .ok (.aload_n 0, 1) := by decide +kernel
theorem d12_27 : decode jdk_17_method_26_code 27 = .ok (.getfield 17, 3) := by decide +kernel
theorem d12_30 : decode jdk_17_method_26_code 30 = .ok (.aload_n 1, 1) := by decide +kernel
theorem d12_31 : decode jdk_17_method_26_code 31 = .ok (.getfield 24, 3) := by decide +kernel
theorem d12_34 : decode jdk_17_method_26_code 34 = .ok (.aload_n 1, 1) := by decide +kernel
theorem d12_35 : decode jdk_17_method_26_code 35 = .ok (.getfield 17, 3) := by decide +kernel
theorem d12_38 : decode jdk_17_method_26_code 38 = .ok (.invokestatic 257, 3) := by decide +kernel
theorem d12_41 : decode jdk_17_method_26_code 41 = .ok (.areturn, 1) := by decide +kernel
theorem pn_12 : plainName "java/math/BigDecimal" = true := by first | (simp [plainName, overriddenIn]; done) | decide +kernel
theorem pd_8 : parseMethodDescriptor "(JIJI)Ljava/math/BigDecimal;" = some ⟨[.long, .int, .long, .int], some (.object "java/math/BigDecimal")⟩ := by decide +kernel
theorem ef_12 (m : MethodId) (x0 : Addr) (x1 : Addr) : entryFrame m #[(.ref x0), (.ref x1)] 2 = mkF m 0 #[rv x0, rv x1] [] := by first | (simp [entryFrame, mkF, argsToLocals, Value.category]; done) | rfl
def Q12 (Z : State) (o0 : Addr) (o1 : Addr) (w1 : Int64) (w2 : Int64) (h0 : Heap) (n0 : Nat) (v : Option Value) (h : Heap) (L : List Loc) : Prop := ∃ r : Addr, v = some (.ref r) ∧ Fr n0 L ∧ Keep h0 h [] ∧ Exa Z h r "java/math/BigDecimal" ∧ Fld Z h r "java/math/BigDecimal" "intCompact" "J" (.long (fadd2 w1 w2)) ∧ Fld Z h r "java/math/BigDecimal" "scale" "I" (.int (0 : Int32))
set_option maxRecDepth 65536 in
set_option maxHeartbeats 40000000 in
theorem rm12 (l : Launch) (Z : State) (a0 : Array Value) (hw : ∀ d ∈ tables_1, d.before a0 Z = true) (ws : List Jvm.Cond) (o0 : Addr) (o1 : Addr) (w1 : Int64) (w2 : Int64) (h0 : Heap) (n0 : Nat) (Z0 : n0 ≤ h0.size) (OZ : Old Z n0 h0) (hBD : own_BD Z) (F_intCompact_o0 : Fld Z h0 o0 "java/math/BigDecimal" "intCompact" "J" (.long w1)) (F_scale_o0 : Fld Z h0 o0 "java/math/BigDecimal" "scale" "I" (.int (0 : Int32))) (F_intCompact_o1 : Fld Z h0 o1 "java/math/BigDecimal" "intCompact" "J" (.long w2)) (F_scale_o1 : Fld Z h0 o1 "java/math/BigDecimal" "scale" "I" (.int (0 : Int32))) (hp0 : ¬ (w1 = (-9223372036854775808 : Int64))) (hp1 : ¬ (w2 = (-9223372036854775808 : Int64))) (hp2 : ¬ ((fadd2 w1 w2) = (-9223372036854775808 : Int64))) :
    MetFree l (⟨"java/math/BigDecimal", "add", "(Ljava/math/BigDecimal;)Ljava/math/BigDecimal;"⟩ : MethodName) (head1 (Jvm.Cond.code (⟨"java/math/BigDecimal", "add", "(Ljava/math/BigDecimal;)Ljava/math/BigDecimal;"⟩ : MethodName) jdk_17_method_26_code 2 (some (.object "java/math/BigDecimal")) :: ws) ({ frames := 7, cells := 1, slots := 5, locals := 110 } : Room)) (fun a U => a = #[(.ref o0), (.ref o1)] ∧ Z.Warmed39 U.vm ∧ U.heap = h0) (fun _ _ _ _ _ => True) (fun _ U o U' => ∃ v L, o = .returned v ∧ Q12 Z o0 o1 w1 w2 h0 n0 v U'.heap L ∧ FrameEnd U o U' L ({ frames := 7, cells := 1, slots := 5, locals := 110 } : Room).cells ({ frames := 7, cells := 1, slots := 5, locals := 110 } : Room).slots) := by
  refine MetFree.of_bodySF (plainFor_of_name pn_12) hisR ?_
  intro p e s m args below meth c s₁ Bd hml0 hP hK
  obtain ⟨rfl, hZ, hh⟩ := hP
  have hx := Bd.exec
  have hby := Bd.bytes
  have hml : c.maxLocals = 2 := hml0
  have hown : s.vm.findClass "java/math/BigDecimal" = some m.cls := findClass_of_methodNamed Bd.named
  have hnm := (name_of_methodNamed Bd.named Bd.method).1
  have X0 : Stand p l e ({ frames := 7, cells := 1, slots := 5, locals := 110 } : Room) s m #[(.ref o0), (.ref o1)] below meth c s₁ [] 0 0 := Stand.of_body Bd
  have e0 : s₁.heap = h0 := by rw [← hh, Bd.state]; rfl
  have N0 := Fr.nil n0
  have K0 : Keep h0 h0 [] := Keep.refl h0 _
  change own_Go p e below (own_Post s (Q12 Z o0 o1 w1 w2 h0 n0) ({ frames := 7, cells := 1, slots := 5, locals := 110 } : Room).cells ({ frames := 7, cells := 1, slots := 5, locals := 110 } : Room).slots) (s₁.setTop (entryFrame m #[(.ref o0), (.ref o1)] 2))
  refine own_by (fun t k => castTop (ef_12 m o0 o1) k) ?_
  show own_Go p e below _ (s₁.setTop (mkF m 0 #[rv o0, rv o1] []))
  refine own_by (B := s₁.setTop (mkF m 1 #[rv o0, rv o1] [(.ref o0)])) (fun t k => ?_) ?_
  · show Steps p.tables e below (s₁.setTop (mkF m 0 #[rv o0, rv o1] [])) _
    refine XS.aloadN X0.here hx rfl (hb hby d12_0) rfl rfl ?_
    show Steps p.tables e below (s₁.setTop (mkF m 1 #[rv o0, rv o1] [(.ref o0)])) _
    exact k
  refine own_c1 (getF X0 hx hZ hown (host := "") (Or.inl (hw _ (List.mem_of_getElem? (i := 39) rfl))) Via.refl e0 F_intCompact_o0 rfl rfl (hb hby d12_1)) fun T1 X1 e1 => ?_
  show own_Go p e below _ (T1.setTop (mkF m 4 #[rv o0, rv o1] [(.long w1)]))
  refine own_by (B := T1.setTop (mkF m 12 #[rv o0, rv o1] [(.ref o1)])) (fun t k => ?_) ?_
  · show Steps p.tables e below (T1.setTop (mkF m 4 #[rv o0, rv o1] [(.long w1)])) _
    refine X1.ldc2Long hx hown (mvT hZ (hw _ (List.mem_of_getElem? (i := 41) rfl))) (g := (mkF m 4 #[rv o0, rv o1] [(.long w1)])) rfl (hb hby d12_4) _ ?_
    show Steps p.tables e below (T1.setTop (mkF m 7 #[rv o0, rv o1] [(.long (-9223372036854775808 : Int64)), (.long w1)])) _
    refine XS.lcmp X1.here hx rfl (hb hby d12_7) rfl ?_
    show Steps p.tables e below (T1.setTop (mkF m 8 #[rv o0, rv o1] [(.int (lcmpW w1 (-9223372036854775808 : Int64)))])) _
    refine XS.ifNo X1.here hx rfl (hb hby d12_8) rfl ((if0 _ _).trans (feq (fun q => hp0 ((lw_eq _ _).mp q))).1) ?_
    show Steps p.tables e below (T1.setTop (mkF m 11 #[rv o0, rv o1] [])) _
    refine XS.aloadN X1.here hx rfl (hb hby d12_11) rfl rfl ?_
    show Steps p.tables e below (T1.setTop (mkF m 12 #[rv o0, rv o1] [(.ref o1)])) _
    exact k
  refine own_c1 (getF X1 hx hZ hown (host := "") (Or.inl (hw _ (List.mem_of_getElem? (i := 39) rfl))) Via.refl e1 F_intCompact_o1 rfl rfl (hb hby d12_12)) fun T2 X2 e2 => ?_
  show own_Go p e below _ (T2.setTop (mkF m 15 #[rv o0, rv o1] [(.long w2)]))
  refine own_by (B := T2.setTop (mkF m 23 #[rv o0, rv o1] [(.ref o0)])) (fun t k => ?_) ?_
  · show Steps p.tables e below (T2.setTop (mkF m 15 #[rv o0, rv o1] [(.long w2)])) _
    refine X2.ldc2Long hx hown (mvT hZ (hw _ (List.mem_of_getElem? (i := 41) rfl))) (g := (mkF m 15 #[rv o0, rv o1] [(.long w2)])) rfl (hb hby d12_15) _ ?_
    show Steps p.tables e below (T2.setTop (mkF m 18 #[rv o0, rv o1] [(.long (-9223372036854775808 : Int64)), (.long w2)])) _
    refine XS.lcmp X2.here hx rfl (hb hby d12_18) rfl ?_
    show Steps p.tables e below (T2.setTop (mkF m 19 #[rv o0, rv o1] [(.int (lcmpW w2 (-9223372036854775808 : Int64)))])) _
    refine XS.ifNo X2.here hx rfl (hb hby d12_19) rfl ((if0 _ _).trans (feq (fun q => hp1 ((lw_eq _ _).mp q))).1) ?_
    show Steps p.tables e below (T2.setTop (mkF m 22 #[rv o0, rv o1] [])) _
    refine XS.aloadN X2.here hx rfl (hb hby d12_22) rfl rfl ?_
    show Steps p.tables e below (T2.setTop (mkF m 23 #[rv o0, rv o1] [(.ref o0)])) _
    exact k
  refine own_c1 (getF X2 hx hZ hown (host := "") (Or.inl (hw _ (List.mem_of_getElem? (i := 39) rfl))) Via.refl e2 F_intCompact_o0 rfl rfl (hb hby d12_23)) fun T3 X3 e3 => ?_
  show own_Go p e below _ (T3.setTop (mkF m 26 #[rv o0, rv o1] [(.long w1)]))
  refine own_by (B := T3.setTop (mkF m 27 #[rv o0, rv o1] [(.ref o0), (.long w1)])) (fun t k => ?_) ?_
  · show Steps p.tables e below (T3.setTop (mkF m 26 #[rv o0, rv o1] [(.long w1)])) _
    refine XS.aloadN X3.here hx rfl (hb hby d12_26) rfl rfl ?_
    show Steps p.tables e below (T3.setTop (mkF m 27 #[rv o0, rv o1] [(.ref o0), (.long w1)])) _
    exact k
  refine own_c1 (getF X3 hx hZ hown (host := "") (Or.inl (hw _ (List.mem_of_getElem? (i := 51) rfl))) Via.refl e3 F_scale_o0 rfl rfl (hb hby d12_27)) fun T4 X4 e4 => ?_
  show own_Go p e below _ (T4.setTop (mkF m 30 #[rv o0, rv o1] [(.int (0 : Int32)), (.long w1)]))
  refine own_by (B := T4.setTop (mkF m 31 #[rv o0, rv o1] [(.ref o1), (.int (0 : Int32)), (.long w1)])) (fun t k => ?_) ?_
  · show Steps p.tables e below (T4.setTop (mkF m 30 #[rv o0, rv o1] [(.int (0 : Int32)), (.long w1)])) _
    refine XS.aloadN X4.here hx rfl (hb hby d12_30) rfl rfl ?_
    show Steps p.tables e below (T4.setTop (mkF m 31 #[rv o0, rv o1] [(.ref o1), (.int (0 : Int32)), (.long w1)])) _
    exact k
  refine own_c1 (getF X4 hx hZ hown (host := "") (Or.inl (hw _ (List.mem_of_getElem? (i := 39) rfl))) Via.refl e4 F_intCompact_o1 rfl rfl (hb hby d12_31)) fun T5 X5 e5 => ?_
  show own_Go p e below _ (T5.setTop (mkF m 34 #[rv o0, rv o1] [(.long w2), (.int (0 : Int32)), (.long w1)]))
  refine own_by (B := T5.setTop (mkF m 35 #[rv o0, rv o1] [(.ref o1), (.long w2), (.int (0 : Int32)), (.long w1)])) (fun t k => ?_) ?_
  · show Steps p.tables e below (T5.setTop (mkF m 34 #[rv o0, rv o1] [(.long w2), (.int (0 : Int32)), (.long w1)])) _
    refine XS.aloadN X5.here hx rfl (hb hby d12_34) rfl rfl ?_
    show Steps p.tables e below (T5.setTop (mkF m 35 #[rv o0, rv o1] [(.ref o1), (.long w2), (.int (0 : Int32)), (.long w1)])) _
    exact k
  refine own_c1 (getF X5 hx hZ hown (host := "") (Or.inl (hw _ (List.mem_of_getElem? (i := 51) rfl))) Via.refl e5 F_scale_o1 rfl rfl (hb hby d12_35)) fun T6 X6 e6 => ?_
  show own_Go p e below _ (T6.setTop (mkF m 38 #[rv o0, rv o1] [(.int (0 : Int32)), (.long w2), (.int (0 : Int32)), (.long w1)]))
  refine own_cc (own_callS X6 hx hZ (y := (⟨"java/math/BigDecimal", "add", "(JIJI)Ljava/math/BigDecimal;"⟩ : MethodName)) hown (hw _ (List.mem_of_getElem? (i := 79) rfl)) (hw _ (List.mem_of_getElem? (i := 80) rfl)) (hw _ (List.mem_of_getElem? (i := 13) rfl)) (hw _ (List.mem_of_getElem? (i := 81) rfl)) (by decide) (rm13 l Z a0 hw [] w1 w2 h0 n0 Z0 OZ hBD hp2) e6 0 (by decide) (by decide) (by decide) (by decide) rfl (by rw [hml]; rfl) [(.long w1), (.int (0 : Int32)), (.long w2), (.int (0 : Int32))] [] rfl (lenOf pd_8 rfl) rfl (by show 2 * 0 + _ ≤ _; exact Nat.le_of_eq rfl) (hb hby d12_38)) fun T8 L8 v8 X8 hQ8 => ?_
  obtain ⟨r_8, rfl, N8, K8, E_r_8', F_intCompact_r_8', F_scale_r_8'⟩ := hQ8
  replace N0 := Fr.app N0 N8
  replace F_intCompact_o0 := F_intCompact_o0.keep K8 nin0
  replace F_scale_o0 := F_scale_o0.keep K8 nin0
  replace F_intCompact_o1 := F_intCompact_o1.keep K8 nin0
  replace F_scale_o1 := F_scale_o1.keep K8 nin0
  replace OZ := OZ.keep K8 all0
  replace K0 := K0.trans K8 all0
  replace Z0 := Nat.le_trans Z0 K8.1
  have E_r_8 := E_r_8'
  have F_intCompact_r_8 := F_intCompact_r_8'
  have F_scale_r_8 := F_scale_r_8'
  show own_Go p e below _ (T8.setTop (mkF m 41 #[rv o0, rv o1] [(.ref r_8)]))
  exact own_retR X8 Bd.notSynchronized hx Bd.returns rfl rfl rfl (hb hby d12_41) ⟨r_8, rfl, N0, K0, E_r_8, F_intCompact_r_8, F_scale_r_8⟩ (by decide) (by decide)

theorem d21_0 : decode jdk_17_method_70_code 0 = .ok (.aload_n 0, 1) := by decide +kernel
theorem d21_1 : decode jdk_17_method_70_code 1 = .ok (.getfield 17, 3) := by decide +kernel
theorem d21_4 : decode jdk_17_method_70_code 4 = .ok (.aload_n 1, 1) := by decide +kernel
theorem d21_5 : decode jdk_17_method_70_code 5 = .ok (.getfield 17, 3) := by decide +kernel
theorem d21_8 : decode jdk_17_method_70_code 8 = .ok (.if_icmp .ne 55, 3) := by decide +kernel
theorem d21_11 : decode jdk_17_method_70_code 11 = .ok (.aload_n 0, 1) := by decide +kernel
theorem d21_12 : decode jdk_17_method_70_code 12 = .ok (.getfield 24, 3) := by decide +kernel
theorem d21_15 : decode jdk_17_method_70_code 15 = .ok (.lstore_n 2, 1) := by decide +kernel
theorem d21_16 : decode jdk_17_method_70_code 16 = .ok (.aload_n 1, 1) := by decide +kernel
theorem d21_17 : decode jdk_17_method_70_code 17 = .ok (.getfield 24, 3) := by decide +kernel
theorem d21_20 : decode jdk_17_method_70_code 20 = .ok (.lstore 4, 2) := by decide +kernel
theorem d21_22 : decode jdk_17_method_70_code 22 = .ok (.lload_n 2, 1) := by decide +kernel
theorem d21_23 : decode jdk_17_method_70_code 23 = .ok (.ldc2_w 125, 3) := by decide +kernel
theorem d21_26 : decode jdk_17_method_70_code 26 = .ok (.lcmp, 1) := by decide +kernel
theorem d21_27 : decode jdk_17_method_70_code 27 = .ok (.ifCond .eq 36, 3) := by decide +kernel
theorem d21_30 : decode jdk_17_method_70_code 30 = .ok (.lload 4, 2) := by decide +kernel
theorem d21_32 : decode jdk_17_method_70_code 32 = .ok (.ldc2_w 125, 3) := by decide +kernel
theorem d21_35 : decode jdk_17_method_70_code 35 = .ok (.lcmp, 1) := by decide +kernel
theorem d21_36 : decode jdk_17_method_70_code 36 = .ok (.ifCond .eq 27, 3) := by decide +kernel
theorem d21_39 : decode jdk_17_method_70_code 39 = .ok (.lload_n 2, 1) := by decide +kernel
theorem d21_40 : decode jdk_17_method_70_code 40 = .ok (.lload 4, 2) := by decide +kernel
theorem d21_42 : decode jdk_17_method_70_code 42 = .ok (.lcmp, 1) := by decide +kernel
theorem d21_43 : decode jdk_17_method_70_code 43 = .ok (.ifCond .eq 18, 3) := by decide +kernel
theorem d21_61 : decode jdk_17_method_70_code 61 = .ok (.iconst 0, 1) := by decide +kernel
theorem d21_62 : decode jdk_17_method_70_code 62 = .ok (.ireturn, 1) := by decide +kernel
theorem pn_21 : plainName "java/math/BigDecimal" = true := by first | (simp [plainName, overriddenIn]; done) | decide +kernel
theorem ef_21 (m : MethodId) (x0 : Addr) (x1 : Addr) : entryFrame m #[(.ref x0), (.ref x1)] 6 = mkF m 0 #[rv x0, rv x1, oU, oU, oU, oU] [] := by first | (simp [entryFrame, mkF, argsToLocals, Value.category]; done) | rfl
def Q21 (Z : State) (o0 : Addr) (o1 : Addr) (w1 : Int64) (h0 : Heap) (n0 : Nat) (v : Option Value) (h : Heap) (L : List Loc) : Prop := v = some (.int (0 : Int32)) ∧ Fr n0 L ∧ h = h0
set_option maxRecDepth 65536 in
set_option maxHeartbeats 40000000 in
theorem rm21 (l : Launch) (Z : State) (a0 : Array Value) (hw : ∀ d ∈ tables_1, d.before a0 Z = true) (ws : List Jvm.Cond) (o0 : Addr) (o1 : Addr) (w1 : Int64) (h0 : Heap) (n0 : Nat) (Z0 : n0 ≤ h0.size) (F_intCompact_o0 : Fld Z h0 o0 "java/math/BigDecimal" "intCompact" "J" (.long w1)) (F_scale_o0 : Fld Z h0 o0 "java/math/BigDecimal" "scale" "I" (.int (0 : Int32))) (F_intCompact_o1 : Fld Z h0 o1 "java/math/BigDecimal" "intCompact" "J" (.long w1)) (F_scale_o1 : Fld Z h0 o1 "java/math/BigDecimal" "scale" "I" (.int (0 : Int32))) (hp0 : ¬ (w1 = (-9223372036854775808 : Int64))) :
    MetFree l (⟨"java/math/BigDecimal", "compareTo", "(Ljava/math/BigDecimal;)I"⟩ : MethodName) (head1 (Jvm.Cond.code (⟨"java/math/BigDecimal", "compareTo", "(Ljava/math/BigDecimal;)I"⟩ : MethodName) jdk_17_method_70_code 6 (some .int) :: ws) ({ frames := 0, cells := 0, slots := 0, locals := 0 } : Room)) (fun a U => a = #[(.ref o0), (.ref o1)] ∧ Z.Warmed39 U.vm ∧ U.heap = h0) (fun _ _ _ _ _ => True) (fun _ U o U' => ∃ v L, o = .returned v ∧ Q21 Z o0 o1 w1 h0 n0 v U'.heap L ∧ FrameEnd U o U' L ({ frames := 0, cells := 0, slots := 0, locals := 0 } : Room).cells ({ frames := 0, cells := 0, slots := 0, locals := 0 } : Room).slots) := by
  refine MetFree.of_bodySF (plainFor_of_name pn_21) hisR ?_
  intro p e s m args below meth c s₁ Bd hml0 hP hK
  obtain ⟨rfl, hZ, hh⟩ := hP
  have hx := Bd.exec
  have hby := Bd.bytes
  have hml : c.maxLocals = 6 := hml0
  have hown : s.vm.findClass "java/math/BigDecimal" = some m.cls := findClass_of_methodNamed Bd.named
  have hnm := (name_of_methodNamed Bd.named Bd.method).1
  have X0 : Stand p l e ({ frames := 0, cells := 0, slots := 0, locals := 0 } : Room) s m #[(.ref o0), (.ref o1)] below meth c s₁ [] 0 0 := Stand.of_body Bd
  have e0 : s₁.heap = h0 := by rw [← hh, Bd.state]; rfl
  have N0 := Fr.nil n0
  change own_Go p e below (own_Post s (Q21 Z o0 o1 w1 h0 n0) ({ frames := 0, cells := 0, slots := 0, locals := 0 } : Room).cells ({ frames := 0, cells := 0, slots := 0, locals := 0 } : Room).slots) (s₁.setTop (entryFrame m #[(.ref o0), (.ref o1)] 6))
  refine own_by (fun t k => castTop (ef_21 m o0 o1) k) ?_
  show own_Go p e below _ (s₁.setTop (mkF m 0 #[rv o0, rv o1, oU, oU, oU, oU] []))
  refine own_by (B := s₁.setTop (mkF m 1 #[rv o0, rv o1, oU, oU, oU, oU] [(.ref o0)])) (fun t k => ?_) ?_
  · show Steps p.tables e below (s₁.setTop (mkF m 0 #[rv o0, rv o1, oU, oU, oU, oU] [])) _
    refine XS.aloadN X0.here hx rfl (hb hby d21_0) rfl rfl ?_
    show Steps p.tables e below (s₁.setTop (mkF m 1 #[rv o0, rv o1, oU, oU, oU, oU] [(.ref o0)])) _
    exact k
  refine own_c1 (getF X0 hx hZ hown (host := "") (Or.inl (hw _ (List.mem_of_getElem? (i := 51) rfl))) Via.refl e0 F_scale_o0 rfl rfl (hb hby d21_1)) fun T1 X1 e1 => ?_
  show own_Go p e below _ (T1.setTop (mkF m 4 #[rv o0, rv o1, oU, oU, oU, oU] [(.int (0 : Int32))]))
  refine own_by (B := T1.setTop (mkF m 5 #[rv o0, rv o1, oU, oU, oU, oU] [(.ref o1), (.int (0 : Int32))])) (fun t k => ?_) ?_
  · show Steps p.tables e below (T1.setTop (mkF m 4 #[rv o0, rv o1, oU, oU, oU, oU] [(.int (0 : Int32))])) _
    refine XS.aloadN X1.here hx rfl (hb hby d21_4) rfl rfl ?_
    show Steps p.tables e below (T1.setTop (mkF m 5 #[rv o0, rv o1, oU, oU, oU, oU] [(.ref o1), (.int (0 : Int32))])) _
    exact k
  refine own_c1 (getF X1 hx hZ hown (host := "") (Or.inl (hw _ (List.mem_of_getElem? (i := 51) rfl))) Via.refl e1 F_scale_o1 rfl rfl (hb hby d21_5)) fun T2 X2 e2 => ?_
  show own_Go p e below _ (T2.setTop (mkF m 8 #[rv o0, rv o1, oU, oU, oU, oU] [(.int (0 : Int32)), (.int (0 : Int32))]))
  refine own_by (B := T2.setTop (mkF m 12 #[rv o0, rv o1, oU, oU, oU, oU] [(.ref o0)])) (fun t k => ?_) ?_
  · show Steps p.tables e below (T2.setTop (mkF m 8 #[rv o0, rv o1, oU, oU, oU, oU] [(.int (0 : Int32)), (.int (0 : Int32))])) _
    refine XS.icmpNo X2.here hx rfl (hb hby d21_8) rfl (teq (by decide : (0 : Int32) = (0 : Int32))).2 ?_
    show Steps p.tables e below (T2.setTop (mkF m 11 #[rv o0, rv o1, oU, oU, oU, oU] [])) _
    refine XS.aloadN X2.here hx rfl (hb hby d21_11) rfl rfl ?_
    show Steps p.tables e below (T2.setTop (mkF m 12 #[rv o0, rv o1, oU, oU, oU, oU] [(.ref o0)])) _
    exact k
  refine own_c1 (getF X2 hx hZ hown (host := "") (Or.inl (hw _ (List.mem_of_getElem? (i := 39) rfl))) Via.refl e2 F_intCompact_o0 rfl rfl (hb hby d21_12)) fun T3 X3 e3 => ?_
  show own_Go p e below _ (T3.setTop (mkF m 15 #[rv o0, rv o1, oU, oU, oU, oU] [(.long w1)]))
  refine own_by (B := T3.setTop (mkF m 17 #[rv o0, rv o1, oJ w1, oS, oU, oU] [(.ref o1)])) (fun t k => ?_) ?_
  · show Steps p.tables e below (T3.setTop (mkF m 15 #[rv o0, rv o1, oU, oU, oU, oU] [(.long w1)])) _
    refine XS.lstoreN X3.here hx rfl (hb hby d21_15) rfl (l' := #[rv o0, rv o1, oJ w1, oS, oU, oU]) rfl ?_
    show Steps p.tables e below (T3.setTop (mkF m 16 #[rv o0, rv o1, oJ w1, oS, oU, oU] [])) _
    refine XS.aloadN X3.here hx rfl (hb hby d21_16) rfl rfl ?_
    show Steps p.tables e below (T3.setTop (mkF m 17 #[rv o0, rv o1, oJ w1, oS, oU, oU] [(.ref o1)])) _
    exact k
  refine own_c1 (getF X3 hx hZ hown (host := "") (Or.inl (hw _ (List.mem_of_getElem? (i := 39) rfl))) Via.refl e3 F_intCompact_o1 rfl rfl (hb hby d21_17)) fun T4 X4 e4 => ?_
  show own_Go p e below _ (T4.setTop (mkF m 20 #[rv o0, rv o1, oJ w1, oS, oU, oU] [(.long w1)]))
  refine own_by (B := T4.setTop (mkF m 62 #[rv o0, rv o1, oJ w1, oS, oJ w1, oS] [(.int (0 : Int32))])) (fun t k => ?_) ?_
  · show Steps p.tables e below (T4.setTop (mkF m 20 #[rv o0, rv o1, oJ w1, oS, oU, oU] [(.long w1)])) _
    refine XS.lstore X4.here hx rfl (hb hby d21_20) rfl (l' := #[rv o0, rv o1, oJ w1, oS, oJ w1, oS]) rfl ?_
    show Steps p.tables e below (T4.setTop (mkF m 22 #[rv o0, rv o1, oJ w1, oS, oJ w1, oS] [])) _
    refine XS.lloadN X4.here hx rfl (hb hby d21_22) rfl ?_
    show Steps p.tables e below (T4.setTop (mkF m 23 #[rv o0, rv o1, oJ w1, oS, oJ w1, oS] [(.long w1)])) _
    refine X4.ldc2Long hx hown (mvT hZ (hw _ (List.mem_of_getElem? (i := 41) rfl))) (g := (mkF m 23 #[rv o0, rv o1, oJ w1, oS, oJ w1, oS] [(.long w1)])) rfl (hb hby d21_23) _ ?_
    show Steps p.tables e below (T4.setTop (mkF m 26 #[rv o0, rv o1, oJ w1, oS, oJ w1, oS] [(.long (-9223372036854775808 : Int64)), (.long w1)])) _
    refine XS.lcmp X4.here hx rfl (hb hby d21_26) rfl ?_
    show Steps p.tables e below (T4.setTop (mkF m 27 #[rv o0, rv o1, oJ w1, oS, oJ w1, oS] [(.int (lcmpW w1 (-9223372036854775808 : Int64)))])) _
    refine XS.ifNo X4.here hx rfl (hb hby d21_27) rfl ((if0 _ _).trans (feq (fun q => hp0 ((lw_eq _ _).mp q))).1) ?_
    show Steps p.tables e below (T4.setTop (mkF m 30 #[rv o0, rv o1, oJ w1, oS, oJ w1, oS] [])) _
    refine XS.lload X4.here hx rfl (hb hby d21_30) rfl ?_
    show Steps p.tables e below (T4.setTop (mkF m 32 #[rv o0, rv o1, oJ w1, oS, oJ w1, oS] [(.long w1)])) _
    refine X4.ldc2Long hx hown (mvT hZ (hw _ (List.mem_of_getElem? (i := 41) rfl))) (g := (mkF m 32 #[rv o0, rv o1, oJ w1, oS, oJ w1, oS] [(.long w1)])) rfl (hb hby d21_32) _ ?_
    show Steps p.tables e below (T4.setTop (mkF m 35 #[rv o0, rv o1, oJ w1, oS, oJ w1, oS] [(.long (-9223372036854775808 : Int64)), (.long w1)])) _
    refine XS.lcmp X4.here hx rfl (hb hby d21_35) rfl ?_
    show Steps p.tables e below (T4.setTop (mkF m 36 #[rv o0, rv o1, oJ w1, oS, oJ w1, oS] [(.int (lcmpW w1 (-9223372036854775808 : Int64)))])) _
    refine XS.ifNo X4.here hx rfl (hb hby d21_36) rfl ((if0 _ _).trans (feq (fun q => hp0 ((lw_eq _ _).mp q))).1) ?_
    show Steps p.tables e below (T4.setTop (mkF m 39 #[rv o0, rv o1, oJ w1, oS, oJ w1, oS] [])) _
    refine XS.lloadN X4.here hx rfl (hb hby d21_39) rfl ?_
    show Steps p.tables e below (T4.setTop (mkF m 40 #[rv o0, rv o1, oJ w1, oS, oJ w1, oS] [(.long w1)])) _
    refine XS.lload X4.here hx rfl (hb hby d21_40) rfl ?_
    show Steps p.tables e below (T4.setTop (mkF m 42 #[rv o0, rv o1, oJ w1, oS, oJ w1, oS] [(.long w1), (.long w1)])) _
    refine XS.lcmp X4.here hx rfl (hb hby d21_42) rfl ?_
    show Steps p.tables e below (T4.setTop (mkF m 43 #[rv o0, rv o1, oJ w1, oS, oJ w1, oS] [(.int (lcmpW w1 w1))])) _
    refine XS.ifYes X4.here hx rfl (pc0 := 43) (pc' := 61) rfl (hb hby d21_43) rfl ((if0 _ _).trans (teq ((lw_eq _ _).mpr (rfl : w1 = w1))).1) (by decide) (by decide) ?_
    show Steps p.tables e below (T4.setTop (mkF m 61 #[rv o0, rv o1, oJ w1, oS, oJ w1, oS] [])) _
    refine XS.iconst X4.here hx rfl (hb hby d21_61) ?_
    show Steps p.tables e below (T4.setTop (mkF m 62 #[rv o0, rv o1, oJ w1, oS, oJ w1, oS] [(.int (0 : Int32))])) _
    exact k
  exact own_retI X4 Bd.notSynchronized hx Bd.returns (hb hby d21_62) (by
      rw [show T4.heap = h0 from e4]
      exact ⟨rfl, N0, rfl⟩) (by decide) (by decide)

theorem own_add0 (x : Int64) : fadd2 (0 : Int64) x = x := by
  have h : ((((0 : Int64) + x) ^^^ (0 : Int64)) &&& (((0 : Int64) + x) ^^^ x)) = 0 := by
    rw [Int64.zero_add, Int64.xor_self, Int64.and_zero]
  unfold fadd2
  rw [h, if_neg (by decide), Int64.zero_add]

theorem d1_0 : decode prog_48_method_1_code 0 = .ok (.aload_n 0, 1) := by decide +kernel
theorem d1_1 : decode prog_48_method_1_code 1 = .ok (.invokespecial 3, 3) := by decide +kernel
theorem d1_4 : decode prog_48_method_1_code 4 = .ok (.aload_n 0, 1) := by decide +kernel
theorem d1_5 : decode prog_48_method_1_code 5 = .ok (.getstatic 9, 3) := by decide +kernel
theorem d1_8 : decode prog_48_method_1_code 8 = .ok (.putfield 15, 3) := by decide +kernel
theorem d1_11 : decode prog_48_method_1_code 11 = .ok (.return_, 1) := by decide +kernel
theorem pn_1 : plainName "com/example/foray/foray/graph/Sum" = true := by first | (simp [plainName, overriddenIn]; done) | decide +kernel
theorem ef_1 (m : MethodId) (x0 : Addr) : entryFrame m #[(.ref x0)] 1 = mkF m 0 #[rv x0] [] := by first | (simp [entryFrame, mkF, argsToLocals, Value.category]; done) | rfl
def Q1 (Z : State) (o0 : Addr) (wz : Addr) (h0 : Heap) (n0 : Nat) (v : Option Value) (h : Heap) (L : List Loc) : Prop := v = none ∧ Fr n0 L ∧ Keep h0 h [o0] ∧ Exa Z h o0 "com/example/foray/foray/graph/Sum" ∧ Fld Z h o0 "com/example/foray/foray/graph/Sum" "whole" "J" (.long (0 : Int64)) ∧ Fld Z h o0 "com/example/foray/foray/graph/Sum" "rest" "Ljava/math/BigDecimal;" (.ref wz)
set_option maxRecDepth 65536 in
set_option maxHeartbeats 40000000 in
theorem rm1 (l : Launch) (Z : State) (a0 : Array Value) (hw : ∀ d ∈ tables_1, d.before a0 Z = true) (ws : List Jvm.Cond) (o0 : Addr) (wz : Addr) (h0 : Heap) (n0 : Nat) (Z0 : n0 ≤ h0.size) (E_o0 : Exa Z h0 o0 "com/example/foray/foray/graph/Sum") (F_whole_o0 : Fld Z h0 o0 "com/example/foray/foray/graph/Sum" "whole" "J" (.long (0 : Int64))) (F_rest_o0 : Fld Z h0 o0 "com/example/foray/foray/graph/Sum" "rest" "Ljava/math/BigDecimal;" .null) (g_o0 : n0 ≤ o0) (OZ : Old Z n0 h0) (S_ZERO : Sta Z Z.heap "java/math/BigDecimal" "ZERO" "Ljava/math/BigDecimal;" (.ref wz)) :
    MetFree l (⟨"com/example/foray/foray/graph/Sum", "<init>", "()V"⟩ : MethodName) (head1 (Jvm.Cond.code (⟨"com/example/foray/foray/graph/Sum", "<init>", "()V"⟩ : MethodName) prog_48_method_1_code 1 none :: ws) ({ frames := 1, cells := 0, slots := 0, locals := 12 } : Room)) (fun a U => a = #[(.ref o0)] ∧ Z.Warmed39 U.vm ∧ U.heap = h0) (fun _ _ _ _ _ => True) (fun _ U o U' => ∃ v L, o = .returned v ∧ Q1 Z o0 wz h0 n0 v U'.heap L ∧ FrameEnd U o U' L ({ frames := 1, cells := 0, slots := 0, locals := 12 } : Room).cells ({ frames := 1, cells := 0, slots := 0, locals := 12 } : Room).slots) := by
  refine MetFree.of_bodySF (plainFor_of_name pn_1) hisR ?_
  intro p e s m args below meth c s₁ Bd hml0 hP hK
  obtain ⟨rfl, hZ, hh⟩ := hP
  have hx := Bd.exec
  have hby := Bd.bytes
  have hml : c.maxLocals = 1 := hml0
  have hown : s.vm.findClass "com/example/foray/foray/graph/Sum" = some m.cls := findClass_of_methodNamed Bd.named
  have hnm := (name_of_methodNamed Bd.named Bd.method).1
  have X0 : Stand p l e ({ frames := 1, cells := 0, slots := 0, locals := 12 } : Room) s m #[(.ref o0)] below meth c s₁ [] 0 0 := Stand.of_body Bd
  have e0 : s₁.heap = h0 := by rw [← hh, Bd.state]; rfl
  have N0 := Fr.nil n0
  have K0 : Keep h0 h0 [o0] := Keep.refl h0 _
  change own_Go p e below (own_Post s (Q1 Z o0 wz h0 n0) ({ frames := 1, cells := 0, slots := 0, locals := 12 } : Room).cells ({ frames := 1, cells := 0, slots := 0, locals := 12 } : Room).slots) (s₁.setTop (entryFrame m #[(.ref o0)] 1))
  refine own_by (fun t k => castTop (ef_1 m o0) k) ?_
  show own_Go p e below _ (s₁.setTop (mkF m 0 #[rv o0] []))
  refine own_by (B := s₁.setTop (mkF m 1 #[rv o0] [(.ref o0)])) (fun t k => ?_) ?_
  · show Steps p.tables e below (s₁.setTop (mkF m 0 #[rv o0] [])) _
    refine XS.aloadN X0.here hx rfl (hb hby d1_0) rfl rfl ?_
    show Steps p.tables e below (s₁.setTop (mkF m 1 #[rv o0] [(.ref o0)])) _
    exact k
  refine own_c1 (initO X0 hx hZ hown (hw _ (List.mem_of_getElem? (i := 9) rfl)) (hw _ (List.mem_of_getElem? (i := 10) rfl)) (hw _ (List.mem_of_getElem? (i := 11) rfl)) e0 rfl (by rw [hml]; rfl) rfl (hb hby d1_1) (by decide) (W := 0) (by show 2 * 0 + _ ≤ _; exact Nat.le_of_eq rfl) (by decide)) fun T2 X2 e2 => ?_
  show own_Go p e below _ (T2.setTop (mkF m 4 #[rv o0] []))
  refine own_by (B := T2.setTop (mkF m 5 #[rv o0] [(.ref o0)])) (fun t k => ?_) ?_
  · show Steps p.tables e below (T2.setTop (mkF m 4 #[rv o0] [])) _
    refine XS.aloadN X2.here hx rfl (hb hby d1_4) rfl rfl ?_
    show Steps p.tables e below (T2.setTop (mkF m 5 #[rv o0] [(.ref o0)])) _
    exact k
  refine own_c1 (getS2 X2 hx hZ hown (host := "") (Or.inl (hw _ (List.mem_of_getElem? (i := 12) rfl))) Via.refl e2 (S_ZERO.ext OZ.2) rfl (hb hby d1_5)) fun T3 X3 e3 => ?_
  show own_Go p e below _ (T3.setTop (mkF m 8 #[rv o0] [(.ref wz), (.ref o0)]))
  refine own_c2 (putF X3 hx hZ hown (host := "") (Or.inl (hw _ (List.mem_of_getElem? (i := 14) rfl))) Via.refl e3 F_rest_o0 E_o0 (Or.inl (hw _ (List.mem_of_getElem? (i := 15) rfl))) (hw _ (List.mem_of_getElem? (i := 4) rfl)) (ty := (.object "java/math/BigDecimal")) (by decide) rfl rfl rfl rfl (hb hby d1_8)) fun T4 h4 X4 e4 W4 => ?_
  replace F_rest_o0 := F_rest_o0.same W4
  replace E_o0 := E_o0.wr W4
  replace F_whole_o0 := F_whole_o0.other W4 (Or.inr (sn12 hw))
  replace OZ := OZ.wr W4 g_o0
  replace K0 := K0.wr W4 (Or.inl (List.mem_of_getElem? (i := 0) rfl))
  replace Z0 := Nat.le_trans Z0 (Keep.of_wr W4).1
  replace N0 := Fr.snoc X4 N0 g_o0
  show own_Go p e below _ (T4.setTop (mkF m 11 #[rv o0] []))
  exact own_retV X4 Bd.notSynchronized hx Bd.returns (hb hby d1_11) (by
      rw [show T4.heap = h4 from e4]
      exact ⟨rfl, N0, K0, E_o0, F_whole_o0, F_rest_o0⟩) (by decide) (by decide)

theorem d4_0 : decode prog_48_method_11_code 0 = .ok (.aload_n 0, 1) := by decide +kernel
theorem d4_1 : decode prog_48_method_11_code 1 = .ok (.getfield 45, 3) := by decide +kernel
theorem d4_4 : decode prog_48_method_11_code 4 = .ok (.ldc2_w 55, 3) := by decide +kernel
theorem d4_7 : decode prog_48_method_11_code 7 = .ok (.lcmp, 1) := by decide +kernel
theorem d4_8 : decode prog_48_method_11_code 8 = .ok (.ifCond .ge 14, 3) := by decide +kernel
theorem d4_11 : decode prog_48_method_11_code 11 = .ok (.aload_n 0, 1) := by decide +kernel
theorem d4_12 : decode prog_48_method_11_code 12 = .ok (.getfield 45, 3) := by decide +kernel
theorem d4_15 : decode prog_48_method_11_code 15 = .ok (.ldc2_w 57, 3) := by decide +kernel
theorem d4_18 : decode prog_48_method_11_code 18 = .ok (.lcmp, 1) := by decide +kernel
theorem d4_19 : decode prog_48_method_11_code 19 = .ok (.ifCond .gt 26, 3) := by decide +kernel
theorem d4_45 : decode prog_48_method_11_code 45 = .ok (.return_, 1) := by decide +kernel
theorem pn_4 : plainName "com/example/foray/foray/graph/Sum" = true := by first | (simp [plainName, overriddenIn]; done) | decide +kernel
theorem ef_4 (m : MethodId) (x0 : Addr) : entryFrame m #[(.ref x0)] 1 = mkF m 0 #[rv x0] [] := by first | (simp [entryFrame, mkF, argsToLocals, Value.category]; done) | rfl
def Q4_a (Z : State) (o0 : Addr) (w1 : Int64) (h0 : Heap) (n0 : Nat) (v : Option Value) (h : Heap) (L : List Loc) : Prop := v = none ∧ Fr n0 L ∧ h = h0
set_option maxRecDepth 65536 in
set_option maxHeartbeats 40000000 in
theorem rm4_a (l : Launch) (Z : State) (a0 : Array Value) (hw : ∀ d ∈ tables_1, d.before a0 Z = true) (ws : List Jvm.Cond) (o0 : Addr) (w1 : Int64) (h0 : Heap) (n0 : Nat) (Z0 : n0 ≤ h0.size) (F_whole_o0 : Fld Z h0 o0 "com/example/foray/foray/graph/Sum" "whole" "J" (.long w1)) (hp0 : w1 < (4611686018427387904 : Int64)) (hp1 : (-4611686018427387904 : Int64) < w1) :
    MetFree l (⟨"com/example/foray/foray/graph/Sum", "makeRoom", "()V"⟩ : MethodName) (head1 (Jvm.Cond.code (⟨"com/example/foray/foray/graph/Sum", "makeRoom", "()V"⟩ : MethodName) prog_48_method_11_code 1 none :: ws) ({ frames := 0, cells := 0, slots := 0, locals := 0 } : Room)) (fun a U => a = #[(.ref o0)] ∧ Z.Warmed39 U.vm ∧ U.heap = h0) (fun _ _ _ _ _ => True) (fun _ U o U' => ∃ v L, o = .returned v ∧ Q4_a Z o0 w1 h0 n0 v U'.heap L ∧ FrameEnd U o U' L ({ frames := 0, cells := 0, slots := 0, locals := 0 } : Room).cells ({ frames := 0, cells := 0, slots := 0, locals := 0 } : Room).slots) := by
  refine MetFree.of_bodySF (plainFor_of_name pn_4) hisR ?_
  intro p e s m args below meth c s₁ Bd hml0 hP hK
  obtain ⟨rfl, hZ, hh⟩ := hP
  have hx := Bd.exec
  have hby := Bd.bytes
  have hml : c.maxLocals = 1 := hml0
  have hown : s.vm.findClass "com/example/foray/foray/graph/Sum" = some m.cls := findClass_of_methodNamed Bd.named
  have hnm := (name_of_methodNamed Bd.named Bd.method).1
  have X0 : Stand p l e ({ frames := 0, cells := 0, slots := 0, locals := 0 } : Room) s m #[(.ref o0)] below meth c s₁ [] 0 0 := Stand.of_body Bd
  have e0 : s₁.heap = h0 := by rw [← hh, Bd.state]; rfl
  have N0 := Fr.nil n0
  change own_Go p e below (own_Post s (Q4_a Z o0 w1 h0 n0) ({ frames := 0, cells := 0, slots := 0, locals := 0 } : Room).cells ({ frames := 0, cells := 0, slots := 0, locals := 0 } : Room).slots) (s₁.setTop (entryFrame m #[(.ref o0)] 1))
  refine own_by (fun t k => castTop (ef_4 m o0) k) ?_
  show own_Go p e below _ (s₁.setTop (mkF m 0 #[rv o0] []))
  refine own_by (B := s₁.setTop (mkF m 1 #[rv o0] [(.ref o0)])) (fun t k => ?_) ?_
  · show Steps p.tables e below (s₁.setTop (mkF m 0 #[rv o0] [])) _
    refine XS.aloadN X0.here hx rfl (hb hby d4_0) rfl rfl ?_
    show Steps p.tables e below (s₁.setTop (mkF m 1 #[rv o0] [(.ref o0)])) _
    exact k
  refine own_c1 (getF X0 hx hZ hown (host := "") (Or.inl (hw _ (List.mem_of_getElem? (i := 25) rfl))) Via.refl e0 F_whole_o0 rfl rfl (hb hby d4_1)) fun T1 X1 e1 => ?_
  show own_Go p e below _ (T1.setTop (mkF m 4 #[rv o0] [(.long w1)]))
  refine own_by (B := T1.setTop (mkF m 12 #[rv o0] [(.ref o0)])) (fun t k => ?_) ?_
  · show Steps p.tables e below (T1.setTop (mkF m 4 #[rv o0] [(.long w1)])) _
    refine X1.ldc2Long hx hown (mvT hZ (hw _ (List.mem_of_getElem? (i := 27) rfl))) (g := (mkF m 4 #[rv o0] [(.long w1)])) rfl (hb hby d4_4) _ ?_
    show Steps p.tables e below (T1.setTop (mkF m 7 #[rv o0] [(.long (4611686018427387904 : Int64)), (.long w1)])) _
    refine XS.lcmp X1.here hx rfl (hb hby d4_7) rfl ?_
    show Steps p.tables e below (T1.setTop (mkF m 8 #[rv o0] [(.int (lcmpW w1 (4611686018427387904 : Int64)))])) _
    refine XS.ifNo X1.here hx rfl (hb hby d4_8) rfl ((if0 _ _).trans (tlt ((lw_lt _ _).mpr hp0)).2.1) ?_
    show Steps p.tables e below (T1.setTop (mkF m 11 #[rv o0] [])) _
    refine XS.aloadN X1.here hx rfl (hb hby d4_11) rfl rfl ?_
    show Steps p.tables e below (T1.setTop (mkF m 12 #[rv o0] [(.ref o0)])) _
    exact k
  refine own_c1 (getF X1 hx hZ hown (host := "") (Or.inl (hw _ (List.mem_of_getElem? (i := 25) rfl))) Via.refl e1 F_whole_o0 rfl rfl (hb hby d4_12)) fun T2 X2 e2 => ?_
  show own_Go p e below _ (T2.setTop (mkF m 15 #[rv o0] [(.long w1)]))
  refine own_by (B := T2.setTop (mkF m 45 #[rv o0] [])) (fun t k => ?_) ?_
  · show Steps p.tables e below (T2.setTop (mkF m 15 #[rv o0] [(.long w1)])) _
    refine X2.ldc2Long hx hown (mvT hZ (hw _ (List.mem_of_getElem? (i := 28) rfl))) (g := (mkF m 15 #[rv o0] [(.long w1)])) rfl (hb hby d4_15) _ ?_
    show Steps p.tables e below (T2.setTop (mkF m 18 #[rv o0] [(.long (-4611686018427387904 : Int64)), (.long w1)])) _
    refine XS.lcmp X2.here hx rfl (hb hby d4_18) rfl ?_
    show Steps p.tables e below (T2.setTop (mkF m 19 #[rv o0] [(.int (lcmpW w1 (-4611686018427387904 : Int64)))])) _
    refine XS.ifYes X2.here hx rfl (pc0 := 19) (pc' := 45) rfl (hb hby d4_19) rfl ((if0 _ _).trans (tlt ((lw_gt _ _).mpr hp1)).2.2.1) (by decide) (by decide) ?_
    show Steps p.tables e below (T2.setTop (mkF m 45 #[rv o0] [])) _
    exact k
  exact own_retV X2 Bd.notSynchronized hx Bd.returns (hb hby d4_45) (by
      rw [show T2.heap = h0 from e2]
      exact ⟨rfl, N0, rfl⟩) (by decide) (by decide)

theorem d4_22 : decode prog_48_method_11_code 22 = .ok (.aload_n 0, 1) := by decide +kernel
theorem d4_23 : decode prog_48_method_11_code 23 = .ok (.aload_n 0, 1) := by decide +kernel
theorem d4_24 : decode prog_48_method_11_code 24 = .ok (.getfield 15, 3) := by decide +kernel
theorem d4_27 : decode prog_48_method_11_code 27 = .ok (.aload_n 0, 1) := by decide +kernel
theorem d4_28 : decode prog_48_method_11_code 28 = .ok (.getfield 45, 3) := by decide +kernel
theorem d4_31 : decode prog_48_method_11_code 31 = .ok (.invokestatic 59, 3) := by decide +kernel
theorem d4_34 : decode prog_48_method_11_code 34 = .ok (.invokevirtual 34, 3) := by decide +kernel
theorem d4_37 : decode prog_48_method_11_code 37 = .ok (.putfield 15, 3) := by decide +kernel
theorem d4_40 : decode prog_48_method_11_code 40 = .ok (.aload_n 0, 1) := by decide +kernel
theorem d4_41 : decode prog_48_method_11_code 41 = .ok (.lconst 0, 1) := by decide +kernel
theorem d4_42 : decode prog_48_method_11_code 42 = .ok (.putfield 45, 3) := by decide +kernel
theorem pd_7 : parseMethodDescriptor "(Ljava/math/BigDecimal;)Ljava/math/BigDecimal;" = some ⟨[(.object "java/math/BigDecimal")], some (.object "java/math/BigDecimal")⟩ := by decide +kernel
def Q4_b (Z : State) (o0 : Addr) (w1 : Int64) (ro : Addr) (h0 : Heap) (n0 : Nat) (v : Option Value) (h : Heap) (L : List Loc) : Prop := ∃ r : Addr, v = none ∧ Fr n0 L ∧ Keep h0 h [o0] ∧ Exa Z h o0 "com/example/foray/foray/graph/Sum" ∧ Fld Z h o0 "com/example/foray/foray/graph/Sum" "whole" "J" (.long (0 : Int64)) ∧ Fld Z h o0 "com/example/foray/foray/graph/Sum" "rest" "Ljava/math/BigDecimal;" (.ref r) ∧ Exa Z h r "java/math/BigDecimal" ∧ Fld Z h r "java/math/BigDecimal" "intCompact" "J" (.long w1) ∧ Fld Z h r "java/math/BigDecimal" "scale" "I" (.int (0 : Int32))
set_option maxRecDepth 65536 in
set_option maxHeartbeats 40000000 in
theorem rm4_b (l : Launch) (Z : State) (a0 : Array Value) (hw : ∀ d ∈ tables_1, d.before a0 Z = true) (ws : List Jvm.Cond) (o0 : Addr) (w1 : Int64) (ro : Addr) (h0 : Heap) (n0 : Nat) (Z0 : n0 ≤ h0.size) (E_o0 : Exa Z h0 o0 "com/example/foray/foray/graph/Sum") (F_whole_o0 : Fld Z h0 o0 "com/example/foray/foray/graph/Sum" "whole" "J" (.long w1)) (F_rest_o0 : Fld Z h0 o0 "com/example/foray/foray/graph/Sum" "rest" "Ljava/math/BigDecimal;" (.ref ro)) (E_ro : Exa Z h0 ro "java/math/BigDecimal") (F_intCompact_ro : Fld Z h0 ro "java/math/BigDecimal" "intCompact" "J" (.long (0 : Int64))) (F_scale_ro : Fld Z h0 ro "java/math/BigDecimal" "scale" "I" (.int (0 : Int32))) (g_o0 : n0 ≤ o0) (OZ : Old Z n0 h0) (hBD : own_BD Z) (hbig : ¬ (w1 < (4611686018427387904 : Int64)) ∨ ¬ ((-4611686018427387904 : Int64) < w1)) (hp0 : ¬ (w1 = (-9223372036854775808 : Int64))) :
    MetFree l (⟨"com/example/foray/foray/graph/Sum", "makeRoom", "()V"⟩ : MethodName) (head1 (Jvm.Cond.code (⟨"com/example/foray/foray/graph/Sum", "makeRoom", "()V"⟩ : MethodName) prog_48_method_11_code 1 none :: ws) ({ frames := 8, cells := 2, slots := 10, locals := 124 } : Room)) (fun a U => a = #[(.ref o0)] ∧ Z.Warmed39 U.vm ∧ U.heap = h0) (fun _ _ _ _ _ => True) (fun _ U o U' => ∃ v L, o = .returned v ∧ Q4_b Z o0 w1 ro h0 n0 v U'.heap L ∧ FrameEnd U o U' L ({ frames := 8, cells := 2, slots := 10, locals := 124 } : Room).cells ({ frames := 8, cells := 2, slots := 10, locals := 124 } : Room).slots) := by
  refine MetFree.of_bodySF (plainFor_of_name pn_4) hisR ?_
  intro p e s m args below meth c s₁ Bd hml0 hP hK
  obtain ⟨rfl, hZ, hh⟩ := hP
  have hx := Bd.exec
  have hby := Bd.bytes
  have hml : c.maxLocals = 1 := hml0
  have hown : s.vm.findClass "com/example/foray/foray/graph/Sum" = some m.cls := findClass_of_methodNamed Bd.named
  have hnm := (name_of_methodNamed Bd.named Bd.method).1
  have X0 : Stand p l e ({ frames := 8, cells := 2, slots := 10, locals := 124 } : Room) s m #[(.ref o0)] below meth c s₁ [] 0 0 := Stand.of_body Bd
  have e0 : s₁.heap = h0 := by rw [← hh, Bd.state]; rfl
  have N0 := Fr.nil n0
  have K0 : Keep h0 h0 [o0] := Keep.refl h0 _
  change own_Go p e below (own_Post s (Q4_b Z o0 w1 ro h0 n0) ({ frames := 8, cells := 2, slots := 10, locals := 124 } : Room).cells ({ frames := 8, cells := 2, slots := 10, locals := 124 } : Room).slots) (s₁.setTop (entryFrame m #[(.ref o0)] 1))
  refine own_by (fun t k => castTop (ef_4 m o0) k) ?_
  show own_Go p e below _ (s₁.setTop (mkF m 0 #[rv o0] []))
  refine own_by (B := s₁.setTop (mkF m 1 #[rv o0] [(.ref o0)])) (fun t k => ?_) ?_
  · show Steps p.tables e below (s₁.setTop (mkF m 0 #[rv o0] [])) _
    refine XS.aloadN X0.here hx rfl (hb hby d4_0) rfl rfl ?_
    show Steps p.tables e below (s₁.setTop (mkF m 1 #[rv o0] [(.ref o0)])) _
    exact k
  refine own_c1 (getF X0 hx hZ hown (host := "") (Or.inl (hw _ (List.mem_of_getElem? (i := 25) rfl))) Via.refl e0 F_whole_o0 rfl rfl (hb hby d4_1)) fun T1 X1 e1 => ?_
  show own_Go p e below _ (T1.setTop (mkF m 4 #[rv o0] [(.long w1)]))
  refine own_by (B := T1.setTop (mkF m 8 #[rv o0] [(.int (lcmpW w1 (4611686018427387904 : Int64)))])) (fun t k => ?_) ?_
  · show Steps p.tables e below (T1.setTop (mkF m 4 #[rv o0] [(.long w1)])) _
    refine X1.ldc2Long hx hown (mvT hZ (hw _ (List.mem_of_getElem? (i := 27) rfl))) (g := (mkF m 4 #[rv o0] [(.long w1)])) rfl (hb hby d4_4) _ ?_
    show Steps p.tables e below (T1.setTop (mkF m 7 #[rv o0] [(.long (4611686018427387904 : Int64)), (.long w1)])) _
    refine XS.lcmp X1.here hx rfl (hb hby d4_7) rfl ?_
    show Steps p.tables e below (T1.setTop (mkF m 8 #[rv o0] [(.int (lcmpW w1 (4611686018427387904 : Int64)))])) _
    exact k
  by_cases hc3 : w1 < (4611686018427387904 : Int64)
  · skip
    refine own_by (fun t k => XS.ifNo X1.here hx rfl (hb hby d4_8) rfl ((if0 _ _).trans (tlt ((lw_lt _ _).mpr hc3)).2.1) k) ?_
    show own_Go p e below _ (T1.setTop (mkF m 11 #[rv o0] []))
    refine own_by (B := T1.setTop (mkF m 12 #[rv o0] [(.ref o0)])) (fun t k => ?_) ?_
    · show Steps p.tables e below (T1.setTop (mkF m 11 #[rv o0] [])) _
      refine XS.aloadN X1.here hx rfl (hb hby d4_11) rfl rfl ?_
      show Steps p.tables e below (T1.setTop (mkF m 12 #[rv o0] [(.ref o0)])) _
      exact k
    refine own_c1 (getF X1 hx hZ hown (host := "") (Or.inl (hw _ (List.mem_of_getElem? (i := 25) rfl))) Via.refl e1 F_whole_o0 rfl rfl (hb hby d4_12)) fun T4 X4 e4 => ?_
    show own_Go p e below _ (T4.setTop (mkF m 15 #[rv o0] [(.long w1)]))
    refine own_by (B := T4.setTop (mkF m 24 #[rv o0] [(.ref o0), (.ref o0)])) (fun t k => ?_) ?_
    · show Steps p.tables e below (T4.setTop (mkF m 15 #[rv o0] [(.long w1)])) _
      refine X4.ldc2Long hx hown (mvT hZ (hw _ (List.mem_of_getElem? (i := 28) rfl))) (g := (mkF m 15 #[rv o0] [(.long w1)])) rfl (hb hby d4_15) _ ?_
      show Steps p.tables e below (T4.setTop (mkF m 18 #[rv o0] [(.long (-4611686018427387904 : Int64)), (.long w1)])) _
      refine XS.lcmp X4.here hx rfl (hb hby d4_18) rfl ?_
      show Steps p.tables e below (T4.setTop (mkF m 19 #[rv o0] [(.int (lcmpW w1 (-4611686018427387904 : Int64)))])) _
      refine XS.ifNo X4.here hx rfl (hb hby d4_19) rfl ((if0 _ _).trans (flt (fun q => (hbig.resolve_left (not_not_intro hc3)) ((lw_gt _ _).mp q))).2.2.1) ?_
      show Steps p.tables e below (T4.setTop (mkF m 22 #[rv o0] [])) _
      refine XS.aloadN X4.here hx rfl (hb hby d4_22) rfl rfl ?_
      show Steps p.tables e below (T4.setTop (mkF m 23 #[rv o0] [(.ref o0)])) _
      refine XS.aloadN X4.here hx rfl (hb hby d4_23) rfl rfl ?_
      show Steps p.tables e below (T4.setTop (mkF m 24 #[rv o0] [(.ref o0), (.ref o0)])) _
      exact k
    refine own_c1 (getF X4 hx hZ hown (host := "") (Or.inl (hw _ (List.mem_of_getElem? (i := 14) rfl))) Via.refl e4 F_rest_o0 rfl rfl (hb hby d4_24)) fun T5 X5 e5 => ?_
    show own_Go p e below _ (T5.setTop (mkF m 27 #[rv o0] [(.ref ro), (.ref o0)]))
    refine own_by (B := T5.setTop (mkF m 28 #[rv o0] [(.ref o0), (.ref ro), (.ref o0)])) (fun t k => ?_) ?_
    · show Steps p.tables e below (T5.setTop (mkF m 27 #[rv o0] [(.ref ro), (.ref o0)])) _
      refine XS.aloadN X5.here hx rfl (hb hby d4_27) rfl rfl ?_
      show Steps p.tables e below (T5.setTop (mkF m 28 #[rv o0] [(.ref o0), (.ref ro), (.ref o0)])) _
      exact k
    refine own_c1 (getF X5 hx hZ hown (host := "") (Or.inl (hw _ (List.mem_of_getElem? (i := 25) rfl))) Via.refl e5 F_whole_o0 rfl rfl (hb hby d4_28)) fun T6 X6 e6 => ?_
    show own_Go p e below _ (T6.setTop (mkF m 31 #[rv o0] [(.long w1), (.ref ro), (.ref o0)]))
    refine own_cc (own_callS X6 hx hZ (y := (⟨"java/math/BigDecimal", "valueOf", "(J)Ljava/math/BigDecimal;"⟩ : MethodName)) hown (hw _ (List.mem_of_getElem? (i := 53) rfl)) (hw _ (List.mem_of_getElem? (i := 54) rfl)) (hw _ (List.mem_of_getElem? (i := 13) rfl)) (hw _ (List.mem_of_getElem? (i := 55) rfl)) (by decide) (rm9 l Z a0 hw [] w1 h0 n0 Z0 OZ hBD hp0) e6 2 (by decide) (by decide) (by decide) (by decide) rfl (by rw [hml]; rfl) [(.long w1)] [(.ref ro), (.ref o0)] rfl (lenOf pd_5 rfl) rfl (by show 2 * 0 + _ ≤ _; exact Nat.le_of_eq rfl) (hb hby d4_31)) fun T8 L8 v8 X8 hQ8 => ?_
    obtain ⟨r_8, rfl, N8, K8, E_r_8', F_intCompact_r_8', F_scale_r_8'⟩ := hQ8
    replace N0 := Fr.app N0 N8
    replace E_o0 := E_o0.keep K8
    replace F_whole_o0 := F_whole_o0.keep K8 nin0
    replace F_rest_o0 := F_rest_o0.keep K8 nin0
    replace E_ro := E_ro.keep K8
    replace F_intCompact_ro := F_intCompact_ro.keep K8 nin0
    replace F_scale_ro := F_scale_ro.keep K8 nin0
    replace OZ := OZ.keep K8 all0
    replace K0 := K0.trans K8 all0
    replace Z0 := Nat.le_trans Z0 K8.1
    have E_r_8 := E_r_8'
    have F_intCompact_r_8 := F_intCompact_r_8'
    have F_scale_r_8 := F_scale_r_8'
    show own_Go p e below _ (T8.setTop (mkF m 34 #[rv o0] [(.ref r_8), (.ref ro), (.ref o0)]))
    refine own_cc (own_callV X8 hx hZ (y := (⟨"java/math/BigDecimal", "add", "(Ljava/math/BigDecimal;)Ljava/math/BigDecimal;"⟩ : MethodName)) (z := (⟨"java/math/BigDecimal", "add", "(Ljava/math/BigDecimal;)Ljava/math/BigDecimal;"⟩ : MethodName)) hown (hw _ (List.mem_of_getElem? (i := 74) rfl)) (hw _ (List.mem_of_getElem? (i := 75) rfl)) (notFace_of_selects (args := #[]) (mvT hZ (hw _ (List.mem_of_getElem? (i := 77) rfl)))) (hw _ (List.mem_of_getElem? (i := 77) rfl)) (hw _ (List.mem_of_getElem? (i := 76) rfl)) (hw _ (List.mem_of_getElem? (i := 13) rfl)) (hw _ (List.mem_of_getElem? (i := 78) rfl)) (by decide) (rm12 l Z a0 hw [] ro r_8 (0 : Int64) w1 T8.heap n0 Z0 OZ hBD F_intCompact_ro F_scale_ro F_intCompact_r_8 F_scale_r_8 (by decide) hp0 (by rw [own_add0]; exact hp0)) (rfl : T8.heap = _) 1 (by decide) (by decide) (by decide) (by decide) rfl (by rw [hml]; rfl) ro E_ro [(.ref r_8)] [(.ref o0)] rfl (lenOf pd_7 rfl) rfl (by show 2 * 0 + _ ≤ _; exact Nat.le_of_eq rfl) (hb hby d4_34)) fun T10 L10 v10 X10 hQ10 => ?_
    obtain ⟨r_10, rfl, N10, K10, E_r_10', F_intCompact_r_10', F_scale_r_10'⟩ := hQ10
    replace N0 := Fr.app N0 N10
    replace E_o0 := E_o0.keep K10
    replace F_whole_o0 := F_whole_o0.keep K10 nin0
    replace F_rest_o0 := F_rest_o0.keep K10 nin0
    replace E_ro := E_ro.keep K10
    replace F_intCompact_ro := F_intCompact_ro.keep K10 nin0
    replace F_scale_ro := F_scale_ro.keep K10 nin0
    replace E_r_8 := E_r_8.keep K10
    replace F_intCompact_r_8 := F_intCompact_r_8.keep K10 nin0
    replace F_scale_r_8 := F_scale_r_8.keep K10 nin0
    replace OZ := OZ.keep K10 all0
    replace K0 := K0.trans K10 all0
    replace Z0 := Nat.le_trans Z0 K10.1
    have E_r_10 := E_r_10'
    have F_intCompact_r_10 := F_intCompact_r_10'
    have F_scale_r_10 := F_scale_r_10'
    rw [own_add0] at F_intCompact_r_10
    show own_Go p e below _ (T10.setTop (mkF m 37 #[rv o0] [(.ref r_10), (.ref o0)]))
    refine own_c2 (putF X10 hx hZ hown (host := "") (Or.inl (hw _ (List.mem_of_getElem? (i := 14) rfl))) Via.refl rfl F_rest_o0 E_o0 (Or.inl (hw _ (List.mem_of_getElem? (i := 15) rfl))) (hw _ (List.mem_of_getElem? (i := 4) rfl)) (ty := (.object "java/math/BigDecimal")) (by decide) rfl rfl rfl rfl (hb hby d4_37)) fun T11 h11 X11 e11 W11 => ?_
    replace F_rest_o0 := F_rest_o0.same W11
    have nx1 : ro ≠ o0 := (ne_exa E_ro E_o0 (by decide))
    have nx2 : r_8 ≠ o0 := (ne_exa E_r_8 E_o0 (by decide))
    have nx3 : r_10 ≠ o0 := (ne_exa E_r_10 E_o0 (by decide))
    replace E_o0 := E_o0.wr W11
    replace F_whole_o0 := F_whole_o0.other W11 (Or.inr (sn12 hw))
    replace E_ro := E_ro.wr W11
    replace F_intCompact_ro := F_intCompact_ro.other W11 (Or.inl nx1)
    replace F_scale_ro := F_scale_ro.other W11 (Or.inl nx1)
    replace E_r_8 := E_r_8.wr W11
    replace F_intCompact_r_8 := F_intCompact_r_8.other W11 (Or.inl nx2)
    replace F_scale_r_8 := F_scale_r_8.other W11 (Or.inl nx2)
    replace E_r_10 := E_r_10.wr W11
    replace F_intCompact_r_10 := F_intCompact_r_10.other W11 (Or.inl nx3)
    replace F_scale_r_10 := F_scale_r_10.other W11 (Or.inl nx3)
    replace OZ := OZ.wr W11 g_o0
    replace K0 := K0.wr W11 (Or.inl (List.mem_of_getElem? (i := 0) rfl))
    replace Z0 := Nat.le_trans Z0 (Keep.of_wr W11).1
    replace N0 := Fr.snoc X11 N0 g_o0
    show own_Go p e below _ (T11.setTop (mkF m 40 #[rv o0] []))
    refine own_by (B := T11.setTop (mkF m 42 #[rv o0] [(.long (0 : Int64)), (.ref o0)])) (fun t k => ?_) ?_
    · show Steps p.tables e below (T11.setTop (mkF m 40 #[rv o0] [])) _
      refine XS.aloadN X11.here hx rfl (hb hby d4_40) rfl rfl ?_
      show Steps p.tables e below (T11.setTop (mkF m 41 #[rv o0] [(.ref o0)])) _
      refine XS.lconst X11.here hx rfl (hb hby d4_41) ?_
      show Steps p.tables e below (T11.setTop (mkF m 42 #[rv o0] [(.long (0 : Int64)), (.ref o0)])) _
      exact k
    refine own_c2 (putF X11 hx hZ hown (host := "") (Or.inl (hw _ (List.mem_of_getElem? (i := 25) rfl))) Via.refl e11 F_whole_o0 E_o0 (Or.inl (hw _ (List.mem_of_getElem? (i := 26) rfl))) (hw _ (List.mem_of_getElem? (i := 4) rfl)) (ty := .long) (by decide) rfl rfl rfl rfl (hb hby d4_42)) fun T12 h12 X12 e12 W12 => ?_
    replace F_whole_o0 := F_whole_o0.same W12
    replace E_o0 := E_o0.wr W12
    replace F_rest_o0 := F_rest_o0.other W12 (Or.inr (sn13 hw))
    replace E_ro := E_ro.wr W12
    replace F_intCompact_ro := F_intCompact_ro.other W12 (Or.inl nx1)
    replace F_scale_ro := F_scale_ro.other W12 (Or.inl nx1)
    replace E_r_8 := E_r_8.wr W12
    replace F_intCompact_r_8 := F_intCompact_r_8.other W12 (Or.inl nx2)
    replace F_scale_r_8 := F_scale_r_8.other W12 (Or.inl nx2)
    replace E_r_10 := E_r_10.wr W12
    replace F_intCompact_r_10 := F_intCompact_r_10.other W12 (Or.inl nx3)
    replace F_scale_r_10 := F_scale_r_10.other W12 (Or.inl nx3)
    replace OZ := OZ.wr W12 g_o0
    replace K0 := K0.wr W12 (Or.inl (List.mem_of_getElem? (i := 0) rfl))
    replace Z0 := Nat.le_trans Z0 (Keep.of_wr W12).1
    replace N0 := Fr.snoc X12 N0 g_o0
    show own_Go p e below _ (T12.setTop (mkF m 45 #[rv o0] []))
    exact own_retV X12 Bd.notSynchronized hx Bd.returns (hb hby d4_45) (by
        rw [show T12.heap = h12 from e12]
        exact ⟨r_10, rfl, N0, K0, E_o0, F_whole_o0, F_rest_o0, E_r_10, F_intCompact_r_10, F_scale_r_10⟩) (by decide) (by decide)
  · skip
    refine own_by (fun t k => XS.ifYes X1.here hx rfl (pc0 := 8) (pc' := 22) rfl (hb hby d4_8) rfl ((if0 _ _).trans (flt (fun q => hc3 ((lw_lt _ _).mp q))).2.1) (by decide) (by decide) k) ?_
    show own_Go p e below _ (T1.setTop (mkF m 22 #[rv o0] []))
    refine own_by (B := T1.setTop (mkF m 24 #[rv o0] [(.ref o0), (.ref o0)])) (fun t k => ?_) ?_
    · show Steps p.tables e below (T1.setTop (mkF m 22 #[rv o0] [])) _
      refine XS.aloadN X1.here hx rfl (hb hby d4_22) rfl rfl ?_
      show Steps p.tables e below (T1.setTop (mkF m 23 #[rv o0] [(.ref o0)])) _
      refine XS.aloadN X1.here hx rfl (hb hby d4_23) rfl rfl ?_
      show Steps p.tables e below (T1.setTop (mkF m 24 #[rv o0] [(.ref o0), (.ref o0)])) _
      exact k
    refine own_c1 (getF X1 hx hZ hown (host := "") (Or.inl (hw _ (List.mem_of_getElem? (i := 14) rfl))) Via.refl e1 F_rest_o0 rfl rfl (hb hby d4_24)) fun T13 X13 e13 => ?_
    show own_Go p e below _ (T13.setTop (mkF m 27 #[rv o0] [(.ref ro), (.ref o0)]))
    refine own_by (B := T13.setTop (mkF m 28 #[rv o0] [(.ref o0), (.ref ro), (.ref o0)])) (fun t k => ?_) ?_
    · show Steps p.tables e below (T13.setTop (mkF m 27 #[rv o0] [(.ref ro), (.ref o0)])) _
      refine XS.aloadN X13.here hx rfl (hb hby d4_27) rfl rfl ?_
      show Steps p.tables e below (T13.setTop (mkF m 28 #[rv o0] [(.ref o0), (.ref ro), (.ref o0)])) _
      exact k
    refine own_c1 (getF X13 hx hZ hown (host := "") (Or.inl (hw _ (List.mem_of_getElem? (i := 25) rfl))) Via.refl e13 F_whole_o0 rfl rfl (hb hby d4_28)) fun T14 X14 e14 => ?_
    show own_Go p e below _ (T14.setTop (mkF m 31 #[rv o0] [(.long w1), (.ref ro), (.ref o0)]))
    refine own_cc (own_callS X14 hx hZ (y := (⟨"java/math/BigDecimal", "valueOf", "(J)Ljava/math/BigDecimal;"⟩ : MethodName)) hown (hw _ (List.mem_of_getElem? (i := 53) rfl)) (hw _ (List.mem_of_getElem? (i := 54) rfl)) (hw _ (List.mem_of_getElem? (i := 13) rfl)) (hw _ (List.mem_of_getElem? (i := 55) rfl)) (by decide) (rm9 l Z a0 hw [] w1 h0 n0 Z0 OZ hBD hp0) e14 2 (by decide) (by decide) (by decide) (by decide) rfl (by rw [hml]; rfl) [(.long w1)] [(.ref ro), (.ref o0)] rfl (lenOf pd_5 rfl) rfl (by show 2 * 0 + _ ≤ _; exact Nat.le_of_eq rfl) (hb hby d4_31)) fun T16 L16 v16 X16 hQ16 => ?_
    obtain ⟨r_16, rfl, N16, K16, E_r_16', F_intCompact_r_16', F_scale_r_16'⟩ := hQ16
    replace N0 := Fr.app N0 N16
    replace E_o0 := E_o0.keep K16
    replace F_whole_o0 := F_whole_o0.keep K16 nin0
    replace F_rest_o0 := F_rest_o0.keep K16 nin0
    replace E_ro := E_ro.keep K16
    replace F_intCompact_ro := F_intCompact_ro.keep K16 nin0
    replace F_scale_ro := F_scale_ro.keep K16 nin0
    replace OZ := OZ.keep K16 all0
    replace K0 := K0.trans K16 all0
    replace Z0 := Nat.le_trans Z0 K16.1
    have E_r_16 := E_r_16'
    have F_intCompact_r_16 := F_intCompact_r_16'
    have F_scale_r_16 := F_scale_r_16'
    show own_Go p e below _ (T16.setTop (mkF m 34 #[rv o0] [(.ref r_16), (.ref ro), (.ref o0)]))
    refine own_cc (own_callV X16 hx hZ (y := (⟨"java/math/BigDecimal", "add", "(Ljava/math/BigDecimal;)Ljava/math/BigDecimal;"⟩ : MethodName)) (z := (⟨"java/math/BigDecimal", "add", "(Ljava/math/BigDecimal;)Ljava/math/BigDecimal;"⟩ : MethodName)) hown (hw _ (List.mem_of_getElem? (i := 74) rfl)) (hw _ (List.mem_of_getElem? (i := 75) rfl)) (notFace_of_selects (args := #[]) (mvT hZ (hw _ (List.mem_of_getElem? (i := 77) rfl)))) (hw _ (List.mem_of_getElem? (i := 77) rfl)) (hw _ (List.mem_of_getElem? (i := 76) rfl)) (hw _ (List.mem_of_getElem? (i := 13) rfl)) (hw _ (List.mem_of_getElem? (i := 78) rfl)) (by decide) (rm12 l Z a0 hw [] ro r_16 (0 : Int64) w1 T16.heap n0 Z0 OZ hBD F_intCompact_ro F_scale_ro F_intCompact_r_16 F_scale_r_16 (by decide) hp0 (by rw [own_add0]; exact hp0)) (rfl : T16.heap = _) 1 (by decide) (by decide) (by decide) (by decide) rfl (by rw [hml]; rfl) ro E_ro [(.ref r_16)] [(.ref o0)] rfl (lenOf pd_7 rfl) rfl (by show 2 * 0 + _ ≤ _; exact Nat.le_of_eq rfl) (hb hby d4_34)) fun T18 L18 v18 X18 hQ18 => ?_
    obtain ⟨r_18, rfl, N18, K18, E_r_18', F_intCompact_r_18', F_scale_r_18'⟩ := hQ18
    replace N0 := Fr.app N0 N18
    replace E_o0 := E_o0.keep K18
    replace F_whole_o0 := F_whole_o0.keep K18 nin0
    replace F_rest_o0 := F_rest_o0.keep K18 nin0
    replace E_ro := E_ro.keep K18
    replace F_intCompact_ro := F_intCompact_ro.keep K18 nin0
    replace F_scale_ro := F_scale_ro.keep K18 nin0
    replace E_r_16 := E_r_16.keep K18
    replace F_intCompact_r_16 := F_intCompact_r_16.keep K18 nin0
    replace F_scale_r_16 := F_scale_r_16.keep K18 nin0
    replace OZ := OZ.keep K18 all0
    replace K0 := K0.trans K18 all0
    replace Z0 := Nat.le_trans Z0 K18.1
    have E_r_18 := E_r_18'
    have F_intCompact_r_18 := F_intCompact_r_18'
    have F_scale_r_18 := F_scale_r_18'
    rw [own_add0] at F_intCompact_r_18
    show own_Go p e below _ (T18.setTop (mkF m 37 #[rv o0] [(.ref r_18), (.ref o0)]))
    refine own_c2 (putF X18 hx hZ hown (host := "") (Or.inl (hw _ (List.mem_of_getElem? (i := 14) rfl))) Via.refl rfl F_rest_o0 E_o0 (Or.inl (hw _ (List.mem_of_getElem? (i := 15) rfl))) (hw _ (List.mem_of_getElem? (i := 4) rfl)) (ty := (.object "java/math/BigDecimal")) (by decide) rfl rfl rfl rfl (hb hby d4_37)) fun T19 h19 X19 e19 W19 => ?_
    replace F_rest_o0 := F_rest_o0.same W19
    have nx4 : ro ≠ o0 := (ne_exa E_ro E_o0 (by decide))
    have nx5 : r_16 ≠ o0 := (ne_exa E_r_16 E_o0 (by decide))
    have nx6 : r_18 ≠ o0 := (ne_exa E_r_18 E_o0 (by decide))
    replace E_o0 := E_o0.wr W19
    replace F_whole_o0 := F_whole_o0.other W19 (Or.inr (sn12 hw))
    replace E_ro := E_ro.wr W19
    replace F_intCompact_ro := F_intCompact_ro.other W19 (Or.inl nx4)
    replace F_scale_ro := F_scale_ro.other W19 (Or.inl nx4)
    replace E_r_16 := E_r_16.wr W19
    replace F_intCompact_r_16 := F_intCompact_r_16.other W19 (Or.inl nx5)
    replace F_scale_r_16 := F_scale_r_16.other W19 (Or.inl nx5)
    replace E_r_18 := E_r_18.wr W19
    replace F_intCompact_r_18 := F_intCompact_r_18.other W19 (Or.inl nx6)
    replace F_scale_r_18 := F_scale_r_18.other W19 (Or.inl nx6)
    replace OZ := OZ.wr W19 g_o0
    replace K0 := K0.wr W19 (Or.inl (List.mem_of_getElem? (i := 0) rfl))
    replace Z0 := Nat.le_trans Z0 (Keep.of_wr W19).1
    replace N0 := Fr.snoc X19 N0 g_o0
    show own_Go p e below _ (T19.setTop (mkF m 40 #[rv o0] []))
    refine own_by (B := T19.setTop (mkF m 42 #[rv o0] [(.long (0 : Int64)), (.ref o0)])) (fun t k => ?_) ?_
    · show Steps p.tables e below (T19.setTop (mkF m 40 #[rv o0] [])) _
      refine XS.aloadN X19.here hx rfl (hb hby d4_40) rfl rfl ?_
      show Steps p.tables e below (T19.setTop (mkF m 41 #[rv o0] [(.ref o0)])) _
      refine XS.lconst X19.here hx rfl (hb hby d4_41) ?_
      show Steps p.tables e below (T19.setTop (mkF m 42 #[rv o0] [(.long (0 : Int64)), (.ref o0)])) _
      exact k
    refine own_c2 (putF X19 hx hZ hown (host := "") (Or.inl (hw _ (List.mem_of_getElem? (i := 25) rfl))) Via.refl e19 F_whole_o0 E_o0 (Or.inl (hw _ (List.mem_of_getElem? (i := 26) rfl))) (hw _ (List.mem_of_getElem? (i := 4) rfl)) (ty := .long) (by decide) rfl rfl rfl rfl (hb hby d4_42)) fun T20 h20 X20 e20 W20 => ?_
    replace F_whole_o0 := F_whole_o0.same W20
    replace E_o0 := E_o0.wr W20
    replace F_rest_o0 := F_rest_o0.other W20 (Or.inr (sn13 hw))
    replace E_ro := E_ro.wr W20
    replace F_intCompact_ro := F_intCompact_ro.other W20 (Or.inl nx4)
    replace F_scale_ro := F_scale_ro.other W20 (Or.inl nx4)
    replace E_r_16 := E_r_16.wr W20
    replace F_intCompact_r_16 := F_intCompact_r_16.other W20 (Or.inl nx5)
    replace F_scale_r_16 := F_scale_r_16.other W20 (Or.inl nx5)
    replace E_r_18 := E_r_18.wr W20
    replace F_intCompact_r_18 := F_intCompact_r_18.other W20 (Or.inl nx6)
    replace F_scale_r_18 := F_scale_r_18.other W20 (Or.inl nx6)
    replace OZ := OZ.wr W20 g_o0
    replace K0 := K0.wr W20 (Or.inl (List.mem_of_getElem? (i := 0) rfl))
    replace Z0 := Nat.le_trans Z0 (Keep.of_wr W20).1
    replace N0 := Fr.snoc X20 N0 g_o0
    show own_Go p e below _ (T20.setTop (mkF m 45 #[rv o0] []))
    exact own_retV X20 Bd.notSynchronized hx Bd.returns (hb hby d4_45) (by
        rw [show T20.heap = h20 from e20]
        exact ⟨r_18, rfl, N0, K0, E_o0, F_whole_o0, F_rest_o0, E_r_18, F_intCompact_r_18, F_scale_r_18⟩) (by decide) (by decide)

theorem d3_0 : decode prog_48_method_4_code 0 = .ok (.aload_n 0, 1) := by decide +kernel
theorem d3_1 : decode prog_48_method_4_code 1 = .ok (.invokevirtual 42, 3) := by decide +kernel
theorem d3_4 : decode prog_48_method_4_code 4 = .ok (.aload_n 0, 1) := by decide +kernel
theorem d3_5 : decode prog_48_method_4_code 5 = .ok (.dup, 1) := by decide +kernel
theorem d3_6 : decode prog_48_method_4_code 6 = .ok (.getfield 45, 3) := by decide +kernel
theorem d3_9 : decode prog_48_method_4_code 9 = .ok (.lload_n 1, 1) := by decide +kernel
theorem d3_10 : decode prog_48_method_4_code 10 = .ok (.ladd, 1) := by decide +kernel
theorem d3_11 : decode prog_48_method_4_code 11 = .ok (.putfield 45, 3) := by decide +kernel
theorem d3_14 : decode prog_48_method_4_code 14 = .ok (.return_, 1) := by decide +kernel
theorem pn_3 : plainName "com/example/foray/foray/graph/Sum" = true := by first | (simp [plainName, overriddenIn]; done) | decide +kernel
theorem ef_3 (m : MethodId) (x0 : Addr) (x1 : Int64) : entryFrame m #[(.ref x0), (.long x1)] 3 = mkF m 0 #[rv x0, oJ x1, oS] [] := by first | (simp [entryFrame, mkF, argsToLocals, Value.category]; done) | rfl
def Q3_a (Z : State) (o0 : Addr) (q1 : Int64) (ro : Addr) (h0 : Heap) (n0 : Nat) (v : Option Value) (h : Heap) (L : List Loc) : Prop := v = none ∧ Fr n0 L ∧ Keep h0 h [o0] ∧ Exa Z h o0 "com/example/foray/foray/graph/Sum" ∧ Fld Z h o0 "com/example/foray/foray/graph/Sum" "whole" "J" (.long q1) ∧ Fld Z h o0 "com/example/foray/foray/graph/Sum" "rest" "Ljava/math/BigDecimal;" (.ref ro)
set_option maxRecDepth 65536 in
set_option maxHeartbeats 40000000 in
theorem rm3_a (l : Launch) (Z : State) (a0 : Array Value) (hw : ∀ d ∈ tables_1, d.before a0 Z = true) (ws : List Jvm.Cond) (o0 : Addr) (q1 : Int64) (ro : Addr) (h0 : Heap) (n0 : Nat) (Z0 : n0 ≤ h0.size) (E_o0 : Exa Z h0 o0 "com/example/foray/foray/graph/Sum") (F_whole_o0 : Fld Z h0 o0 "com/example/foray/foray/graph/Sum" "whole" "J" (.long (0 : Int64))) (F_rest_o0 : Fld Z h0 o0 "com/example/foray/foray/graph/Sum" "rest" "Ljava/math/BigDecimal;" (.ref ro)) (g_o0 : n0 ≤ o0) :
    MetFree l (⟨"com/example/foray/foray/graph/Sum", "addWhole", "(J)V"⟩ : MethodName) (head1 (Jvm.Cond.code (⟨"com/example/foray/foray/graph/Sum", "addWhole", "(J)V"⟩ : MethodName) prog_48_method_4_code 3 none :: ws) ({ frames := 1, cells := 0, slots := 0, locals := 12 } : Room)) (fun a U => a = #[(.ref o0), (.long q1)] ∧ Z.Warmed39 U.vm ∧ U.heap = h0) (fun _ _ _ _ _ => True) (fun _ U o U' => ∃ v L, o = .returned v ∧ Q3_a Z o0 q1 ro h0 n0 v U'.heap L ∧ FrameEnd U o U' L ({ frames := 1, cells := 0, slots := 0, locals := 12 } : Room).cells ({ frames := 1, cells := 0, slots := 0, locals := 12 } : Room).slots) := by
  refine MetFree.of_bodySF (plainFor_of_name pn_3) hisR ?_
  intro p e s m args below meth c s₁ Bd hml0 hP hK
  obtain ⟨rfl, hZ, hh⟩ := hP
  have hx := Bd.exec
  have hby := Bd.bytes
  have hml : c.maxLocals = 3 := hml0
  have hown : s.vm.findClass "com/example/foray/foray/graph/Sum" = some m.cls := findClass_of_methodNamed Bd.named
  have hnm := (name_of_methodNamed Bd.named Bd.method).1
  have X0 : Stand p l e ({ frames := 1, cells := 0, slots := 0, locals := 12 } : Room) s m #[(.ref o0), (.long q1)] below meth c s₁ [] 0 0 := Stand.of_body Bd
  have e0 : s₁.heap = h0 := by rw [← hh, Bd.state]; rfl
  have N0 := Fr.nil n0
  have K0 : Keep h0 h0 [o0] := Keep.refl h0 _
  change own_Go p e below (own_Post s (Q3_a Z o0 q1 ro h0 n0) ({ frames := 1, cells := 0, slots := 0, locals := 12 } : Room).cells ({ frames := 1, cells := 0, slots := 0, locals := 12 } : Room).slots) (s₁.setTop (entryFrame m #[(.ref o0), (.long q1)] 3))
  refine own_by (fun t k => castTop (ef_3 m o0 q1) k) ?_
  show own_Go p e below _ (s₁.setTop (mkF m 0 #[rv o0, oJ q1, oS] []))
  refine own_by (B := s₁.setTop (mkF m 1 #[rv o0, oJ q1, oS] [(.ref o0)])) (fun t k => ?_) ?_
  · show Steps p.tables e below (s₁.setTop (mkF m 0 #[rv o0, oJ q1, oS] [])) _
    refine XS.aloadN X0.here hx rfl (hb hby d3_0) rfl rfl ?_
    show Steps p.tables e below (s₁.setTop (mkF m 1 #[rv o0, oJ q1, oS] [(.ref o0)])) _
    exact k
  refine own_cc (own_callP X0 hx hZ (y := (⟨"com/example/foray/foray/graph/Sum", "makeRoom", "()V"⟩ : MethodName)) hown (hw _ (List.mem_of_getElem? (i := 21) rfl)) (hw _ (List.mem_of_getElem? (i := 22) rfl)) (hw _ (List.mem_of_getElem? (i := 5) rfl)) (hw _ (List.mem_of_getElem? (i := 24) rfl)) (hw _ (List.mem_of_getElem? (i := 23) rfl)) (hw _ (List.mem_of_getElem? (i := 4) rfl)) (by decide) (rm4_a l Z a0 hw [] o0 (0 : Int64) h0 n0 Z0 F_whole_o0 (by decide : (0 : Int64) < (4611686018427387904 : Int64)) (by decide : (-4611686018427387904 : Int64) < (0 : Int64))) e0 0 (by decide) (by decide) (by decide) (by decide) rfl (by rw [hml]; rfl) o0 E_o0 [] [] rfl (lenOf pd_0 rfl) rfl (by show 2 * 0 + _ ≤ _; exact Nat.le_of_eq rfl) (hb hby d3_1)) fun T2 L2 v2 X2 hQ2 => ?_
  obtain ⟨rfl, N2, e2⟩ := hQ2
  replace N0 := Fr.app N0 N2
  show own_Go p e below _ (T2.setTop (mkF m 4 #[rv o0, oJ q1, oS] []))
  refine own_by (B := T2.setTop (mkF m 6 #[rv o0, oJ q1, oS] [(.ref o0), (.ref o0)])) (fun t k => ?_) ?_
  · show Steps p.tables e below (T2.setTop (mkF m 4 #[rv o0, oJ q1, oS] [])) _
    refine XS.aloadN X2.here hx rfl (hb hby d3_4) rfl rfl ?_
    show Steps p.tables e below (T2.setTop (mkF m 5 #[rv o0, oJ q1, oS] [(.ref o0)])) _
    refine XS.dup X2.here hx rfl (hb hby d3_5) rfl rfl ?_
    show Steps p.tables e below (T2.setTop (mkF m 6 #[rv o0, oJ q1, oS] [(.ref o0), (.ref o0)])) _
    exact k
  refine own_c1 (getF X2 hx hZ hown (host := "") (Or.inl (hw _ (List.mem_of_getElem? (i := 25) rfl))) Via.refl e2 F_whole_o0 rfl rfl (hb hby d3_6)) fun T3 X3 e3 => ?_
  show own_Go p e below _ (T3.setTop (mkF m 9 #[rv o0, oJ q1, oS] [(.long (0 : Int64)), (.ref o0)]))
  refine own_by (B := T3.setTop (mkF m 11 #[rv o0, oJ q1, oS] [(.long q1), (.ref o0)])) (fun t k => ?_) ?_
  · show Steps p.tables e below (T3.setTop (mkF m 9 #[rv o0, oJ q1, oS] [(.long (0 : Int64)), (.ref o0)])) _
    refine XS.lloadN X3.here hx rfl (hb hby d3_9) rfl ?_
    show Steps p.tables e below (T3.setTop (mkF m 10 #[rv o0, oJ q1, oS] [(.long q1), (.long (0 : Int64)), (.ref o0)])) _
    refine XS.ladd X3.here hx rfl (hb hby d3_10) rfl ?_
    rw [Int64.zero_add]
    show Steps p.tables e below (T3.setTop (mkF m 11 #[rv o0, oJ q1, oS] [(.long q1), (.ref o0)])) _
    exact k
  refine own_c2 (putF X3 hx hZ hown (host := "") (Or.inl (hw _ (List.mem_of_getElem? (i := 25) rfl))) Via.refl e3 F_whole_o0 E_o0 (Or.inl (hw _ (List.mem_of_getElem? (i := 26) rfl))) (hw _ (List.mem_of_getElem? (i := 4) rfl)) (ty := .long) (by decide) rfl rfl rfl rfl (hb hby d3_11)) fun T4 h4 X4 e4 W4 => ?_
  replace F_whole_o0 := F_whole_o0.same W4
  replace E_o0 := E_o0.wr W4
  replace F_rest_o0 := F_rest_o0.other W4 (Or.inr (sn13 hw))
  replace K0 := K0.wr W4 (Or.inl (List.mem_of_getElem? (i := 0) rfl))
  replace Z0 := Nat.le_trans Z0 (Keep.of_wr W4).1
  replace N0 := Fr.snoc X4 N0 g_o0
  show own_Go p e below _ (T4.setTop (mkF m 14 #[rv o0, oJ q1, oS] []))
  exact own_retV X4 Bd.notSynchronized hx Bd.returns (hb hby d3_14) (by
      rw [show T4.heap = h4 from e4]
      exact ⟨rfl, N0, K0, E_o0, F_whole_o0, F_rest_o0⟩) (by decide) (by decide)

def Q3_b (Z : State) (o0 : Addr) (q1 : Int64) (w1 : Int64) (ro : Addr) (h0 : Heap) (n0 : Nat) (v : Option Value) (h : Heap) (L : List Loc) : Prop := ∃ r : Addr, v = none ∧ Fr n0 L ∧ Keep h0 h [o0] ∧ Exa Z h o0 "com/example/foray/foray/graph/Sum" ∧ Fld Z h o0 "com/example/foray/foray/graph/Sum" "whole" "J" (.long q1) ∧ Fld Z h o0 "com/example/foray/foray/graph/Sum" "rest" "Ljava/math/BigDecimal;" (.ref r) ∧ Exa Z h r "java/math/BigDecimal" ∧ Fld Z h r "java/math/BigDecimal" "intCompact" "J" (.long w1) ∧ Fld Z h r "java/math/BigDecimal" "scale" "I" (.int (0 : Int32))
set_option maxRecDepth 65536 in
set_option maxHeartbeats 40000000 in
theorem rm3_b (l : Launch) (Z : State) (a0 : Array Value) (hw : ∀ d ∈ tables_1, d.before a0 Z = true) (ws : List Jvm.Cond) (o0 : Addr) (q1 : Int64) (w1 : Int64) (ro : Addr) (h0 : Heap) (n0 : Nat) (Z0 : n0 ≤ h0.size) (E_o0 : Exa Z h0 o0 "com/example/foray/foray/graph/Sum") (F_whole_o0 : Fld Z h0 o0 "com/example/foray/foray/graph/Sum" "whole" "J" (.long w1)) (F_rest_o0 : Fld Z h0 o0 "com/example/foray/foray/graph/Sum" "rest" "Ljava/math/BigDecimal;" (.ref ro)) (E_ro : Exa Z h0 ro "java/math/BigDecimal") (F_intCompact_ro : Fld Z h0 ro "java/math/BigDecimal" "intCompact" "J" (.long (0 : Int64))) (F_scale_ro : Fld Z h0 ro "java/math/BigDecimal" "scale" "I" (.int (0 : Int32))) (g_o0 : n0 ≤ o0) (OZ : Old Z n0 h0) (hBD : own_BD Z) (hbig : ¬ (w1 < (4611686018427387904 : Int64)) ∨ ¬ ((-4611686018427387904 : Int64) < w1)) (hp0 : ¬ (w1 = (-9223372036854775808 : Int64))) :
    MetFree l (⟨"com/example/foray/foray/graph/Sum", "addWhole", "(J)V"⟩ : MethodName) (head1 (Jvm.Cond.code (⟨"com/example/foray/foray/graph/Sum", "addWhole", "(J)V"⟩ : MethodName) prog_48_method_4_code 3 none :: ws) ({ frames := 9, cells := 2, slots := 10, locals := 136 } : Room)) (fun a U => a = #[(.ref o0), (.long q1)] ∧ Z.Warmed39 U.vm ∧ U.heap = h0) (fun _ _ _ _ _ => True) (fun _ U o U' => ∃ v L, o = .returned v ∧ Q3_b Z o0 q1 w1 ro h0 n0 v U'.heap L ∧ FrameEnd U o U' L ({ frames := 9, cells := 2, slots := 10, locals := 136 } : Room).cells ({ frames := 9, cells := 2, slots := 10, locals := 136 } : Room).slots) := by
  refine MetFree.of_bodySF (plainFor_of_name pn_3) hisR ?_
  intro p e s m args below meth c s₁ Bd hml0 hP hK
  obtain ⟨rfl, hZ, hh⟩ := hP
  have hx := Bd.exec
  have hby := Bd.bytes
  have hml : c.maxLocals = 3 := hml0
  have hown : s.vm.findClass "com/example/foray/foray/graph/Sum" = some m.cls := findClass_of_methodNamed Bd.named
  have hnm := (name_of_methodNamed Bd.named Bd.method).1
  have X0 : Stand p l e ({ frames := 9, cells := 2, slots := 10, locals := 136 } : Room) s m #[(.ref o0), (.long q1)] below meth c s₁ [] 0 0 := Stand.of_body Bd
  have e0 : s₁.heap = h0 := by rw [← hh, Bd.state]; rfl
  have N0 := Fr.nil n0
  have K0 : Keep h0 h0 [o0] := Keep.refl h0 _
  change own_Go p e below (own_Post s (Q3_b Z o0 q1 w1 ro h0 n0) ({ frames := 9, cells := 2, slots := 10, locals := 136 } : Room).cells ({ frames := 9, cells := 2, slots := 10, locals := 136 } : Room).slots) (s₁.setTop (entryFrame m #[(.ref o0), (.long q1)] 3))
  refine own_by (fun t k => castTop (ef_3 m o0 q1) k) ?_
  show own_Go p e below _ (s₁.setTop (mkF m 0 #[rv o0, oJ q1, oS] []))
  refine own_by (B := s₁.setTop (mkF m 1 #[rv o0, oJ q1, oS] [(.ref o0)])) (fun t k => ?_) ?_
  · show Steps p.tables e below (s₁.setTop (mkF m 0 #[rv o0, oJ q1, oS] [])) _
    refine XS.aloadN X0.here hx rfl (hb hby d3_0) rfl rfl ?_
    show Steps p.tables e below (s₁.setTop (mkF m 1 #[rv o0, oJ q1, oS] [(.ref o0)])) _
    exact k
  refine own_cc (own_callP X0 hx hZ (y := (⟨"com/example/foray/foray/graph/Sum", "makeRoom", "()V"⟩ : MethodName)) hown (hw _ (List.mem_of_getElem? (i := 21) rfl)) (hw _ (List.mem_of_getElem? (i := 22) rfl)) (hw _ (List.mem_of_getElem? (i := 5) rfl)) (hw _ (List.mem_of_getElem? (i := 24) rfl)) (hw _ (List.mem_of_getElem? (i := 23) rfl)) (hw _ (List.mem_of_getElem? (i := 4) rfl)) (by decide) (rm4_b l Z a0 hw [] o0 w1 ro h0 n0 Z0 E_o0 F_whole_o0 F_rest_o0 E_ro F_intCompact_ro F_scale_ro g_o0 OZ hBD (by assumption) hp0) e0 0 (by decide) (by decide) (by decide) (by decide) rfl (by rw [hml]; rfl) o0 E_o0 [] [] rfl (lenOf pd_0 rfl) rfl (by show 2 * 0 + _ ≤ _; exact Nat.le_of_eq rfl) (hb hby d3_1)) fun T2 L2 v2 X2 hQ2 => ?_
  obtain ⟨r_2, rfl, N2, K2, E_o0', F_whole_o0', F_rest_o0', E_r_2', F_intCompact_r_2', F_scale_r_2'⟩ := hQ2
  replace N0 := Fr.app N0 N2
  have nx1 : ro ≠ o0 := (ne_exa E_ro E_o0 (by decide))
  replace E_o0 := E_o0.keep K2
  replace E_ro := E_ro.keep K2
  replace F_intCompact_ro := F_intCompact_ro.keep K2 (ninS nx1 nin0)
  replace F_scale_ro := F_scale_ro.keep K2 (ninS nx1 nin0)
  replace OZ := OZ.keep K2 (allS g_o0 all0)
  replace K0 := K0.trans K2 (allS (Or.inl (List.mem_of_getElem? (i := 0) rfl)) all0)
  replace Z0 := Nat.le_trans Z0 K2.1
  replace E_o0 := E_o0'
  have F_whole_o0 := F_whole_o0'
  have F_rest_o0 := F_rest_o0'
  have E_r_2 := E_r_2'
  have F_intCompact_r_2 := F_intCompact_r_2'
  have F_scale_r_2 := F_scale_r_2'
  show own_Go p e below _ (T2.setTop (mkF m 4 #[rv o0, oJ q1, oS] []))
  refine own_by (B := T2.setTop (mkF m 6 #[rv o0, oJ q1, oS] [(.ref o0), (.ref o0)])) (fun t k => ?_) ?_
  · show Steps p.tables e below (T2.setTop (mkF m 4 #[rv o0, oJ q1, oS] [])) _
    refine XS.aloadN X2.here hx rfl (hb hby d3_4) rfl rfl ?_
    show Steps p.tables e below (T2.setTop (mkF m 5 #[rv o0, oJ q1, oS] [(.ref o0)])) _
    refine XS.dup X2.here hx rfl (hb hby d3_5) rfl rfl ?_
    show Steps p.tables e below (T2.setTop (mkF m 6 #[rv o0, oJ q1, oS] [(.ref o0), (.ref o0)])) _
    exact k
  refine own_c1 (getF X2 hx hZ hown (host := "") (Or.inl (hw _ (List.mem_of_getElem? (i := 25) rfl))) Via.refl rfl F_whole_o0 rfl rfl (hb hby d3_6)) fun T3 X3 e3 => ?_
  show own_Go p e below _ (T3.setTop (mkF m 9 #[rv o0, oJ q1, oS] [(.long (0 : Int64)), (.ref o0)]))
  refine own_by (B := T3.setTop (mkF m 11 #[rv o0, oJ q1, oS] [(.long q1), (.ref o0)])) (fun t k => ?_) ?_
  · show Steps p.tables e below (T3.setTop (mkF m 9 #[rv o0, oJ q1, oS] [(.long (0 : Int64)), (.ref o0)])) _
    refine XS.lloadN X3.here hx rfl (hb hby d3_9) rfl ?_
    show Steps p.tables e below (T3.setTop (mkF m 10 #[rv o0, oJ q1, oS] [(.long q1), (.long (0 : Int64)), (.ref o0)])) _
    refine XS.ladd X3.here hx rfl (hb hby d3_10) rfl ?_
    rw [Int64.zero_add]
    show Steps p.tables e below (T3.setTop (mkF m 11 #[rv o0, oJ q1, oS] [(.long q1), (.ref o0)])) _
    exact k
  refine own_c2 (putF X3 hx hZ hown (host := "") (Or.inl (hw _ (List.mem_of_getElem? (i := 25) rfl))) Via.refl e3 F_whole_o0 E_o0 (Or.inl (hw _ (List.mem_of_getElem? (i := 26) rfl))) (hw _ (List.mem_of_getElem? (i := 4) rfl)) (ty := .long) (by decide) rfl rfl rfl rfl (hb hby d3_11)) fun T4 h4 X4 e4 W4 => ?_
  replace F_whole_o0 := F_whole_o0.same W4
  have nx2 : r_2 ≠ o0 := (ne_exa E_r_2 E_o0 (by decide))
  replace E_o0 := E_o0.wr W4
  replace E_ro := E_ro.wr W4
  replace F_intCompact_ro := F_intCompact_ro.other W4 (Or.inl nx1)
  replace F_scale_ro := F_scale_ro.other W4 (Or.inl nx1)
  replace F_rest_o0 := F_rest_o0.other W4 (Or.inr (sn13 hw))
  replace E_r_2 := E_r_2.wr W4
  replace F_intCompact_r_2 := F_intCompact_r_2.other W4 (Or.inl nx2)
  replace F_scale_r_2 := F_scale_r_2.other W4 (Or.inl nx2)
  replace OZ := OZ.wr W4 g_o0
  replace K0 := K0.wr W4 (Or.inl (List.mem_of_getElem? (i := 0) rfl))
  replace Z0 := Nat.le_trans Z0 (Keep.of_wr W4).1
  replace N0 := Fr.snoc X4 N0 g_o0
  show own_Go p e below _ (T4.setTop (mkF m 14 #[rv o0, oJ q1, oS] []))
  exact own_retV X4 Bd.notSynchronized hx Bd.returns (hb hby d3_14) (by
      rw [show T4.heap = h4 from e4]
      exact ⟨r_2, rfl, N0, K0, E_o0, F_whole_o0, F_rest_o0, E_r_2, F_intCompact_r_2, F_scale_r_2⟩) (by decide) (by decide)

theorem d5_0 : decode prog_48_method_5_code 0 = .ok (.aload_n 1, 1) := by decide +kernel
theorem d5_1 : decode prog_48_method_5_code 1 = .ok (.getfield 15, 3) := by decide +kernel
theorem d5_4 : decode prog_48_method_5_code 4 = .ok (.invokevirtual 48, 3) := by decide +kernel
theorem d5_7 : decode prog_48_method_5_code 7 = .ok (.ifCond .ne 13, 3) := by decide +kernel
theorem d5_10 : decode prog_48_method_5_code 10 = .ok (.aload_n 1, 1) := by decide +kernel
theorem d5_11 : decode prog_48_method_5_code 11 = .ok (.getfield 15, 3) := by decide +kernel
theorem d5_14 : decode prog_48_method_5_code 14 = .ok (.invokevirtual 52, 3) := by decide +kernel
theorem d5_17 : decode prog_48_method_5_code 17 = .ok (.ifCond .eq 18, 3) := by decide +kernel
theorem d5_35 : decode prog_48_method_5_code 35 = .ok (.aload_n 0, 1) := by decide +kernel
theorem d5_36 : decode prog_48_method_5_code 36 = .ok (.invokevirtual 42, 3) := by decide +kernel
theorem d5_39 : decode prog_48_method_5_code 39 = .ok (.aload_n 1, 1) := by decide +kernel
theorem d5_40 : decode prog_48_method_5_code 40 = .ok (.getfield 45, 3) := by decide +kernel
theorem d5_43 : decode prog_48_method_5_code 43 = .ok (.ldc2_w 55, 3) := by decide +kernel
theorem d5_46 : decode prog_48_method_5_code 46 = .ok (.lcmp, 1) := by decide +kernel
theorem d5_47 : decode prog_48_method_5_code 47 = .ok (.ifCond .ge 14, 3) := by decide +kernel
theorem d5_50 : decode prog_48_method_5_code 50 = .ok (.aload_n 1, 1) := by decide +kernel
theorem d5_51 : decode prog_48_method_5_code 51 = .ok (.getfield 45, 3) := by decide +kernel
theorem d5_54 : decode prog_48_method_5_code 54 = .ok (.ldc2_w 57, 3) := by decide +kernel
theorem d5_57 : decode prog_48_method_5_code 57 = .ok (.lcmp, 1) := by decide +kernel
theorem d5_58 : decode prog_48_method_5_code 58 = .ok (.ifCond .gt 24, 3) := by decide +kernel
theorem d5_82 : decode prog_48_method_5_code 82 = .ok (.aload_n 0, 1) := by decide +kernel
theorem d5_83 : decode prog_48_method_5_code 83 = .ok (.dup, 1) := by decide +kernel
theorem d5_84 : decode prog_48_method_5_code 84 = .ok (.getfield 45, 3) := by decide +kernel
theorem d5_87 : decode prog_48_method_5_code 87 = .ok (.aload_n 1, 1) := by decide +kernel
theorem d5_88 : decode prog_48_method_5_code 88 = .ok (.getfield 45, 3) := by decide +kernel
theorem d5_91 : decode prog_48_method_5_code 91 = .ok (.ladd, 1) := by decide +kernel
theorem d5_92 : decode prog_48_method_5_code 92 = .ok (.putfield 45, 3) := by decide +kernel
theorem d5_95 : decode prog_48_method_5_code 95 = .ok (.return_, 1) := by decide +kernel
theorem pn_5 : plainName "com/example/foray/foray/graph/Sum" = true := by first | (simp [plainName, overriddenIn]; done) | decide +kernel
theorem pd_3 : parseMethodDescriptor "()I" = some ⟨[], some .int⟩ := by decide +kernel
theorem ef_5 (m : MethodId) (x0 : Addr) (x1 : Addr) : entryFrame m #[(.ref x0), (.ref x1)] 2 = mkF m 0 #[rv x0, rv x1] [] := by first | (simp [entryFrame, mkF, argsToLocals, Value.category]; done) | rfl
def Q5_a (Z : State) (o0 : Addr) (w1 : Int64) (ro : Addr) (h0 : Heap) (n0 : Nat) (v : Option Value) (h : Heap) (L : List Loc) : Prop := v = none ∧ Fr n0 L ∧ Keep h0 h [o0] ∧ Exa Z h o0 "com/example/foray/foray/graph/Sum" ∧ Fld Z h o0 "com/example/foray/foray/graph/Sum" "whole" "J" (.long (w1 + w1)) ∧ Fld Z h o0 "com/example/foray/foray/graph/Sum" "rest" "Ljava/math/BigDecimal;" (.ref ro)
set_option maxRecDepth 65536 in
set_option maxHeartbeats 40000000 in
theorem rm5_a (l : Launch) (Z : State) (a0 : Array Value) (hw : ∀ d ∈ tables_1, d.before a0 Z = true) (ws : List Jvm.Cond) (o0 : Addr) (w1 : Int64) (ro : Addr) (h0 : Heap) (n0 : Nat) (Z0 : n0 ≤ h0.size) (E_o0 : Exa Z h0 o0 "com/example/foray/foray/graph/Sum") (F_whole_o0 : Fld Z h0 o0 "com/example/foray/foray/graph/Sum" "whole" "J" (.long w1)) (F_rest_o0 : Fld Z h0 o0 "com/example/foray/foray/graph/Sum" "rest" "Ljava/math/BigDecimal;" (.ref ro)) (E_ro : Exa Z h0 ro "java/math/BigDecimal") (F_intCompact_ro : Fld Z h0 ro "java/math/BigDecimal" "intCompact" "J" (.long (0 : Int64))) (F_scale_ro : Fld Z h0 ro "java/math/BigDecimal" "scale" "I" (.int (0 : Int32))) (g_o0 : n0 ≤ o0) (hp0 : w1 < (4611686018427387904 : Int64)) (hp1 : (-4611686018427387904 : Int64) < w1) :
    MetFree l (⟨"com/example/foray/foray/graph/Sum", "add", "(Lcom/example/foray/foray/graph/Sum;)V"⟩ : MethodName) (head1 (Jvm.Cond.code (⟨"com/example/foray/foray/graph/Sum", "add", "(Lcom/example/foray/foray/graph/Sum;)V"⟩ : MethodName) prog_48_method_5_code 2 none :: ws) ({ frames := 2, cells := 0, slots := 0, locals := 25 } : Room)) (fun a U => a = #[(.ref o0), (.ref o0)] ∧ Z.Warmed39 U.vm ∧ U.heap = h0) (fun _ _ _ _ _ => True) (fun _ U o U' => ∃ v L, o = .returned v ∧ Q5_a Z o0 w1 ro h0 n0 v U'.heap L ∧ FrameEnd U o U' L ({ frames := 2, cells := 0, slots := 0, locals := 25 } : Room).cells ({ frames := 2, cells := 0, slots := 0, locals := 25 } : Room).slots) := by
  refine MetFree.of_bodySF (plainFor_of_name pn_5) hisR ?_
  intro p e s m args below meth c s₁ Bd hml0 hP hK
  obtain ⟨rfl, hZ, hh⟩ := hP
  have hx := Bd.exec
  have hby := Bd.bytes
  have hml : c.maxLocals = 2 := hml0
  have hown : s.vm.findClass "com/example/foray/foray/graph/Sum" = some m.cls := findClass_of_methodNamed Bd.named
  have hnm := (name_of_methodNamed Bd.named Bd.method).1
  have X0 : Stand p l e ({ frames := 2, cells := 0, slots := 0, locals := 25 } : Room) s m #[(.ref o0), (.ref o0)] below meth c s₁ [] 0 0 := Stand.of_body Bd
  have e0 : s₁.heap = h0 := by rw [← hh, Bd.state]; rfl
  have N0 := Fr.nil n0
  have K0 : Keep h0 h0 [o0] := Keep.refl h0 _
  change own_Go p e below (own_Post s (Q5_a Z o0 w1 ro h0 n0) ({ frames := 2, cells := 0, slots := 0, locals := 25 } : Room).cells ({ frames := 2, cells := 0, slots := 0, locals := 25 } : Room).slots) (s₁.setTop (entryFrame m #[(.ref o0), (.ref o0)] 2))
  refine own_by (fun t k => castTop (ef_5 m o0 o0) k) ?_
  show own_Go p e below _ (s₁.setTop (mkF m 0 #[rv o0, rv o0] []))
  refine own_by (B := s₁.setTop (mkF m 1 #[rv o0, rv o0] [(.ref o0)])) (fun t k => ?_) ?_
  · show Steps p.tables e below (s₁.setTop (mkF m 0 #[rv o0, rv o0] [])) _
    refine XS.aloadN X0.here hx rfl (hb hby d5_0) rfl rfl ?_
    show Steps p.tables e below (s₁.setTop (mkF m 1 #[rv o0, rv o0] [(.ref o0)])) _
    exact k
  refine own_c1 (getF X0 hx hZ hown (host := "") (Or.inl (hw _ (List.mem_of_getElem? (i := 14) rfl))) Via.refl e0 F_rest_o0 rfl rfl (hb hby d5_1)) fun T1 X1 e1 => ?_
  show own_Go p e below _ (T1.setTop (mkF m 4 #[rv o0, rv o0] [(.ref ro)]))
  refine own_cc (own_callV X1 hx hZ (y := (⟨"java/math/BigDecimal", "signum", "()I"⟩ : MethodName)) (z := (⟨"java/math/BigDecimal", "signum", "()I"⟩ : MethodName)) hown (hw _ (List.mem_of_getElem? (i := 34) rfl)) (hw _ (List.mem_of_getElem? (i := 35) rfl)) (notFace_of_selects (args := #[]) (mvT hZ (hw _ (List.mem_of_getElem? (i := 37) rfl)))) (hw _ (List.mem_of_getElem? (i := 37) rfl)) (hw _ (List.mem_of_getElem? (i := 36) rfl)) (hw _ (List.mem_of_getElem? (i := 13) rfl)) (hw _ (List.mem_of_getElem? (i := 38) rfl)) (by decide) (rm6 l Z a0 hw [] ro (0 : Int64) h0 n0 Z0 F_intCompact_ro (by decide : ¬ ((0 : Int64) = (-9223372036854775808 : Int64)))) e1 0 (by decide) (by decide) (by decide) (by decide) rfl (by rw [hml]; rfl) ro E_ro [] [] rfl (lenOf pd_3 rfl) rfl (by show 2 * 0 + _ ≤ _; exact Nat.le_of_eq rfl) (hb hby d5_4)) fun T3 L3 v3 X3 hQ3 => ?_
  obtain ⟨rfl, N3, e3⟩ := hQ3
  replace N0 := Fr.app N0 N3
  show own_Go p e below _ (T3.setTop (mkF m 7 #[rv o0, rv o0] [(.int (fsg (0 : Int64)))]))
  refine own_by (B := T3.setTop (mkF m 11 #[rv o0, rv o0] [(.ref o0)])) (fun t k => ?_) ?_
  · show Steps p.tables e below (T3.setTop (mkF m 7 #[rv o0, rv o0] [(.int (fsg (0 : Int64)))])) _
    refine XS.ifNo X3.here hx rfl (hb hby d5_7) rfl ((if0 _ _).trans (teq (by decide)).2) ?_
    show Steps p.tables e below (T3.setTop (mkF m 10 #[rv o0, rv o0] [])) _
    refine XS.aloadN X3.here hx rfl (hb hby d5_10) rfl rfl ?_
    show Steps p.tables e below (T3.setTop (mkF m 11 #[rv o0, rv o0] [(.ref o0)])) _
    exact k
  refine own_c1 (getF X3 hx hZ hown (host := "") (Or.inl (hw _ (List.mem_of_getElem? (i := 14) rfl))) Via.refl e3 F_rest_o0 rfl rfl (hb hby d5_11)) fun T4 X4 e4 => ?_
  show own_Go p e below _ (T4.setTop (mkF m 14 #[rv o0, rv o0] [(.ref ro)]))
  refine own_cc (own_callV X4 hx hZ (y := (⟨"java/math/BigDecimal", "scale", "()I"⟩ : MethodName)) (z := (⟨"java/math/BigDecimal", "scale", "()I"⟩ : MethodName)) hown (hw _ (List.mem_of_getElem? (i := 46) rfl)) (hw _ (List.mem_of_getElem? (i := 47) rfl)) (notFace_of_selects (args := #[]) (mvT hZ (hw _ (List.mem_of_getElem? (i := 49) rfl)))) (hw _ (List.mem_of_getElem? (i := 49) rfl)) (hw _ (List.mem_of_getElem? (i := 48) rfl)) (hw _ (List.mem_of_getElem? (i := 13) rfl)) (hw _ (List.mem_of_getElem? (i := 50) rfl)) (by decide) (rm8 l Z a0 hw [] ro (0 : Int32) h0 n0 Z0 F_scale_ro) e4 0 (by decide) (by decide) (by decide) (by decide) rfl (by rw [hml]; rfl) ro E_ro [] [] rfl (lenOf pd_3 rfl) rfl (by show 2 * 0 + _ ≤ _; exact Nat.le_of_eq rfl) (hb hby d5_14)) fun T6 L6 v6 X6 hQ6 => ?_
  obtain ⟨rfl, N6, e6⟩ := hQ6
  replace N0 := Fr.app N0 N6
  show own_Go p e below _ (T6.setTop (mkF m 17 #[rv o0, rv o0] [(.int (0 : Int32))]))
  refine own_by (B := T6.setTop (mkF m 36 #[rv o0, rv o0] [(.ref o0)])) (fun t k => ?_) ?_
  · show Steps p.tables e below (T6.setTop (mkF m 17 #[rv o0, rv o0] [(.int (0 : Int32))])) _
    refine XS.ifYes X6.here hx rfl (pc0 := 17) (pc' := 35) rfl (hb hby d5_17) rfl ((if0 _ _).trans (teq (by decide : (0 : Int32) = (0 : Int32))).1) (by decide) (by decide) ?_
    show Steps p.tables e below (T6.setTop (mkF m 35 #[rv o0, rv o0] [])) _
    refine XS.aloadN X6.here hx rfl (hb hby d5_35) rfl rfl ?_
    show Steps p.tables e below (T6.setTop (mkF m 36 #[rv o0, rv o0] [(.ref o0)])) _
    exact k
  refine own_cc (own_callP X6 hx hZ (y := (⟨"com/example/foray/foray/graph/Sum", "makeRoom", "()V"⟩ : MethodName)) hown (hw _ (List.mem_of_getElem? (i := 21) rfl)) (hw _ (List.mem_of_getElem? (i := 22) rfl)) (hw _ (List.mem_of_getElem? (i := 5) rfl)) (hw _ (List.mem_of_getElem? (i := 24) rfl)) (hw _ (List.mem_of_getElem? (i := 23) rfl)) (hw _ (List.mem_of_getElem? (i := 4) rfl)) (by decide) (rm4_a l Z a0 hw [] o0 w1 h0 n0 Z0 F_whole_o0 hp0 hp1) e6 0 (by decide) (by decide) (by decide) (by decide) rfl (by rw [hml]; rfl) o0 E_o0 [] [] rfl (lenOf pd_0 rfl) rfl (by show 2 * 0 + _ ≤ _; exact Nat.le_of_eq rfl) (hb hby d5_36)) fun T8 L8 v8 X8 hQ8 => ?_
  obtain ⟨rfl, N8, e8⟩ := hQ8
  replace N0 := Fr.app N0 N8
  show own_Go p e below _ (T8.setTop (mkF m 39 #[rv o0, rv o0] []))
  refine own_by (B := T8.setTop (mkF m 40 #[rv o0, rv o0] [(.ref o0)])) (fun t k => ?_) ?_
  · show Steps p.tables e below (T8.setTop (mkF m 39 #[rv o0, rv o0] [])) _
    refine XS.aloadN X8.here hx rfl (hb hby d5_39) rfl rfl ?_
    show Steps p.tables e below (T8.setTop (mkF m 40 #[rv o0, rv o0] [(.ref o0)])) _
    exact k
  refine own_c1 (getF X8 hx hZ hown (host := "") (Or.inl (hw _ (List.mem_of_getElem? (i := 25) rfl))) Via.refl e8 F_whole_o0 rfl rfl (hb hby d5_40)) fun T9 X9 e9 => ?_
  show own_Go p e below _ (T9.setTop (mkF m 43 #[rv o0, rv o0] [(.long w1)]))
  refine own_by (B := T9.setTop (mkF m 51 #[rv o0, rv o0] [(.ref o0)])) (fun t k => ?_) ?_
  · show Steps p.tables e below (T9.setTop (mkF m 43 #[rv o0, rv o0] [(.long w1)])) _
    refine X9.ldc2Long hx hown (mvT hZ (hw _ (List.mem_of_getElem? (i := 27) rfl))) (g := (mkF m 43 #[rv o0, rv o0] [(.long w1)])) rfl (hb hby d5_43) _ ?_
    show Steps p.tables e below (T9.setTop (mkF m 46 #[rv o0, rv o0] [(.long (4611686018427387904 : Int64)), (.long w1)])) _
    refine XS.lcmp X9.here hx rfl (hb hby d5_46) rfl ?_
    show Steps p.tables e below (T9.setTop (mkF m 47 #[rv o0, rv o0] [(.int (lcmpW w1 (4611686018427387904 : Int64)))])) _
    refine XS.ifNo X9.here hx rfl (hb hby d5_47) rfl ((if0 _ _).trans (tlt ((lw_lt _ _).mpr hp0)).2.1) ?_
    show Steps p.tables e below (T9.setTop (mkF m 50 #[rv o0, rv o0] [])) _
    refine XS.aloadN X9.here hx rfl (hb hby d5_50) rfl rfl ?_
    show Steps p.tables e below (T9.setTop (mkF m 51 #[rv o0, rv o0] [(.ref o0)])) _
    exact k
  refine own_c1 (getF X9 hx hZ hown (host := "") (Or.inl (hw _ (List.mem_of_getElem? (i := 25) rfl))) Via.refl e9 F_whole_o0 rfl rfl (hb hby d5_51)) fun T10 X10 e10 => ?_
  show own_Go p e below _ (T10.setTop (mkF m 54 #[rv o0, rv o0] [(.long w1)]))
  refine own_by (B := T10.setTop (mkF m 84 #[rv o0, rv o0] [(.ref o0), (.ref o0)])) (fun t k => ?_) ?_
  · show Steps p.tables e below (T10.setTop (mkF m 54 #[rv o0, rv o0] [(.long w1)])) _
    refine X10.ldc2Long hx hown (mvT hZ (hw _ (List.mem_of_getElem? (i := 28) rfl))) (g := (mkF m 54 #[rv o0, rv o0] [(.long w1)])) rfl (hb hby d5_54) _ ?_
    show Steps p.tables e below (T10.setTop (mkF m 57 #[rv o0, rv o0] [(.long (-4611686018427387904 : Int64)), (.long w1)])) _
    refine XS.lcmp X10.here hx rfl (hb hby d5_57) rfl ?_
    show Steps p.tables e below (T10.setTop (mkF m 58 #[rv o0, rv o0] [(.int (lcmpW w1 (-4611686018427387904 : Int64)))])) _
    refine XS.ifYes X10.here hx rfl (pc0 := 58) (pc' := 82) rfl (hb hby d5_58) rfl ((if0 _ _).trans (tlt ((lw_gt _ _).mpr hp1)).2.2.1) (by decide) (by decide) ?_
    show Steps p.tables e below (T10.setTop (mkF m 82 #[rv o0, rv o0] [])) _
    refine XS.aloadN X10.here hx rfl (hb hby d5_82) rfl rfl ?_
    show Steps p.tables e below (T10.setTop (mkF m 83 #[rv o0, rv o0] [(.ref o0)])) _
    refine XS.dup X10.here hx rfl (hb hby d5_83) rfl rfl ?_
    show Steps p.tables e below (T10.setTop (mkF m 84 #[rv o0, rv o0] [(.ref o0), (.ref o0)])) _
    exact k
  refine own_c1 (getF X10 hx hZ hown (host := "") (Or.inl (hw _ (List.mem_of_getElem? (i := 25) rfl))) Via.refl e10 F_whole_o0 rfl rfl (hb hby d5_84)) fun T11 X11 e11 => ?_
  show own_Go p e below _ (T11.setTop (mkF m 87 #[rv o0, rv o0] [(.long w1), (.ref o0)]))
  refine own_by (B := T11.setTop (mkF m 88 #[rv o0, rv o0] [(.ref o0), (.long w1), (.ref o0)])) (fun t k => ?_) ?_
  · show Steps p.tables e below (T11.setTop (mkF m 87 #[rv o0, rv o0] [(.long w1), (.ref o0)])) _
    refine XS.aloadN X11.here hx rfl (hb hby d5_87) rfl rfl ?_
    show Steps p.tables e below (T11.setTop (mkF m 88 #[rv o0, rv o0] [(.ref o0), (.long w1), (.ref o0)])) _
    exact k
  refine own_c1 (getF X11 hx hZ hown (host := "") (Or.inl (hw _ (List.mem_of_getElem? (i := 25) rfl))) Via.refl e11 F_whole_o0 rfl rfl (hb hby d5_88)) fun T12 X12 e12 => ?_
  show own_Go p e below _ (T12.setTop (mkF m 91 #[rv o0, rv o0] [(.long w1), (.long w1), (.ref o0)]))
  refine own_by (B := T12.setTop (mkF m 92 #[rv o0, rv o0] [(.long (w1 + w1)), (.ref o0)])) (fun t k => ?_) ?_
  · show Steps p.tables e below (T12.setTop (mkF m 91 #[rv o0, rv o0] [(.long w1), (.long w1), (.ref o0)])) _
    refine XS.ladd X12.here hx rfl (hb hby d5_91) rfl ?_
    show Steps p.tables e below (T12.setTop (mkF m 92 #[rv o0, rv o0] [(.long (w1 + w1)), (.ref o0)])) _
    exact k
  refine own_c2 (putF X12 hx hZ hown (host := "") (Or.inl (hw _ (List.mem_of_getElem? (i := 25) rfl))) Via.refl e12 F_whole_o0 E_o0 (Or.inl (hw _ (List.mem_of_getElem? (i := 26) rfl))) (hw _ (List.mem_of_getElem? (i := 4) rfl)) (ty := .long) (by decide) rfl rfl rfl rfl (hb hby d5_92)) fun T13 h13 X13 e13 W13 => ?_
  replace F_whole_o0 := F_whole_o0.same W13
  have nx1 : ro ≠ o0 := (ne_exa E_ro E_o0 (by decide))
  replace E_o0 := E_o0.wr W13
  replace F_rest_o0 := F_rest_o0.other W13 (Or.inr (sn13 hw))
  replace E_ro := E_ro.wr W13
  replace F_intCompact_ro := F_intCompact_ro.other W13 (Or.inl nx1)
  replace F_scale_ro := F_scale_ro.other W13 (Or.inl nx1)
  replace K0 := K0.wr W13 (Or.inl (List.mem_of_getElem? (i := 0) rfl))
  replace Z0 := Nat.le_trans Z0 (Keep.of_wr W13).1
  replace N0 := Fr.snoc X13 N0 g_o0
  show own_Go p e below _ (T13.setTop (mkF m 95 #[rv o0, rv o0] []))
  exact own_retV X13 Bd.notSynchronized hx Bd.returns (hb hby d5_95) (by
      rw [show T13.heap = h13 from e13]
      exact ⟨rfl, N0, K0, E_o0, F_whole_o0, F_rest_o0⟩) (by decide) (by decide)

theorem d5_61 : decode prog_48_method_5_code 61 = .ok (.aload_n 0, 1) := by decide +kernel
theorem d5_62 : decode prog_48_method_5_code 62 = .ok (.aload_n 0, 1) := by decide +kernel
theorem d5_63 : decode prog_48_method_5_code 63 = .ok (.getfield 15, 3) := by decide +kernel
theorem d5_66 : decode prog_48_method_5_code 66 = .ok (.aload_n 1, 1) := by decide +kernel
theorem d5_67 : decode prog_48_method_5_code 67 = .ok (.getfield 45, 3) := by decide +kernel
theorem d5_70 : decode prog_48_method_5_code 70 = .ok (.invokestatic 59, 3) := by decide +kernel
theorem d5_73 : decode prog_48_method_5_code 73 = .ok (.invokevirtual 34, 3) := by decide +kernel
theorem d5_76 : decode prog_48_method_5_code 76 = .ok (.putfield 15, 3) := by decide +kernel
theorem d5_79 : decode prog_48_method_5_code 79 = .ok (.goto 16, 3) := by decide +kernel
def Q5_b (Z : State) (o0 : Addr) (o1 : Addr) (w1 : Int64) (ro : Addr) (w2 : Int64) (rp : Addr) (h0 : Heap) (n0 : Nat) (v : Option Value) (h : Heap) (L : List Loc) : Prop := ∃ r : Addr, v = none ∧ Fr n0 L ∧ Keep h0 h [o0] ∧ Exa Z h o0 "com/example/foray/foray/graph/Sum" ∧ Fld Z h o0 "com/example/foray/foray/graph/Sum" "whole" "J" (.long w1) ∧ Fld Z h o0 "com/example/foray/foray/graph/Sum" "rest" "Ljava/math/BigDecimal;" (.ref r) ∧ Exa Z h r "java/math/BigDecimal" ∧ Fld Z h r "java/math/BigDecimal" "intCompact" "J" (.long w2) ∧ Fld Z h r "java/math/BigDecimal" "scale" "I" (.int (0 : Int32))
set_option maxRecDepth 65536 in
set_option maxHeartbeats 40000000 in
theorem rm5_b (l : Launch) (Z : State) (a0 : Array Value) (hw : ∀ d ∈ tables_1, d.before a0 Z = true) (ws : List Jvm.Cond) (o0 : Addr) (o1 : Addr) (w1 : Int64) (ro : Addr) (w2 : Int64) (rp : Addr) (h0 : Heap) (n0 : Nat) (Z0 : n0 ≤ h0.size) (E_o0 : Exa Z h0 o0 "com/example/foray/foray/graph/Sum") (F_whole_o0 : Fld Z h0 o0 "com/example/foray/foray/graph/Sum" "whole" "J" (.long w1)) (F_rest_o0 : Fld Z h0 o0 "com/example/foray/foray/graph/Sum" "rest" "Ljava/math/BigDecimal;" (.ref ro)) (E_ro : Exa Z h0 ro "java/math/BigDecimal") (F_intCompact_ro : Fld Z h0 ro "java/math/BigDecimal" "intCompact" "J" (.long (0 : Int64))) (F_scale_ro : Fld Z h0 ro "java/math/BigDecimal" "scale" "I" (.int (0 : Int32))) (E_o1 : Exa Z h0 o1 "com/example/foray/foray/graph/Sum") (F_whole_o1 : Fld Z h0 o1 "com/example/foray/foray/graph/Sum" "whole" "J" (.long w2)) (F_rest_o1 : Fld Z h0 o1 "com/example/foray/foray/graph/Sum" "rest" "Ljava/math/BigDecimal;" (.ref rp)) (E_rp : Exa Z h0 rp "java/math/BigDecimal") (F_intCompact_rp : Fld Z h0 rp "java/math/BigDecimal" "intCompact" "J" (.long (0 : Int64))) (F_scale_rp : Fld Z h0 rp "java/math/BigDecimal" "scale" "I" (.int (0 : Int32))) (ne_o0_o1 : o0 ≠ o1) (g_o0 : n0 ≤ o0) (OZ : Old Z n0 h0) (hBD : own_BD Z) (hp0 : w1 < (4611686018427387904 : Int64)) (hp1 : (-4611686018427387904 : Int64) < w1) (hbig : ¬ (w2 < (4611686018427387904 : Int64)) ∨ ¬ ((-4611686018427387904 : Int64) < w2)) (hp2 : ¬ (w2 = (-9223372036854775808 : Int64))) :
    MetFree l (⟨"com/example/foray/foray/graph/Sum", "add", "(Lcom/example/foray/foray/graph/Sum;)V"⟩ : MethodName) (head1 (Jvm.Cond.code (⟨"com/example/foray/foray/graph/Sum", "add", "(Lcom/example/foray/foray/graph/Sum;)V"⟩ : MethodName) prog_48_method_5_code 2 none :: ws) ({ frames := 8, cells := 2, slots := 10, locals := 124 } : Room)) (fun a U => a = #[(.ref o0), (.ref o1)] ∧ Z.Warmed39 U.vm ∧ U.heap = h0) (fun _ _ _ _ _ => True) (fun _ U o U' => ∃ v L, o = .returned v ∧ Q5_b Z o0 o1 w1 ro w2 rp h0 n0 v U'.heap L ∧ FrameEnd U o U' L ({ frames := 8, cells := 2, slots := 10, locals := 124 } : Room).cells ({ frames := 8, cells := 2, slots := 10, locals := 124 } : Room).slots) := by
  refine MetFree.of_bodySF (plainFor_of_name pn_5) hisR ?_
  intro p e s m args below meth c s₁ Bd hml0 hP hK
  obtain ⟨rfl, hZ, hh⟩ := hP
  have hx := Bd.exec
  have hby := Bd.bytes
  have hml : c.maxLocals = 2 := hml0
  have hown : s.vm.findClass "com/example/foray/foray/graph/Sum" = some m.cls := findClass_of_methodNamed Bd.named
  have hnm := (name_of_methodNamed Bd.named Bd.method).1
  have X0 : Stand p l e ({ frames := 8, cells := 2, slots := 10, locals := 124 } : Room) s m #[(.ref o0), (.ref o1)] below meth c s₁ [] 0 0 := Stand.of_body Bd
  have e0 : s₁.heap = h0 := by rw [← hh, Bd.state]; rfl
  have N0 := Fr.nil n0
  have K0 : Keep h0 h0 [o0] := Keep.refl h0 _
  change own_Go p e below (own_Post s (Q5_b Z o0 o1 w1 ro w2 rp h0 n0) ({ frames := 8, cells := 2, slots := 10, locals := 124 } : Room).cells ({ frames := 8, cells := 2, slots := 10, locals := 124 } : Room).slots) (s₁.setTop (entryFrame m #[(.ref o0), (.ref o1)] 2))
  refine own_by (fun t k => castTop (ef_5 m o0 o1) k) ?_
  show own_Go p e below _ (s₁.setTop (mkF m 0 #[rv o0, rv o1] []))
  refine own_by (B := s₁.setTop (mkF m 1 #[rv o0, rv o1] [(.ref o1)])) (fun t k => ?_) ?_
  · show Steps p.tables e below (s₁.setTop (mkF m 0 #[rv o0, rv o1] [])) _
    refine XS.aloadN X0.here hx rfl (hb hby d5_0) rfl rfl ?_
    show Steps p.tables e below (s₁.setTop (mkF m 1 #[rv o0, rv o1] [(.ref o1)])) _
    exact k
  refine own_c1 (getF X0 hx hZ hown (host := "") (Or.inl (hw _ (List.mem_of_getElem? (i := 14) rfl))) Via.refl e0 F_rest_o1 rfl rfl (hb hby d5_1)) fun T1 X1 e1 => ?_
  show own_Go p e below _ (T1.setTop (mkF m 4 #[rv o0, rv o1] [(.ref rp)]))
  refine own_cc (own_callV X1 hx hZ (y := (⟨"java/math/BigDecimal", "signum", "()I"⟩ : MethodName)) (z := (⟨"java/math/BigDecimal", "signum", "()I"⟩ : MethodName)) hown (hw _ (List.mem_of_getElem? (i := 34) rfl)) (hw _ (List.mem_of_getElem? (i := 35) rfl)) (notFace_of_selects (args := #[]) (mvT hZ (hw _ (List.mem_of_getElem? (i := 37) rfl)))) (hw _ (List.mem_of_getElem? (i := 37) rfl)) (hw _ (List.mem_of_getElem? (i := 36) rfl)) (hw _ (List.mem_of_getElem? (i := 13) rfl)) (hw _ (List.mem_of_getElem? (i := 38) rfl)) (by decide) (rm6 l Z a0 hw [] rp (0 : Int64) h0 n0 Z0 F_intCompact_rp (by decide : ¬ ((0 : Int64) = (-9223372036854775808 : Int64)))) e1 0 (by decide) (by decide) (by decide) (by decide) rfl (by rw [hml]; rfl) rp E_rp [] [] rfl (lenOf pd_3 rfl) rfl (by show 2 * 0 + _ ≤ _; exact Nat.le_of_eq rfl) (hb hby d5_4)) fun T3 L3 v3 X3 hQ3 => ?_
  obtain ⟨rfl, N3, e3⟩ := hQ3
  replace N0 := Fr.app N0 N3
  show own_Go p e below _ (T3.setTop (mkF m 7 #[rv o0, rv o1] [(.int (fsg (0 : Int64)))]))
  refine own_by (B := T3.setTop (mkF m 11 #[rv o0, rv o1] [(.ref o1)])) (fun t k => ?_) ?_
  · show Steps p.tables e below (T3.setTop (mkF m 7 #[rv o0, rv o1] [(.int (fsg (0 : Int64)))])) _
    refine XS.ifNo X3.here hx rfl (hb hby d5_7) rfl ((if0 _ _).trans (teq (by decide)).2) ?_
    show Steps p.tables e below (T3.setTop (mkF m 10 #[rv o0, rv o1] [])) _
    refine XS.aloadN X3.here hx rfl (hb hby d5_10) rfl rfl ?_
    show Steps p.tables e below (T3.setTop (mkF m 11 #[rv o0, rv o1] [(.ref o1)])) _
    exact k
  refine own_c1 (getF X3 hx hZ hown (host := "") (Or.inl (hw _ (List.mem_of_getElem? (i := 14) rfl))) Via.refl e3 F_rest_o1 rfl rfl (hb hby d5_11)) fun T4 X4 e4 => ?_
  show own_Go p e below _ (T4.setTop (mkF m 14 #[rv o0, rv o1] [(.ref rp)]))
  refine own_cc (own_callV X4 hx hZ (y := (⟨"java/math/BigDecimal", "scale", "()I"⟩ : MethodName)) (z := (⟨"java/math/BigDecimal", "scale", "()I"⟩ : MethodName)) hown (hw _ (List.mem_of_getElem? (i := 46) rfl)) (hw _ (List.mem_of_getElem? (i := 47) rfl)) (notFace_of_selects (args := #[]) (mvT hZ (hw _ (List.mem_of_getElem? (i := 49) rfl)))) (hw _ (List.mem_of_getElem? (i := 49) rfl)) (hw _ (List.mem_of_getElem? (i := 48) rfl)) (hw _ (List.mem_of_getElem? (i := 13) rfl)) (hw _ (List.mem_of_getElem? (i := 50) rfl)) (by decide) (rm8 l Z a0 hw [] rp (0 : Int32) h0 n0 Z0 F_scale_rp) e4 0 (by decide) (by decide) (by decide) (by decide) rfl (by rw [hml]; rfl) rp E_rp [] [] rfl (lenOf pd_3 rfl) rfl (by show 2 * 0 + _ ≤ _; exact Nat.le_of_eq rfl) (hb hby d5_14)) fun T6 L6 v6 X6 hQ6 => ?_
  obtain ⟨rfl, N6, e6⟩ := hQ6
  replace N0 := Fr.app N0 N6
  show own_Go p e below _ (T6.setTop (mkF m 17 #[rv o0, rv o1] [(.int (0 : Int32))]))
  refine own_by (B := T6.setTop (mkF m 36 #[rv o0, rv o1] [(.ref o0)])) (fun t k => ?_) ?_
  · show Steps p.tables e below (T6.setTop (mkF m 17 #[rv o0, rv o1] [(.int (0 : Int32))])) _
    refine XS.ifYes X6.here hx rfl (pc0 := 17) (pc' := 35) rfl (hb hby d5_17) rfl ((if0 _ _).trans (teq (by decide : (0 : Int32) = (0 : Int32))).1) (by decide) (by decide) ?_
    show Steps p.tables e below (T6.setTop (mkF m 35 #[rv o0, rv o1] [])) _
    refine XS.aloadN X6.here hx rfl (hb hby d5_35) rfl rfl ?_
    show Steps p.tables e below (T6.setTop (mkF m 36 #[rv o0, rv o1] [(.ref o0)])) _
    exact k
  refine own_cc (own_callP X6 hx hZ (y := (⟨"com/example/foray/foray/graph/Sum", "makeRoom", "()V"⟩ : MethodName)) hown (hw _ (List.mem_of_getElem? (i := 21) rfl)) (hw _ (List.mem_of_getElem? (i := 22) rfl)) (hw _ (List.mem_of_getElem? (i := 5) rfl)) (hw _ (List.mem_of_getElem? (i := 24) rfl)) (hw _ (List.mem_of_getElem? (i := 23) rfl)) (hw _ (List.mem_of_getElem? (i := 4) rfl)) (by decide) (rm4_a l Z a0 hw [] o0 w1 h0 n0 Z0 F_whole_o0 hp0 hp1) e6 0 (by decide) (by decide) (by decide) (by decide) rfl (by rw [hml]; rfl) o0 E_o0 [] [] rfl (lenOf pd_0 rfl) rfl (by show 2 * 0 + _ ≤ _; exact Nat.le_of_eq rfl) (hb hby d5_36)) fun T8 L8 v8 X8 hQ8 => ?_
  obtain ⟨rfl, N8, e8⟩ := hQ8
  replace N0 := Fr.app N0 N8
  show own_Go p e below _ (T8.setTop (mkF m 39 #[rv o0, rv o1] []))
  refine own_by (B := T8.setTop (mkF m 40 #[rv o0, rv o1] [(.ref o1)])) (fun t k => ?_) ?_
  · show Steps p.tables e below (T8.setTop (mkF m 39 #[rv o0, rv o1] [])) _
    refine XS.aloadN X8.here hx rfl (hb hby d5_39) rfl rfl ?_
    show Steps p.tables e below (T8.setTop (mkF m 40 #[rv o0, rv o1] [(.ref o1)])) _
    exact k
  refine own_c1 (getF X8 hx hZ hown (host := "") (Or.inl (hw _ (List.mem_of_getElem? (i := 25) rfl))) Via.refl e8 F_whole_o1 rfl rfl (hb hby d5_40)) fun T9 X9 e9 => ?_
  show own_Go p e below _ (T9.setTop (mkF m 43 #[rv o0, rv o1] [(.long w2)]))
  refine own_by (B := T9.setTop (mkF m 47 #[rv o0, rv o1] [(.int (lcmpW w2 (4611686018427387904 : Int64)))])) (fun t k => ?_) ?_
  · show Steps p.tables e below (T9.setTop (mkF m 43 #[rv o0, rv o1] [(.long w2)])) _
    refine X9.ldc2Long hx hown (mvT hZ (hw _ (List.mem_of_getElem? (i := 27) rfl))) (g := (mkF m 43 #[rv o0, rv o1] [(.long w2)])) rfl (hb hby d5_43) _ ?_
    show Steps p.tables e below (T9.setTop (mkF m 46 #[rv o0, rv o1] [(.long (4611686018427387904 : Int64)), (.long w2)])) _
    refine XS.lcmp X9.here hx rfl (hb hby d5_46) rfl ?_
    show Steps p.tables e below (T9.setTop (mkF m 47 #[rv o0, rv o1] [(.int (lcmpW w2 (4611686018427387904 : Int64)))])) _
    exact k
  by_cases hc11 : w2 < (4611686018427387904 : Int64)
  · skip
    refine own_by (fun t k => XS.ifNo X9.here hx rfl (hb hby d5_47) rfl ((if0 _ _).trans (tlt ((lw_lt _ _).mpr hc11)).2.1) k) ?_
    show own_Go p e below _ (T9.setTop (mkF m 50 #[rv o0, rv o1] []))
    refine own_by (B := T9.setTop (mkF m 51 #[rv o0, rv o1] [(.ref o1)])) (fun t k => ?_) ?_
    · show Steps p.tables e below (T9.setTop (mkF m 50 #[rv o0, rv o1] [])) _
      refine XS.aloadN X9.here hx rfl (hb hby d5_50) rfl rfl ?_
      show Steps p.tables e below (T9.setTop (mkF m 51 #[rv o0, rv o1] [(.ref o1)])) _
      exact k
    refine own_c1 (getF X9 hx hZ hown (host := "") (Or.inl (hw _ (List.mem_of_getElem? (i := 25) rfl))) Via.refl e9 F_whole_o1 rfl rfl (hb hby d5_51)) fun T12 X12 e12 => ?_
    show own_Go p e below _ (T12.setTop (mkF m 54 #[rv o0, rv o1] [(.long w2)]))
    refine own_by (B := T12.setTop (mkF m 63 #[rv o0, rv o1] [(.ref o0), (.ref o0)])) (fun t k => ?_) ?_
    · show Steps p.tables e below (T12.setTop (mkF m 54 #[rv o0, rv o1] [(.long w2)])) _
      refine X12.ldc2Long hx hown (mvT hZ (hw _ (List.mem_of_getElem? (i := 28) rfl))) (g := (mkF m 54 #[rv o0, rv o1] [(.long w2)])) rfl (hb hby d5_54) _ ?_
      show Steps p.tables e below (T12.setTop (mkF m 57 #[rv o0, rv o1] [(.long (-4611686018427387904 : Int64)), (.long w2)])) _
      refine XS.lcmp X12.here hx rfl (hb hby d5_57) rfl ?_
      show Steps p.tables e below (T12.setTop (mkF m 58 #[rv o0, rv o1] [(.int (lcmpW w2 (-4611686018427387904 : Int64)))])) _
      refine XS.ifNo X12.here hx rfl (hb hby d5_58) rfl ((if0 _ _).trans (flt (fun q => (hbig.resolve_left (not_not_intro hc11)) ((lw_gt _ _).mp q))).2.2.1) ?_
      show Steps p.tables e below (T12.setTop (mkF m 61 #[rv o0, rv o1] [])) _
      refine XS.aloadN X12.here hx rfl (hb hby d5_61) rfl rfl ?_
      show Steps p.tables e below (T12.setTop (mkF m 62 #[rv o0, rv o1] [(.ref o0)])) _
      refine XS.aloadN X12.here hx rfl (hb hby d5_62) rfl rfl ?_
      show Steps p.tables e below (T12.setTop (mkF m 63 #[rv o0, rv o1] [(.ref o0), (.ref o0)])) _
      exact k
    refine own_c1 (getF X12 hx hZ hown (host := "") (Or.inl (hw _ (List.mem_of_getElem? (i := 14) rfl))) Via.refl e12 F_rest_o0 rfl rfl (hb hby d5_63)) fun T13 X13 e13 => ?_
    show own_Go p e below _ (T13.setTop (mkF m 66 #[rv o0, rv o1] [(.ref ro), (.ref o0)]))
    refine own_by (B := T13.setTop (mkF m 67 #[rv o0, rv o1] [(.ref o1), (.ref ro), (.ref o0)])) (fun t k => ?_) ?_
    · show Steps p.tables e below (T13.setTop (mkF m 66 #[rv o0, rv o1] [(.ref ro), (.ref o0)])) _
      refine XS.aloadN X13.here hx rfl (hb hby d5_66) rfl rfl ?_
      show Steps p.tables e below (T13.setTop (mkF m 67 #[rv o0, rv o1] [(.ref o1), (.ref ro), (.ref o0)])) _
      exact k
    refine own_c1 (getF X13 hx hZ hown (host := "") (Or.inl (hw _ (List.mem_of_getElem? (i := 25) rfl))) Via.refl e13 F_whole_o1 rfl rfl (hb hby d5_67)) fun T14 X14 e14 => ?_
    show own_Go p e below _ (T14.setTop (mkF m 70 #[rv o0, rv o1] [(.long w2), (.ref ro), (.ref o0)]))
    refine own_cc (own_callS X14 hx hZ (y := (⟨"java/math/BigDecimal", "valueOf", "(J)Ljava/math/BigDecimal;"⟩ : MethodName)) hown (hw _ (List.mem_of_getElem? (i := 53) rfl)) (hw _ (List.mem_of_getElem? (i := 54) rfl)) (hw _ (List.mem_of_getElem? (i := 13) rfl)) (hw _ (List.mem_of_getElem? (i := 55) rfl)) (by decide) (rm9 l Z a0 hw [] w2 h0 n0 Z0 OZ hBD hp2) e14 2 (by decide) (by decide) (by decide) (by decide) rfl (by rw [hml]; rfl) [(.long w2)] [(.ref ro), (.ref o0)] rfl (lenOf pd_5 rfl) rfl (by show 2 * 0 + _ ≤ _; exact Nat.le_of_eq rfl) (hb hby d5_70)) fun T16 L16 v16 X16 hQ16 => ?_
    obtain ⟨r_16, rfl, N16, K16, E_r_16', F_intCompact_r_16', F_scale_r_16'⟩ := hQ16
    replace N0 := Fr.app N0 N16
    replace E_o0 := E_o0.keep K16
    replace F_whole_o0 := F_whole_o0.keep K16 nin0
    replace F_rest_o0 := F_rest_o0.keep K16 nin0
    replace E_ro := E_ro.keep K16
    replace F_intCompact_ro := F_intCompact_ro.keep K16 nin0
    replace F_scale_ro := F_scale_ro.keep K16 nin0
    replace E_o1 := E_o1.keep K16
    replace F_whole_o1 := F_whole_o1.keep K16 nin0
    replace F_rest_o1 := F_rest_o1.keep K16 nin0
    replace E_rp := E_rp.keep K16
    replace F_intCompact_rp := F_intCompact_rp.keep K16 nin0
    replace F_scale_rp := F_scale_rp.keep K16 nin0
    replace OZ := OZ.keep K16 all0
    replace K0 := K0.trans K16 all0
    replace Z0 := Nat.le_trans Z0 K16.1
    have E_r_16 := E_r_16'
    have F_intCompact_r_16 := F_intCompact_r_16'
    have F_scale_r_16 := F_scale_r_16'
    show own_Go p e below _ (T16.setTop (mkF m 73 #[rv o0, rv o1] [(.ref r_16), (.ref ro), (.ref o0)]))
    refine own_cc (own_callV X16 hx hZ (y := (⟨"java/math/BigDecimal", "add", "(Ljava/math/BigDecimal;)Ljava/math/BigDecimal;"⟩ : MethodName)) (z := (⟨"java/math/BigDecimal", "add", "(Ljava/math/BigDecimal;)Ljava/math/BigDecimal;"⟩ : MethodName)) hown (hw _ (List.mem_of_getElem? (i := 74) rfl)) (hw _ (List.mem_of_getElem? (i := 75) rfl)) (notFace_of_selects (args := #[]) (mvT hZ (hw _ (List.mem_of_getElem? (i := 77) rfl)))) (hw _ (List.mem_of_getElem? (i := 77) rfl)) (hw _ (List.mem_of_getElem? (i := 76) rfl)) (hw _ (List.mem_of_getElem? (i := 13) rfl)) (hw _ (List.mem_of_getElem? (i := 78) rfl)) (by decide) (rm12 l Z a0 hw [] ro r_16 (0 : Int64) w2 T16.heap n0 Z0 OZ hBD F_intCompact_ro F_scale_ro F_intCompact_r_16 F_scale_r_16 (by decide) hp2 (by rw [own_add0]; exact hp2)) (rfl : T16.heap = _) 1 (by decide) (by decide) (by decide) (by decide) rfl (by rw [hml]; rfl) ro E_ro [(.ref r_16)] [(.ref o0)] rfl (lenOf pd_7 rfl) rfl (by show 2 * 0 + _ ≤ _; exact Nat.le_of_eq rfl) (hb hby d5_73)) fun T18 L18 v18 X18 hQ18 => ?_
    obtain ⟨r_18, rfl, N18, K18, E_r_18', F_intCompact_r_18', F_scale_r_18'⟩ := hQ18
    replace N0 := Fr.app N0 N18
    replace E_o0 := E_o0.keep K18
    replace F_whole_o0 := F_whole_o0.keep K18 nin0
    replace F_rest_o0 := F_rest_o0.keep K18 nin0
    replace E_ro := E_ro.keep K18
    replace F_intCompact_ro := F_intCompact_ro.keep K18 nin0
    replace F_scale_ro := F_scale_ro.keep K18 nin0
    replace E_o1 := E_o1.keep K18
    replace F_whole_o1 := F_whole_o1.keep K18 nin0
    replace F_rest_o1 := F_rest_o1.keep K18 nin0
    replace E_rp := E_rp.keep K18
    replace F_intCompact_rp := F_intCompact_rp.keep K18 nin0
    replace F_scale_rp := F_scale_rp.keep K18 nin0
    replace E_r_16 := E_r_16.keep K18
    replace F_intCompact_r_16 := F_intCompact_r_16.keep K18 nin0
    replace F_scale_r_16 := F_scale_r_16.keep K18 nin0
    replace OZ := OZ.keep K18 all0
    replace K0 := K0.trans K18 all0
    replace Z0 := Nat.le_trans Z0 K18.1
    have E_r_18 := E_r_18'
    have F_intCompact_r_18 := F_intCompact_r_18'
    have F_scale_r_18 := F_scale_r_18'
    rw [own_add0] at F_intCompact_r_18
    show own_Go p e below _ (T18.setTop (mkF m 76 #[rv o0, rv o1] [(.ref r_18), (.ref o0)]))
    refine own_c2 (putF X18 hx hZ hown (host := "") (Or.inl (hw _ (List.mem_of_getElem? (i := 14) rfl))) Via.refl rfl F_rest_o0 E_o0 (Or.inl (hw _ (List.mem_of_getElem? (i := 15) rfl))) (hw _ (List.mem_of_getElem? (i := 4) rfl)) (ty := (.object "java/math/BigDecimal")) (by decide) rfl rfl rfl rfl (hb hby d5_76)) fun T19 h19 X19 e19 W19 => ?_
    replace F_rest_o0 := F_rest_o0.same W19
    have nx1 : ro ≠ o0 := (ne_exa E_ro E_o0 (by decide))
    have nx2 : rp ≠ o0 := (ne_exa E_rp E_o0 (by decide))
    have nx3 : r_16 ≠ o0 := (ne_exa E_r_16 E_o0 (by decide))
    have nx4 : r_18 ≠ o0 := (ne_exa E_r_18 E_o0 (by decide))
    replace E_o0 := E_o0.wr W19
    replace F_whole_o0 := F_whole_o0.other W19 (Or.inr (sn12 hw))
    replace E_ro := E_ro.wr W19
    replace F_intCompact_ro := F_intCompact_ro.other W19 (Or.inl nx1)
    replace F_scale_ro := F_scale_ro.other W19 (Or.inl nx1)
    replace E_o1 := E_o1.wr W19
    replace F_whole_o1 := F_whole_o1.other W19 (Or.inl (Ne.symm ne_o0_o1))
    replace F_rest_o1 := F_rest_o1.other W19 (Or.inl (Ne.symm ne_o0_o1))
    replace E_rp := E_rp.wr W19
    replace F_intCompact_rp := F_intCompact_rp.other W19 (Or.inl nx2)
    replace F_scale_rp := F_scale_rp.other W19 (Or.inl nx2)
    replace E_r_16 := E_r_16.wr W19
    replace F_intCompact_r_16 := F_intCompact_r_16.other W19 (Or.inl nx3)
    replace F_scale_r_16 := F_scale_r_16.other W19 (Or.inl nx3)
    replace E_r_18 := E_r_18.wr W19
    replace F_intCompact_r_18 := F_intCompact_r_18.other W19 (Or.inl nx4)
    replace F_scale_r_18 := F_scale_r_18.other W19 (Or.inl nx4)
    replace OZ := OZ.wr W19 g_o0
    replace K0 := K0.wr W19 (Or.inl (List.mem_of_getElem? (i := 0) rfl))
    replace Z0 := Nat.le_trans Z0 (Keep.of_wr W19).1
    replace N0 := Fr.snoc X19 N0 g_o0
    show own_Go p e below _ (T19.setTop (mkF m 79 #[rv o0, rv o1] []))
    refine own_by (B := T19.setTop (mkF m 95 #[rv o0, rv o1] [])) (fun t k => ?_) ?_
    · show Steps p.tables e below (T19.setTop (mkF m 79 #[rv o0, rv o1] [])) _
      refine XS.goto X19.here hx rfl (pc0 := 79) (pc' := 95) rfl (hb hby d5_79) (by decide) (by decide) ?_
      show Steps p.tables e below (T19.setTop (mkF m 95 #[rv o0, rv o1] [])) _
      exact k
    exact own_retV X19 Bd.notSynchronized hx Bd.returns (hb hby d5_95) (by
        rw [show T19.heap = h19 from e19]
        exact ⟨r_18, rfl, N0, K0, E_o0, F_whole_o0, F_rest_o0, E_r_18, F_intCompact_r_18, F_scale_r_18⟩) (by decide) (by decide)
  · skip
    refine own_by (fun t k => XS.ifYes X9.here hx rfl (pc0 := 47) (pc' := 61) rfl (hb hby d5_47) rfl ((if0 _ _).trans (flt (fun q => hc11 ((lw_lt _ _).mp q))).2.1) (by decide) (by decide) k) ?_
    show own_Go p e below _ (T9.setTop (mkF m 61 #[rv o0, rv o1] []))
    refine own_by (B := T9.setTop (mkF m 63 #[rv o0, rv o1] [(.ref o0), (.ref o0)])) (fun t k => ?_) ?_
    · show Steps p.tables e below (T9.setTop (mkF m 61 #[rv o0, rv o1] [])) _
      refine XS.aloadN X9.here hx rfl (hb hby d5_61) rfl rfl ?_
      show Steps p.tables e below (T9.setTop (mkF m 62 #[rv o0, rv o1] [(.ref o0)])) _
      refine XS.aloadN X9.here hx rfl (hb hby d5_62) rfl rfl ?_
      show Steps p.tables e below (T9.setTop (mkF m 63 #[rv o0, rv o1] [(.ref o0), (.ref o0)])) _
      exact k
    refine own_c1 (getF X9 hx hZ hown (host := "") (Or.inl (hw _ (List.mem_of_getElem? (i := 14) rfl))) Via.refl e9 F_rest_o0 rfl rfl (hb hby d5_63)) fun T20 X20 e20 => ?_
    show own_Go p e below _ (T20.setTop (mkF m 66 #[rv o0, rv o1] [(.ref ro), (.ref o0)]))
    refine own_by (B := T20.setTop (mkF m 67 #[rv o0, rv o1] [(.ref o1), (.ref ro), (.ref o0)])) (fun t k => ?_) ?_
    · show Steps p.tables e below (T20.setTop (mkF m 66 #[rv o0, rv o1] [(.ref ro), (.ref o0)])) _
      refine XS.aloadN X20.here hx rfl (hb hby d5_66) rfl rfl ?_
      show Steps p.tables e below (T20.setTop (mkF m 67 #[rv o0, rv o1] [(.ref o1), (.ref ro), (.ref o0)])) _
      exact k
    refine own_c1 (getF X20 hx hZ hown (host := "") (Or.inl (hw _ (List.mem_of_getElem? (i := 25) rfl))) Via.refl e20 F_whole_o1 rfl rfl (hb hby d5_67)) fun T21 X21 e21 => ?_
    show own_Go p e below _ (T21.setTop (mkF m 70 #[rv o0, rv o1] [(.long w2), (.ref ro), (.ref o0)]))
    refine own_cc (own_callS X21 hx hZ (y := (⟨"java/math/BigDecimal", "valueOf", "(J)Ljava/math/BigDecimal;"⟩ : MethodName)) hown (hw _ (List.mem_of_getElem? (i := 53) rfl)) (hw _ (List.mem_of_getElem? (i := 54) rfl)) (hw _ (List.mem_of_getElem? (i := 13) rfl)) (hw _ (List.mem_of_getElem? (i := 55) rfl)) (by decide) (rm9 l Z a0 hw [] w2 h0 n0 Z0 OZ hBD hp2) e21 2 (by decide) (by decide) (by decide) (by decide) rfl (by rw [hml]; rfl) [(.long w2)] [(.ref ro), (.ref o0)] rfl (lenOf pd_5 rfl) rfl (by show 2 * 0 + _ ≤ _; exact Nat.le_of_eq rfl) (hb hby d5_70)) fun T23 L23 v23 X23 hQ23 => ?_
    obtain ⟨r_23, rfl, N23, K23, E_r_23', F_intCompact_r_23', F_scale_r_23'⟩ := hQ23
    replace N0 := Fr.app N0 N23
    replace E_o0 := E_o0.keep K23
    replace F_whole_o0 := F_whole_o0.keep K23 nin0
    replace F_rest_o0 := F_rest_o0.keep K23 nin0
    replace E_ro := E_ro.keep K23
    replace F_intCompact_ro := F_intCompact_ro.keep K23 nin0
    replace F_scale_ro := F_scale_ro.keep K23 nin0
    replace E_o1 := E_o1.keep K23
    replace F_whole_o1 := F_whole_o1.keep K23 nin0
    replace F_rest_o1 := F_rest_o1.keep K23 nin0
    replace E_rp := E_rp.keep K23
    replace F_intCompact_rp := F_intCompact_rp.keep K23 nin0
    replace F_scale_rp := F_scale_rp.keep K23 nin0
    replace OZ := OZ.keep K23 all0
    replace K0 := K0.trans K23 all0
    replace Z0 := Nat.le_trans Z0 K23.1
    have E_r_23 := E_r_23'
    have F_intCompact_r_23 := F_intCompact_r_23'
    have F_scale_r_23 := F_scale_r_23'
    show own_Go p e below _ (T23.setTop (mkF m 73 #[rv o0, rv o1] [(.ref r_23), (.ref ro), (.ref o0)]))
    refine own_cc (own_callV X23 hx hZ (y := (⟨"java/math/BigDecimal", "add", "(Ljava/math/BigDecimal;)Ljava/math/BigDecimal;"⟩ : MethodName)) (z := (⟨"java/math/BigDecimal", "add", "(Ljava/math/BigDecimal;)Ljava/math/BigDecimal;"⟩ : MethodName)) hown (hw _ (List.mem_of_getElem? (i := 74) rfl)) (hw _ (List.mem_of_getElem? (i := 75) rfl)) (notFace_of_selects (args := #[]) (mvT hZ (hw _ (List.mem_of_getElem? (i := 77) rfl)))) (hw _ (List.mem_of_getElem? (i := 77) rfl)) (hw _ (List.mem_of_getElem? (i := 76) rfl)) (hw _ (List.mem_of_getElem? (i := 13) rfl)) (hw _ (List.mem_of_getElem? (i := 78) rfl)) (by decide) (rm12 l Z a0 hw [] ro r_23 (0 : Int64) w2 T23.heap n0 Z0 OZ hBD F_intCompact_ro F_scale_ro F_intCompact_r_23 F_scale_r_23 (by decide) hp2 (by rw [own_add0]; exact hp2)) (rfl : T23.heap = _) 1 (by decide) (by decide) (by decide) (by decide) rfl (by rw [hml]; rfl) ro E_ro [(.ref r_23)] [(.ref o0)] rfl (lenOf pd_7 rfl) rfl (by show 2 * 0 + _ ≤ _; exact Nat.le_of_eq rfl) (hb hby d5_73)) fun T25 L25 v25 X25 hQ25 => ?_
    obtain ⟨r_25, rfl, N25, K25, E_r_25', F_intCompact_r_25', F_scale_r_25'⟩ := hQ25
    replace N0 := Fr.app N0 N25
    replace E_o0 := E_o0.keep K25
    replace F_whole_o0 := F_whole_o0.keep K25 nin0
    replace F_rest_o0 := F_rest_o0.keep K25 nin0
    replace E_ro := E_ro.keep K25
    replace F_intCompact_ro := F_intCompact_ro.keep K25 nin0
    replace F_scale_ro := F_scale_ro.keep K25 nin0
    replace E_o1 := E_o1.keep K25
    replace F_whole_o1 := F_whole_o1.keep K25 nin0
    replace F_rest_o1 := F_rest_o1.keep K25 nin0
    replace E_rp := E_rp.keep K25
    replace F_intCompact_rp := F_intCompact_rp.keep K25 nin0
    replace F_scale_rp := F_scale_rp.keep K25 nin0
    replace E_r_23 := E_r_23.keep K25
    replace F_intCompact_r_23 := F_intCompact_r_23.keep K25 nin0
    replace F_scale_r_23 := F_scale_r_23.keep K25 nin0
    replace OZ := OZ.keep K25 all0
    replace K0 := K0.trans K25 all0
    replace Z0 := Nat.le_trans Z0 K25.1
    have E_r_25 := E_r_25'
    have F_intCompact_r_25 := F_intCompact_r_25'
    have F_scale_r_25 := F_scale_r_25'
    rw [own_add0] at F_intCompact_r_25
    show own_Go p e below _ (T25.setTop (mkF m 76 #[rv o0, rv o1] [(.ref r_25), (.ref o0)]))
    refine own_c2 (putF X25 hx hZ hown (host := "") (Or.inl (hw _ (List.mem_of_getElem? (i := 14) rfl))) Via.refl rfl F_rest_o0 E_o0 (Or.inl (hw _ (List.mem_of_getElem? (i := 15) rfl))) (hw _ (List.mem_of_getElem? (i := 4) rfl)) (ty := (.object "java/math/BigDecimal")) (by decide) rfl rfl rfl rfl (hb hby d5_76)) fun T26 h26 X26 e26 W26 => ?_
    replace F_rest_o0 := F_rest_o0.same W26
    have nx5 : ro ≠ o0 := (ne_exa E_ro E_o0 (by decide))
    have nx6 : rp ≠ o0 := (ne_exa E_rp E_o0 (by decide))
    have nx7 : r_23 ≠ o0 := (ne_exa E_r_23 E_o0 (by decide))
    have nx8 : r_25 ≠ o0 := (ne_exa E_r_25 E_o0 (by decide))
    replace E_o0 := E_o0.wr W26
    replace F_whole_o0 := F_whole_o0.other W26 (Or.inr (sn12 hw))
    replace E_ro := E_ro.wr W26
    replace F_intCompact_ro := F_intCompact_ro.other W26 (Or.inl nx5)
    replace F_scale_ro := F_scale_ro.other W26 (Or.inl nx5)
    replace E_o1 := E_o1.wr W26
    replace F_whole_o1 := F_whole_o1.other W26 (Or.inl (Ne.symm ne_o0_o1))
    replace F_rest_o1 := F_rest_o1.other W26 (Or.inl (Ne.symm ne_o0_o1))
    replace E_rp := E_rp.wr W26
    replace F_intCompact_rp := F_intCompact_rp.other W26 (Or.inl nx6)
    replace F_scale_rp := F_scale_rp.other W26 (Or.inl nx6)
    replace E_r_23 := E_r_23.wr W26
    replace F_intCompact_r_23 := F_intCompact_r_23.other W26 (Or.inl nx7)
    replace F_scale_r_23 := F_scale_r_23.other W26 (Or.inl nx7)
    replace E_r_25 := E_r_25.wr W26
    replace F_intCompact_r_25 := F_intCompact_r_25.other W26 (Or.inl nx8)
    replace F_scale_r_25 := F_scale_r_25.other W26 (Or.inl nx8)
    replace OZ := OZ.wr W26 g_o0
    replace K0 := K0.wr W26 (Or.inl (List.mem_of_getElem? (i := 0) rfl))
    replace Z0 := Nat.le_trans Z0 (Keep.of_wr W26).1
    replace N0 := Fr.snoc X26 N0 g_o0
    show own_Go p e below _ (T26.setTop (mkF m 79 #[rv o0, rv o1] []))
    refine own_by (B := T26.setTop (mkF m 95 #[rv o0, rv o1] [])) (fun t k => ?_) ?_
    · show Steps p.tables e below (T26.setTop (mkF m 79 #[rv o0, rv o1] [])) _
      refine XS.goto X26.here hx rfl (pc0 := 79) (pc' := 95) rfl (hb hby d5_79) (by decide) (by decide) ?_
      show Steps p.tables e below (T26.setTop (mkF m 95 #[rv o0, rv o1] [])) _
      exact k
    exact own_retV X26 Bd.notSynchronized hx Bd.returns (hb hby d5_95) (by
        rw [show T26.heap = h26 from e26]
        exact ⟨r_25, rfl, N0, K0, E_o0, F_whole_o0, F_rest_o0, E_r_25, F_intCompact_r_25, F_scale_r_25⟩) (by decide) (by decide)

theorem d17_0 : decode prog_48_method_7_code 0 = .ok (.aload_n 0, 1) := by decide +kernel
theorem d17_1 : decode prog_48_method_7_code 1 = .ok (.aload_n 1, 1) := by decide +kernel
theorem d17_2 : decode prog_48_method_7_code 2 = .ok (.getfield 45, 3) := by decide +kernel
theorem d17_5 : decode prog_48_method_7_code 5 = .ok (.putfield 45, 3) := by decide +kernel
theorem d17_8 : decode prog_48_method_7_code 8 = .ok (.aload_n 0, 1) := by decide +kernel
theorem d17_9 : decode prog_48_method_7_code 9 = .ok (.aload_n 1, 1) := by decide +kernel
theorem d17_10 : decode prog_48_method_7_code 10 = .ok (.getfield 15, 3) := by decide +kernel
theorem d17_13 : decode prog_48_method_7_code 13 = .ok (.putfield 15, 3) := by decide +kernel
theorem d17_16 : decode prog_48_method_7_code 16 = .ok (.return_, 1) := by decide +kernel
theorem pn_17 : plainName "com/example/foray/foray/graph/Sum" = true := by first | (simp [plainName, overriddenIn]; done) | decide +kernel
theorem ef_17 (m : MethodId) (x0 : Addr) (x1 : Addr) : entryFrame m #[(.ref x0), (.ref x1)] 2 = mkF m 0 #[rv x0, rv x1] [] := by first | (simp [entryFrame, mkF, argsToLocals, Value.category]; done) | rfl
def Q17 (Z : State) (o0 : Addr) (o1 : Addr) (w1 : Int64) (ro : Addr) (w2 : Int64) (rp : Addr) (h0 : Heap) (n0 : Nat) (v : Option Value) (h : Heap) (L : List Loc) : Prop := v = none ∧ Fr n0 L ∧ Keep h0 h [o0] ∧ Exa Z h o0 "com/example/foray/foray/graph/Sum" ∧ Fld Z h o0 "com/example/foray/foray/graph/Sum" "whole" "J" (.long w2) ∧ Fld Z h o0 "com/example/foray/foray/graph/Sum" "rest" "Ljava/math/BigDecimal;" (.ref rp)
set_option maxRecDepth 65536 in
set_option maxHeartbeats 40000000 in
theorem rm17 (l : Launch) (Z : State) (a0 : Array Value) (hw : ∀ d ∈ tables_1, d.before a0 Z = true) (ws : List Jvm.Cond) (o0 : Addr) (o1 : Addr) (w1 : Int64) (ro : Addr) (w2 : Int64) (rp : Addr) (h0 : Heap) (n0 : Nat) (Z0 : n0 ≤ h0.size) (E_o0 : Exa Z h0 o0 "com/example/foray/foray/graph/Sum") (F_whole_o0 : Fld Z h0 o0 "com/example/foray/foray/graph/Sum" "whole" "J" (.long w1)) (F_rest_o0 : Fld Z h0 o0 "com/example/foray/foray/graph/Sum" "rest" "Ljava/math/BigDecimal;" (.ref ro)) (F_whole_o1 : Fld Z h0 o1 "com/example/foray/foray/graph/Sum" "whole" "J" (.long w2)) (F_rest_o1 : Fld Z h0 o1 "com/example/foray/foray/graph/Sum" "rest" "Ljava/math/BigDecimal;" (.ref rp)) (ne_o0_o1 : o0 ≠ o1) (g_o0 : n0 ≤ o0) :
    MetFree l (⟨"com/example/foray/foray/graph/Sum", "set", "(Lcom/example/foray/foray/graph/Sum;)V"⟩ : MethodName) (head1 (Jvm.Cond.code (⟨"com/example/foray/foray/graph/Sum", "set", "(Lcom/example/foray/foray/graph/Sum;)V"⟩ : MethodName) prog_48_method_7_code 2 none :: ws) ({ frames := 0, cells := 0, slots := 0, locals := 0 } : Room)) (fun a U => a = #[(.ref o0), (.ref o1)] ∧ Z.Warmed39 U.vm ∧ U.heap = h0) (fun _ _ _ _ _ => True) (fun _ U o U' => ∃ v L, o = .returned v ∧ Q17 Z o0 o1 w1 ro w2 rp h0 n0 v U'.heap L ∧ FrameEnd U o U' L ({ frames := 0, cells := 0, slots := 0, locals := 0 } : Room).cells ({ frames := 0, cells := 0, slots := 0, locals := 0 } : Room).slots) := by
  refine MetFree.of_bodySF (plainFor_of_name pn_17) hisR ?_
  intro p e s m args below meth c s₁ Bd hml0 hP hK
  obtain ⟨rfl, hZ, hh⟩ := hP
  have hx := Bd.exec
  have hby := Bd.bytes
  have hml : c.maxLocals = 2 := hml0
  have hown : s.vm.findClass "com/example/foray/foray/graph/Sum" = some m.cls := findClass_of_methodNamed Bd.named
  have hnm := (name_of_methodNamed Bd.named Bd.method).1
  have X0 : Stand p l e ({ frames := 0, cells := 0, slots := 0, locals := 0 } : Room) s m #[(.ref o0), (.ref o1)] below meth c s₁ [] 0 0 := Stand.of_body Bd
  have e0 : s₁.heap = h0 := by rw [← hh, Bd.state]; rfl
  have N0 := Fr.nil n0
  have K0 : Keep h0 h0 [o0] := Keep.refl h0 _
  change own_Go p e below (own_Post s (Q17 Z o0 o1 w1 ro w2 rp h0 n0) ({ frames := 0, cells := 0, slots := 0, locals := 0 } : Room).cells ({ frames := 0, cells := 0, slots := 0, locals := 0 } : Room).slots) (s₁.setTop (entryFrame m #[(.ref o0), (.ref o1)] 2))
  refine own_by (fun t k => castTop (ef_17 m o0 o1) k) ?_
  show own_Go p e below _ (s₁.setTop (mkF m 0 #[rv o0, rv o1] []))
  refine own_by (B := s₁.setTop (mkF m 2 #[rv o0, rv o1] [(.ref o1), (.ref o0)])) (fun t k => ?_) ?_
  · show Steps p.tables e below (s₁.setTop (mkF m 0 #[rv o0, rv o1] [])) _
    refine XS.aloadN X0.here hx rfl (hb hby d17_0) rfl rfl ?_
    show Steps p.tables e below (s₁.setTop (mkF m 1 #[rv o0, rv o1] [(.ref o0)])) _
    refine XS.aloadN X0.here hx rfl (hb hby d17_1) rfl rfl ?_
    show Steps p.tables e below (s₁.setTop (mkF m 2 #[rv o0, rv o1] [(.ref o1), (.ref o0)])) _
    exact k
  refine own_c1 (getF X0 hx hZ hown (host := "") (Or.inl (hw _ (List.mem_of_getElem? (i := 25) rfl))) Via.refl e0 F_whole_o1 rfl rfl (hb hby d17_2)) fun T1 X1 e1 => ?_
  show own_Go p e below _ (T1.setTop (mkF m 5 #[rv o0, rv o1] [(.long w2), (.ref o0)]))
  refine own_c2 (putF X1 hx hZ hown (host := "") (Or.inl (hw _ (List.mem_of_getElem? (i := 25) rfl))) Via.refl e1 F_whole_o0 E_o0 (Or.inl (hw _ (List.mem_of_getElem? (i := 26) rfl))) (hw _ (List.mem_of_getElem? (i := 4) rfl)) (ty := .long) (by decide) rfl rfl rfl rfl (hb hby d17_5)) fun T2 h2 X2 e2 W2 => ?_
  replace F_whole_o0 := F_whole_o0.same W2
  replace E_o0 := E_o0.wr W2
  replace F_rest_o0 := F_rest_o0.other W2 (Or.inr (sn13 hw))
  replace F_whole_o1 := F_whole_o1.other W2 (Or.inl (Ne.symm ne_o0_o1))
  replace F_rest_o1 := F_rest_o1.other W2 (Or.inl (Ne.symm ne_o0_o1))
  replace K0 := K0.wr W2 (Or.inl (List.mem_of_getElem? (i := 0) rfl))
  replace Z0 := Nat.le_trans Z0 (Keep.of_wr W2).1
  replace N0 := Fr.snoc X2 N0 g_o0
  show own_Go p e below _ (T2.setTop (mkF m 8 #[rv o0, rv o1] []))
  refine own_by (B := T2.setTop (mkF m 10 #[rv o0, rv o1] [(.ref o1), (.ref o0)])) (fun t k => ?_) ?_
  · show Steps p.tables e below (T2.setTop (mkF m 8 #[rv o0, rv o1] [])) _
    refine XS.aloadN X2.here hx rfl (hb hby d17_8) rfl rfl ?_
    show Steps p.tables e below (T2.setTop (mkF m 9 #[rv o0, rv o1] [(.ref o0)])) _
    refine XS.aloadN X2.here hx rfl (hb hby d17_9) rfl rfl ?_
    show Steps p.tables e below (T2.setTop (mkF m 10 #[rv o0, rv o1] [(.ref o1), (.ref o0)])) _
    exact k
  refine own_c1 (getF X2 hx hZ hown (host := "") (Or.inl (hw _ (List.mem_of_getElem? (i := 14) rfl))) Via.refl e2 F_rest_o1 rfl rfl (hb hby d17_10)) fun T3 X3 e3 => ?_
  show own_Go p e below _ (T3.setTop (mkF m 13 #[rv o0, rv o1] [(.ref rp), (.ref o0)]))
  refine own_c2 (putF X3 hx hZ hown (host := "") (Or.inl (hw _ (List.mem_of_getElem? (i := 14) rfl))) Via.refl e3 F_rest_o0 E_o0 (Or.inl (hw _ (List.mem_of_getElem? (i := 15) rfl))) (hw _ (List.mem_of_getElem? (i := 4) rfl)) (ty := (.object "java/math/BigDecimal")) (by decide) rfl rfl rfl rfl (hb hby d17_13)) fun T4 h4 X4 e4 W4 => ?_
  replace F_rest_o0 := F_rest_o0.same W4
  replace E_o0 := E_o0.wr W4
  replace F_whole_o0 := F_whole_o0.other W4 (Or.inr (sn12 hw))
  replace F_whole_o1 := F_whole_o1.other W4 (Or.inl (Ne.symm ne_o0_o1))
  replace F_rest_o1 := F_rest_o1.other W4 (Or.inl (Ne.symm ne_o0_o1))
  replace K0 := K0.wr W4 (Or.inl (List.mem_of_getElem? (i := 0) rfl))
  replace Z0 := Nat.le_trans Z0 (Keep.of_wr W4).1
  replace N0 := Fr.snoc X4 N0 g_o0
  show own_Go p e below _ (T4.setTop (mkF m 16 #[rv o0, rv o1] []))
  exact own_retV X4 Bd.notSynchronized hx Bd.returns (hb hby d17_16) (by
      rw [show T4.heap = h4 from e4]
      exact ⟨rfl, N0, K0, E_o0, F_whole_o0, F_rest_o0⟩) (by decide) (by decide)

theorem d20_0 : decode prog_48_method_9_code 0 = .ok (.aload_n 0, 1) := by decide +kernel
theorem d20_1 : decode prog_48_method_9_code 1 = .ok (.getfield 15, 3) := by decide +kernel
theorem d20_4 : decode prog_48_method_9_code 4 = .ok (.aload_n 0, 1) := by decide +kernel
theorem d20_5 : decode prog_48_method_9_code 5 = .ok (.getfield 45, 3) := by decide +kernel
theorem d20_8 : decode prog_48_method_9_code 8 = .ok (.invokestatic 59, 3) := by decide +kernel
theorem d20_11 : decode prog_48_method_9_code 11 = .ok (.invokevirtual 34, 3) := by decide +kernel
theorem d20_14 : decode prog_48_method_9_code 14 = .ok (.areturn, 1) := by decide +kernel
theorem pn_20 : plainName "com/example/foray/foray/graph/Sum" = true := by first | (simp [plainName, overriddenIn]; done) | decide +kernel
theorem ef_20 (m : MethodId) (x0 : Addr) : entryFrame m #[(.ref x0)] 1 = mkF m 0 #[rv x0] [] := by first | (simp [entryFrame, mkF, argsToLocals, Value.category]; done) | rfl
def Q20 (Z : State) (o0 : Addr) (w1 : Int64) (ro : Addr) (c1 : Int64) (h0 : Heap) (n0 : Nat) (v : Option Value) (h : Heap) (L : List Loc) : Prop := ∃ r : Addr, v = some (.ref r) ∧ Fr n0 L ∧ Keep h0 h [] ∧ Exa Z h r "java/math/BigDecimal" ∧ Fld Z h r "java/math/BigDecimal" "intCompact" "J" (.long (fadd2 c1 w1)) ∧ Fld Z h r "java/math/BigDecimal" "scale" "I" (.int (0 : Int32))
set_option maxRecDepth 65536 in
set_option maxHeartbeats 40000000 in
theorem rm20 (l : Launch) (Z : State) (a0 : Array Value) (hw : ∀ d ∈ tables_1, d.before a0 Z = true) (ws : List Jvm.Cond) (o0 : Addr) (w1 : Int64) (ro : Addr) (c1 : Int64) (h0 : Heap) (n0 : Nat) (Z0 : n0 ≤ h0.size) (F_whole_o0 : Fld Z h0 o0 "com/example/foray/foray/graph/Sum" "whole" "J" (.long w1)) (F_rest_o0 : Fld Z h0 o0 "com/example/foray/foray/graph/Sum" "rest" "Ljava/math/BigDecimal;" (.ref ro)) (E_ro : Exa Z h0 ro "java/math/BigDecimal") (F_intCompact_ro : Fld Z h0 ro "java/math/BigDecimal" "intCompact" "J" (.long c1)) (F_scale_ro : Fld Z h0 ro "java/math/BigDecimal" "scale" "I" (.int (0 : Int32))) (OZ : Old Z n0 h0) (hBD : own_BD Z) (hp0 : ¬ (w1 = (-9223372036854775808 : Int64))) (hp1 : ¬ (c1 = (-9223372036854775808 : Int64))) (hp2 : ¬ ((fadd2 c1 w1) = (-9223372036854775808 : Int64))) :
    MetFree l (⟨"com/example/foray/foray/graph/Sum", "value", "()Ljava/math/BigDecimal;"⟩ : MethodName) (head1 (Jvm.Cond.code (⟨"com/example/foray/foray/graph/Sum", "value", "()Ljava/math/BigDecimal;"⟩ : MethodName) prog_48_method_9_code 1 (some (.object "java/math/BigDecimal")) :: ws) ({ frames := 8, cells := 2, slots := 10, locals := 123 } : Room)) (fun a U => a = #[(.ref o0)] ∧ Z.Warmed39 U.vm ∧ U.heap = h0) (fun _ _ _ _ _ => True) (fun _ U o U' => ∃ v L, o = .returned v ∧ Q20 Z o0 w1 ro c1 h0 n0 v U'.heap L ∧ FrameEnd U o U' L ({ frames := 8, cells := 2, slots := 10, locals := 123 } : Room).cells ({ frames := 8, cells := 2, slots := 10, locals := 123 } : Room).slots) := by
  refine MetFree.of_bodySF (plainFor_of_name pn_20) hisR ?_
  intro p e s m args below meth c s₁ Bd hml0 hP hK
  obtain ⟨rfl, hZ, hh⟩ := hP
  have hx := Bd.exec
  have hby := Bd.bytes
  have hml : c.maxLocals = 1 := hml0
  have hown : s.vm.findClass "com/example/foray/foray/graph/Sum" = some m.cls := findClass_of_methodNamed Bd.named
  have hnm := (name_of_methodNamed Bd.named Bd.method).1
  have X0 : Stand p l e ({ frames := 8, cells := 2, slots := 10, locals := 123 } : Room) s m #[(.ref o0)] below meth c s₁ [] 0 0 := Stand.of_body Bd
  have e0 : s₁.heap = h0 := by rw [← hh, Bd.state]; rfl
  have N0 := Fr.nil n0
  have K0 : Keep h0 h0 [] := Keep.refl h0 _
  change own_Go p e below (own_Post s (Q20 Z o0 w1 ro c1 h0 n0) ({ frames := 8, cells := 2, slots := 10, locals := 123 } : Room).cells ({ frames := 8, cells := 2, slots := 10, locals := 123 } : Room).slots) (s₁.setTop (entryFrame m #[(.ref o0)] 1))
  refine own_by (fun t k => castTop (ef_20 m o0) k) ?_
  show own_Go p e below _ (s₁.setTop (mkF m 0 #[rv o0] []))
  refine own_by (B := s₁.setTop (mkF m 1 #[rv o0] [(.ref o0)])) (fun t k => ?_) ?_
  · show Steps p.tables e below (s₁.setTop (mkF m 0 #[rv o0] [])) _
    refine XS.aloadN X0.here hx rfl (hb hby d20_0) rfl rfl ?_
    show Steps p.tables e below (s₁.setTop (mkF m 1 #[rv o0] [(.ref o0)])) _
    exact k
  refine own_c1 (getF X0 hx hZ hown (host := "") (Or.inl (hw _ (List.mem_of_getElem? (i := 14) rfl))) Via.refl e0 F_rest_o0 rfl rfl (hb hby d20_1)) fun T1 X1 e1 => ?_
  show own_Go p e below _ (T1.setTop (mkF m 4 #[rv o0] [(.ref ro)]))
  refine own_by (B := T1.setTop (mkF m 5 #[rv o0] [(.ref o0), (.ref ro)])) (fun t k => ?_) ?_
  · show Steps p.tables e below (T1.setTop (mkF m 4 #[rv o0] [(.ref ro)])) _
    refine XS.aloadN X1.here hx rfl (hb hby d20_4) rfl rfl ?_
    show Steps p.tables e below (T1.setTop (mkF m 5 #[rv o0] [(.ref o0), (.ref ro)])) _
    exact k
  refine own_c1 (getF X1 hx hZ hown (host := "") (Or.inl (hw _ (List.mem_of_getElem? (i := 25) rfl))) Via.refl e1 F_whole_o0 rfl rfl (hb hby d20_5)) fun T2 X2 e2 => ?_
  show own_Go p e below _ (T2.setTop (mkF m 8 #[rv o0] [(.long w1), (.ref ro)]))
  refine own_cc (own_callS X2 hx hZ (y := (⟨"java/math/BigDecimal", "valueOf", "(J)Ljava/math/BigDecimal;"⟩ : MethodName)) hown (hw _ (List.mem_of_getElem? (i := 53) rfl)) (hw _ (List.mem_of_getElem? (i := 54) rfl)) (hw _ (List.mem_of_getElem? (i := 13) rfl)) (hw _ (List.mem_of_getElem? (i := 55) rfl)) (by decide) (rm9 l Z a0 hw [] w1 h0 n0 Z0 OZ hBD hp0) e2 1 (by decide) (by decide) (by decide) (by decide) rfl (by rw [hml]; rfl) [(.long w1)] [(.ref ro)] rfl (lenOf pd_5 rfl) rfl (by show 2 * 0 + _ ≤ _; exact Nat.le_of_eq rfl) (hb hby d20_8)) fun T4 L4 v4 X4 hQ4 => ?_
  obtain ⟨r_4, rfl, N4, K4, E_r_4', F_intCompact_r_4', F_scale_r_4'⟩ := hQ4
  replace N0 := Fr.app N0 N4
  replace F_whole_o0 := F_whole_o0.keep K4 nin0
  replace F_rest_o0 := F_rest_o0.keep K4 nin0
  replace E_ro := E_ro.keep K4
  replace F_intCompact_ro := F_intCompact_ro.keep K4 nin0
  replace F_scale_ro := F_scale_ro.keep K4 nin0
  replace OZ := OZ.keep K4 all0
  replace K0 := K0.trans K4 all0
  replace Z0 := Nat.le_trans Z0 K4.1
  have E_r_4 := E_r_4'
  have F_intCompact_r_4 := F_intCompact_r_4'
  have F_scale_r_4 := F_scale_r_4'
  show own_Go p e below _ (T4.setTop (mkF m 11 #[rv o0] [(.ref r_4), (.ref ro)]))
  refine own_cc (own_callV X4 hx hZ (y := (⟨"java/math/BigDecimal", "add", "(Ljava/math/BigDecimal;)Ljava/math/BigDecimal;"⟩ : MethodName)) (z := (⟨"java/math/BigDecimal", "add", "(Ljava/math/BigDecimal;)Ljava/math/BigDecimal;"⟩ : MethodName)) hown (hw _ (List.mem_of_getElem? (i := 74) rfl)) (hw _ (List.mem_of_getElem? (i := 75) rfl)) (notFace_of_selects (args := #[]) (mvT hZ (hw _ (List.mem_of_getElem? (i := 77) rfl)))) (hw _ (List.mem_of_getElem? (i := 77) rfl)) (hw _ (List.mem_of_getElem? (i := 76) rfl)) (hw _ (List.mem_of_getElem? (i := 13) rfl)) (hw _ (List.mem_of_getElem? (i := 78) rfl)) (by decide) (rm12 l Z a0 hw [] ro r_4 c1 w1 T4.heap n0 Z0 OZ hBD F_intCompact_ro F_scale_ro F_intCompact_r_4 F_scale_r_4 hp1 hp0 hp2) (rfl : T4.heap = _) 0 (by decide) (by decide) (by decide) (by decide) rfl (by rw [hml]; rfl) ro E_ro [(.ref r_4)] [] rfl (lenOf pd_7 rfl) rfl (by show 2 * 0 + _ ≤ _; exact Nat.le_of_eq rfl) (hb hby d20_11)) fun T6 L6 v6 X6 hQ6 => ?_
  obtain ⟨r_6, rfl, N6, K6, E_r_6', F_intCompact_r_6', F_scale_r_6'⟩ := hQ6
  replace N0 := Fr.app N0 N6
  replace F_whole_o0 := F_whole_o0.keep K6 nin0
  replace F_rest_o0 := F_rest_o0.keep K6 nin0
  replace E_ro := E_ro.keep K6
  replace F_intCompact_ro := F_intCompact_ro.keep K6 nin0
  replace F_scale_ro := F_scale_ro.keep K6 nin0
  replace E_r_4 := E_r_4.keep K6
  replace F_intCompact_r_4 := F_intCompact_r_4.keep K6 nin0
  replace F_scale_r_4 := F_scale_r_4.keep K6 nin0
  replace OZ := OZ.keep K6 all0
  replace K0 := K0.trans K6 all0
  replace Z0 := Nat.le_trans Z0 K6.1
  have E_r_6 := E_r_6'
  have F_intCompact_r_6 := F_intCompact_r_6'
  have F_scale_r_6 := F_scale_r_6'
  show own_Go p e below _ (T6.setTop (mkF m 14 #[rv o0] [(.ref r_6)]))
  exact own_retR X6 Bd.notSynchronized hx Bd.returns rfl rfl rfl (hb hby d20_14) ⟨r_6, rfl, N0, K0, E_r_6, F_intCompact_r_6, F_scale_r_6⟩ (by decide) (by decide)

theorem d18_0 : decode prog_48_method_8_code 0 = .ok (.aload_n 0, 1) := by decide +kernel
theorem d18_1 : decode prog_48_method_8_code 1 = .ok (.getfield 15, 3) := by decide +kernel
theorem d18_4 : decode prog_48_method_8_code 4 = .ok (.invokevirtual 48, 3) := by decide +kernel
theorem d18_7 : decode prog_48_method_8_code 7 = .ok (.ifCond .ne 27, 3) := by decide +kernel
theorem d18_10 : decode prog_48_method_8_code 10 = .ok (.aload_n 1, 1) := by decide +kernel
theorem d18_11 : decode prog_48_method_8_code 11 = .ok (.getfield 15, 3) := by decide +kernel
theorem d18_14 : decode prog_48_method_8_code 14 = .ok (.invokevirtual 48, 3) := by decide +kernel
theorem d18_17 : decode prog_48_method_8_code 17 = .ok (.ifCond .ne 17, 3) := by decide +kernel
theorem d18_20 : decode prog_48_method_8_code 20 = .ok (.aload_n 0, 1) := by decide +kernel
theorem d18_21 : decode prog_48_method_8_code 21 = .ok (.getfield 45, 3) := by decide +kernel
theorem d18_24 : decode prog_48_method_8_code 24 = .ok (.aload_n 1, 1) := by decide +kernel
theorem d18_25 : decode prog_48_method_8_code 25 = .ok (.getfield 45, 3) := by decide +kernel
theorem d18_28 : decode prog_48_method_8_code 28 = .ok (.invokestatic 66, 3) := by decide +kernel
theorem d18_31 : decode prog_48_method_8_code 31 = .ok (.goto 14, 3) := by decide +kernel
theorem d18_45 : decode prog_48_method_8_code 45 = .ok (.ireturn, 1) := by decide +kernel
theorem pn_18 : plainName "com/example/foray/foray/graph/Sum" = true := by first | (simp [plainName, overriddenIn]; done) | decide +kernel
theorem pd_13 : parseMethodDescriptor "(JJ)I" = some ⟨[.long, .long], some .int⟩ := by decide +kernel
theorem ef_18 (m : MethodId) (x0 : Addr) (x1 : Addr) : entryFrame m #[(.ref x0), (.ref x1)] 2 = mkF m 0 #[rv x0, rv x1] [] := by first | (simp [entryFrame, mkF, argsToLocals, Value.category]; done) | rfl
def Q18_a (Z : State) (o0 : Addr) (o1 : Addr) (w1 : Int64) (ro : Addr) (rp : Addr) (h0 : Heap) (n0 : Nat) (v : Option Value) (h : Heap) (L : List Loc) : Prop := v = some (.int (fcmp w1 w1)) ∧ Fr n0 L ∧ h = h0
set_option maxRecDepth 65536 in
set_option maxHeartbeats 40000000 in
theorem rm18_a (l : Launch) (Z : State) (a0 : Array Value) (hw : ∀ d ∈ tables_1, d.before a0 Z = true) (ws : List Jvm.Cond) (o0 : Addr) (o1 : Addr) (w1 : Int64) (ro : Addr) (rp : Addr) (h0 : Heap) (n0 : Nat) (Z0 : n0 ≤ h0.size) (F_whole_o0 : Fld Z h0 o0 "com/example/foray/foray/graph/Sum" "whole" "J" (.long w1)) (F_rest_o0 : Fld Z h0 o0 "com/example/foray/foray/graph/Sum" "rest" "Ljava/math/BigDecimal;" (.ref ro)) (F_whole_o1 : Fld Z h0 o1 "com/example/foray/foray/graph/Sum" "whole" "J" (.long w1)) (F_rest_o1 : Fld Z h0 o1 "com/example/foray/foray/graph/Sum" "rest" "Ljava/math/BigDecimal;" (.ref rp)) (E_ro : Exa Z h0 ro "java/math/BigDecimal") (F_intCompact_ro : Fld Z h0 ro "java/math/BigDecimal" "intCompact" "J" (.long (0 : Int64))) (F_scale_ro : Fld Z h0 ro "java/math/BigDecimal" "scale" "I" (.int (0 : Int32))) (E_rp : Exa Z h0 rp "java/math/BigDecimal") (F_intCompact_rp : Fld Z h0 rp "java/math/BigDecimal" "intCompact" "J" (.long (0 : Int64))) (F_scale_rp : Fld Z h0 rp "java/math/BigDecimal" "scale" "I" (.int (0 : Int32))) :
    MetFree l (⟨"com/example/foray/foray/graph/Sum", "compareTo", "(Lcom/example/foray/foray/graph/Sum;)I"⟩ : MethodName) (head1 (Jvm.Cond.code (⟨"com/example/foray/foray/graph/Sum", "compareTo", "(Lcom/example/foray/foray/graph/Sum;)I"⟩ : MethodName) prog_48_method_8_code 2 (some .int) :: ws) ({ frames := 2, cells := 0, slots := 0, locals := 25 } : Room)) (fun a U => a = #[(.ref o0), (.ref o1)] ∧ Z.Warmed39 U.vm ∧ U.heap = h0) (fun _ _ _ _ _ => True) (fun _ U o U' => ∃ v L, o = .returned v ∧ Q18_a Z o0 o1 w1 ro rp h0 n0 v U'.heap L ∧ FrameEnd U o U' L ({ frames := 2, cells := 0, slots := 0, locals := 25 } : Room).cells ({ frames := 2, cells := 0, slots := 0, locals := 25 } : Room).slots) := by
  refine MetFree.of_bodySF (plainFor_of_name pn_18) hisR ?_
  intro p e s m args below meth c s₁ Bd hml0 hP hK
  obtain ⟨rfl, hZ, hh⟩ := hP
  have hx := Bd.exec
  have hby := Bd.bytes
  have hml : c.maxLocals = 2 := hml0
  have hown : s.vm.findClass "com/example/foray/foray/graph/Sum" = some m.cls := findClass_of_methodNamed Bd.named
  have hnm := (name_of_methodNamed Bd.named Bd.method).1
  have X0 : Stand p l e ({ frames := 2, cells := 0, slots := 0, locals := 25 } : Room) s m #[(.ref o0), (.ref o1)] below meth c s₁ [] 0 0 := Stand.of_body Bd
  have e0 : s₁.heap = h0 := by rw [← hh, Bd.state]; rfl
  have N0 := Fr.nil n0
  change own_Go p e below (own_Post s (Q18_a Z o0 o1 w1 ro rp h0 n0) ({ frames := 2, cells := 0, slots := 0, locals := 25 } : Room).cells ({ frames := 2, cells := 0, slots := 0, locals := 25 } : Room).slots) (s₁.setTop (entryFrame m #[(.ref o0), (.ref o1)] 2))
  refine own_by (fun t k => castTop (ef_18 m o0 o1) k) ?_
  show own_Go p e below _ (s₁.setTop (mkF m 0 #[rv o0, rv o1] []))
  refine own_by (B := s₁.setTop (mkF m 1 #[rv o0, rv o1] [(.ref o0)])) (fun t k => ?_) ?_
  · show Steps p.tables e below (s₁.setTop (mkF m 0 #[rv o0, rv o1] [])) _
    refine XS.aloadN X0.here hx rfl (hb hby d18_0) rfl rfl ?_
    show Steps p.tables e below (s₁.setTop (mkF m 1 #[rv o0, rv o1] [(.ref o0)])) _
    exact k
  refine own_c1 (getF X0 hx hZ hown (host := "") (Or.inl (hw _ (List.mem_of_getElem? (i := 14) rfl))) Via.refl e0 F_rest_o0 rfl rfl (hb hby d18_1)) fun T1 X1 e1 => ?_
  show own_Go p e below _ (T1.setTop (mkF m 4 #[rv o0, rv o1] [(.ref ro)]))
  refine own_cc (own_callV X1 hx hZ (y := (⟨"java/math/BigDecimal", "signum", "()I"⟩ : MethodName)) (z := (⟨"java/math/BigDecimal", "signum", "()I"⟩ : MethodName)) hown (hw _ (List.mem_of_getElem? (i := 34) rfl)) (hw _ (List.mem_of_getElem? (i := 35) rfl)) (notFace_of_selects (args := #[]) (mvT hZ (hw _ (List.mem_of_getElem? (i := 37) rfl)))) (hw _ (List.mem_of_getElem? (i := 37) rfl)) (hw _ (List.mem_of_getElem? (i := 36) rfl)) (hw _ (List.mem_of_getElem? (i := 13) rfl)) (hw _ (List.mem_of_getElem? (i := 38) rfl)) (by decide) (rm6 l Z a0 hw [] ro (0 : Int64) h0 n0 Z0 F_intCompact_ro (by decide : ¬ ((0 : Int64) = (-9223372036854775808 : Int64)))) e1 0 (by decide) (by decide) (by decide) (by decide) rfl (by rw [hml]; rfl) ro E_ro [] [] rfl (lenOf pd_3 rfl) rfl (by show 2 * 0 + _ ≤ _; exact Nat.le_of_eq rfl) (hb hby d18_4)) fun T3 L3 v3 X3 hQ3 => ?_
  obtain ⟨rfl, N3, e3⟩ := hQ3
  replace N0 := Fr.app N0 N3
  show own_Go p e below _ (T3.setTop (mkF m 7 #[rv o0, rv o1] [(.int (fsg (0 : Int64)))]))
  refine own_by (B := T3.setTop (mkF m 11 #[rv o0, rv o1] [(.ref o1)])) (fun t k => ?_) ?_
  · show Steps p.tables e below (T3.setTop (mkF m 7 #[rv o0, rv o1] [(.int (fsg (0 : Int64)))])) _
    refine XS.ifNo X3.here hx rfl (hb hby d18_7) rfl ((if0 _ _).trans (teq (by decide)).2) ?_
    show Steps p.tables e below (T3.setTop (mkF m 10 #[rv o0, rv o1] [])) _
    refine XS.aloadN X3.here hx rfl (hb hby d18_10) rfl rfl ?_
    show Steps p.tables e below (T3.setTop (mkF m 11 #[rv o0, rv o1] [(.ref o1)])) _
    exact k
  refine own_c1 (getF X3 hx hZ hown (host := "") (Or.inl (hw _ (List.mem_of_getElem? (i := 14) rfl))) Via.refl e3 F_rest_o1 rfl rfl (hb hby d18_11)) fun T4 X4 e4 => ?_
  show own_Go p e below _ (T4.setTop (mkF m 14 #[rv o0, rv o1] [(.ref rp)]))
  refine own_cc (own_callV X4 hx hZ (y := (⟨"java/math/BigDecimal", "signum", "()I"⟩ : MethodName)) (z := (⟨"java/math/BigDecimal", "signum", "()I"⟩ : MethodName)) hown (hw _ (List.mem_of_getElem? (i := 34) rfl)) (hw _ (List.mem_of_getElem? (i := 35) rfl)) (notFace_of_selects (args := #[]) (mvT hZ (hw _ (List.mem_of_getElem? (i := 37) rfl)))) (hw _ (List.mem_of_getElem? (i := 37) rfl)) (hw _ (List.mem_of_getElem? (i := 36) rfl)) (hw _ (List.mem_of_getElem? (i := 13) rfl)) (hw _ (List.mem_of_getElem? (i := 38) rfl)) (by decide) (rm6 l Z a0 hw [] rp (0 : Int64) h0 n0 Z0 F_intCompact_rp (by decide : ¬ ((0 : Int64) = (-9223372036854775808 : Int64)))) e4 0 (by decide) (by decide) (by decide) (by decide) rfl (by rw [hml]; rfl) rp E_rp [] [] rfl (lenOf pd_3 rfl) rfl (by show 2 * 0 + _ ≤ _; exact Nat.le_of_eq rfl) (hb hby d18_14)) fun T6 L6 v6 X6 hQ6 => ?_
  obtain ⟨rfl, N6, e6⟩ := hQ6
  replace N0 := Fr.app N0 N6
  show own_Go p e below _ (T6.setTop (mkF m 17 #[rv o0, rv o1] [(.int (fsg (0 : Int64)))]))
  refine own_by (B := T6.setTop (mkF m 21 #[rv o0, rv o1] [(.ref o0)])) (fun t k => ?_) ?_
  · show Steps p.tables e below (T6.setTop (mkF m 17 #[rv o0, rv o1] [(.int (fsg (0 : Int64)))])) _
    refine XS.ifNo X6.here hx rfl (hb hby d18_17) rfl ((if0 _ _).trans (teq (by decide)).2) ?_
    show Steps p.tables e below (T6.setTop (mkF m 20 #[rv o0, rv o1] [])) _
    refine XS.aloadN X6.here hx rfl (hb hby d18_20) rfl rfl ?_
    show Steps p.tables e below (T6.setTop (mkF m 21 #[rv o0, rv o1] [(.ref o0)])) _
    exact k
  refine own_c1 (getF X6 hx hZ hown (host := "") (Or.inl (hw _ (List.mem_of_getElem? (i := 25) rfl))) Via.refl e6 F_whole_o0 rfl rfl (hb hby d18_21)) fun T7 X7 e7 => ?_
  show own_Go p e below _ (T7.setTop (mkF m 24 #[rv o0, rv o1] [(.long w1)]))
  refine own_by (B := T7.setTop (mkF m 25 #[rv o0, rv o1] [(.ref o1), (.long w1)])) (fun t k => ?_) ?_
  · show Steps p.tables e below (T7.setTop (mkF m 24 #[rv o0, rv o1] [(.long w1)])) _
    refine XS.aloadN X7.here hx rfl (hb hby d18_24) rfl rfl ?_
    show Steps p.tables e below (T7.setTop (mkF m 25 #[rv o0, rv o1] [(.ref o1), (.long w1)])) _
    exact k
  refine own_c1 (getF X7 hx hZ hown (host := "") (Or.inl (hw _ (List.mem_of_getElem? (i := 25) rfl))) Via.refl e7 F_whole_o1 rfl rfl (hb hby d18_25)) fun T8 X8 e8 => ?_
  show own_Go p e below _ (T8.setTop (mkF m 28 #[rv o0, rv o1] [(.long w1), (.long w1)]))
  refine own_cc (own_callS X8 hx hZ (y := (⟨"java/lang/Long", "compare", "(JJ)I"⟩ : MethodName)) hown (hw _ (List.mem_of_getElem? (i := 102) rfl)) (hw _ (List.mem_of_getElem? (i := 103) rfl)) (hw _ (List.mem_of_getElem? (i := 44) rfl)) (hw _ (List.mem_of_getElem? (i := 104) rfl)) (by decide) (rm19 l Z a0 hw [] w1 w1 h0 n0 Z0 ) e8 0 (by decide) (by decide) (by decide) (by decide) rfl (by rw [hml]; rfl) [(.long w1), (.long w1)] [] rfl (lenOf pd_13 rfl) rfl (by show 2 * 0 + _ ≤ _; exact Nat.le_of_eq rfl) (hb hby d18_28)) fun T10 L10 v10 X10 hQ10 => ?_
  obtain ⟨rfl, N10, e10⟩ := hQ10
  replace N0 := Fr.app N0 N10
  show own_Go p e below _ (T10.setTop (mkF m 31 #[rv o0, rv o1] [(.int (fcmp w1 w1))]))
  refine own_by (B := T10.setTop (mkF m 45 #[rv o0, rv o1] [(.int (fcmp w1 w1))])) (fun t k => ?_) ?_
  · show Steps p.tables e below (T10.setTop (mkF m 31 #[rv o0, rv o1] [(.int (fcmp w1 w1))])) _
    refine XS.goto X10.here hx rfl (pc0 := 31) (pc' := 45) rfl (hb hby d18_31) (by decide) (by decide) ?_
    show Steps p.tables e below (T10.setTop (mkF m 45 #[rv o0, rv o1] [(.int (fcmp w1 w1))])) _
    exact k
  exact own_retI X10 Bd.notSynchronized hx Bd.returns (hb hby d18_45) (by
      rw [show T10.heap = h0 from e10]
      exact ⟨rfl, N0, rfl⟩) (by decide) (by decide)

theorem d18_34 : decode prog_48_method_8_code 34 = .ok (.aload_n 0, 1) := by decide +kernel
theorem d18_35 : decode prog_48_method_8_code 35 = .ok (.invokevirtual 70, 3) := by decide +kernel
theorem d18_38 : decode prog_48_method_8_code 38 = .ok (.aload_n 1, 1) := by decide +kernel
theorem d18_39 : decode prog_48_method_8_code 39 = .ok (.invokevirtual 70, 3) := by decide +kernel
theorem d18_42 : decode prog_48_method_8_code 42 = .ok (.invokevirtual 74, 3) := by decide +kernel
theorem pd_14 : parseMethodDescriptor "()Ljava/math/BigDecimal;" = some ⟨[], some (.object "java/math/BigDecimal")⟩ := by decide +kernel
theorem pd_15 : parseMethodDescriptor "(Ljava/math/BigDecimal;)I" = some ⟨[(.object "java/math/BigDecimal")], some .int⟩ := by decide +kernel
def Q18_b (Z : State) (o0 : Addr) (o1 : Addr) (w1 : Int64) (ro : Addr) (rp : Addr) (c1 : Int64) (h0 : Heap) (n0 : Nat) (v : Option Value) (h : Heap) (L : List Loc) : Prop := v = some (.int (0 : Int32)) ∧ Fr n0 L ∧ Keep h0 h []
set_option maxRecDepth 65536 in
set_option maxHeartbeats 40000000 in
theorem rm18_b (l : Launch) (Z : State) (a0 : Array Value) (hw : ∀ d ∈ tables_1, d.before a0 Z = true) (ws : List Jvm.Cond) (o0 : Addr) (o1 : Addr) (w1 : Int64) (ro : Addr) (rp : Addr) (c1 : Int64) (h0 : Heap) (n0 : Nat) (Z0 : n0 ≤ h0.size) (E_o0 : Exa Z h0 o0 "com/example/foray/foray/graph/Sum") (F_whole_o0 : Fld Z h0 o0 "com/example/foray/foray/graph/Sum" "whole" "J" (.long w1)) (F_rest_o0 : Fld Z h0 o0 "com/example/foray/foray/graph/Sum" "rest" "Ljava/math/BigDecimal;" (.ref ro)) (E_o1 : Exa Z h0 o1 "com/example/foray/foray/graph/Sum") (F_whole_o1 : Fld Z h0 o1 "com/example/foray/foray/graph/Sum" "whole" "J" (.long w1)) (F_rest_o1 : Fld Z h0 o1 "com/example/foray/foray/graph/Sum" "rest" "Ljava/math/BigDecimal;" (.ref rp)) (E_ro : Exa Z h0 ro "java/math/BigDecimal") (F_intCompact_ro : Fld Z h0 ro "java/math/BigDecimal" "intCompact" "J" (.long c1)) (F_scale_ro : Fld Z h0 ro "java/math/BigDecimal" "scale" "I" (.int (0 : Int32))) (E_rp : Exa Z h0 rp "java/math/BigDecimal") (F_intCompact_rp : Fld Z h0 rp "java/math/BigDecimal" "intCompact" "J" (.long c1)) (F_scale_rp : Fld Z h0 rp "java/math/BigDecimal" "scale" "I" (.int (0 : Int32))) (OZ : Old Z n0 h0) (hBD : own_BD Z) (hp0 : ¬ (w1 = (-9223372036854775808 : Int64))) (hp1 : ¬ (c1 = (-9223372036854775808 : Int64))) (hp2 : ¬ ((fadd2 c1 w1) = (-9223372036854775808 : Int64))) (hp3 : ¬ ((fsg c1) = (0 : Int32))) :
    MetFree l (⟨"com/example/foray/foray/graph/Sum", "compareTo", "(Lcom/example/foray/foray/graph/Sum;)I"⟩ : MethodName) (head1 (Jvm.Cond.code (⟨"com/example/foray/foray/graph/Sum", "compareTo", "(Lcom/example/foray/foray/graph/Sum;)I"⟩ : MethodName) prog_48_method_8_code 2 (some .int) :: ws) ({ frames := 9, cells := 4, slots := 20, locals := 136 } : Room)) (fun a U => a = #[(.ref o0), (.ref o1)] ∧ Z.Warmed39 U.vm ∧ U.heap = h0) (fun _ _ _ _ _ => True) (fun _ U o U' => ∃ v L, o = .returned v ∧ Q18_b Z o0 o1 w1 ro rp c1 h0 n0 v U'.heap L ∧ FrameEnd U o U' L ({ frames := 9, cells := 4, slots := 20, locals := 136 } : Room).cells ({ frames := 9, cells := 4, slots := 20, locals := 136 } : Room).slots) := by
  refine MetFree.of_bodySF (plainFor_of_name pn_18) hisR ?_
  intro p e s m args below meth c s₁ Bd hml0 hP hK
  obtain ⟨rfl, hZ, hh⟩ := hP
  have hx := Bd.exec
  have hby := Bd.bytes
  have hml : c.maxLocals = 2 := hml0
  have hown : s.vm.findClass "com/example/foray/foray/graph/Sum" = some m.cls := findClass_of_methodNamed Bd.named
  have hnm := (name_of_methodNamed Bd.named Bd.method).1
  have X0 : Stand p l e ({ frames := 9, cells := 4, slots := 20, locals := 136 } : Room) s m #[(.ref o0), (.ref o1)] below meth c s₁ [] 0 0 := Stand.of_body Bd
  have e0 : s₁.heap = h0 := by rw [← hh, Bd.state]; rfl
  have N0 := Fr.nil n0
  have K0 : Keep h0 h0 [] := Keep.refl h0 _
  change own_Go p e below (own_Post s (Q18_b Z o0 o1 w1 ro rp c1 h0 n0) ({ frames := 9, cells := 4, slots := 20, locals := 136 } : Room).cells ({ frames := 9, cells := 4, slots := 20, locals := 136 } : Room).slots) (s₁.setTop (entryFrame m #[(.ref o0), (.ref o1)] 2))
  refine own_by (fun t k => castTop (ef_18 m o0 o1) k) ?_
  show own_Go p e below _ (s₁.setTop (mkF m 0 #[rv o0, rv o1] []))
  refine own_by (B := s₁.setTop (mkF m 1 #[rv o0, rv o1] [(.ref o0)])) (fun t k => ?_) ?_
  · show Steps p.tables e below (s₁.setTop (mkF m 0 #[rv o0, rv o1] [])) _
    refine XS.aloadN X0.here hx rfl (hb hby d18_0) rfl rfl ?_
    show Steps p.tables e below (s₁.setTop (mkF m 1 #[rv o0, rv o1] [(.ref o0)])) _
    exact k
  refine own_c1 (getF X0 hx hZ hown (host := "") (Or.inl (hw _ (List.mem_of_getElem? (i := 14) rfl))) Via.refl e0 F_rest_o0 rfl rfl (hb hby d18_1)) fun T1 X1 e1 => ?_
  show own_Go p e below _ (T1.setTop (mkF m 4 #[rv o0, rv o1] [(.ref ro)]))
  refine own_cc (own_callV X1 hx hZ (y := (⟨"java/math/BigDecimal", "signum", "()I"⟩ : MethodName)) (z := (⟨"java/math/BigDecimal", "signum", "()I"⟩ : MethodName)) hown (hw _ (List.mem_of_getElem? (i := 34) rfl)) (hw _ (List.mem_of_getElem? (i := 35) rfl)) (notFace_of_selects (args := #[]) (mvT hZ (hw _ (List.mem_of_getElem? (i := 37) rfl)))) (hw _ (List.mem_of_getElem? (i := 37) rfl)) (hw _ (List.mem_of_getElem? (i := 36) rfl)) (hw _ (List.mem_of_getElem? (i := 13) rfl)) (hw _ (List.mem_of_getElem? (i := 38) rfl)) (by decide) (rm6 l Z a0 hw [] ro c1 h0 n0 Z0 F_intCompact_ro hp1) e1 0 (by decide) (by decide) (by decide) (by decide) rfl (by rw [hml]; rfl) ro E_ro [] [] rfl (lenOf pd_3 rfl) rfl (by show 2 * 0 + _ ≤ _; exact Nat.le_of_eq rfl) (hb hby d18_4)) fun T3 L3 v3 X3 hQ3 => ?_
  obtain ⟨rfl, N3, e3⟩ := hQ3
  replace N0 := Fr.app N0 N3
  show own_Go p e below _ (T3.setTop (mkF m 7 #[rv o0, rv o1] [(.int (fsg c1))]))
  refine own_by (B := T3.setTop (mkF m 35 #[rv o0, rv o1] [(.ref o0)])) (fun t k => ?_) ?_
  · show Steps p.tables e below (T3.setTop (mkF m 7 #[rv o0, rv o1] [(.int (fsg c1))])) _
    refine XS.ifYes X3.here hx rfl (pc0 := 7) (pc' := 34) rfl (hb hby d18_7) rfl ((if0 _ _).trans (feq hp3).2) (by decide) (by decide) ?_
    show Steps p.tables e below (T3.setTop (mkF m 34 #[rv o0, rv o1] [])) _
    refine XS.aloadN X3.here hx rfl (hb hby d18_34) rfl rfl ?_
    show Steps p.tables e below (T3.setTop (mkF m 35 #[rv o0, rv o1] [(.ref o0)])) _
    exact k
  refine own_cc (own_callV X3 hx hZ (y := (⟨"com/example/foray/foray/graph/Sum", "value", "()Ljava/math/BigDecimal;"⟩ : MethodName)) (z := (⟨"com/example/foray/foray/graph/Sum", "value", "()Ljava/math/BigDecimal;"⟩ : MethodName)) hown (hw _ (List.mem_of_getElem? (i := 105) rfl)) (hw _ (List.mem_of_getElem? (i := 106) rfl)) (notFace_of_selects (args := #[]) (mvT hZ (hw _ (List.mem_of_getElem? (i := 108) rfl)))) (hw _ (List.mem_of_getElem? (i := 108) rfl)) (hw _ (List.mem_of_getElem? (i := 107) rfl)) (hw _ (List.mem_of_getElem? (i := 5) rfl)) (hw _ (List.mem_of_getElem? (i := 109) rfl)) (by decide) (rm20 l Z a0 hw [] o0 w1 ro c1 h0 n0 Z0 F_whole_o0 F_rest_o0 E_ro F_intCompact_ro F_scale_ro OZ hBD hp0 hp1 hp2) e3 0 (by decide) (by decide) (by decide) (by decide) rfl (by rw [hml]; rfl) o0 E_o0 [] [] rfl (lenOf pd_14 rfl) rfl (by show 2 * 0 + _ ≤ _; exact Nat.le_of_eq rfl) (hb hby d18_35)) fun T5 L5 v5 X5 hQ5 => ?_
  obtain ⟨r_5, rfl, N5, K5, E_r_5', F_intCompact_r_5', F_scale_r_5'⟩ := hQ5
  replace N0 := Fr.app N0 N5
  replace E_o0 := E_o0.keep K5
  replace F_whole_o0 := F_whole_o0.keep K5 nin0
  replace F_rest_o0 := F_rest_o0.keep K5 nin0
  replace E_o1 := E_o1.keep K5
  replace F_whole_o1 := F_whole_o1.keep K5 nin0
  replace F_rest_o1 := F_rest_o1.keep K5 nin0
  replace E_ro := E_ro.keep K5
  replace F_intCompact_ro := F_intCompact_ro.keep K5 nin0
  replace F_scale_ro := F_scale_ro.keep K5 nin0
  replace E_rp := E_rp.keep K5
  replace F_intCompact_rp := F_intCompact_rp.keep K5 nin0
  replace F_scale_rp := F_scale_rp.keep K5 nin0
  replace OZ := OZ.keep K5 all0
  replace K0 := K0.trans K5 all0
  replace Z0 := Nat.le_trans Z0 K5.1
  have E_r_5 := E_r_5'
  have F_intCompact_r_5 := F_intCompact_r_5'
  have F_scale_r_5 := F_scale_r_5'
  show own_Go p e below _ (T5.setTop (mkF m 38 #[rv o0, rv o1] [(.ref r_5)]))
  refine own_by (B := T5.setTop (mkF m 39 #[rv o0, rv o1] [(.ref o1), (.ref r_5)])) (fun t k => ?_) ?_
  · show Steps p.tables e below (T5.setTop (mkF m 38 #[rv o0, rv o1] [(.ref r_5)])) _
    refine XS.aloadN X5.here hx rfl (hb hby d18_38) rfl rfl ?_
    show Steps p.tables e below (T5.setTop (mkF m 39 #[rv o0, rv o1] [(.ref o1), (.ref r_5)])) _
    exact k
  refine own_cc (own_callV X5 hx hZ (y := (⟨"com/example/foray/foray/graph/Sum", "value", "()Ljava/math/BigDecimal;"⟩ : MethodName)) (z := (⟨"com/example/foray/foray/graph/Sum", "value", "()Ljava/math/BigDecimal;"⟩ : MethodName)) hown (hw _ (List.mem_of_getElem? (i := 105) rfl)) (hw _ (List.mem_of_getElem? (i := 106) rfl)) (notFace_of_selects (args := #[]) (mvT hZ (hw _ (List.mem_of_getElem? (i := 108) rfl)))) (hw _ (List.mem_of_getElem? (i := 108) rfl)) (hw _ (List.mem_of_getElem? (i := 107) rfl)) (hw _ (List.mem_of_getElem? (i := 5) rfl)) (hw _ (List.mem_of_getElem? (i := 109) rfl)) (by decide) (rm20 l Z a0 hw [] o1 w1 rp c1 T5.heap n0 Z0 F_whole_o1 F_rest_o1 E_rp F_intCompact_rp F_scale_rp OZ hBD hp0 hp1 hp2) (rfl : T5.heap = _) 1 (by decide) (by decide) (by decide) (by decide) rfl (by rw [hml]; rfl) o1 E_o1 [] [(.ref r_5)] rfl (lenOf pd_14 rfl) rfl (by show 2 * 0 + _ ≤ _; exact Nat.le_of_eq rfl) (hb hby d18_39)) fun T7 L7 v7 X7 hQ7 => ?_
  obtain ⟨r_7, rfl, N7, K7, E_r_7', F_intCompact_r_7', F_scale_r_7'⟩ := hQ7
  replace N0 := Fr.app N0 N7
  replace E_o0 := E_o0.keep K7
  replace F_whole_o0 := F_whole_o0.keep K7 nin0
  replace F_rest_o0 := F_rest_o0.keep K7 nin0
  replace E_o1 := E_o1.keep K7
  replace F_whole_o1 := F_whole_o1.keep K7 nin0
  replace F_rest_o1 := F_rest_o1.keep K7 nin0
  replace E_ro := E_ro.keep K7
  replace F_intCompact_ro := F_intCompact_ro.keep K7 nin0
  replace F_scale_ro := F_scale_ro.keep K7 nin0
  replace E_rp := E_rp.keep K7
  replace F_intCompact_rp := F_intCompact_rp.keep K7 nin0
  replace F_scale_rp := F_scale_rp.keep K7 nin0
  replace E_r_5 := E_r_5.keep K7
  replace F_intCompact_r_5 := F_intCompact_r_5.keep K7 nin0
  replace F_scale_r_5 := F_scale_r_5.keep K7 nin0
  replace OZ := OZ.keep K7 all0
  replace K0 := K0.trans K7 all0
  replace Z0 := Nat.le_trans Z0 K7.1
  have E_r_7 := E_r_7'
  have F_intCompact_r_7 := F_intCompact_r_7'
  have F_scale_r_7 := F_scale_r_7'
  show own_Go p e below _ (T7.setTop (mkF m 42 #[rv o0, rv o1] [(.ref r_7), (.ref r_5)]))
  refine own_cc (own_callV X7 hx hZ (y := (⟨"java/math/BigDecimal", "compareTo", "(Ljava/math/BigDecimal;)I"⟩ : MethodName)) (z := (⟨"java/math/BigDecimal", "compareTo", "(Ljava/math/BigDecimal;)I"⟩ : MethodName)) hown (hw _ (List.mem_of_getElem? (i := 110) rfl)) (hw _ (List.mem_of_getElem? (i := 111) rfl)) (notFace_of_selects (args := #[]) (mvT hZ (hw _ (List.mem_of_getElem? (i := 113) rfl)))) (hw _ (List.mem_of_getElem? (i := 113) rfl)) (hw _ (List.mem_of_getElem? (i := 112) rfl)) (hw _ (List.mem_of_getElem? (i := 13) rfl)) (hw _ (List.mem_of_getElem? (i := 114) rfl)) (by decide) (rm21 l Z a0 hw [] r_5 r_7 (fadd2 c1 w1) T7.heap n0 Z0 F_intCompact_r_5 F_scale_r_5 F_intCompact_r_7 F_scale_r_7 hp2) (rfl : T7.heap = _) 0 (by decide) (by decide) (by decide) (by decide) rfl (by rw [hml]; rfl) r_5 E_r_5 [(.ref r_7)] [] rfl (lenOf pd_15 rfl) rfl (by show 2 * 0 + _ ≤ _; exact Nat.le_of_eq rfl) (hb hby d18_42)) fun T9 L9 v9 X9 hQ9 => ?_
  obtain ⟨rfl, N9, e9⟩ := hQ9
  replace N0 := Fr.app N0 N9
  show own_Go p e below _ (T9.setTop (mkF m 45 #[rv o0, rv o1] [(.int (0 : Int32))]))
  exact own_retI X9 Bd.notSynchronized hx Bd.returns (hb hby d18_45) (by
      rw [show T9.heap = T7.heap from e9]
      exact ⟨rfl, N0, K0⟩) (by decide) (by decide)

theorem own_mm (x : Int64) (f : Int32) : (576460752303423488 ≤ ((if (f &&& (1 : Int32)) = (0 : Int32) then ((576460752303423488 : Int64) + (x &&& (288230376151711743 : Int64))) else (-((576460752303423488 : Int64) + (x &&& (288230376151711743 : Int64)))))).toInt ∧ ((if (f &&& (1 : Int32)) = (0 : Int32) then ((576460752303423488 : Int64) + (x &&& (288230376151711743 : Int64))) else (-((576460752303423488 : Int64) + (x &&& (288230376151711743 : Int64)))))).toInt < 864691128455135232) ∨ (-864691128455135232 < ((if (f &&& (1 : Int32)) = (0 : Int32) then ((576460752303423488 : Int64) + (x &&& (288230376151711743 : Int64))) else (-((576460752303423488 : Int64) + (x &&& (288230376151711743 : Int64)))))).toInt ∧ ((if (f &&& (1 : Int32)) = (0 : Int32) then ((576460752303423488 : Int64) + (x &&& (288230376151711743 : Int64))) else (-((576460752303423488 : Int64) + (x &&& (288230376151711743 : Int64)))))).toInt ≤ -576460752303423488) := by
  have a1 := c_maskL x (288230376151711743 : Int64) 58 (by decide) (by decide)
  have e1 : (576460752303423488 : Int64).toInt = 576460752303423488 := by decide
  have a2 := c_ladd (576460752303423488 : Int64) (x &&& (288230376151711743 : Int64))
  have a3 := rng64 ((576460752303423488 : Int64) + (x &&& (288230376151711743 : Int64)))
  have a4 := c_lneg ((576460752303423488 : Int64) + (x &&& (288230376151711743 : Int64)))
  have a5 := rng64 (-((576460752303423488 : Int64) + (x &&& (288230376151711743 : Int64))))
  by_cases h : (f &&& (1 : Int32)) = (0 : Int32)
  · rw [if_pos h]; omega
  · rw [if_neg h]; omega
theorem own_qq (x : Int64) : -1000000000000000000 < ((x - (x / (1000000000000000000 : Int64)) * (1000000000000000000 : Int64))).toInt ∧ ((x - (x / (1000000000000000000 : Int64)) * (1000000000000000000 : Int64))).toInt < 1000000000000000000 := by
  have a := c_lrem x (1000000000000000000 : Int64) 1000000000000000000 (by decide)
  by_cases h : 0 ≤ x.toInt
  · have b := a.1 h; omega
  · have b := a.2 (by omega); omega
theorem own_dbl (x : Int64) (h : -4611686018427387904 ≤ x.toInt ∧ x.toInt < 4611686018427387904) : (x + x).toInt = 2 * x.toInt := by
  have a := c_ladd x x
  have b := rng64 (x + x)
  omega
theorem own_m2 (mm : Int64) (h : (576460752303423488 ≤ (mm).toInt ∧ (mm).toInt < 864691128455135232) ∨ (-864691128455135232 < (mm).toInt ∧ (mm).toInt ≤ -576460752303423488)) : ((mm + mm)).toInt = 2 * mm.toInt ∧ (((mm + mm) + (mm + mm))).toInt = 4 * mm.toInt ∧ ((((mm + mm) + (mm + mm)) + ((mm + mm) + (mm + mm)))).toInt = 8 * mm.toInt := by
  have a := own_dbl mm (by omega)
  have b := own_dbl (mm + mm) (by omega)
  have c := own_dbl ((mm + mm) + (mm + mm)) (by omega)
  omega
theorem own_in (x : Int64) (h : -4611686018427387904 < x.toInt ∧ x.toInt < 4611686018427387904) : x < (4611686018427387904 : Int64) ∧ (-4611686018427387904 : Int64) < x := by
  have eL : (4611686018427387904 : Int64).toInt = 4611686018427387904 := by decide
  have eN : (-4611686018427387904 : Int64).toInt = -4611686018427387904 := by decide
  have eM : (-9223372036854775808 : Int64).toInt = -9223372036854775808 := by decide
  have e0 : (0 : Int64).toInt = 0 := by decide
  rw [Int64.lt_iff_toInt_lt, Int64.lt_iff_toInt_lt]; omega
theorem own_sm0 (mm : Int64) (h : (576460752303423488 ≤ (mm).toInt ∧ (mm).toInt < 864691128455135232) ∨ (-864691128455135232 < (mm).toInt ∧ (mm).toInt ≤ -576460752303423488)) : mm < (4611686018427387904 : Int64) ∧ (-4611686018427387904 : Int64) < mm := own_in _ (by omega)
theorem own_sm1 (mm : Int64) (h : (576460752303423488 ≤ (mm).toInt ∧ (mm).toInt < 864691128455135232) ∨ (-864691128455135232 < (mm).toInt ∧ (mm).toInt ≤ -576460752303423488)) : (mm + mm) < (4611686018427387904 : Int64) ∧ (-4611686018427387904 : Int64) < (mm + mm) := by
  have a := own_m2 mm h
  exact own_in _ (by omega)
theorem own_sm2 (mm : Int64) (h : (576460752303423488 ≤ (mm).toInt ∧ (mm).toInt < 864691128455135232) ∨ (-864691128455135232 < (mm).toInt ∧ (mm).toInt ≤ -576460752303423488)) : ((mm + mm) + (mm + mm)) < (4611686018427387904 : Int64) ∧ (-4611686018427387904 : Int64) < ((mm + mm) + (mm + mm)) := by
  have a := own_m2 mm h
  exact own_in _ (by omega)
theorem own_big (mm : Int64) (h : (576460752303423488 ≤ (mm).toInt ∧ (mm).toInt < 864691128455135232) ∨ (-864691128455135232 < (mm).toInt ∧ (mm).toInt ≤ -576460752303423488)) : ¬ ((((mm + mm) + (mm + mm)) + ((mm + mm) + (mm + mm))) < (4611686018427387904 : Int64)) ∨ ¬ ((-4611686018427387904 : Int64) < (((mm + mm) + (mm + mm)) + ((mm + mm) + (mm + mm)))) := by
  have a := own_m2 mm h
  have eL : (4611686018427387904 : Int64).toInt = 4611686018427387904 := by decide
  have eN : (-4611686018427387904 : Int64).toInt = -4611686018427387904 := by decide
  have eM : (-9223372036854775808 : Int64).toInt = -9223372036854775808 := by decide
  have e0 : (0 : Int64).toInt = 0 := by decide
  rw [Int64.lt_iff_toInt_lt, Int64.lt_iff_toInt_lt]; omega
theorem own_nm (mm : Int64) (h : (576460752303423488 ≤ (mm).toInt ∧ (mm).toInt < 864691128455135232) ∨ (-864691128455135232 < (mm).toInt ∧ (mm).toInt ≤ -576460752303423488)) : ¬ ((((mm + mm) + (mm + mm)) + ((mm + mm) + (mm + mm))) = (-9223372036854775808 : Int64)) := by
  have a := own_m2 mm h
  have eL : (4611686018427387904 : Int64).toInt = 4611686018427387904 := by decide
  have eN : (-4611686018427387904 : Int64).toInt = -4611686018427387904 := by decide
  have eM : (-9223372036854775808 : Int64).toInt = -9223372036854775808 := by decide
  have e0 : (0 : Int64).toInt = 0 := by decide
  rw [← Int64.toInt_inj]; omega
theorem own_q1 (q : Int64) (h : -1000000000000000000 < (q).toInt ∧ (q).toInt < 1000000000000000000) : q < (4611686018427387904 : Int64) ∧ (-4611686018427387904 : Int64) < q := own_in _ (by omega)
theorem own_qn (q : Int64) (h : -1000000000000000000 < (q).toInt ∧ (q).toInt < 1000000000000000000) : ¬ (q = (-9223372036854775808 : Int64)) := by
  have eL : (4611686018427387904 : Int64).toInt = 4611686018427387904 := by decide
  have eN : (-4611686018427387904 : Int64).toInt = -4611686018427387904 := by decide
  have eM : (-9223372036854775808 : Int64).toInt = -9223372036854775808 := by decide
  have e0 : (0 : Int64).toInt = 0 := by decide
  rw [← Int64.toInt_inj]; omega
theorem own_cmp (q : Int64) : fcmp q q = (0 : Int32) := by
  unfold fcmp
  rw [if_neg (by rw [Int64.lt_iff_toInt_lt]; omega), if_pos rfl]
theorem own_neg (a : Int64) : a < (0 : Int64) ↔ a.toBitVec.msb = true := by
  rw [Int64.lt_iff_toInt_lt, BitVec.msb_eq_toInt, show (0 : Int64).toInt = 0 from by decide, decide_eq_true_iff]
  exact Iff.rfl
theorem own_ovf (x y : Int64) (h : -9223372036854775808 ≤ x.toInt + y.toInt ∧ x.toInt + y.toInt < 9223372036854775808) : ¬ ((((x + y) ^^^ x) &&& ((x + y) ^^^ y)) < (0 : Int64)) := by
  have a := c_ladd x y
  have b := rng64 (x + y)
  have c : (x + y).toInt = x.toInt + y.toInt := by omega
  have sx := own_neg x
  have sy := own_neg y
  have ss := own_neg (x + y)
  rw [Int64.lt_iff_toInt_lt] at sx sy ss
  have e0 : (0 : Int64).toInt = 0 := by decide
  rw [own_neg, Int64.toBitVec_and, Int64.toBitVec_xor, Int64.toBitVec_xor, BitVec.msb_and, BitVec.msb_xor, BitVec.msb_xor]
  generalize x.toBitVec.msb = mx at *
  generalize y.toBitVec.msb = my at *
  generalize (x + y).toBitVec.msb = ms at *
  cases mx <;> cases my <;> cases ms <;> simp at * <;> omega
theorem own_sum (mm qq : Int64) (h : (576460752303423488 ≤ (mm).toInt ∧ (mm).toInt < 864691128455135232) ∨ (-864691128455135232 < (mm).toInt ∧ (mm).toInt ≤ -576460752303423488)) (h2 : -1000000000000000000 < (qq).toInt ∧ (qq).toInt < 1000000000000000000) : ¬ (fadd2 (((mm + mm) + (mm + mm)) + ((mm + mm) + (mm + mm))) qq = (-9223372036854775808 : Int64)) := by
  have a := own_m2 mm h
  have o := own_ovf (((mm + mm) + (mm + mm)) + ((mm + mm) + (mm + mm))) qq (by omega)
  have b := c_ladd (((mm + mm) + (mm + mm)) + ((mm + mm) + (mm + mm))) qq
  have c := rng64 ((((mm + mm) + (mm + mm)) + ((mm + mm) + (mm + mm))) + qq)
  have eL : (4611686018427387904 : Int64).toInt = 4611686018427387904 := by decide
  have eN : (-4611686018427387904 : Int64).toInt = -4611686018427387904 := by decide
  have eM : (-9223372036854775808 : Int64).toInt = -9223372036854775808 := by decide
  have e0 : (0 : Int64).toInt = 0 := by decide
  unfold fadd2
  rw [if_neg o, ← Int64.toInt_inj]
  omega
theorem own_sgn (x : Int64) (h : ¬ (x.toInt = 0)) : ¬ (fsgn x = (0 : Int32)) := by
  have r := rng64 x
  have a := c_lshr x (63 : Int32) 63 (by decide)
  have b := c_lushr (-x) (63 : Int32) 63 (by decide) (by decide)
  have c := c_lneg x
  have c2 := rng64 (-x)
  unfold fsgn
  generalize (x >>> ((63 : Int32) &&& 0x3f).toInt64) = u at *
  generalize (((-x).toUInt64 >>> ((63 : Int32) &&& 0x3f).toInt64.toUInt64).toInt64) = v at *
  by_cases hn : x.toInt < 0
  · have e : u = -1 := by rw [← Int64.toInt_inj]; have : (-1 : Int64).toInt = -1 := by decide
                          omega
    subst e
    rw [show ((-1 : Int64) ||| v) = -1 from by rw [← Int64.toBitVec_inj, Int64.toBitVec_or]; exact BitVec.allOnes_or]
    decide
  · have e : u = 0 := by rw [← Int64.toInt_inj]; have : (0 : Int64).toInt = 0 := by decide
                         omega
    have e2 : v = 1 := by rw [← Int64.toInt_inj]; have : (1 : Int64).toInt = 1 := by decide
                          omega
    subst e e2
    decide
theorem own_sg (mm : Int64) (h : (576460752303423488 ≤ (mm).toInt ∧ (mm).toInt < 864691128455135232) ∨ (-864691128455135232 < (mm).toInt ∧ (mm).toInt ≤ -576460752303423488)) : ¬ (fsg (((mm + mm) + (mm + mm)) + ((mm + mm) + (mm + mm))) = (0 : Int32)) := by
  have a := own_m2 mm h
  unfold fsg
  exact own_sgn _ (by omega)

theorem pn_0 : plainName "com/example/foray/foray/graph/SumSetPinLaw" = true := by first | (simp [plainName, overriddenIn]; done) | decide +kernel
theorem pd_1 : parseMethodDescriptor "(J)V" = some ⟨[.long], none⟩ := by decide +kernel
theorem pd_2 : parseMethodDescriptor "(Lcom/example/foray/foray/graph/Sum;)V" = some ⟨[(.object "com/example/foray/foray/graph/Sum")], none⟩ := by decide +kernel
theorem pd_12 : parseMethodDescriptor "(Lcom/example/foray/foray/graph/Sum;)I" = some ⟨[(.object "com/example/foray/foray/graph/Sum")], some .int⟩ := by decide +kernel
theorem ef_0 (m : MethodId) (x0 : Int64) (x1 : Int64) (x2 : Int64) (x3 : Int32) : entryFrame m #[(.long x0), (.long x1), (.long x2), (.int x3)] maxLocals = mkF m 0 #[oJ x0, oS, oJ x1, oS, oJ x2, oS, iv x3, oU, oU, oU, oU, oU, oU, oU, oU, oU, oU] [] := by first | (simp [entryFrame, mkF, argsToLocals, Value.category, maxLocals]; done) | rfl
def Q0 (Z : State) (q0 : Int64) (q1 : Int64) (q2 : Int64) (p3 : Int32) (wz : Addr) (h0 : Heap) (n0 : Nat) (v : Option Value) (h : Heap) (L : List Loc) : Prop := v = some (.int (1 : Int32)) ∧ Fr n0 L
set_option maxRecDepth 65536 in
set_option maxHeartbeats 40000000 in
theorem rm0 (l : Launch) (Z : State) (a0 : Array Value) (hw : ∀ d ∈ tables_1, d.before a0 Z = true) (ws : List Jvm.Cond) (q0 : Int64) (q1 : Int64) (q2 : Int64) (p3 : Int32) (wz : Addr) (h0 : Heap) (n0 : Nat) (Z0 : n0 ≤ h0.size) (OZ : Old Z n0 h0) (hBD : own_BD Z) (S_ZERO : Sta Z Z.heap "java/math/BigDecimal" "ZERO" "Ljava/math/BigDecimal;" (.ref wz)) (E_wz : Exa Z h0 wz "java/math/BigDecimal") (F_intCompact_wz : Fld Z h0 wz "java/math/BigDecimal" "intCompact" "J" (.long (0 : Int64))) (F_scale_wz : Fld Z h0 wz "java/math/BigDecimal" "scale" "I" (.int (0 : Int32))) :
    MetFree l x (head1 (Jvm.Cond.code x code maxLocals ret :: ws) room_1) (fun a U => a = #[(.long q0), (.long q1), (.long q2), (.int p3)] ∧ Z.Warmed39 U.vm ∧ U.heap = h0) (fun _ _ _ _ _ => True) (fun _ U o U' => ∃ v L, o = .returned v ∧ Q0 Z q0 q1 q2 p3 wz h0 n0 v U'.heap L ∧ FrameEnd U o U' L room_1.cells room_1.slots) := by
  refine MetFree.of_bodySF (plainFor_of_name pn_0) hisR ?_
  intro p e s m args below meth c s₁ Bd hml0 hP hK
  obtain ⟨rfl, hZ, hh⟩ := hP
  have hx := Bd.exec
  have hby := Bd.bytes
  have hml : c.maxLocals = 17 := hml0
  have hown : s.vm.findClass "com/example/foray/foray/graph/SumSetPinLaw" = some m.cls := findClass_of_methodNamed Bd.named
  have hnm := (name_of_methodNamed Bd.named Bd.method).1
  have X0 : Stand p l e room_1 s m #[(.long q0), (.long q1), (.long q2), (.int p3)] below meth c s₁ [] 0 0 := Stand.of_body Bd
  have e0 : s₁.heap = h0 := by rw [← hh, Bd.state]; rfl
  have N0 := Fr.nil n0
  change own_Go p e below (own_Post s (Q0 Z q0 q1 q2 p3 wz h0 n0) room_1.cells room_1.slots) (s₁.setTop (entryFrame m #[(.long q0), (.long q1), (.long q2), (.int p3)] maxLocals))
  refine own_by (fun t k => castTop (ef_0 m q0 q1 q2 p3) k) ?_
  show own_Go p e below _ (s₁.setTop (mkF m 0 #[oJ q0, oS, oJ q1, oS, oJ q2, oS, iv p3, oU, oU, oU, oU, oU, oU, oU, oU, oU, oU] []))
  refine own_by (B := s₁.setTop (mkF m 7 #[oJ q0, oS, oJ q1, oS, oJ q2, oS, iv p3, oJ (q1 - (q1 / (1000000000000000000 : Int64)) * (1000000000000000000 : Int64)), oS, oU, oU, oU, oU, oU, oU, oU, oU] [])) (fun t k => ?_) ?_
  · show Steps p.tables e below (s₁.setTop (mkF m 0 #[oJ q0, oS, oJ q1, oS, oJ q2, oS, iv p3, oU, oU, oU, oU, oU, oU, oU, oU, oU, oU] [])) _
    refine XS.lloadN X0.here hx rfl (hb hby at_0) rfl ?_
    show Steps p.tables e below (s₁.setTop (mkF m 1 #[oJ q0, oS, oJ q1, oS, oJ q2, oS, iv p3, oU, oU, oU, oU, oU, oU, oU, oU, oU, oU] [(.long q1)])) _
    refine X0.ldc2Long hx hown (mvT hZ (hw _ (List.mem_of_getElem? (i := 0) rfl))) (g := (mkF m 1 #[oJ q0, oS, oJ q1, oS, oJ q2, oS, iv p3, oU, oU, oU, oU, oU, oU, oU, oU, oU, oU] [(.long q1)])) rfl (hb hby at_1) _ ?_
    show Steps p.tables e below (s₁.setTop (mkF m 4 #[oJ q0, oS, oJ q1, oS, oJ q2, oS, iv p3, oU, oU, oU, oU, oU, oU, oU, oU, oU, oU] [(.long (1000000000000000000 : Int64)), (.long q1)])) _
    refine XS.lrem X0.here hx rfl (hb hby at_4) rfl (by decide) ?_
    show Steps p.tables e below (s₁.setTop (mkF m 5 #[oJ q0, oS, oJ q1, oS, oJ q2, oS, iv p3, oU, oU, oU, oU, oU, oU, oU, oU, oU, oU] [(.long (q1 - (q1 / (1000000000000000000 : Int64)) * (1000000000000000000 : Int64)))])) _
    refine XS.lstore X0.here hx rfl (hb hby at_5) rfl (l' := #[oJ q0, oS, oJ q1, oS, oJ q2, oS, iv p3, oJ (q1 - (q1 / (1000000000000000000 : Int64)) * (1000000000000000000 : Int64)), oS, oU, oU, oU, oU, oU, oU, oU, oU]) rfl ?_
    show Steps p.tables e below (s₁.setTop (mkF m 7 #[oJ q0, oS, oJ q1, oS, oJ q2, oS, iv p3, oJ (q1 - (q1 / (1000000000000000000 : Int64)) * (1000000000000000000 : Int64)), oS, oU, oU, oU, oU, oU, oU, oU, oU] [])) _
    exact k
  generalize hqq : (q1 - (q1 / (1000000000000000000 : Int64)) * (1000000000000000000 : Int64)) = qq
  show own_Go p e below _ (s₁.setTop (mkF m 7 #[oJ q0, oS, oJ q1, oS, oJ q2, oS, iv p3, oJ qq, oS, oU, oU, oU, oU, oU, oU, oU, oU] []))
  refine own_by (B := s₁.setTop (mkF m 15 #[oJ q0, oS, oJ q1, oS, oJ q2, oS, iv p3, oJ qq, oS, oJ (q2 - (q2 / (1000000000000000000 : Int64)) * (1000000000000000000 : Int64)), oS, oU, oU, oU, oU, oU, oU] [])) (fun t k => ?_) ?_
  · show Steps p.tables e below (s₁.setTop (mkF m 7 #[oJ q0, oS, oJ q1, oS, oJ q2, oS, iv p3, oJ qq, oS, oU, oU, oU, oU, oU, oU, oU, oU] [])) _
    refine XS.lload X0.here hx rfl (hb hby at_7) rfl ?_
    show Steps p.tables e below (s₁.setTop (mkF m 9 #[oJ q0, oS, oJ q1, oS, oJ q2, oS, iv p3, oJ qq, oS, oU, oU, oU, oU, oU, oU, oU, oU] [(.long q2)])) _
    refine X0.ldc2Long hx hown (mvT hZ (hw _ (List.mem_of_getElem? (i := 0) rfl))) (g := (mkF m 9 #[oJ q0, oS, oJ q1, oS, oJ q2, oS, iv p3, oJ qq, oS, oU, oU, oU, oU, oU, oU, oU, oU] [(.long q2)])) rfl (hb hby at_9) _ ?_
    show Steps p.tables e below (s₁.setTop (mkF m 12 #[oJ q0, oS, oJ q1, oS, oJ q2, oS, iv p3, oJ qq, oS, oU, oU, oU, oU, oU, oU, oU, oU] [(.long (1000000000000000000 : Int64)), (.long q2)])) _
    refine XS.lrem X0.here hx rfl (hb hby at_12) rfl (by decide) ?_
    show Steps p.tables e below (s₁.setTop (mkF m 13 #[oJ q0, oS, oJ q1, oS, oJ q2, oS, iv p3, oJ qq, oS, oU, oU, oU, oU, oU, oU, oU, oU] [(.long (q2 - (q2 / (1000000000000000000 : Int64)) * (1000000000000000000 : Int64)))])) _
    refine XS.lstore X0.here hx rfl (hb hby at_13) rfl (l' := #[oJ q0, oS, oJ q1, oS, oJ q2, oS, iv p3, oJ qq, oS, oJ (q2 - (q2 / (1000000000000000000 : Int64)) * (1000000000000000000 : Int64)), oS, oU, oU, oU, oU, oU, oU]) rfl ?_
    show Steps p.tables e below (s₁.setTop (mkF m 15 #[oJ q0, oS, oJ q1, oS, oJ q2, oS, iv p3, oJ qq, oS, oJ (q2 - (q2 / (1000000000000000000 : Int64)) * (1000000000000000000 : Int64)), oS, oU, oU, oU, oU, oU, oU] [])) _
    exact k
  generalize hrr : (q2 - (q2 / (1000000000000000000 : Int64)) * (1000000000000000000 : Int64)) = rr
  show own_Go p e below _ (s₁.setTop (mkF m 15 #[oJ q0, oS, oJ q1, oS, oJ q2, oS, iv p3, oJ qq, oS, oJ rr, oS, oU, oU, oU, oU, oU, oU] []))
  refine own_by (B := s₁.setTop (mkF m 38 #[oJ q0, oS, oJ q1, oS, oJ q2, oS, iv p3, oJ qq, oS, oJ rr, oS, oJ (if (p3 &&& (1 : Int32)) = (0 : Int32) then ((576460752303423488 : Int64) + (q0 &&& (288230376151711743 : Int64))) else (-((576460752303423488 : Int64) + (q0 &&& (288230376151711743 : Int64))))), oS, oU, oU, oU, oU] [])) (fun t k => ?_) ?_
  · show Steps p.tables e below (s₁.setTop (mkF m 15 #[oJ q0, oS, oJ q1, oS, oJ q2, oS, iv p3, oJ qq, oS, oJ rr, oS, oU, oU, oU, oU, oU, oU] [])) _
    refine X0.ldc2Long hx hown (mvT hZ (hw _ (List.mem_of_getElem? (i := 1) rfl))) (g := (mkF m 15 #[oJ q0, oS, oJ q1, oS, oJ q2, oS, iv p3, oJ qq, oS, oJ rr, oS, oU, oU, oU, oU, oU, oU] [])) rfl (hb hby at_15) _ ?_
    show Steps p.tables e below (s₁.setTop (mkF m 18 #[oJ q0, oS, oJ q1, oS, oJ q2, oS, iv p3, oJ qq, oS, oJ rr, oS, oU, oU, oU, oU, oU, oU] [(.long (576460752303423488 : Int64))])) _
    refine XS.lloadN X0.here hx rfl (hb hby at_18) rfl ?_
    show Steps p.tables e below (s₁.setTop (mkF m 19 #[oJ q0, oS, oJ q1, oS, oJ q2, oS, iv p3, oJ qq, oS, oJ rr, oS, oU, oU, oU, oU, oU, oU] [(.long q0), (.long (576460752303423488 : Int64))])) _
    refine X0.ldc2Long hx hown (mvT hZ (hw _ (List.mem_of_getElem? (i := 2) rfl))) (g := (mkF m 19 #[oJ q0, oS, oJ q1, oS, oJ q2, oS, iv p3, oJ qq, oS, oJ rr, oS, oU, oU, oU, oU, oU, oU] [(.long q0), (.long (576460752303423488 : Int64))])) rfl (hb hby at_19) _ ?_
    show Steps p.tables e below (s₁.setTop (mkF m 22 #[oJ q0, oS, oJ q1, oS, oJ q2, oS, iv p3, oJ qq, oS, oJ rr, oS, oU, oU, oU, oU, oU, oU] [(.long (288230376151711743 : Int64)), (.long q0), (.long (576460752303423488 : Int64))])) _
    refine XS.land X0.here hx rfl (hb hby at_22) rfl ?_
    show Steps p.tables e below (s₁.setTop (mkF m 23 #[oJ q0, oS, oJ q1, oS, oJ q2, oS, iv p3, oJ qq, oS, oJ rr, oS, oU, oU, oU, oU, oU, oU] [(.long (q0 &&& (288230376151711743 : Int64))), (.long (576460752303423488 : Int64))])) _
    refine XS.ladd X0.here hx rfl (hb hby at_23) rfl ?_
    show Steps p.tables e below (s₁.setTop (mkF m 24 #[oJ q0, oS, oJ q1, oS, oJ q2, oS, iv p3, oJ qq, oS, oJ rr, oS, oU, oU, oU, oU, oU, oU] [(.long ((576460752303423488 : Int64) + (q0 &&& (288230376151711743 : Int64))))])) _
    refine XS.lstore X0.here hx rfl (hb hby at_24) rfl (l' := #[oJ q0, oS, oJ q1, oS, oJ q2, oS, iv p3, oJ qq, oS, oJ rr, oS, oJ ((576460752303423488 : Int64) + (q0 &&& (288230376151711743 : Int64))), oS, oU, oU, oU, oU]) rfl ?_
    show Steps p.tables e below (s₁.setTop (mkF m 26 #[oJ q0, oS, oJ q1, oS, oJ q2, oS, iv p3, oJ qq, oS, oJ rr, oS, oJ ((576460752303423488 : Int64) + (q0 &&& (288230376151711743 : Int64))), oS, oU, oU, oU, oU] [])) _
    refine XS.iload X0.here hx rfl (hb hby at_26) rfl ?_
    show Steps p.tables e below (s₁.setTop (mkF m 28 #[oJ q0, oS, oJ q1, oS, oJ q2, oS, iv p3, oJ qq, oS, oJ rr, oS, oJ ((576460752303423488 : Int64) + (q0 &&& (288230376151711743 : Int64))), oS, oU, oU, oU, oU] [(.int p3)])) _
    refine XS.iconst X0.here hx rfl (hb hby at_28) ?_
    show Steps p.tables e below (s₁.setTop (mkF m 29 #[oJ q0, oS, oJ q1, oS, oJ q2, oS, iv p3, oJ qq, oS, oJ rr, oS, oJ ((576460752303423488 : Int64) + (q0 &&& (288230376151711743 : Int64))), oS, oU, oU, oU, oU] [(.int (1 : Int32)), (.int p3)])) _
    refine XS.iand X0.here hx rfl (hb hby at_29) rfl ?_
    show Steps p.tables e below (s₁.setTop (mkF m 30 #[oJ q0, oS, oJ q1, oS, oJ q2, oS, iv p3, oJ qq, oS, oJ rr, oS, oJ ((576460752303423488 : Int64) + (q0 &&& (288230376151711743 : Int64))), oS, oU, oU, oU, oU] [(.int (p3 &&& (1 : Int32)))])) _
    refine (fun t (k : Steps p.tables e below (s₁.setTop (mkF m 38 #[oJ q0, oS, oJ q1, oS, oJ q2, oS, iv p3, oJ qq, oS, oJ rr, oS, oJ (if (p3 &&& (1 : Int32)) = (0 : Int32) then ((576460752303423488 : Int64) + (q0 &&& (288230376151711743 : Int64))) else (-((576460752303423488 : Int64) + (q0 &&& (288230376151711743 : Int64))))), oS, oU, oU, oU, oU] [])) t) => (?_ : Steps p.tables e below _ t)) _ ?_
    · by_cases hc1 : (p3 &&& (1 : Int32)) = (0 : Int32)
      · simp only [if_pos hc1] at k
        refine XS.ifYes X0.here hx rfl (pc0 := 30) (pc' := 38) rfl (hb hby at_30) rfl ((if0 _ _).trans (teq hc1).1) (by decide) (by decide) ?_
        show Steps p.tables e below (s₁.setTop (mkF m 38 #[oJ q0, oS, oJ q1, oS, oJ q2, oS, iv p3, oJ qq, oS, oJ rr, oS, oJ ((576460752303423488 : Int64) + (q0 &&& (288230376151711743 : Int64))), oS, oU, oU, oU, oU] [])) _
        exact k
      · simp only [if_neg hc1] at k
        refine XS.ifNo X0.here hx rfl (hb hby at_30) rfl ((if0 _ _).trans (feq hc1).1) ?_
        show Steps p.tables e below (s₁.setTop (mkF m 33 #[oJ q0, oS, oJ q1, oS, oJ q2, oS, iv p3, oJ qq, oS, oJ rr, oS, oJ ((576460752303423488 : Int64) + (q0 &&& (288230376151711743 : Int64))), oS, oU, oU, oU, oU] [])) _
        refine XS.lload X0.here hx rfl (hb hby at_33) rfl ?_
        show Steps p.tables e below (s₁.setTop (mkF m 35 #[oJ q0, oS, oJ q1, oS, oJ q2, oS, iv p3, oJ qq, oS, oJ rr, oS, oJ ((576460752303423488 : Int64) + (q0 &&& (288230376151711743 : Int64))), oS, oU, oU, oU, oU] [(.long ((576460752303423488 : Int64) + (q0 &&& (288230376151711743 : Int64))))])) _
        refine XS.lneg X0.here hx rfl (hb hby at_35) rfl ?_
        show Steps p.tables e below (s₁.setTop (mkF m 36 #[oJ q0, oS, oJ q1, oS, oJ q2, oS, iv p3, oJ qq, oS, oJ rr, oS, oJ ((576460752303423488 : Int64) + (q0 &&& (288230376151711743 : Int64))), oS, oU, oU, oU, oU] [(.long (-((576460752303423488 : Int64) + (q0 &&& (288230376151711743 : Int64)))))])) _
        refine XS.lstore X0.here hx rfl (hb hby at_36) rfl (l' := #[oJ q0, oS, oJ q1, oS, oJ q2, oS, iv p3, oJ qq, oS, oJ rr, oS, oJ (-((576460752303423488 : Int64) + (q0 &&& (288230376151711743 : Int64)))), oS, oU, oU, oU, oU]) rfl ?_
        show Steps p.tables e below (s₁.setTop (mkF m 38 #[oJ q0, oS, oJ q1, oS, oJ q2, oS, iv p3, oJ qq, oS, oJ rr, oS, oJ (-((576460752303423488 : Int64) + (q0 &&& (288230376151711743 : Int64)))), oS, oU, oU, oU, oU] [])) _
        exact k
    show Steps p.tables e below (s₁.setTop (mkF m 38 #[oJ q0, oS, oJ q1, oS, oJ q2, oS, iv p3, oJ qq, oS, oJ rr, oS, oJ (if (p3 &&& (1 : Int32)) = (0 : Int32) then ((576460752303423488 : Int64) + (q0 &&& (288230376151711743 : Int64))) else (-((576460752303423488 : Int64) + (q0 &&& (288230376151711743 : Int64))))), oS, oU, oU, oU, oU] [])) _
    exact k
  generalize hmm : (if (p3 &&& (1 : Int32)) = (0 : Int32) then ((576460752303423488 : Int64) + (q0 &&& (288230376151711743 : Int64))) else (-((576460752303423488 : Int64) + (q0 &&& (288230376151711743 : Int64))))) = mm
  show own_Go p e below _ (s₁.setTop (mkF m 38 #[oJ q0, oS, oJ q1, oS, oJ q2, oS, iv p3, oJ qq, oS, oJ rr, oS, oJ mm, oS, oU, oU, oU, oU] []))
  obtain ⟨T2, h2, X2, e2, E2, A2, D2, -, st2⟩ := newO X0 hx hZ hown (hw _ (List.mem_of_getElem? (i := 3) rfl)) (hw _ (List.mem_of_getElem? (i := 4) rfl)) (hw _ (List.mem_of_getElem? (i := 5) rfl)) e0 (g := (mkF m 38 #[oJ q0, oS, oJ q1, oS, oJ q2, oS, iv p3, oJ qq, oS, oJ rr, oS, oJ mm, oS, oU, oU, oU, oU] [])) rfl (hb hby at_38) (by decide) (by decide)
  obtain ⟨b2, g2⟩ : ∃ z, z = h0.size := ⟨_, rfl⟩
  rw [← g2] at A2 D2 st2
  have g_b2 : n0 ≤ b2 := Nat.le_trans Z0 (Nat.le_of_eq g2.symm)
  have ne_wz_b2 : wz ≠ b2 := Nat.ne_of_lt (Nat.lt_of_lt_of_le E_wz.lt (Nat.le_of_eq g2.symm))
  replace E_wz := E_wz.ext E2
  replace F_intCompact_wz := F_intCompact_wz.ext E2
  replace F_scale_wz := F_scale_wz.ext E2
  replace OZ := OZ.ext E2
  replace Z0 := Nat.le_trans Z0 E2.1
  have E_b2 := A2
  have F_rest_b2 : Fld Z h2 b2 "com/example/foray/foray/graph/Sum" "rest" "Ljava/math/BigDecimal;" .null := D2 (Or.inl (hw _ (List.mem_of_getElem? (i := 15) rfl))) (ty := (.object "java/math/BigDecimal")) (by decide)
  have F_whole_b2 : Fld Z h2 b2 "com/example/foray/foray/graph/Sum" "whole" "J" (.long (0 : Int64)) := D2 (Or.inl (hw _ (List.mem_of_getElem? (i := 26) rfl))) (ty := .long) (by decide)
  refine own_by st2 ?_
  show own_Go p e below _ (T2.setTop (mkF m 41 #[oJ q0, oS, oJ q1, oS, oJ q2, oS, iv p3, oJ qq, oS, oJ rr, oS, oJ mm, oS, oU, oU, oU, oU] [(.ref b2)]))
  refine own_by (B := T2.setTop (mkF m 42 #[oJ q0, oS, oJ q1, oS, oJ q2, oS, iv p3, oJ qq, oS, oJ rr, oS, oJ mm, oS, oU, oU, oU, oU] [(.ref b2), (.ref b2)])) (fun t k => ?_) ?_
  · show Steps p.tables e below (T2.setTop (mkF m 41 #[oJ q0, oS, oJ q1, oS, oJ q2, oS, iv p3, oJ qq, oS, oJ rr, oS, oJ mm, oS, oU, oU, oU, oU] [(.ref b2)])) _
    refine XS.dup X2.here hx rfl (hb hby at_41) rfl rfl ?_
    show Steps p.tables e below (T2.setTop (mkF m 42 #[oJ q0, oS, oJ q1, oS, oJ q2, oS, iv p3, oJ qq, oS, oJ rr, oS, oJ mm, oS, oU, oU, oU, oU] [(.ref b2), (.ref b2)])) _
    exact k
  refine own_cc (own_callI X2 hx hZ (y := (⟨"com/example/foray/foray/graph/Sum", "<init>", "()V"⟩ : MethodName)) rfl hown (hw _ (List.mem_of_getElem? (i := 6) rfl)) (hw _ (List.mem_of_getElem? (i := 7) rfl)) (hw _ (List.mem_of_getElem? (i := 5) rfl)) (hw _ (List.mem_of_getElem? (i := 8) rfl)) (by decide) (rm1 l Z a0 hw [] b2 wz h2 n0 Z0 E_b2 F_whole_b2 F_rest_b2 g_b2 OZ S_ZERO) e2 1 (by decide) (by decide) (by decide) (by decide) rfl (by rw [hml]; rfl) b2 [] [(.ref b2)] rfl (lenOf pd_0 rfl) rfl (by show 2 * 0 + _ ≤ _; exact Nat.le_of_eq rfl) (hb hby at_42)) fun T4 L4 v4 X4 hQ4 => ?_
  obtain ⟨rfl, N4, K4, E_b2', F_whole_b2', F_rest_b2'⟩ := hQ4
  replace N0 := Fr.app N0 N4
  replace E_wz := E_wz.keep K4
  replace F_intCompact_wz := F_intCompact_wz.keep K4 (ninS ne_wz_b2 nin0)
  replace F_scale_wz := F_scale_wz.keep K4 (ninS ne_wz_b2 nin0)
  replace E_b2 := E_b2.keep K4
  replace OZ := OZ.keep K4 (allS g_b2 all0)
  replace Z0 := Nat.le_trans Z0 K4.1
  replace E_b2 := E_b2'
  have F_whole_b2 := F_whole_b2'
  have F_rest_b2 := F_rest_b2'
  show own_Go p e below _ (T4.setTop (mkF m 45 #[oJ q0, oS, oJ q1, oS, oJ q2, oS, iv p3, oJ qq, oS, oJ rr, oS, oJ mm, oS, oU, oU, oU, oU] [(.ref b2)]))
  refine own_by (B := T4.setTop (mkF m 51 #[oJ q0, oS, oJ q1, oS, oJ q2, oS, iv p3, oJ qq, oS, oJ rr, oS, oJ mm, oS, rv b2, oU, oU, oU] [(.long mm), (.ref b2)])) (fun t k => ?_) ?_
  · show Steps p.tables e below (T4.setTop (mkF m 45 #[oJ q0, oS, oJ q1, oS, oJ q2, oS, iv p3, oJ qq, oS, oJ rr, oS, oJ mm, oS, oU, oU, oU, oU] [(.ref b2)])) _
    refine XS.astore X4.here hx rfl (hb hby at_45) rfl rfl (l' := #[oJ q0, oS, oJ q1, oS, oJ q2, oS, iv p3, oJ qq, oS, oJ rr, oS, oJ mm, oS, rv b2, oU, oU, oU]) rfl ?_
    show Steps p.tables e below (T4.setTop (mkF m 47 #[oJ q0, oS, oJ q1, oS, oJ q2, oS, iv p3, oJ qq, oS, oJ rr, oS, oJ mm, oS, rv b2, oU, oU, oU] [])) _
    refine XS.aload X4.here hx rfl (hb hby at_47) rfl rfl ?_
    show Steps p.tables e below (T4.setTop (mkF m 49 #[oJ q0, oS, oJ q1, oS, oJ q2, oS, iv p3, oJ qq, oS, oJ rr, oS, oJ mm, oS, rv b2, oU, oU, oU] [(.ref b2)])) _
    refine XS.lload X4.here hx rfl (hb hby at_49) rfl ?_
    show Steps p.tables e below (T4.setTop (mkF m 51 #[oJ q0, oS, oJ q1, oS, oJ q2, oS, iv p3, oJ qq, oS, oJ rr, oS, oJ mm, oS, rv b2, oU, oU, oU] [(.long mm), (.ref b2)])) _
    exact k
  refine own_cc (own_callV X4 hx hZ (y := (⟨"com/example/foray/foray/graph/Sum", "addWhole", "(J)V"⟩ : MethodName)) (z := (⟨"com/example/foray/foray/graph/Sum", "addWhole", "(J)V"⟩ : MethodName)) hown (hw _ (List.mem_of_getElem? (i := 16) rfl)) (hw _ (List.mem_of_getElem? (i := 17) rfl)) (notFace_of_selects (args := #[]) (mvT hZ (hw _ (List.mem_of_getElem? (i := 19) rfl)))) (hw _ (List.mem_of_getElem? (i := 19) rfl)) (hw _ (List.mem_of_getElem? (i := 18) rfl)) (hw _ (List.mem_of_getElem? (i := 5) rfl)) (hw _ (List.mem_of_getElem? (i := 20) rfl)) (by decide) (rm3_a l Z a0 hw [] b2 mm wz T4.heap n0 Z0 E_b2 F_whole_b2 F_rest_b2 g_b2) (rfl : T4.heap = _) 0 (by decide) (by decide) (by decide) (by decide) rfl (by rw [hml]; rfl) b2 E_b2 [(.long mm)] [] rfl (lenOf pd_1 rfl) rfl (by show 2 * 0 + _ ≤ _; exact Nat.le_of_eq rfl) (hb hby at_51)) fun T6 L6 v6 X6 hQ6 => ?_
  obtain ⟨rfl, N6, K6, E_b2', F_whole_b2', F_rest_b2'⟩ := hQ6
  replace N0 := Fr.app N0 N6
  replace E_wz := E_wz.keep K6
  replace F_intCompact_wz := F_intCompact_wz.keep K6 (ninS ne_wz_b2 nin0)
  replace F_scale_wz := F_scale_wz.keep K6 (ninS ne_wz_b2 nin0)
  replace E_b2 := E_b2.keep K6
  replace OZ := OZ.keep K6 (allS g_b2 all0)
  replace Z0 := Nat.le_trans Z0 K6.1
  replace E_b2 := E_b2'
  have F_whole_b2 := F_whole_b2'
  have F_rest_b2 := F_rest_b2'
  show own_Go p e below _ (T6.setTop (mkF m 54 #[oJ q0, oS, oJ q1, oS, oJ q2, oS, iv p3, oJ qq, oS, oJ rr, oS, oJ mm, oS, rv b2, oU, oU, oU] []))
  refine own_by (B := T6.setTop (mkF m 58 #[oJ q0, oS, oJ q1, oS, oJ q2, oS, iv p3, oJ qq, oS, oJ rr, oS, oJ mm, oS, rv b2, oU, oU, oU] [(.ref b2), (.ref b2)])) (fun t k => ?_) ?_
  · show Steps p.tables e below (T6.setTop (mkF m 54 #[oJ q0, oS, oJ q1, oS, oJ q2, oS, iv p3, oJ qq, oS, oJ rr, oS, oJ mm, oS, rv b2, oU, oU, oU] [])) _
    refine XS.aload X6.here hx rfl (hb hby at_54) rfl rfl ?_
    show Steps p.tables e below (T6.setTop (mkF m 56 #[oJ q0, oS, oJ q1, oS, oJ q2, oS, iv p3, oJ qq, oS, oJ rr, oS, oJ mm, oS, rv b2, oU, oU, oU] [(.ref b2)])) _
    refine XS.aload X6.here hx rfl (hb hby at_56) rfl rfl ?_
    show Steps p.tables e below (T6.setTop (mkF m 58 #[oJ q0, oS, oJ q1, oS, oJ q2, oS, iv p3, oJ qq, oS, oJ rr, oS, oJ mm, oS, rv b2, oU, oU, oU] [(.ref b2), (.ref b2)])) _
    exact k
  refine own_cc (own_callV X6 hx hZ (y := (⟨"com/example/foray/foray/graph/Sum", "add", "(Lcom/example/foray/foray/graph/Sum;)V"⟩ : MethodName)) (z := (⟨"com/example/foray/foray/graph/Sum", "add", "(Lcom/example/foray/foray/graph/Sum;)V"⟩ : MethodName)) hown (hw _ (List.mem_of_getElem? (i := 29) rfl)) (hw _ (List.mem_of_getElem? (i := 30) rfl)) (notFace_of_selects (args := #[]) (mvT hZ (hw _ (List.mem_of_getElem? (i := 32) rfl)))) (hw _ (List.mem_of_getElem? (i := 32) rfl)) (hw _ (List.mem_of_getElem? (i := 31) rfl)) (hw _ (List.mem_of_getElem? (i := 5) rfl)) (hw _ (List.mem_of_getElem? (i := 33) rfl)) (by decide) (rm5_a l Z a0 hw [] b2 mm wz T6.heap n0 Z0 E_b2 F_whole_b2 F_rest_b2 E_wz F_intCompact_wz F_scale_wz g_b2 (own_sm0 mm (hmm ▸ own_mm _ _)).1 (own_sm0 mm (hmm ▸ own_mm _ _)).2) (rfl : T6.heap = _) 0 (by decide) (by decide) (by decide) (by decide) rfl (by rw [hml]; rfl) b2 E_b2 [(.ref b2)] [] rfl (lenOf pd_2 rfl) rfl (by show 2 * 0 + _ ≤ _; exact Nat.le_of_eq rfl) (hb hby at_58)) fun T8 L8 v8 X8 hQ8 => ?_
  obtain ⟨rfl, N8, K8, E_b2', F_whole_b2', F_rest_b2'⟩ := hQ8
  replace N0 := Fr.app N0 N8
  replace E_wz := E_wz.keep K8
  replace F_intCompact_wz := F_intCompact_wz.keep K8 (ninS ne_wz_b2 nin0)
  replace F_scale_wz := F_scale_wz.keep K8 (ninS ne_wz_b2 nin0)
  replace E_b2 := E_b2.keep K8
  replace OZ := OZ.keep K8 (allS g_b2 all0)
  replace Z0 := Nat.le_trans Z0 K8.1
  replace E_b2 := E_b2'
  have F_whole_b2 := F_whole_b2'
  have F_rest_b2 := F_rest_b2'
  show own_Go p e below _ (T8.setTop (mkF m 61 #[oJ q0, oS, oJ q1, oS, oJ q2, oS, iv p3, oJ qq, oS, oJ rr, oS, oJ mm, oS, rv b2, oU, oU, oU] []))
  refine own_by (B := T8.setTop (mkF m 65 #[oJ q0, oS, oJ q1, oS, oJ q2, oS, iv p3, oJ qq, oS, oJ rr, oS, oJ mm, oS, rv b2, oU, oU, oU] [(.ref b2), (.ref b2)])) (fun t k => ?_) ?_
  · show Steps p.tables e below (T8.setTop (mkF m 61 #[oJ q0, oS, oJ q1, oS, oJ q2, oS, iv p3, oJ qq, oS, oJ rr, oS, oJ mm, oS, rv b2, oU, oU, oU] [])) _
    refine XS.aload X8.here hx rfl (hb hby at_61) rfl rfl ?_
    show Steps p.tables e below (T8.setTop (mkF m 63 #[oJ q0, oS, oJ q1, oS, oJ q2, oS, iv p3, oJ qq, oS, oJ rr, oS, oJ mm, oS, rv b2, oU, oU, oU] [(.ref b2)])) _
    refine XS.aload X8.here hx rfl (hb hby at_63) rfl rfl ?_
    show Steps p.tables e below (T8.setTop (mkF m 65 #[oJ q0, oS, oJ q1, oS, oJ q2, oS, iv p3, oJ qq, oS, oJ rr, oS, oJ mm, oS, rv b2, oU, oU, oU] [(.ref b2), (.ref b2)])) _
    exact k
  refine own_cc (own_callV X8 hx hZ (y := (⟨"com/example/foray/foray/graph/Sum", "add", "(Lcom/example/foray/foray/graph/Sum;)V"⟩ : MethodName)) (z := (⟨"com/example/foray/foray/graph/Sum", "add", "(Lcom/example/foray/foray/graph/Sum;)V"⟩ : MethodName)) hown (hw _ (List.mem_of_getElem? (i := 29) rfl)) (hw _ (List.mem_of_getElem? (i := 30) rfl)) (notFace_of_selects (args := #[]) (mvT hZ (hw _ (List.mem_of_getElem? (i := 32) rfl)))) (hw _ (List.mem_of_getElem? (i := 32) rfl)) (hw _ (List.mem_of_getElem? (i := 31) rfl)) (hw _ (List.mem_of_getElem? (i := 5) rfl)) (hw _ (List.mem_of_getElem? (i := 33) rfl)) (by decide) (rm5_a l Z a0 hw [] b2 (mm + mm) wz T8.heap n0 Z0 E_b2 F_whole_b2 F_rest_b2 E_wz F_intCompact_wz F_scale_wz g_b2 (own_sm1 mm (hmm ▸ own_mm _ _)).1 (own_sm1 mm (hmm ▸ own_mm _ _)).2) (rfl : T8.heap = _) 0 (by decide) (by decide) (by decide) (by decide) rfl (by rw [hml]; rfl) b2 E_b2 [(.ref b2)] [] rfl (lenOf pd_2 rfl) rfl (by show 2 * 0 + _ ≤ _; exact Nat.le_of_eq rfl) (hb hby at_65)) fun T10 L10 v10 X10 hQ10 => ?_
  obtain ⟨rfl, N10, K10, E_b2', F_whole_b2', F_rest_b2'⟩ := hQ10
  replace N0 := Fr.app N0 N10
  replace E_wz := E_wz.keep K10
  replace F_intCompact_wz := F_intCompact_wz.keep K10 (ninS ne_wz_b2 nin0)
  replace F_scale_wz := F_scale_wz.keep K10 (ninS ne_wz_b2 nin0)
  replace E_b2 := E_b2.keep K10
  replace OZ := OZ.keep K10 (allS g_b2 all0)
  replace Z0 := Nat.le_trans Z0 K10.1
  replace E_b2 := E_b2'
  have F_whole_b2 := F_whole_b2'
  have F_rest_b2 := F_rest_b2'
  show own_Go p e below _ (T10.setTop (mkF m 68 #[oJ q0, oS, oJ q1, oS, oJ q2, oS, iv p3, oJ qq, oS, oJ rr, oS, oJ mm, oS, rv b2, oU, oU, oU] []))
  refine own_by (B := T10.setTop (mkF m 72 #[oJ q0, oS, oJ q1, oS, oJ q2, oS, iv p3, oJ qq, oS, oJ rr, oS, oJ mm, oS, rv b2, oU, oU, oU] [(.ref b2), (.ref b2)])) (fun t k => ?_) ?_
  · show Steps p.tables e below (T10.setTop (mkF m 68 #[oJ q0, oS, oJ q1, oS, oJ q2, oS, iv p3, oJ qq, oS, oJ rr, oS, oJ mm, oS, rv b2, oU, oU, oU] [])) _
    refine XS.aload X10.here hx rfl (hb hby at_68) rfl rfl ?_
    show Steps p.tables e below (T10.setTop (mkF m 70 #[oJ q0, oS, oJ q1, oS, oJ q2, oS, iv p3, oJ qq, oS, oJ rr, oS, oJ mm, oS, rv b2, oU, oU, oU] [(.ref b2)])) _
    refine XS.aload X10.here hx rfl (hb hby at_70) rfl rfl ?_
    show Steps p.tables e below (T10.setTop (mkF m 72 #[oJ q0, oS, oJ q1, oS, oJ q2, oS, iv p3, oJ qq, oS, oJ rr, oS, oJ mm, oS, rv b2, oU, oU, oU] [(.ref b2), (.ref b2)])) _
    exact k
  refine own_cc (own_callV X10 hx hZ (y := (⟨"com/example/foray/foray/graph/Sum", "add", "(Lcom/example/foray/foray/graph/Sum;)V"⟩ : MethodName)) (z := (⟨"com/example/foray/foray/graph/Sum", "add", "(Lcom/example/foray/foray/graph/Sum;)V"⟩ : MethodName)) hown (hw _ (List.mem_of_getElem? (i := 29) rfl)) (hw _ (List.mem_of_getElem? (i := 30) rfl)) (notFace_of_selects (args := #[]) (mvT hZ (hw _ (List.mem_of_getElem? (i := 32) rfl)))) (hw _ (List.mem_of_getElem? (i := 32) rfl)) (hw _ (List.mem_of_getElem? (i := 31) rfl)) (hw _ (List.mem_of_getElem? (i := 5) rfl)) (hw _ (List.mem_of_getElem? (i := 33) rfl)) (by decide) (rm5_a l Z a0 hw [] b2 ((mm + mm) + (mm + mm)) wz T10.heap n0 Z0 E_b2 F_whole_b2 F_rest_b2 E_wz F_intCompact_wz F_scale_wz g_b2 (own_sm2 mm (hmm ▸ own_mm _ _)).1 (own_sm2 mm (hmm ▸ own_mm _ _)).2) (rfl : T10.heap = _) 0 (by decide) (by decide) (by decide) (by decide) rfl (by rw [hml]; rfl) b2 E_b2 [(.ref b2)] [] rfl (lenOf pd_2 rfl) rfl (by show 2 * 0 + _ ≤ _; exact Nat.le_of_eq rfl) (hb hby at_72)) fun T12 L12 v12 X12 hQ12 => ?_
  obtain ⟨rfl, N12, K12, E_b2', F_whole_b2', F_rest_b2'⟩ := hQ12
  replace N0 := Fr.app N0 N12
  replace E_wz := E_wz.keep K12
  replace F_intCompact_wz := F_intCompact_wz.keep K12 (ninS ne_wz_b2 nin0)
  replace F_scale_wz := F_scale_wz.keep K12 (ninS ne_wz_b2 nin0)
  replace E_b2 := E_b2.keep K12
  replace OZ := OZ.keep K12 (allS g_b2 all0)
  replace Z0 := Nat.le_trans Z0 K12.1
  replace E_b2 := E_b2'
  have F_whole_b2 := F_whole_b2'
  have F_rest_b2 := F_rest_b2'
  show own_Go p e below _ (T12.setTop (mkF m 75 #[oJ q0, oS, oJ q1, oS, oJ q2, oS, iv p3, oJ qq, oS, oJ rr, oS, oJ mm, oS, rv b2, oU, oU, oU] []))
  obtain ⟨T13, h13, X13, e13, E13, A13, D13, -, st13⟩ := newO X12 hx hZ hown (hw _ (List.mem_of_getElem? (i := 3) rfl)) (hw _ (List.mem_of_getElem? (i := 4) rfl)) (hw _ (List.mem_of_getElem? (i := 5) rfl)) rfl (g := (mkF m 75 #[oJ q0, oS, oJ q1, oS, oJ q2, oS, iv p3, oJ qq, oS, oJ rr, oS, oJ mm, oS, rv b2, oU, oU, oU] [])) rfl (hb hby at_75) (by decide) (by decide)
  obtain ⟨b13, g13⟩ : ∃ z, z = T12.heap.size := ⟨_, rfl⟩
  rw [← g13] at A13 D13 st13
  have g_b13 : n0 ≤ b13 := Nat.le_trans Z0 (Nat.le_of_eq g13.symm)
  have ne_wz_b13 : wz ≠ b13 := Nat.ne_of_lt (Nat.lt_of_lt_of_le E_wz.lt (Nat.le_of_eq g13.symm))
  have ne_b2_b13 : b2 ≠ b13 := Nat.ne_of_lt (Nat.lt_of_lt_of_le E_b2.lt (Nat.le_of_eq g13.symm))
  replace E_wz := E_wz.ext E13
  replace F_intCompact_wz := F_intCompact_wz.ext E13
  replace F_scale_wz := F_scale_wz.ext E13
  replace E_b2 := E_b2.ext E13
  replace F_whole_b2 := F_whole_b2.ext E13
  replace F_rest_b2 := F_rest_b2.ext E13
  replace OZ := OZ.ext E13
  replace Z0 := Nat.le_trans Z0 E13.1
  have E_b13 := A13
  have F_rest_b13 : Fld Z h13 b13 "com/example/foray/foray/graph/Sum" "rest" "Ljava/math/BigDecimal;" .null := D13 (Or.inl (hw _ (List.mem_of_getElem? (i := 15) rfl))) (ty := (.object "java/math/BigDecimal")) (by decide)
  have F_whole_b13 : Fld Z h13 b13 "com/example/foray/foray/graph/Sum" "whole" "J" (.long (0 : Int64)) := D13 (Or.inl (hw _ (List.mem_of_getElem? (i := 26) rfl))) (ty := .long) (by decide)
  refine own_by st13 ?_
  show own_Go p e below _ (T13.setTop (mkF m 78 #[oJ q0, oS, oJ q1, oS, oJ q2, oS, iv p3, oJ qq, oS, oJ rr, oS, oJ mm, oS, rv b2, oU, oU, oU] [(.ref b13)]))
  refine own_by (B := T13.setTop (mkF m 79 #[oJ q0, oS, oJ q1, oS, oJ q2, oS, iv p3, oJ qq, oS, oJ rr, oS, oJ mm, oS, rv b2, oU, oU, oU] [(.ref b13), (.ref b13)])) (fun t k => ?_) ?_
  · show Steps p.tables e below (T13.setTop (mkF m 78 #[oJ q0, oS, oJ q1, oS, oJ q2, oS, iv p3, oJ qq, oS, oJ rr, oS, oJ mm, oS, rv b2, oU, oU, oU] [(.ref b13)])) _
    refine XS.dup X13.here hx rfl (hb hby at_78) rfl rfl ?_
    show Steps p.tables e below (T13.setTop (mkF m 79 #[oJ q0, oS, oJ q1, oS, oJ q2, oS, iv p3, oJ qq, oS, oJ rr, oS, oJ mm, oS, rv b2, oU, oU, oU] [(.ref b13), (.ref b13)])) _
    exact k
  refine own_cc (own_callI X13 hx hZ (y := (⟨"com/example/foray/foray/graph/Sum", "<init>", "()V"⟩ : MethodName)) rfl hown (hw _ (List.mem_of_getElem? (i := 6) rfl)) (hw _ (List.mem_of_getElem? (i := 7) rfl)) (hw _ (List.mem_of_getElem? (i := 5) rfl)) (hw _ (List.mem_of_getElem? (i := 8) rfl)) (by decide) (rm1 l Z a0 hw [] b13 wz h13 n0 Z0 E_b13 F_whole_b13 F_rest_b13 g_b13 OZ S_ZERO) e13 1 (by decide) (by decide) (by decide) (by decide) rfl (by rw [hml]; rfl) b13 [] [(.ref b13)] rfl (lenOf pd_0 rfl) rfl (by show 2 * 0 + _ ≤ _; exact Nat.le_of_eq rfl) (hb hby at_79)) fun T15 L15 v15 X15 hQ15 => ?_
  obtain ⟨rfl, N15, K15, E_b13', F_whole_b13', F_rest_b13'⟩ := hQ15
  replace N0 := Fr.app N0 N15
  replace E_wz := E_wz.keep K15
  replace F_intCompact_wz := F_intCompact_wz.keep K15 (ninS ne_wz_b13 nin0)
  replace F_scale_wz := F_scale_wz.keep K15 (ninS ne_wz_b13 nin0)
  replace E_b2 := E_b2.keep K15
  replace F_whole_b2 := F_whole_b2.keep K15 (ninS ne_b2_b13 nin0)
  replace F_rest_b2 := F_rest_b2.keep K15 (ninS ne_b2_b13 nin0)
  replace E_b13 := E_b13.keep K15
  replace OZ := OZ.keep K15 (allS g_b13 all0)
  replace Z0 := Nat.le_trans Z0 K15.1
  replace E_b13 := E_b13'
  have F_whole_b13 := F_whole_b13'
  have F_rest_b13 := F_rest_b13'
  show own_Go p e below _ (T15.setTop (mkF m 82 #[oJ q0, oS, oJ q1, oS, oJ q2, oS, iv p3, oJ qq, oS, oJ rr, oS, oJ mm, oS, rv b2, oU, oU, oU] [(.ref b13)]))
  refine own_by (B := T15.setTop (mkF m 88 #[oJ q0, oS, oJ q1, oS, oJ q2, oS, iv p3, oJ qq, oS, oJ rr, oS, oJ mm, oS, rv b2, rv b13, oU, oU] [(.long rr), (.ref b13)])) (fun t k => ?_) ?_
  · show Steps p.tables e below (T15.setTop (mkF m 82 #[oJ q0, oS, oJ q1, oS, oJ q2, oS, iv p3, oJ qq, oS, oJ rr, oS, oJ mm, oS, rv b2, oU, oU, oU] [(.ref b13)])) _
    refine XS.astore X15.here hx rfl (hb hby at_82) rfl rfl (l' := #[oJ q0, oS, oJ q1, oS, oJ q2, oS, iv p3, oJ qq, oS, oJ rr, oS, oJ mm, oS, rv b2, rv b13, oU, oU]) rfl ?_
    show Steps p.tables e below (T15.setTop (mkF m 84 #[oJ q0, oS, oJ q1, oS, oJ q2, oS, iv p3, oJ qq, oS, oJ rr, oS, oJ mm, oS, rv b2, rv b13, oU, oU] [])) _
    refine XS.aload X15.here hx rfl (hb hby at_84) rfl rfl ?_
    show Steps p.tables e below (T15.setTop (mkF m 86 #[oJ q0, oS, oJ q1, oS, oJ q2, oS, iv p3, oJ qq, oS, oJ rr, oS, oJ mm, oS, rv b2, rv b13, oU, oU] [(.ref b13)])) _
    refine XS.lload X15.here hx rfl (hb hby at_86) rfl ?_
    show Steps p.tables e below (T15.setTop (mkF m 88 #[oJ q0, oS, oJ q1, oS, oJ q2, oS, iv p3, oJ qq, oS, oJ rr, oS, oJ mm, oS, rv b2, rv b13, oU, oU] [(.long rr), (.ref b13)])) _
    exact k
  refine own_cc (own_callV X15 hx hZ (y := (⟨"com/example/foray/foray/graph/Sum", "addWhole", "(J)V"⟩ : MethodName)) (z := (⟨"com/example/foray/foray/graph/Sum", "addWhole", "(J)V"⟩ : MethodName)) hown (hw _ (List.mem_of_getElem? (i := 16) rfl)) (hw _ (List.mem_of_getElem? (i := 17) rfl)) (notFace_of_selects (args := #[]) (mvT hZ (hw _ (List.mem_of_getElem? (i := 19) rfl)))) (hw _ (List.mem_of_getElem? (i := 19) rfl)) (hw _ (List.mem_of_getElem? (i := 18) rfl)) (hw _ (List.mem_of_getElem? (i := 5) rfl)) (hw _ (List.mem_of_getElem? (i := 20) rfl)) (by decide) (rm3_a l Z a0 hw [] b13 rr wz T15.heap n0 Z0 E_b13 F_whole_b13 F_rest_b13 g_b13) (rfl : T15.heap = _) 0 (by decide) (by decide) (by decide) (by decide) rfl (by rw [hml]; rfl) b13 E_b13 [(.long rr)] [] rfl (lenOf pd_1 rfl) rfl (by show 2 * 0 + _ ≤ _; exact Nat.le_of_eq rfl) (hb hby at_88)) fun T17 L17 v17 X17 hQ17 => ?_
  obtain ⟨rfl, N17, K17, E_b13', F_whole_b13', F_rest_b13'⟩ := hQ17
  replace N0 := Fr.app N0 N17
  replace E_wz := E_wz.keep K17
  replace F_intCompact_wz := F_intCompact_wz.keep K17 (ninS ne_wz_b13 nin0)
  replace F_scale_wz := F_scale_wz.keep K17 (ninS ne_wz_b13 nin0)
  replace E_b2 := E_b2.keep K17
  replace F_whole_b2 := F_whole_b2.keep K17 (ninS ne_b2_b13 nin0)
  replace F_rest_b2 := F_rest_b2.keep K17 (ninS ne_b2_b13 nin0)
  replace E_b13 := E_b13.keep K17
  replace OZ := OZ.keep K17 (allS g_b13 all0)
  replace Z0 := Nat.le_trans Z0 K17.1
  replace E_b13 := E_b13'
  have F_whole_b13 := F_whole_b13'
  have F_rest_b13 := F_rest_b13'
  show own_Go p e below _ (T17.setTop (mkF m 91 #[oJ q0, oS, oJ q1, oS, oJ q2, oS, iv p3, oJ qq, oS, oJ rr, oS, oJ mm, oS, rv b2, rv b13, oU, oU] []))
  refine own_by (B := T17.setTop (mkF m 95 #[oJ q0, oS, oJ q1, oS, oJ q2, oS, iv p3, oJ qq, oS, oJ rr, oS, oJ mm, oS, rv b2, rv b13, oU, oU] [(.int (p3 &&& (2 : Int32)))])) (fun t k => ?_) ?_
  · show Steps p.tables e below (T17.setTop (mkF m 91 #[oJ q0, oS, oJ q1, oS, oJ q2, oS, iv p3, oJ qq, oS, oJ rr, oS, oJ mm, oS, rv b2, rv b13, oU, oU] [])) _
    refine XS.iload X17.here hx rfl (hb hby at_91) rfl ?_
    show Steps p.tables e below (T17.setTop (mkF m 93 #[oJ q0, oS, oJ q1, oS, oJ q2, oS, iv p3, oJ qq, oS, oJ rr, oS, oJ mm, oS, rv b2, rv b13, oU, oU] [(.int p3)])) _
    refine XS.iconst X17.here hx rfl (hb hby at_93) ?_
    show Steps p.tables e below (T17.setTop (mkF m 94 #[oJ q0, oS, oJ q1, oS, oJ q2, oS, iv p3, oJ qq, oS, oJ rr, oS, oJ mm, oS, rv b2, rv b13, oU, oU] [(.int (2 : Int32)), (.int p3)])) _
    refine XS.iand X17.here hx rfl (hb hby at_94) rfl ?_
    show Steps p.tables e below (T17.setTop (mkF m 95 #[oJ q0, oS, oJ q1, oS, oJ q2, oS, iv p3, oJ qq, oS, oJ rr, oS, oJ mm, oS, rv b2, rv b13, oU, oU] [(.int (p3 &&& (2 : Int32)))])) _
    exact k
  by_cases hc19 : (p3 &&& (2 : Int32)) = (0 : Int32)
  · skip
    refine own_by (fun t k => XS.ifYes X17.here hx rfl (pc0 := 95) (pc' := 105) rfl (hb hby at_95) rfl ((if0 _ _).trans (teq hc19).1) (by decide) (by decide) k) ?_
    show own_Go p e below _ (T17.setTop (mkF m 105 #[oJ q0, oS, oJ q1, oS, oJ q2, oS, iv p3, oJ qq, oS, oJ rr, oS, oJ mm, oS, rv b2, rv b13, oU, oU] []))
    obtain ⟨T20, h20, X20, e20, E20, A20, D20, -, st20⟩ := newO X17 hx hZ hown (hw _ (List.mem_of_getElem? (i := 3) rfl)) (hw _ (List.mem_of_getElem? (i := 4) rfl)) (hw _ (List.mem_of_getElem? (i := 5) rfl)) rfl (g := (mkF m 105 #[oJ q0, oS, oJ q1, oS, oJ q2, oS, iv p3, oJ qq, oS, oJ rr, oS, oJ mm, oS, rv b2, rv b13, oU, oU] [])) rfl (hb hby at_105) (by decide) (by decide)
    obtain ⟨b20, g20⟩ : ∃ z, z = T17.heap.size := ⟨_, rfl⟩
    rw [← g20] at A20 D20 st20
    have g_b20 : n0 ≤ b20 := Nat.le_trans Z0 (Nat.le_of_eq g20.symm)
    have ne_wz_b20 : wz ≠ b20 := Nat.ne_of_lt (Nat.lt_of_lt_of_le E_wz.lt (Nat.le_of_eq g20.symm))
    have ne_b2_b20 : b2 ≠ b20 := Nat.ne_of_lt (Nat.lt_of_lt_of_le E_b2.lt (Nat.le_of_eq g20.symm))
    have ne_b13_b20 : b13 ≠ b20 := Nat.ne_of_lt (Nat.lt_of_lt_of_le E_b13.lt (Nat.le_of_eq g20.symm))
    replace E_wz := E_wz.ext E20
    replace F_intCompact_wz := F_intCompact_wz.ext E20
    replace F_scale_wz := F_scale_wz.ext E20
    replace E_b2 := E_b2.ext E20
    replace F_whole_b2 := F_whole_b2.ext E20
    replace F_rest_b2 := F_rest_b2.ext E20
    replace E_b13 := E_b13.ext E20
    replace F_whole_b13 := F_whole_b13.ext E20
    replace F_rest_b13 := F_rest_b13.ext E20
    replace OZ := OZ.ext E20
    replace Z0 := Nat.le_trans Z0 E20.1
    have E_b20 := A20
    have F_rest_b20 : Fld Z h20 b20 "com/example/foray/foray/graph/Sum" "rest" "Ljava/math/BigDecimal;" .null := D20 (Or.inl (hw _ (List.mem_of_getElem? (i := 15) rfl))) (ty := (.object "java/math/BigDecimal")) (by decide)
    have F_whole_b20 : Fld Z h20 b20 "com/example/foray/foray/graph/Sum" "whole" "J" (.long (0 : Int64)) := D20 (Or.inl (hw _ (List.mem_of_getElem? (i := 26) rfl))) (ty := .long) (by decide)
    refine own_by st20 ?_
    show own_Go p e below _ (T20.setTop (mkF m 108 #[oJ q0, oS, oJ q1, oS, oJ q2, oS, iv p3, oJ qq, oS, oJ rr, oS, oJ mm, oS, rv b2, rv b13, oU, oU] [(.ref b20)]))
    refine own_by (B := T20.setTop (mkF m 109 #[oJ q0, oS, oJ q1, oS, oJ q2, oS, iv p3, oJ qq, oS, oJ rr, oS, oJ mm, oS, rv b2, rv b13, oU, oU] [(.ref b20), (.ref b20)])) (fun t k => ?_) ?_
    · show Steps p.tables e below (T20.setTop (mkF m 108 #[oJ q0, oS, oJ q1, oS, oJ q2, oS, iv p3, oJ qq, oS, oJ rr, oS, oJ mm, oS, rv b2, rv b13, oU, oU] [(.ref b20)])) _
      refine XS.dup X20.here hx rfl (hb hby at_108) rfl rfl ?_
      show Steps p.tables e below (T20.setTop (mkF m 109 #[oJ q0, oS, oJ q1, oS, oJ q2, oS, iv p3, oJ qq, oS, oJ rr, oS, oJ mm, oS, rv b2, rv b13, oU, oU] [(.ref b20), (.ref b20)])) _
      exact k
    refine own_cc (own_callI X20 hx hZ (y := (⟨"com/example/foray/foray/graph/Sum", "<init>", "()V"⟩ : MethodName)) rfl hown (hw _ (List.mem_of_getElem? (i := 6) rfl)) (hw _ (List.mem_of_getElem? (i := 7) rfl)) (hw _ (List.mem_of_getElem? (i := 5) rfl)) (hw _ (List.mem_of_getElem? (i := 8) rfl)) (by decide) (rm1 l Z a0 hw [] b20 wz h20 n0 Z0 E_b20 F_whole_b20 F_rest_b20 g_b20 OZ S_ZERO) e20 1 (by decide) (by decide) (by decide) (by decide) rfl (by rw [hml]; rfl) b20 [] [(.ref b20)] rfl (lenOf pd_0 rfl) rfl (by show 2 * 0 + _ ≤ _; exact Nat.le_of_eq rfl) (hb hby at_109)) fun T22 L22 v22 X22 hQ22 => ?_
    obtain ⟨rfl, N22, K22, E_b20', F_whole_b20', F_rest_b20'⟩ := hQ22
    replace N0 := Fr.app N0 N22
    replace E_wz := E_wz.keep K22
    replace F_intCompact_wz := F_intCompact_wz.keep K22 (ninS ne_wz_b20 nin0)
    replace F_scale_wz := F_scale_wz.keep K22 (ninS ne_wz_b20 nin0)
    replace E_b2 := E_b2.keep K22
    replace F_whole_b2 := F_whole_b2.keep K22 (ninS ne_b2_b20 nin0)
    replace F_rest_b2 := F_rest_b2.keep K22 (ninS ne_b2_b20 nin0)
    replace E_b13 := E_b13.keep K22
    replace F_whole_b13 := F_whole_b13.keep K22 (ninS ne_b13_b20 nin0)
    replace F_rest_b13 := F_rest_b13.keep K22 (ninS ne_b13_b20 nin0)
    replace E_b20 := E_b20.keep K22
    replace OZ := OZ.keep K22 (allS g_b20 all0)
    replace Z0 := Nat.le_trans Z0 K22.1
    replace E_b20 := E_b20'
    have F_whole_b20 := F_whole_b20'
    have F_rest_b20 := F_rest_b20'
    show own_Go p e below _ (T22.setTop (mkF m 112 #[oJ q0, oS, oJ q1, oS, oJ q2, oS, iv p3, oJ qq, oS, oJ rr, oS, oJ mm, oS, rv b2, rv b13, oU, oU] [(.ref b20)]))
    refine own_by (B := T22.setTop (mkF m 118 #[oJ q0, oS, oJ q1, oS, oJ q2, oS, iv p3, oJ qq, oS, oJ rr, oS, oJ mm, oS, rv b2, rv b13, rv b20, oU] [(.int (p3 &&& (4 : Int32)))])) (fun t k => ?_) ?_
    · show Steps p.tables e below (T22.setTop (mkF m 112 #[oJ q0, oS, oJ q1, oS, oJ q2, oS, iv p3, oJ qq, oS, oJ rr, oS, oJ mm, oS, rv b2, rv b13, oU, oU] [(.ref b20)])) _
      refine XS.astore X22.here hx rfl (hb hby at_112) rfl rfl (l' := #[oJ q0, oS, oJ q1, oS, oJ q2, oS, iv p3, oJ qq, oS, oJ rr, oS, oJ mm, oS, rv b2, rv b13, rv b20, oU]) rfl ?_
      show Steps p.tables e below (T22.setTop (mkF m 114 #[oJ q0, oS, oJ q1, oS, oJ q2, oS, iv p3, oJ qq, oS, oJ rr, oS, oJ mm, oS, rv b2, rv b13, rv b20, oU] [])) _
      refine XS.iload X22.here hx rfl (hb hby at_114) rfl ?_
      show Steps p.tables e below (T22.setTop (mkF m 116 #[oJ q0, oS, oJ q1, oS, oJ q2, oS, iv p3, oJ qq, oS, oJ rr, oS, oJ mm, oS, rv b2, rv b13, rv b20, oU] [(.int p3)])) _
      refine XS.iconst X22.here hx rfl (hb hby at_116) ?_
      show Steps p.tables e below (T22.setTop (mkF m 117 #[oJ q0, oS, oJ q1, oS, oJ q2, oS, iv p3, oJ qq, oS, oJ rr, oS, oJ mm, oS, rv b2, rv b13, rv b20, oU] [(.int (4 : Int32)), (.int p3)])) _
      refine XS.iand X22.here hx rfl (hb hby at_117) rfl ?_
      show Steps p.tables e below (T22.setTop (mkF m 118 #[oJ q0, oS, oJ q1, oS, oJ q2, oS, iv p3, oJ qq, oS, oJ rr, oS, oJ mm, oS, rv b2, rv b13, rv b20, oU] [(.int (p3 &&& (4 : Int32)))])) _
      exact k
    by_cases hc24 : (p3 &&& (4 : Int32)) = (0 : Int32)
    · skip
      refine own_by (fun t k => XS.ifYes X22.here hx rfl (pc0 := 118) (pc' := 149) rfl (hb hby at_118) rfl ((if0 _ _).trans (teq hc24).1) (by decide) (by decide) k) ?_
      show own_Go p e below _ (T22.setTop (mkF m 149 #[oJ q0, oS, oJ q1, oS, oJ q2, oS, iv p3, oJ qq, oS, oJ rr, oS, oJ mm, oS, rv b2, rv b13, rv b20, oU] []))
      refine own_by (B := T22.setTop (mkF m 153 #[oJ q0, oS, oJ q1, oS, oJ q2, oS, iv p3, oJ qq, oS, oJ rr, oS, oJ mm, oS, rv b2, rv b13, rv b20, oU] [(.long qq), (.ref b20)])) (fun t k => ?_) ?_
      · show Steps p.tables e below (T22.setTop (mkF m 149 #[oJ q0, oS, oJ q1, oS, oJ q2, oS, iv p3, oJ qq, oS, oJ rr, oS, oJ mm, oS, rv b2, rv b13, rv b20, oU] [])) _
        refine XS.aload X22.here hx rfl (hb hby at_149) rfl rfl ?_
        show Steps p.tables e below (T22.setTop (mkF m 151 #[oJ q0, oS, oJ q1, oS, oJ q2, oS, iv p3, oJ qq, oS, oJ rr, oS, oJ mm, oS, rv b2, rv b13, rv b20, oU] [(.ref b20)])) _
        refine XS.lload X22.here hx rfl (hb hby at_151) rfl ?_
        show Steps p.tables e below (T22.setTop (mkF m 153 #[oJ q0, oS, oJ q1, oS, oJ q2, oS, iv p3, oJ qq, oS, oJ rr, oS, oJ mm, oS, rv b2, rv b13, rv b20, oU] [(.long qq), (.ref b20)])) _
        exact k
      refine own_cc (own_callV X22 hx hZ (y := (⟨"com/example/foray/foray/graph/Sum", "addWhole", "(J)V"⟩ : MethodName)) (z := (⟨"com/example/foray/foray/graph/Sum", "addWhole", "(J)V"⟩ : MethodName)) hown (hw _ (List.mem_of_getElem? (i := 16) rfl)) (hw _ (List.mem_of_getElem? (i := 17) rfl)) (notFace_of_selects (args := #[]) (mvT hZ (hw _ (List.mem_of_getElem? (i := 19) rfl)))) (hw _ (List.mem_of_getElem? (i := 19) rfl)) (hw _ (List.mem_of_getElem? (i := 18) rfl)) (hw _ (List.mem_of_getElem? (i := 5) rfl)) (hw _ (List.mem_of_getElem? (i := 20) rfl)) (by decide) (rm3_a l Z a0 hw [] b20 qq wz T22.heap n0 Z0 E_b20 F_whole_b20 F_rest_b20 g_b20) (rfl : T22.heap = _) 0 (by decide) (by decide) (by decide) (by decide) rfl (by rw [hml]; rfl) b20 E_b20 [(.long qq)] [] rfl (lenOf pd_1 rfl) rfl (by show 2 * 0 + _ ≤ _; exact Nat.le_of_eq rfl) (hb hby at_153)) fun T26 L26 v26 X26 hQ26 => ?_
      obtain ⟨rfl, N26, K26, E_b20', F_whole_b20', F_rest_b20'⟩ := hQ26
      replace N0 := Fr.app N0 N26
      replace E_wz := E_wz.keep K26
      replace F_intCompact_wz := F_intCompact_wz.keep K26 (ninS ne_wz_b20 nin0)
      replace F_scale_wz := F_scale_wz.keep K26 (ninS ne_wz_b20 nin0)
      replace E_b2 := E_b2.keep K26
      replace F_whole_b2 := F_whole_b2.keep K26 (ninS ne_b2_b20 nin0)
      replace F_rest_b2 := F_rest_b2.keep K26 (ninS ne_b2_b20 nin0)
      replace E_b13 := E_b13.keep K26
      replace F_whole_b13 := F_whole_b13.keep K26 (ninS ne_b13_b20 nin0)
      replace F_rest_b13 := F_rest_b13.keep K26 (ninS ne_b13_b20 nin0)
      replace E_b20 := E_b20.keep K26
      replace OZ := OZ.keep K26 (allS g_b20 all0)
      replace Z0 := Nat.le_trans Z0 K26.1
      replace E_b20 := E_b20'
      have F_whole_b20 := F_whole_b20'
      have F_rest_b20 := F_rest_b20'
      show own_Go p e below _ (T26.setTop (mkF m 156 #[oJ q0, oS, oJ q1, oS, oJ q2, oS, iv p3, oJ qq, oS, oJ rr, oS, oJ mm, oS, rv b2, rv b13, rv b20, oU] []))
      obtain ⟨T27, h27, X27, e27, E27, A27, D27, -, st27⟩ := newO X26 hx hZ hown (hw _ (List.mem_of_getElem? (i := 3) rfl)) (hw _ (List.mem_of_getElem? (i := 4) rfl)) (hw _ (List.mem_of_getElem? (i := 5) rfl)) rfl (g := (mkF m 156 #[oJ q0, oS, oJ q1, oS, oJ q2, oS, iv p3, oJ qq, oS, oJ rr, oS, oJ mm, oS, rv b2, rv b13, rv b20, oU] [])) rfl (hb hby at_156) (by decide) (by decide)
      obtain ⟨b27, g27⟩ : ∃ z, z = T26.heap.size := ⟨_, rfl⟩
      rw [← g27] at A27 D27 st27
      have g_b27 : n0 ≤ b27 := Nat.le_trans Z0 (Nat.le_of_eq g27.symm)
      have ne_wz_b27 : wz ≠ b27 := Nat.ne_of_lt (Nat.lt_of_lt_of_le E_wz.lt (Nat.le_of_eq g27.symm))
      have ne_b2_b27 : b2 ≠ b27 := Nat.ne_of_lt (Nat.lt_of_lt_of_le E_b2.lt (Nat.le_of_eq g27.symm))
      have ne_b13_b27 : b13 ≠ b27 := Nat.ne_of_lt (Nat.lt_of_lt_of_le E_b13.lt (Nat.le_of_eq g27.symm))
      have ne_b20_b27 : b20 ≠ b27 := Nat.ne_of_lt (Nat.lt_of_lt_of_le E_b20.lt (Nat.le_of_eq g27.symm))
      replace E_wz := E_wz.ext E27
      replace F_intCompact_wz := F_intCompact_wz.ext E27
      replace F_scale_wz := F_scale_wz.ext E27
      replace E_b2 := E_b2.ext E27
      replace F_whole_b2 := F_whole_b2.ext E27
      replace F_rest_b2 := F_rest_b2.ext E27
      replace E_b13 := E_b13.ext E27
      replace F_whole_b13 := F_whole_b13.ext E27
      replace F_rest_b13 := F_rest_b13.ext E27
      replace E_b20 := E_b20.ext E27
      replace F_whole_b20 := F_whole_b20.ext E27
      replace F_rest_b20 := F_rest_b20.ext E27
      replace OZ := OZ.ext E27
      replace Z0 := Nat.le_trans Z0 E27.1
      have E_b27 := A27
      have F_rest_b27 : Fld Z h27 b27 "com/example/foray/foray/graph/Sum" "rest" "Ljava/math/BigDecimal;" .null := D27 (Or.inl (hw _ (List.mem_of_getElem? (i := 15) rfl))) (ty := (.object "java/math/BigDecimal")) (by decide)
      have F_whole_b27 : Fld Z h27 b27 "com/example/foray/foray/graph/Sum" "whole" "J" (.long (0 : Int64)) := D27 (Or.inl (hw _ (List.mem_of_getElem? (i := 26) rfl))) (ty := .long) (by decide)
      refine own_by st27 ?_
      show own_Go p e below _ (T27.setTop (mkF m 159 #[oJ q0, oS, oJ q1, oS, oJ q2, oS, iv p3, oJ qq, oS, oJ rr, oS, oJ mm, oS, rv b2, rv b13, rv b20, oU] [(.ref b27)]))
      refine own_by (B := T27.setTop (mkF m 160 #[oJ q0, oS, oJ q1, oS, oJ q2, oS, iv p3, oJ qq, oS, oJ rr, oS, oJ mm, oS, rv b2, rv b13, rv b20, oU] [(.ref b27), (.ref b27)])) (fun t k => ?_) ?_
      · show Steps p.tables e below (T27.setTop (mkF m 159 #[oJ q0, oS, oJ q1, oS, oJ q2, oS, iv p3, oJ qq, oS, oJ rr, oS, oJ mm, oS, rv b2, rv b13, rv b20, oU] [(.ref b27)])) _
        refine XS.dup X27.here hx rfl (hb hby at_159) rfl rfl ?_
        show Steps p.tables e below (T27.setTop (mkF m 160 #[oJ q0, oS, oJ q1, oS, oJ q2, oS, iv p3, oJ qq, oS, oJ rr, oS, oJ mm, oS, rv b2, rv b13, rv b20, oU] [(.ref b27), (.ref b27)])) _
        exact k
      refine own_cc (own_callI X27 hx hZ (y := (⟨"com/example/foray/foray/graph/Sum", "<init>", "()V"⟩ : MethodName)) rfl hown (hw _ (List.mem_of_getElem? (i := 6) rfl)) (hw _ (List.mem_of_getElem? (i := 7) rfl)) (hw _ (List.mem_of_getElem? (i := 5) rfl)) (hw _ (List.mem_of_getElem? (i := 8) rfl)) (by decide) (rm1 l Z a0 hw [] b27 wz h27 n0 Z0 E_b27 F_whole_b27 F_rest_b27 g_b27 OZ S_ZERO) e27 1 (by decide) (by decide) (by decide) (by decide) rfl (by rw [hml]; rfl) b27 [] [(.ref b27)] rfl (lenOf pd_0 rfl) rfl (by show 2 * 0 + _ ≤ _; exact Nat.le_of_eq rfl) (hb hby at_160)) fun T29 L29 v29 X29 hQ29 => ?_
      obtain ⟨rfl, N29, K29, E_b27', F_whole_b27', F_rest_b27'⟩ := hQ29
      replace N0 := Fr.app N0 N29
      replace E_wz := E_wz.keep K29
      replace F_intCompact_wz := F_intCompact_wz.keep K29 (ninS ne_wz_b27 nin0)
      replace F_scale_wz := F_scale_wz.keep K29 (ninS ne_wz_b27 nin0)
      replace E_b2 := E_b2.keep K29
      replace F_whole_b2 := F_whole_b2.keep K29 (ninS ne_b2_b27 nin0)
      replace F_rest_b2 := F_rest_b2.keep K29 (ninS ne_b2_b27 nin0)
      replace E_b13 := E_b13.keep K29
      replace F_whole_b13 := F_whole_b13.keep K29 (ninS ne_b13_b27 nin0)
      replace F_rest_b13 := F_rest_b13.keep K29 (ninS ne_b13_b27 nin0)
      replace E_b20 := E_b20.keep K29
      replace F_whole_b20 := F_whole_b20.keep K29 (ninS ne_b20_b27 nin0)
      replace F_rest_b20 := F_rest_b20.keep K29 (ninS ne_b20_b27 nin0)
      replace E_b27 := E_b27.keep K29
      replace OZ := OZ.keep K29 (allS g_b27 all0)
      replace Z0 := Nat.le_trans Z0 K29.1
      replace E_b27 := E_b27'
      have F_whole_b27 := F_whole_b27'
      have F_rest_b27 := F_rest_b27'
      show own_Go p e below _ (T29.setTop (mkF m 163 #[oJ q0, oS, oJ q1, oS, oJ q2, oS, iv p3, oJ qq, oS, oJ rr, oS, oJ mm, oS, rv b2, rv b13, rv b20, oU] [(.ref b27)]))
      refine own_by (B := T29.setTop (mkF m 169 #[oJ q0, oS, oJ q1, oS, oJ q2, oS, iv p3, oJ qq, oS, oJ rr, oS, oJ mm, oS, rv b2, rv b13, rv b20, rv b27] [(.long qq), (.ref b27)])) (fun t k => ?_) ?_
      · show Steps p.tables e below (T29.setTop (mkF m 163 #[oJ q0, oS, oJ q1, oS, oJ q2, oS, iv p3, oJ qq, oS, oJ rr, oS, oJ mm, oS, rv b2, rv b13, rv b20, oU] [(.ref b27)])) _
        refine XS.astore X29.here hx rfl (hb hby at_163) rfl rfl (l' := #[oJ q0, oS, oJ q1, oS, oJ q2, oS, iv p3, oJ qq, oS, oJ rr, oS, oJ mm, oS, rv b2, rv b13, rv b20, rv b27]) rfl ?_
        show Steps p.tables e below (T29.setTop (mkF m 165 #[oJ q0, oS, oJ q1, oS, oJ q2, oS, iv p3, oJ qq, oS, oJ rr, oS, oJ mm, oS, rv b2, rv b13, rv b20, rv b27] [])) _
        refine XS.aload X29.here hx rfl (hb hby at_165) rfl rfl ?_
        show Steps p.tables e below (T29.setTop (mkF m 167 #[oJ q0, oS, oJ q1, oS, oJ q2, oS, iv p3, oJ qq, oS, oJ rr, oS, oJ mm, oS, rv b2, rv b13, rv b20, rv b27] [(.ref b27)])) _
        refine XS.lload X29.here hx rfl (hb hby at_167) rfl ?_
        show Steps p.tables e below (T29.setTop (mkF m 169 #[oJ q0, oS, oJ q1, oS, oJ q2, oS, iv p3, oJ qq, oS, oJ rr, oS, oJ mm, oS, rv b2, rv b13, rv b20, rv b27] [(.long qq), (.ref b27)])) _
        exact k
      refine own_cc (own_callV X29 hx hZ (y := (⟨"com/example/foray/foray/graph/Sum", "addWhole", "(J)V"⟩ : MethodName)) (z := (⟨"com/example/foray/foray/graph/Sum", "addWhole", "(J)V"⟩ : MethodName)) hown (hw _ (List.mem_of_getElem? (i := 16) rfl)) (hw _ (List.mem_of_getElem? (i := 17) rfl)) (notFace_of_selects (args := #[]) (mvT hZ (hw _ (List.mem_of_getElem? (i := 19) rfl)))) (hw _ (List.mem_of_getElem? (i := 19) rfl)) (hw _ (List.mem_of_getElem? (i := 18) rfl)) (hw _ (List.mem_of_getElem? (i := 5) rfl)) (hw _ (List.mem_of_getElem? (i := 20) rfl)) (by decide) (rm3_a l Z a0 hw [] b27 qq wz T29.heap n0 Z0 E_b27 F_whole_b27 F_rest_b27 g_b27) (rfl : T29.heap = _) 0 (by decide) (by decide) (by decide) (by decide) rfl (by rw [hml]; rfl) b27 E_b27 [(.long qq)] [] rfl (lenOf pd_1 rfl) rfl (by show 2 * 0 + _ ≤ _; exact Nat.le_of_eq rfl) (hb hby at_169)) fun T31 L31 v31 X31 hQ31 => ?_
      obtain ⟨rfl, N31, K31, E_b27', F_whole_b27', F_rest_b27'⟩ := hQ31
      replace N0 := Fr.app N0 N31
      replace E_wz := E_wz.keep K31
      replace F_intCompact_wz := F_intCompact_wz.keep K31 (ninS ne_wz_b27 nin0)
      replace F_scale_wz := F_scale_wz.keep K31 (ninS ne_wz_b27 nin0)
      replace E_b2 := E_b2.keep K31
      replace F_whole_b2 := F_whole_b2.keep K31 (ninS ne_b2_b27 nin0)
      replace F_rest_b2 := F_rest_b2.keep K31 (ninS ne_b2_b27 nin0)
      replace E_b13 := E_b13.keep K31
      replace F_whole_b13 := F_whole_b13.keep K31 (ninS ne_b13_b27 nin0)
      replace F_rest_b13 := F_rest_b13.keep K31 (ninS ne_b13_b27 nin0)
      replace E_b20 := E_b20.keep K31
      replace F_whole_b20 := F_whole_b20.keep K31 (ninS ne_b20_b27 nin0)
      replace F_rest_b20 := F_rest_b20.keep K31 (ninS ne_b20_b27 nin0)
      replace E_b27 := E_b27.keep K31
      replace OZ := OZ.keep K31 (allS g_b27 all0)
      replace Z0 := Nat.le_trans Z0 K31.1
      replace E_b27 := E_b27'
      have F_whole_b27 := F_whole_b27'
      have F_rest_b27 := F_rest_b27'
      show own_Go p e below _ (T31.setTop (mkF m 172 #[oJ q0, oS, oJ q1, oS, oJ q2, oS, iv p3, oJ qq, oS, oJ rr, oS, oJ mm, oS, rv b2, rv b13, rv b20, rv b27] []))
      refine own_by (B := T31.setTop (mkF m 176 #[oJ q0, oS, oJ q1, oS, oJ q2, oS, iv p3, oJ qq, oS, oJ rr, oS, oJ mm, oS, rv b2, rv b13, rv b20, rv b27] [(.ref b20), (.ref b13)])) (fun t k => ?_) ?_
      · show Steps p.tables e below (T31.setTop (mkF m 172 #[oJ q0, oS, oJ q1, oS, oJ q2, oS, iv p3, oJ qq, oS, oJ rr, oS, oJ mm, oS, rv b2, rv b13, rv b20, rv b27] [])) _
        refine XS.aload X31.here hx rfl (hb hby at_172) rfl rfl ?_
        show Steps p.tables e below (T31.setTop (mkF m 174 #[oJ q0, oS, oJ q1, oS, oJ q2, oS, iv p3, oJ qq, oS, oJ rr, oS, oJ mm, oS, rv b2, rv b13, rv b20, rv b27] [(.ref b13)])) _
        refine XS.aload X31.here hx rfl (hb hby at_174) rfl rfl ?_
        show Steps p.tables e below (T31.setTop (mkF m 176 #[oJ q0, oS, oJ q1, oS, oJ q2, oS, iv p3, oJ qq, oS, oJ rr, oS, oJ mm, oS, rv b2, rv b13, rv b20, rv b27] [(.ref b20), (.ref b13)])) _
        exact k
      refine own_cc (own_callV X31 hx hZ (y := (⟨"com/example/foray/foray/graph/Sum", "set", "(Lcom/example/foray/foray/graph/Sum;)V"⟩ : MethodName)) (z := (⟨"com/example/foray/foray/graph/Sum", "set", "(Lcom/example/foray/foray/graph/Sum;)V"⟩ : MethodName)) hown (hw _ (List.mem_of_getElem? (i := 92) rfl)) (hw _ (List.mem_of_getElem? (i := 93) rfl)) (notFace_of_selects (args := #[]) (mvT hZ (hw _ (List.mem_of_getElem? (i := 95) rfl)))) (hw _ (List.mem_of_getElem? (i := 95) rfl)) (hw _ (List.mem_of_getElem? (i := 94) rfl)) (hw _ (List.mem_of_getElem? (i := 5) rfl)) (hw _ (List.mem_of_getElem? (i := 96) rfl)) (by decide) (rm17 l Z a0 hw [] b13 b20 rr wz qq wz T31.heap n0 Z0 E_b13 F_whole_b13 F_rest_b13 F_whole_b20 F_rest_b20 ne_b13_b20 g_b13) (rfl : T31.heap = _) 0 (by decide) (by decide) (by decide) (by decide) rfl (by rw [hml]; rfl) b13 E_b13 [(.ref b20)] [] rfl (lenOf pd_2 rfl) rfl (by show 2 * 0 + _ ≤ _; exact Nat.le_of_eq rfl) (hb hby at_176)) fun T33 L33 v33 X33 hQ33 => ?_
      obtain ⟨rfl, N33, K33, E_b13', F_whole_b13', F_rest_b13'⟩ := hQ33
      replace N0 := Fr.app N0 N33
      replace E_wz := E_wz.keep K33
      replace F_intCompact_wz := F_intCompact_wz.keep K33 (ninS ne_wz_b13 nin0)
      replace F_scale_wz := F_scale_wz.keep K33 (ninS ne_wz_b13 nin0)
      replace E_b2 := E_b2.keep K33
      replace F_whole_b2 := F_whole_b2.keep K33 (ninS ne_b2_b13 nin0)
      replace F_rest_b2 := F_rest_b2.keep K33 (ninS ne_b2_b13 nin0)
      replace E_b13 := E_b13.keep K33
      replace E_b20 := E_b20.keep K33
      replace F_whole_b20 := F_whole_b20.keep K33 (ninS (Ne.symm ne_b13_b20) nin0)
      replace F_rest_b20 := F_rest_b20.keep K33 (ninS (Ne.symm ne_b13_b20) nin0)
      replace E_b27 := E_b27.keep K33
      replace F_whole_b27 := F_whole_b27.keep K33 (ninS (Ne.symm ne_b13_b27) nin0)
      replace F_rest_b27 := F_rest_b27.keep K33 (ninS (Ne.symm ne_b13_b27) nin0)
      replace OZ := OZ.keep K33 (allS g_b13 all0)
      replace Z0 := Nat.le_trans Z0 K33.1
      replace E_b13 := E_b13'
      have F_whole_b13 := F_whole_b13'
      have F_rest_b13 := F_rest_b13'
      show own_Go p e below _ (T33.setTop (mkF m 179 #[oJ q0, oS, oJ q1, oS, oJ q2, oS, iv p3, oJ qq, oS, oJ rr, oS, oJ mm, oS, rv b2, rv b13, rv b20, rv b27] []))
      refine own_by (B := T33.setTop (mkF m 183 #[oJ q0, oS, oJ q1, oS, oJ q2, oS, iv p3, oJ qq, oS, oJ rr, oS, oJ mm, oS, rv b2, rv b13, rv b20, rv b27] [(.ref b27), (.ref b13)])) (fun t k => ?_) ?_
      · show Steps p.tables e below (T33.setTop (mkF m 179 #[oJ q0, oS, oJ q1, oS, oJ q2, oS, iv p3, oJ qq, oS, oJ rr, oS, oJ mm, oS, rv b2, rv b13, rv b20, rv b27] [])) _
        refine XS.aload X33.here hx rfl (hb hby at_179) rfl rfl ?_
        show Steps p.tables e below (T33.setTop (mkF m 181 #[oJ q0, oS, oJ q1, oS, oJ q2, oS, iv p3, oJ qq, oS, oJ rr, oS, oJ mm, oS, rv b2, rv b13, rv b20, rv b27] [(.ref b13)])) _
        refine XS.aload X33.here hx rfl (hb hby at_181) rfl rfl ?_
        show Steps p.tables e below (T33.setTop (mkF m 183 #[oJ q0, oS, oJ q1, oS, oJ q2, oS, iv p3, oJ qq, oS, oJ rr, oS, oJ mm, oS, rv b2, rv b13, rv b20, rv b27] [(.ref b27), (.ref b13)])) _
        exact k
      refine own_cc (own_callV X33 hx hZ (y := (⟨"com/example/foray/foray/graph/Sum", "compareTo", "(Lcom/example/foray/foray/graph/Sum;)I"⟩ : MethodName)) (z := (⟨"com/example/foray/foray/graph/Sum", "compareTo", "(Lcom/example/foray/foray/graph/Sum;)I"⟩ : MethodName)) hown (hw _ (List.mem_of_getElem? (i := 97) rfl)) (hw _ (List.mem_of_getElem? (i := 98) rfl)) (notFace_of_selects (args := #[]) (mvT hZ (hw _ (List.mem_of_getElem? (i := 100) rfl)))) (hw _ (List.mem_of_getElem? (i := 100) rfl)) (hw _ (List.mem_of_getElem? (i := 99) rfl)) (hw _ (List.mem_of_getElem? (i := 5) rfl)) (hw _ (List.mem_of_getElem? (i := 101) rfl)) (by decide) (rm18_a l Z a0 hw [] b13 b27 qq wz wz T33.heap n0 Z0 F_whole_b13 F_rest_b13 F_whole_b27 F_rest_b27 E_wz F_intCompact_wz F_scale_wz E_wz F_intCompact_wz F_scale_wz) (rfl : T33.heap = _) 0 (by decide) (by decide) (by decide) (by decide) rfl (by rw [hml]; rfl) b13 E_b13 [(.ref b27)] [] rfl (lenOf pd_12 rfl) rfl (by show 2 * 0 + _ ≤ _; exact Nat.le_of_eq rfl) (hb hby at_183)) fun T35 L35 v35 X35 hQ35 => ?_
      obtain ⟨rfl, N35, e35⟩ := hQ35
      replace N0 := Fr.app N0 N35
      show own_Go p e below _ (T35.setTop (mkF m 186 #[oJ q0, oS, oJ q1, oS, oJ q2, oS, iv p3, oJ qq, oS, oJ rr, oS, oJ mm, oS, rv b2, rv b13, rv b20, rv b27] [(.int (fcmp qq qq))]))
      refine own_by (B := T35.setTop (mkF m 193 #[oJ q0, oS, oJ q1, oS, oJ q2, oS, iv p3, oJ qq, oS, oJ rr, oS, oJ mm, oS, rv b2, rv b13, rv b20, rv b27] [(.ref b27), (.ref b20)])) (fun t k => ?_) ?_
      · show Steps p.tables e below (T35.setTop (mkF m 186 #[oJ q0, oS, oJ q1, oS, oJ q2, oS, iv p3, oJ qq, oS, oJ rr, oS, oJ mm, oS, rv b2, rv b13, rv b20, rv b27] [(.int (fcmp qq qq))])) _
        refine XS.ifNo X35.here hx rfl (hb hby at_186) rfl ((if0 _ _).trans (teq (own_cmp qq)).2) ?_
        show Steps p.tables e below (T35.setTop (mkF m 189 #[oJ q0, oS, oJ q1, oS, oJ q2, oS, iv p3, oJ qq, oS, oJ rr, oS, oJ mm, oS, rv b2, rv b13, rv b20, rv b27] [])) _
        refine XS.aload X35.here hx rfl (hb hby at_189) rfl rfl ?_
        show Steps p.tables e below (T35.setTop (mkF m 191 #[oJ q0, oS, oJ q1, oS, oJ q2, oS, iv p3, oJ qq, oS, oJ rr, oS, oJ mm, oS, rv b2, rv b13, rv b20, rv b27] [(.ref b20)])) _
        refine XS.aload X35.here hx rfl (hb hby at_191) rfl rfl ?_
        show Steps p.tables e below (T35.setTop (mkF m 193 #[oJ q0, oS, oJ q1, oS, oJ q2, oS, iv p3, oJ qq, oS, oJ rr, oS, oJ mm, oS, rv b2, rv b13, rv b20, rv b27] [(.ref b27), (.ref b20)])) _
        exact k
      refine own_cc (own_callV X35 hx hZ (y := (⟨"com/example/foray/foray/graph/Sum", "compareTo", "(Lcom/example/foray/foray/graph/Sum;)I"⟩ : MethodName)) (z := (⟨"com/example/foray/foray/graph/Sum", "compareTo", "(Lcom/example/foray/foray/graph/Sum;)I"⟩ : MethodName)) hown (hw _ (List.mem_of_getElem? (i := 97) rfl)) (hw _ (List.mem_of_getElem? (i := 98) rfl)) (notFace_of_selects (args := #[]) (mvT hZ (hw _ (List.mem_of_getElem? (i := 100) rfl)))) (hw _ (List.mem_of_getElem? (i := 100) rfl)) (hw _ (List.mem_of_getElem? (i := 99) rfl)) (hw _ (List.mem_of_getElem? (i := 5) rfl)) (hw _ (List.mem_of_getElem? (i := 101) rfl)) (by decide) (rm18_a l Z a0 hw [] b20 b27 qq wz wz T33.heap n0 Z0 F_whole_b20 F_rest_b20 F_whole_b27 F_rest_b27 E_wz F_intCompact_wz F_scale_wz E_wz F_intCompact_wz F_scale_wz) e35 0 (by decide) (by decide) (by decide) (by decide) rfl (by rw [hml]; rfl) b20 E_b20 [(.ref b27)] [] rfl (lenOf pd_12 rfl) rfl (by show 2 * 0 + _ ≤ _; exact Nat.le_of_eq rfl) (hb hby at_193)) fun T37 L37 v37 X37 hQ37 => ?_
      obtain ⟨rfl, N37, e37⟩ := hQ37
      replace N0 := Fr.app N0 N37
      show own_Go p e below _ (T37.setTop (mkF m 196 #[oJ q0, oS, oJ q1, oS, oJ q2, oS, iv p3, oJ qq, oS, oJ rr, oS, oJ mm, oS, rv b2, rv b13, rv b20, rv b27] [(.int (fcmp qq qq))]))
      refine own_by (B := T37.setTop (mkF m 204 #[oJ q0, oS, oJ q1, oS, oJ q2, oS, iv p3, oJ qq, oS, oJ rr, oS, oJ mm, oS, rv b2, rv b13, rv b20, rv b27] [(.int (1 : Int32))])) (fun t k => ?_) ?_
      · show Steps p.tables e below (T37.setTop (mkF m 196 #[oJ q0, oS, oJ q1, oS, oJ q2, oS, iv p3, oJ qq, oS, oJ rr, oS, oJ mm, oS, rv b2, rv b13, rv b20, rv b27] [(.int (fcmp qq qq))])) _
        refine XS.ifNo X37.here hx rfl (hb hby at_196) rfl ((if0 _ _).trans (teq (own_cmp qq)).2) ?_
        show Steps p.tables e below (T37.setTop (mkF m 199 #[oJ q0, oS, oJ q1, oS, oJ q2, oS, iv p3, oJ qq, oS, oJ rr, oS, oJ mm, oS, rv b2, rv b13, rv b20, rv b27] [])) _
        refine XS.iconst X37.here hx rfl (hb hby at_199) ?_
        show Steps p.tables e below (T37.setTop (mkF m 200 #[oJ q0, oS, oJ q1, oS, oJ q2, oS, iv p3, oJ qq, oS, oJ rr, oS, oJ mm, oS, rv b2, rv b13, rv b20, rv b27] [(.int (1 : Int32))])) _
        refine XS.goto X37.here hx rfl (pc0 := 200) (pc' := 204) rfl (hb hby at_200) (by decide) (by decide) ?_
        show Steps p.tables e below (T37.setTop (mkF m 204 #[oJ q0, oS, oJ q1, oS, oJ q2, oS, iv p3, oJ qq, oS, oJ rr, oS, oJ mm, oS, rv b2, rv b13, rv b20, rv b27] [(.int (1 : Int32))])) _
        exact k
      exact own_retN X37 Bd.notSynchronized hx (t := .boolean) Bd.returns (by simp) (hb hby at_204) (by
          rw [show T37.heap = T33.heap from e37]
          exact ⟨rfl, N0⟩) (by decide) (by decide)
    · skip
      refine own_by (fun t k => XS.ifNo X22.here hx rfl (hb hby at_118) rfl ((if0 _ _).trans (feq hc24).1) k) ?_
      show own_Go p e below _ (T22.setTop (mkF m 121 #[oJ q0, oS, oJ q1, oS, oJ q2, oS, iv p3, oJ qq, oS, oJ rr, oS, oJ mm, oS, rv b2, rv b13, rv b20, oU] []))
      refine own_by (B := T22.setTop (mkF m 125 #[oJ q0, oS, oJ q1, oS, oJ q2, oS, iv p3, oJ qq, oS, oJ rr, oS, oJ mm, oS, rv b2, rv b13, rv b20, oU] [(.ref b2), (.ref b20)])) (fun t k => ?_) ?_
      · show Steps p.tables e below (T22.setTop (mkF m 121 #[oJ q0, oS, oJ q1, oS, oJ q2, oS, iv p3, oJ qq, oS, oJ rr, oS, oJ mm, oS, rv b2, rv b13, rv b20, oU] [])) _
        refine XS.aload X22.here hx rfl (hb hby at_121) rfl rfl ?_
        show Steps p.tables e below (T22.setTop (mkF m 123 #[oJ q0, oS, oJ q1, oS, oJ q2, oS, iv p3, oJ qq, oS, oJ rr, oS, oJ mm, oS, rv b2, rv b13, rv b20, oU] [(.ref b20)])) _
        refine XS.aload X22.here hx rfl (hb hby at_123) rfl rfl ?_
        show Steps p.tables e below (T22.setTop (mkF m 125 #[oJ q0, oS, oJ q1, oS, oJ q2, oS, iv p3, oJ qq, oS, oJ rr, oS, oJ mm, oS, rv b2, rv b13, rv b20, oU] [(.ref b2), (.ref b20)])) _
        exact k
      refine own_cc (own_callV X22 hx hZ (y := (⟨"com/example/foray/foray/graph/Sum", "add", "(Lcom/example/foray/foray/graph/Sum;)V"⟩ : MethodName)) (z := (⟨"com/example/foray/foray/graph/Sum", "add", "(Lcom/example/foray/foray/graph/Sum;)V"⟩ : MethodName)) hown (hw _ (List.mem_of_getElem? (i := 29) rfl)) (hw _ (List.mem_of_getElem? (i := 30) rfl)) (notFace_of_selects (args := #[]) (mvT hZ (hw _ (List.mem_of_getElem? (i := 32) rfl)))) (hw _ (List.mem_of_getElem? (i := 32) rfl)) (hw _ (List.mem_of_getElem? (i := 31) rfl)) (hw _ (List.mem_of_getElem? (i := 5) rfl)) (hw _ (List.mem_of_getElem? (i := 33) rfl)) (by decide) (rm5_b l Z a0 hw [] b20 b2 (0 : Int64) wz (((mm + mm) + (mm + mm)) + ((mm + mm) + (mm + mm))) wz T22.heap n0 Z0 E_b20 F_whole_b20 F_rest_b20 E_wz F_intCompact_wz F_scale_wz E_b2 F_whole_b2 F_rest_b2 E_wz F_intCompact_wz F_scale_wz (Ne.symm ne_b2_b20) g_b20 OZ hBD (by decide) (by decide) (own_big mm (hmm ▸ own_mm _ _)) (own_nm mm (hmm ▸ own_mm _ _))) (rfl : T22.heap = _) 0 (by decide) (by decide) (by decide) (by decide) rfl (by rw [hml]; rfl) b20 E_b20 [(.ref b2)] [] rfl (lenOf pd_2 rfl) rfl (by show 2 * 0 + _ ≤ _; exact Nat.le_of_eq rfl) (hb hby at_125)) fun T39 L39 v39 X39 hQ39 => ?_
      obtain ⟨r_39, rfl, N39, K39, E_b20', F_whole_b20', F_rest_b20', E_r_39', F_intCompact_r_39', F_scale_r_39'⟩ := hQ39
      replace N0 := Fr.app N0 N39
      replace E_wz := E_wz.keep K39
      replace F_intCompact_wz := F_intCompact_wz.keep K39 (ninS ne_wz_b20 nin0)
      replace F_scale_wz := F_scale_wz.keep K39 (ninS ne_wz_b20 nin0)
      replace E_b2 := E_b2.keep K39
      replace F_whole_b2 := F_whole_b2.keep K39 (ninS ne_b2_b20 nin0)
      replace F_rest_b2 := F_rest_b2.keep K39 (ninS ne_b2_b20 nin0)
      replace E_b13 := E_b13.keep K39
      replace F_whole_b13 := F_whole_b13.keep K39 (ninS ne_b13_b20 nin0)
      replace F_rest_b13 := F_rest_b13.keep K39 (ninS ne_b13_b20 nin0)
      replace E_b20 := E_b20.keep K39
      replace OZ := OZ.keep K39 (allS g_b20 all0)
      replace Z0 := Nat.le_trans Z0 K39.1
      replace E_b20 := E_b20'
      have F_whole_b20 := F_whole_b20'
      have F_rest_b20 := F_rest_b20'
      have E_r_39 := E_r_39'
      have F_intCompact_r_39 := F_intCompact_r_39'
      have F_scale_r_39 := F_scale_r_39'
      show own_Go p e below _ (T39.setTop (mkF m 128 #[oJ q0, oS, oJ q1, oS, oJ q2, oS, iv p3, oJ qq, oS, oJ rr, oS, oJ mm, oS, rv b2, rv b13, rv b20, oU] []))
      refine own_by (B := T39.setTop (mkF m 132 #[oJ q0, oS, oJ q1, oS, oJ q2, oS, iv p3, oJ qq, oS, oJ rr, oS, oJ mm, oS, rv b2, rv b13, rv b20, oU] [(.long qq), (.ref b20)])) (fun t k => ?_) ?_
      · show Steps p.tables e below (T39.setTop (mkF m 128 #[oJ q0, oS, oJ q1, oS, oJ q2, oS, iv p3, oJ qq, oS, oJ rr, oS, oJ mm, oS, rv b2, rv b13, rv b20, oU] [])) _
        refine XS.aload X39.here hx rfl (hb hby at_128) rfl rfl ?_
        show Steps p.tables e below (T39.setTop (mkF m 130 #[oJ q0, oS, oJ q1, oS, oJ q2, oS, iv p3, oJ qq, oS, oJ rr, oS, oJ mm, oS, rv b2, rv b13, rv b20, oU] [(.ref b20)])) _
        refine XS.lload X39.here hx rfl (hb hby at_130) rfl ?_
        show Steps p.tables e below (T39.setTop (mkF m 132 #[oJ q0, oS, oJ q1, oS, oJ q2, oS, iv p3, oJ qq, oS, oJ rr, oS, oJ mm, oS, rv b2, rv b13, rv b20, oU] [(.long qq), (.ref b20)])) _
        exact k
      refine own_cc (own_callV X39 hx hZ (y := (⟨"com/example/foray/foray/graph/Sum", "addWhole", "(J)V"⟩ : MethodName)) (z := (⟨"com/example/foray/foray/graph/Sum", "addWhole", "(J)V"⟩ : MethodName)) hown (hw _ (List.mem_of_getElem? (i := 16) rfl)) (hw _ (List.mem_of_getElem? (i := 17) rfl)) (notFace_of_selects (args := #[]) (mvT hZ (hw _ (List.mem_of_getElem? (i := 19) rfl)))) (hw _ (List.mem_of_getElem? (i := 19) rfl)) (hw _ (List.mem_of_getElem? (i := 18) rfl)) (hw _ (List.mem_of_getElem? (i := 5) rfl)) (hw _ (List.mem_of_getElem? (i := 20) rfl)) (by decide) (rm3_a l Z a0 hw [] b20 qq r_39 T39.heap n0 Z0 E_b20 F_whole_b20 F_rest_b20 g_b20) (rfl : T39.heap = _) 0 (by decide) (by decide) (by decide) (by decide) rfl (by rw [hml]; rfl) b20 E_b20 [(.long qq)] [] rfl (lenOf pd_1 rfl) rfl (by show 2 * 0 + _ ≤ _; exact Nat.le_of_eq rfl) (hb hby at_132)) fun T41 L41 v41 X41 hQ41 => ?_
      obtain ⟨rfl, N41, K41, E_b20', F_whole_b20', F_rest_b20'⟩ := hQ41
      replace N0 := Fr.app N0 N41
      have nx1 : r_39 ≠ b20 := (ne_exa E_r_39 E_b20 (by decide))
      replace E_wz := E_wz.keep K41
      replace F_intCompact_wz := F_intCompact_wz.keep K41 (ninS ne_wz_b20 nin0)
      replace F_scale_wz := F_scale_wz.keep K41 (ninS ne_wz_b20 nin0)
      replace E_b2 := E_b2.keep K41
      replace F_whole_b2 := F_whole_b2.keep K41 (ninS ne_b2_b20 nin0)
      replace F_rest_b2 := F_rest_b2.keep K41 (ninS ne_b2_b20 nin0)
      replace E_b13 := E_b13.keep K41
      replace F_whole_b13 := F_whole_b13.keep K41 (ninS ne_b13_b20 nin0)
      replace F_rest_b13 := F_rest_b13.keep K41 (ninS ne_b13_b20 nin0)
      replace E_b20 := E_b20.keep K41
      replace E_r_39 := E_r_39.keep K41
      replace F_intCompact_r_39 := F_intCompact_r_39.keep K41 (ninS nx1 nin0)
      replace F_scale_r_39 := F_scale_r_39.keep K41 (ninS nx1 nin0)
      replace OZ := OZ.keep K41 (allS g_b20 all0)
      replace Z0 := Nat.le_trans Z0 K41.1
      replace E_b20 := E_b20'
      have F_whole_b20 := F_whole_b20'
      have F_rest_b20 := F_rest_b20'
      show own_Go p e below _ (T41.setTop (mkF m 135 #[oJ q0, oS, oJ q1, oS, oJ q2, oS, iv p3, oJ qq, oS, oJ rr, oS, oJ mm, oS, rv b2, rv b13, rv b20, oU] []))
      refine own_by (B := T41.setTop (mkF m 139 #[oJ q0, oS, oJ q1, oS, oJ q2, oS, iv p3, oJ qq, oS, oJ rr, oS, oJ mm, oS, rv b2, rv b13, rv b20, oU] [(.long qq), (.ref b2)])) (fun t k => ?_) ?_
      · show Steps p.tables e below (T41.setTop (mkF m 135 #[oJ q0, oS, oJ q1, oS, oJ q2, oS, iv p3, oJ qq, oS, oJ rr, oS, oJ mm, oS, rv b2, rv b13, rv b20, oU] [])) _
        refine XS.aload X41.here hx rfl (hb hby at_135) rfl rfl ?_
        show Steps p.tables e below (T41.setTop (mkF m 137 #[oJ q0, oS, oJ q1, oS, oJ q2, oS, iv p3, oJ qq, oS, oJ rr, oS, oJ mm, oS, rv b2, rv b13, rv b20, oU] [(.ref b2)])) _
        refine XS.lload X41.here hx rfl (hb hby at_137) rfl ?_
        show Steps p.tables e below (T41.setTop (mkF m 139 #[oJ q0, oS, oJ q1, oS, oJ q2, oS, iv p3, oJ qq, oS, oJ rr, oS, oJ mm, oS, rv b2, rv b13, rv b20, oU] [(.long qq), (.ref b2)])) _
        exact k
      refine own_cc (own_callV X41 hx hZ (y := (⟨"com/example/foray/foray/graph/Sum", "addWhole", "(J)V"⟩ : MethodName)) (z := (⟨"com/example/foray/foray/graph/Sum", "addWhole", "(J)V"⟩ : MethodName)) hown (hw _ (List.mem_of_getElem? (i := 16) rfl)) (hw _ (List.mem_of_getElem? (i := 17) rfl)) (notFace_of_selects (args := #[]) (mvT hZ (hw _ (List.mem_of_getElem? (i := 19) rfl)))) (hw _ (List.mem_of_getElem? (i := 19) rfl)) (hw _ (List.mem_of_getElem? (i := 18) rfl)) (hw _ (List.mem_of_getElem? (i := 5) rfl)) (hw _ (List.mem_of_getElem? (i := 20) rfl)) (by decide) (rm3_b l Z a0 hw [] b2 qq (((mm + mm) + (mm + mm)) + ((mm + mm) + (mm + mm))) wz T41.heap n0 Z0 E_b2 F_whole_b2 F_rest_b2 E_wz F_intCompact_wz F_scale_wz g_b2 OZ hBD (own_big mm (hmm ▸ own_mm _ _)) (own_nm mm (hmm ▸ own_mm _ _))) (rfl : T41.heap = _) 0 (by decide) (by decide) (by decide) (by decide) rfl (by rw [hml]; rfl) b2 E_b2 [(.long qq)] [] rfl (lenOf pd_1 rfl) rfl (by show 2 * 0 + _ ≤ _; exact Nat.le_of_eq rfl) (hb hby at_139)) fun T43 L43 v43 X43 hQ43 => ?_
      obtain ⟨r_43, rfl, N43, K43, E_b2', F_whole_b2', F_rest_b2', E_r_43', F_intCompact_r_43', F_scale_r_43'⟩ := hQ43
      replace N0 := Fr.app N0 N43
      have nx2 : r_39 ≠ b2 := (ne_exa E_r_39 E_b2 (by decide))
      replace E_wz := E_wz.keep K43
      replace F_intCompact_wz := F_intCompact_wz.keep K43 (ninS ne_wz_b2 nin0)
      replace F_scale_wz := F_scale_wz.keep K43 (ninS ne_wz_b2 nin0)
      replace E_b2 := E_b2.keep K43
      replace E_b13 := E_b13.keep K43
      replace F_whole_b13 := F_whole_b13.keep K43 (ninS (Ne.symm ne_b2_b13) nin0)
      replace F_rest_b13 := F_rest_b13.keep K43 (ninS (Ne.symm ne_b2_b13) nin0)
      replace E_b20 := E_b20.keep K43
      replace E_r_39 := E_r_39.keep K43
      replace F_intCompact_r_39 := F_intCompact_r_39.keep K43 (ninS nx2 nin0)
      replace F_scale_r_39 := F_scale_r_39.keep K43 (ninS nx2 nin0)
      replace F_whole_b20 := F_whole_b20.keep K43 (ninS (Ne.symm ne_b2_b20) nin0)
      replace F_rest_b20 := F_rest_b20.keep K43 (ninS (Ne.symm ne_b2_b20) nin0)
      replace OZ := OZ.keep K43 (allS g_b2 all0)
      replace Z0 := Nat.le_trans Z0 K43.1
      replace E_b2 := E_b2'
      have F_whole_b2 := F_whole_b2'
      have F_rest_b2 := F_rest_b2'
      have E_r_43 := E_r_43'
      have F_intCompact_r_43 := F_intCompact_r_43'
      have F_scale_r_43 := F_scale_r_43'
      show own_Go p e below _ (T43.setTop (mkF m 142 #[oJ q0, oS, oJ q1, oS, oJ q2, oS, iv p3, oJ qq, oS, oJ rr, oS, oJ mm, oS, rv b2, rv b13, rv b20, oU] []))
      refine own_by (B := T43.setTop (mkF m 176 #[oJ q0, oS, oJ q1, oS, oJ q2, oS, iv p3, oJ qq, oS, oJ rr, oS, oJ mm, oS, rv b2, rv b13, rv b20, rv b2] [(.ref b20), (.ref b13)])) (fun t k => ?_) ?_
      · show Steps p.tables e below (T43.setTop (mkF m 142 #[oJ q0, oS, oJ q1, oS, oJ q2, oS, iv p3, oJ qq, oS, oJ rr, oS, oJ mm, oS, rv b2, rv b13, rv b20, oU] [])) _
        refine XS.aload X43.here hx rfl (hb hby at_142) rfl rfl ?_
        show Steps p.tables e below (T43.setTop (mkF m 144 #[oJ q0, oS, oJ q1, oS, oJ q2, oS, iv p3, oJ qq, oS, oJ rr, oS, oJ mm, oS, rv b2, rv b13, rv b20, oU] [(.ref b2)])) _
        refine XS.astore X43.here hx rfl (hb hby at_144) rfl rfl (l' := #[oJ q0, oS, oJ q1, oS, oJ q2, oS, iv p3, oJ qq, oS, oJ rr, oS, oJ mm, oS, rv b2, rv b13, rv b20, rv b2]) rfl ?_
        show Steps p.tables e below (T43.setTop (mkF m 146 #[oJ q0, oS, oJ q1, oS, oJ q2, oS, iv p3, oJ qq, oS, oJ rr, oS, oJ mm, oS, rv b2, rv b13, rv b20, rv b2] [])) _
        refine XS.goto X43.here hx rfl (pc0 := 146) (pc' := 172) rfl (hb hby at_146) (by decide) (by decide) ?_
        show Steps p.tables e below (T43.setTop (mkF m 172 #[oJ q0, oS, oJ q1, oS, oJ q2, oS, iv p3, oJ qq, oS, oJ rr, oS, oJ mm, oS, rv b2, rv b13, rv b20, rv b2] [])) _
        refine XS.aload X43.here hx rfl (hb hby at_172) rfl rfl ?_
        show Steps p.tables e below (T43.setTop (mkF m 174 #[oJ q0, oS, oJ q1, oS, oJ q2, oS, iv p3, oJ qq, oS, oJ rr, oS, oJ mm, oS, rv b2, rv b13, rv b20, rv b2] [(.ref b13)])) _
        refine XS.aload X43.here hx rfl (hb hby at_174) rfl rfl ?_
        show Steps p.tables e below (T43.setTop (mkF m 176 #[oJ q0, oS, oJ q1, oS, oJ q2, oS, iv p3, oJ qq, oS, oJ rr, oS, oJ mm, oS, rv b2, rv b13, rv b20, rv b2] [(.ref b20), (.ref b13)])) _
        exact k
      refine own_cc (own_callV X43 hx hZ (y := (⟨"com/example/foray/foray/graph/Sum", "set", "(Lcom/example/foray/foray/graph/Sum;)V"⟩ : MethodName)) (z := (⟨"com/example/foray/foray/graph/Sum", "set", "(Lcom/example/foray/foray/graph/Sum;)V"⟩ : MethodName)) hown (hw _ (List.mem_of_getElem? (i := 92) rfl)) (hw _ (List.mem_of_getElem? (i := 93) rfl)) (notFace_of_selects (args := #[]) (mvT hZ (hw _ (List.mem_of_getElem? (i := 95) rfl)))) (hw _ (List.mem_of_getElem? (i := 95) rfl)) (hw _ (List.mem_of_getElem? (i := 94) rfl)) (hw _ (List.mem_of_getElem? (i := 5) rfl)) (hw _ (List.mem_of_getElem? (i := 96) rfl)) (by decide) (rm17 l Z a0 hw [] b13 b20 rr wz qq r_39 T43.heap n0 Z0 E_b13 F_whole_b13 F_rest_b13 F_whole_b20 F_rest_b20 ne_b13_b20 g_b13) (rfl : T43.heap = _) 0 (by decide) (by decide) (by decide) (by decide) rfl (by rw [hml]; rfl) b13 E_b13 [(.ref b20)] [] rfl (lenOf pd_2 rfl) rfl (by show 2 * 0 + _ ≤ _; exact Nat.le_of_eq rfl) (hb hby at_176)) fun T45 L45 v45 X45 hQ45 => ?_
      obtain ⟨rfl, N45, K45, E_b13', F_whole_b13', F_rest_b13'⟩ := hQ45
      replace N0 := Fr.app N0 N45
      have nx3 : r_39 ≠ b13 := (ne_exa E_r_39 E_b13 (by decide))
      have nx4 : r_43 ≠ b13 := (ne_exa E_r_43 E_b13 (by decide))
      replace E_wz := E_wz.keep K45
      replace F_intCompact_wz := F_intCompact_wz.keep K45 (ninS ne_wz_b13 nin0)
      replace F_scale_wz := F_scale_wz.keep K45 (ninS ne_wz_b13 nin0)
      replace E_b2 := E_b2.keep K45
      replace E_b13 := E_b13.keep K45
      replace E_b20 := E_b20.keep K45
      replace E_r_39 := E_r_39.keep K45
      replace F_intCompact_r_39 := F_intCompact_r_39.keep K45 (ninS nx3 nin0)
      replace F_scale_r_39 := F_scale_r_39.keep K45 (ninS nx3 nin0)
      replace F_whole_b20 := F_whole_b20.keep K45 (ninS (Ne.symm ne_b13_b20) nin0)
      replace F_rest_b20 := F_rest_b20.keep K45 (ninS (Ne.symm ne_b13_b20) nin0)
      replace F_whole_b2 := F_whole_b2.keep K45 (ninS ne_b2_b13 nin0)
      replace F_rest_b2 := F_rest_b2.keep K45 (ninS ne_b2_b13 nin0)
      replace E_r_43 := E_r_43.keep K45
      replace F_intCompact_r_43 := F_intCompact_r_43.keep K45 (ninS nx4 nin0)
      replace F_scale_r_43 := F_scale_r_43.keep K45 (ninS nx4 nin0)
      replace OZ := OZ.keep K45 (allS g_b13 all0)
      replace Z0 := Nat.le_trans Z0 K45.1
      replace E_b13 := E_b13'
      have F_whole_b13 := F_whole_b13'
      have F_rest_b13 := F_rest_b13'
      show own_Go p e below _ (T45.setTop (mkF m 179 #[oJ q0, oS, oJ q1, oS, oJ q2, oS, iv p3, oJ qq, oS, oJ rr, oS, oJ mm, oS, rv b2, rv b13, rv b20, rv b2] []))
      refine own_by (B := T45.setTop (mkF m 183 #[oJ q0, oS, oJ q1, oS, oJ q2, oS, iv p3, oJ qq, oS, oJ rr, oS, oJ mm, oS, rv b2, rv b13, rv b20, rv b2] [(.ref b2), (.ref b13)])) (fun t k => ?_) ?_
      · show Steps p.tables e below (T45.setTop (mkF m 179 #[oJ q0, oS, oJ q1, oS, oJ q2, oS, iv p3, oJ qq, oS, oJ rr, oS, oJ mm, oS, rv b2, rv b13, rv b20, rv b2] [])) _
        refine XS.aload X45.here hx rfl (hb hby at_179) rfl rfl ?_
        show Steps p.tables e below (T45.setTop (mkF m 181 #[oJ q0, oS, oJ q1, oS, oJ q2, oS, iv p3, oJ qq, oS, oJ rr, oS, oJ mm, oS, rv b2, rv b13, rv b20, rv b2] [(.ref b13)])) _
        refine XS.aload X45.here hx rfl (hb hby at_181) rfl rfl ?_
        show Steps p.tables e below (T45.setTop (mkF m 183 #[oJ q0, oS, oJ q1, oS, oJ q2, oS, iv p3, oJ qq, oS, oJ rr, oS, oJ mm, oS, rv b2, rv b13, rv b20, rv b2] [(.ref b2), (.ref b13)])) _
        exact k
      refine own_cc (own_callV X45 hx hZ (y := (⟨"com/example/foray/foray/graph/Sum", "compareTo", "(Lcom/example/foray/foray/graph/Sum;)I"⟩ : MethodName)) (z := (⟨"com/example/foray/foray/graph/Sum", "compareTo", "(Lcom/example/foray/foray/graph/Sum;)I"⟩ : MethodName)) hown (hw _ (List.mem_of_getElem? (i := 97) rfl)) (hw _ (List.mem_of_getElem? (i := 98) rfl)) (notFace_of_selects (args := #[]) (mvT hZ (hw _ (List.mem_of_getElem? (i := 100) rfl)))) (hw _ (List.mem_of_getElem? (i := 100) rfl)) (hw _ (List.mem_of_getElem? (i := 99) rfl)) (hw _ (List.mem_of_getElem? (i := 5) rfl)) (hw _ (List.mem_of_getElem? (i := 101) rfl)) (by decide) (rm18_b l Z a0 hw [] b13 b2 qq r_39 r_43 (((mm + mm) + (mm + mm)) + ((mm + mm) + (mm + mm))) T45.heap n0 Z0 E_b13 F_whole_b13 F_rest_b13 E_b2 F_whole_b2 F_rest_b2 E_r_39 F_intCompact_r_39 F_scale_r_39 E_r_43 F_intCompact_r_43 F_scale_r_43 OZ hBD (own_qn qq (hqq ▸ own_qq _)) (own_nm mm (hmm ▸ own_mm _ _)) (own_sum mm qq (hmm ▸ own_mm _ _) (hqq ▸ own_qq _)) (own_sg mm (hmm ▸ own_mm _ _))) (rfl : T45.heap = _) 0 (by decide) (by decide) (by decide) (by decide) rfl (by rw [hml]; rfl) b13 E_b13 [(.ref b2)] [] rfl (lenOf pd_12 rfl) rfl (by show 2 * 0 + _ ≤ _; exact Nat.le_of_eq rfl) (hb hby at_183)) fun T47 L47 v47 X47 hQ47 => ?_
      obtain ⟨rfl, N47, K47⟩ := hQ47
      replace N0 := Fr.app N0 N47
      replace E_wz := E_wz.keep K47
      replace F_intCompact_wz := F_intCompact_wz.keep K47 nin0
      replace F_scale_wz := F_scale_wz.keep K47 nin0
      replace E_b2 := E_b2.keep K47
      replace E_b13 := E_b13.keep K47
      replace E_b20 := E_b20.keep K47
      replace E_r_39 := E_r_39.keep K47
      replace F_intCompact_r_39 := F_intCompact_r_39.keep K47 nin0
      replace F_scale_r_39 := F_scale_r_39.keep K47 nin0
      replace F_whole_b20 := F_whole_b20.keep K47 nin0
      replace F_rest_b20 := F_rest_b20.keep K47 nin0
      replace F_whole_b2 := F_whole_b2.keep K47 nin0
      replace F_rest_b2 := F_rest_b2.keep K47 nin0
      replace E_r_43 := E_r_43.keep K47
      replace F_intCompact_r_43 := F_intCompact_r_43.keep K47 nin0
      replace F_scale_r_43 := F_scale_r_43.keep K47 nin0
      replace F_whole_b13 := F_whole_b13.keep K47 nin0
      replace F_rest_b13 := F_rest_b13.keep K47 nin0
      replace OZ := OZ.keep K47 all0
      replace Z0 := Nat.le_trans Z0 K47.1
      show own_Go p e below _ (T47.setTop (mkF m 186 #[oJ q0, oS, oJ q1, oS, oJ q2, oS, iv p3, oJ qq, oS, oJ rr, oS, oJ mm, oS, rv b2, rv b13, rv b20, rv b2] [(.int (0 : Int32))]))
      refine own_by (B := T47.setTop (mkF m 193 #[oJ q0, oS, oJ q1, oS, oJ q2, oS, iv p3, oJ qq, oS, oJ rr, oS, oJ mm, oS, rv b2, rv b13, rv b20, rv b2] [(.ref b2), (.ref b20)])) (fun t k => ?_) ?_
      · show Steps p.tables e below (T47.setTop (mkF m 186 #[oJ q0, oS, oJ q1, oS, oJ q2, oS, iv p3, oJ qq, oS, oJ rr, oS, oJ mm, oS, rv b2, rv b13, rv b20, rv b2] [(.int (0 : Int32))])) _
        refine XS.ifNo X47.here hx rfl (hb hby at_186) rfl ((if0 _ _).trans (teq (by decide : (0 : Int32) = (0 : Int32))).2) ?_
        show Steps p.tables e below (T47.setTop (mkF m 189 #[oJ q0, oS, oJ q1, oS, oJ q2, oS, iv p3, oJ qq, oS, oJ rr, oS, oJ mm, oS, rv b2, rv b13, rv b20, rv b2] [])) _
        refine XS.aload X47.here hx rfl (hb hby at_189) rfl rfl ?_
        show Steps p.tables e below (T47.setTop (mkF m 191 #[oJ q0, oS, oJ q1, oS, oJ q2, oS, iv p3, oJ qq, oS, oJ rr, oS, oJ mm, oS, rv b2, rv b13, rv b20, rv b2] [(.ref b20)])) _
        refine XS.aload X47.here hx rfl (hb hby at_191) rfl rfl ?_
        show Steps p.tables e below (T47.setTop (mkF m 193 #[oJ q0, oS, oJ q1, oS, oJ q2, oS, iv p3, oJ qq, oS, oJ rr, oS, oJ mm, oS, rv b2, rv b13, rv b20, rv b2] [(.ref b2), (.ref b20)])) _
        exact k
      refine own_cc (own_callV X47 hx hZ (y := (⟨"com/example/foray/foray/graph/Sum", "compareTo", "(Lcom/example/foray/foray/graph/Sum;)I"⟩ : MethodName)) (z := (⟨"com/example/foray/foray/graph/Sum", "compareTo", "(Lcom/example/foray/foray/graph/Sum;)I"⟩ : MethodName)) hown (hw _ (List.mem_of_getElem? (i := 97) rfl)) (hw _ (List.mem_of_getElem? (i := 98) rfl)) (notFace_of_selects (args := #[]) (mvT hZ (hw _ (List.mem_of_getElem? (i := 100) rfl)))) (hw _ (List.mem_of_getElem? (i := 100) rfl)) (hw _ (List.mem_of_getElem? (i := 99) rfl)) (hw _ (List.mem_of_getElem? (i := 5) rfl)) (hw _ (List.mem_of_getElem? (i := 101) rfl)) (by decide) (rm18_b l Z a0 hw [] b20 b2 qq r_39 r_43 (((mm + mm) + (mm + mm)) + ((mm + mm) + (mm + mm))) T47.heap n0 Z0 E_b20 F_whole_b20 F_rest_b20 E_b2 F_whole_b2 F_rest_b2 E_r_39 F_intCompact_r_39 F_scale_r_39 E_r_43 F_intCompact_r_43 F_scale_r_43 OZ hBD (own_qn qq (hqq ▸ own_qq _)) (own_nm mm (hmm ▸ own_mm _ _)) (own_sum mm qq (hmm ▸ own_mm _ _) (hqq ▸ own_qq _)) (own_sg mm (hmm ▸ own_mm _ _))) (rfl : T47.heap = _) 0 (by decide) (by decide) (by decide) (by decide) rfl (by rw [hml]; rfl) b20 E_b20 [(.ref b2)] [] rfl (lenOf pd_12 rfl) rfl (by show 2 * 0 + _ ≤ _; exact Nat.le_of_eq rfl) (hb hby at_193)) fun T49 L49 v49 X49 hQ49 => ?_
      obtain ⟨rfl, N49, K49⟩ := hQ49
      replace N0 := Fr.app N0 N49
      replace E_wz := E_wz.keep K49
      replace F_intCompact_wz := F_intCompact_wz.keep K49 nin0
      replace F_scale_wz := F_scale_wz.keep K49 nin0
      replace E_b2 := E_b2.keep K49
      replace E_b13 := E_b13.keep K49
      replace E_b20 := E_b20.keep K49
      replace E_r_39 := E_r_39.keep K49
      replace F_intCompact_r_39 := F_intCompact_r_39.keep K49 nin0
      replace F_scale_r_39 := F_scale_r_39.keep K49 nin0
      replace F_whole_b20 := F_whole_b20.keep K49 nin0
      replace F_rest_b20 := F_rest_b20.keep K49 nin0
      replace F_whole_b2 := F_whole_b2.keep K49 nin0
      replace F_rest_b2 := F_rest_b2.keep K49 nin0
      replace E_r_43 := E_r_43.keep K49
      replace F_intCompact_r_43 := F_intCompact_r_43.keep K49 nin0
      replace F_scale_r_43 := F_scale_r_43.keep K49 nin0
      replace F_whole_b13 := F_whole_b13.keep K49 nin0
      replace F_rest_b13 := F_rest_b13.keep K49 nin0
      replace OZ := OZ.keep K49 all0
      replace Z0 := Nat.le_trans Z0 K49.1
      show own_Go p e below _ (T49.setTop (mkF m 196 #[oJ q0, oS, oJ q1, oS, oJ q2, oS, iv p3, oJ qq, oS, oJ rr, oS, oJ mm, oS, rv b2, rv b13, rv b20, rv b2] [(.int (0 : Int32))]))
      refine own_by (B := T49.setTop (mkF m 204 #[oJ q0, oS, oJ q1, oS, oJ q2, oS, iv p3, oJ qq, oS, oJ rr, oS, oJ mm, oS, rv b2, rv b13, rv b20, rv b2] [(.int (1 : Int32))])) (fun t k => ?_) ?_
      · show Steps p.tables e below (T49.setTop (mkF m 196 #[oJ q0, oS, oJ q1, oS, oJ q2, oS, iv p3, oJ qq, oS, oJ rr, oS, oJ mm, oS, rv b2, rv b13, rv b20, rv b2] [(.int (0 : Int32))])) _
        refine XS.ifNo X49.here hx rfl (hb hby at_196) rfl ((if0 _ _).trans (teq (by decide : (0 : Int32) = (0 : Int32))).2) ?_
        show Steps p.tables e below (T49.setTop (mkF m 199 #[oJ q0, oS, oJ q1, oS, oJ q2, oS, iv p3, oJ qq, oS, oJ rr, oS, oJ mm, oS, rv b2, rv b13, rv b20, rv b2] [])) _
        refine XS.iconst X49.here hx rfl (hb hby at_199) ?_
        show Steps p.tables e below (T49.setTop (mkF m 200 #[oJ q0, oS, oJ q1, oS, oJ q2, oS, iv p3, oJ qq, oS, oJ rr, oS, oJ mm, oS, rv b2, rv b13, rv b20, rv b2] [(.int (1 : Int32))])) _
        refine XS.goto X49.here hx rfl (pc0 := 200) (pc' := 204) rfl (hb hby at_200) (by decide) (by decide) ?_
        show Steps p.tables e below (T49.setTop (mkF m 204 #[oJ q0, oS, oJ q1, oS, oJ q2, oS, iv p3, oJ qq, oS, oJ rr, oS, oJ mm, oS, rv b2, rv b13, rv b20, rv b2] [(.int (1 : Int32))])) _
        exact k
      exact own_retN X49 Bd.notSynchronized hx (t := .boolean) Bd.returns (by simp) (hb hby at_204) ⟨rfl, N0⟩ (by decide) (by decide)
  · skip
    refine own_by (fun t k => XS.ifNo X17.here hx rfl (hb hby at_95) rfl ((if0 _ _).trans (feq hc19).1) k) ?_
    show own_Go p e below _ (T17.setTop (mkF m 98 #[oJ q0, oS, oJ q1, oS, oJ q2, oS, iv p3, oJ qq, oS, oJ rr, oS, oJ mm, oS, rv b2, rv b13, oU, oU] []))
    refine own_by (B := T17.setTop (mkF m 102 #[oJ q0, oS, oJ q1, oS, oJ q2, oS, iv p3, oJ qq, oS, oJ rr, oS, oJ mm, oS, rv b2, rv b13, oU, oU] [(.ref b2), (.ref b13)])) (fun t k => ?_) ?_
    · show Steps p.tables e below (T17.setTop (mkF m 98 #[oJ q0, oS, oJ q1, oS, oJ q2, oS, iv p3, oJ qq, oS, oJ rr, oS, oJ mm, oS, rv b2, rv b13, oU, oU] [])) _
      refine XS.aload X17.here hx rfl (hb hby at_98) rfl rfl ?_
      show Steps p.tables e below (T17.setTop (mkF m 100 #[oJ q0, oS, oJ q1, oS, oJ q2, oS, iv p3, oJ qq, oS, oJ rr, oS, oJ mm, oS, rv b2, rv b13, oU, oU] [(.ref b13)])) _
      refine XS.aload X17.here hx rfl (hb hby at_100) rfl rfl ?_
      show Steps p.tables e below (T17.setTop (mkF m 102 #[oJ q0, oS, oJ q1, oS, oJ q2, oS, iv p3, oJ qq, oS, oJ rr, oS, oJ mm, oS, rv b2, rv b13, oU, oU] [(.ref b2), (.ref b13)])) _
      exact k
    refine own_cc (own_callV X17 hx hZ (y := (⟨"com/example/foray/foray/graph/Sum", "add", "(Lcom/example/foray/foray/graph/Sum;)V"⟩ : MethodName)) (z := (⟨"com/example/foray/foray/graph/Sum", "add", "(Lcom/example/foray/foray/graph/Sum;)V"⟩ : MethodName)) hown (hw _ (List.mem_of_getElem? (i := 29) rfl)) (hw _ (List.mem_of_getElem? (i := 30) rfl)) (notFace_of_selects (args := #[]) (mvT hZ (hw _ (List.mem_of_getElem? (i := 32) rfl)))) (hw _ (List.mem_of_getElem? (i := 32) rfl)) (hw _ (List.mem_of_getElem? (i := 31) rfl)) (hw _ (List.mem_of_getElem? (i := 5) rfl)) (hw _ (List.mem_of_getElem? (i := 33) rfl)) (by decide) (rm5_b l Z a0 hw [] b13 b2 rr wz (((mm + mm) + (mm + mm)) + ((mm + mm) + (mm + mm))) wz T17.heap n0 Z0 E_b13 F_whole_b13 F_rest_b13 E_wz F_intCompact_wz F_scale_wz E_b2 F_whole_b2 F_rest_b2 E_wz F_intCompact_wz F_scale_wz (Ne.symm ne_b2_b13) g_b13 OZ hBD (own_q1 rr (hrr ▸ own_qq _)).1 (own_q1 rr (hrr ▸ own_qq _)).2 (own_big mm (hmm ▸ own_mm _ _)) (own_nm mm (hmm ▸ own_mm _ _))) (rfl : T17.heap = _) 0 (by decide) (by decide) (by decide) (by decide) rfl (by rw [hml]; rfl) b13 E_b13 [(.ref b2)] [] rfl (lenOf pd_2 rfl) rfl (by show 2 * 0 + _ ≤ _; exact Nat.le_of_eq rfl) (hb hby at_102)) fun T51 L51 v51 X51 hQ51 => ?_
    obtain ⟨r_51, rfl, N51, K51, E_b13', F_whole_b13', F_rest_b13', E_r_51', F_intCompact_r_51', F_scale_r_51'⟩ := hQ51
    replace N0 := Fr.app N0 N51
    replace E_wz := E_wz.keep K51
    replace F_intCompact_wz := F_intCompact_wz.keep K51 (ninS ne_wz_b13 nin0)
    replace F_scale_wz := F_scale_wz.keep K51 (ninS ne_wz_b13 nin0)
    replace E_b2 := E_b2.keep K51
    replace F_whole_b2 := F_whole_b2.keep K51 (ninS ne_b2_b13 nin0)
    replace F_rest_b2 := F_rest_b2.keep K51 (ninS ne_b2_b13 nin0)
    replace E_b13 := E_b13.keep K51
    replace OZ := OZ.keep K51 (allS g_b13 all0)
    replace Z0 := Nat.le_trans Z0 K51.1
    replace E_b13 := E_b13'
    have F_whole_b13 := F_whole_b13'
    have F_rest_b13 := F_rest_b13'
    have E_r_51 := E_r_51'
    have F_intCompact_r_51 := F_intCompact_r_51'
    have F_scale_r_51 := F_scale_r_51'
    show own_Go p e below _ (T51.setTop (mkF m 105 #[oJ q0, oS, oJ q1, oS, oJ q2, oS, iv p3, oJ qq, oS, oJ rr, oS, oJ mm, oS, rv b2, rv b13, oU, oU] []))
    obtain ⟨T52, h52, X52, e52, E52, A52, D52, -, st52⟩ := newO X51 hx hZ hown (hw _ (List.mem_of_getElem? (i := 3) rfl)) (hw _ (List.mem_of_getElem? (i := 4) rfl)) (hw _ (List.mem_of_getElem? (i := 5) rfl)) rfl (g := (mkF m 105 #[oJ q0, oS, oJ q1, oS, oJ q2, oS, iv p3, oJ qq, oS, oJ rr, oS, oJ mm, oS, rv b2, rv b13, oU, oU] [])) rfl (hb hby at_105) (by decide) (by decide)
    obtain ⟨b52, g52⟩ : ∃ z, z = T51.heap.size := ⟨_, rfl⟩
    rw [← g52] at A52 D52 st52
    have g_b52 : n0 ≤ b52 := Nat.le_trans Z0 (Nat.le_of_eq g52.symm)
    have ne_wz_b52 : wz ≠ b52 := Nat.ne_of_lt (Nat.lt_of_lt_of_le E_wz.lt (Nat.le_of_eq g52.symm))
    have ne_b2_b52 : b2 ≠ b52 := Nat.ne_of_lt (Nat.lt_of_lt_of_le E_b2.lt (Nat.le_of_eq g52.symm))
    have ne_b13_b52 : b13 ≠ b52 := Nat.ne_of_lt (Nat.lt_of_lt_of_le E_b13.lt (Nat.le_of_eq g52.symm))
    have ne_r_51_b52 : r_51 ≠ b52 := Nat.ne_of_lt (Nat.lt_of_lt_of_le E_r_51.lt (Nat.le_of_eq g52.symm))
    replace E_wz := E_wz.ext E52
    replace F_intCompact_wz := F_intCompact_wz.ext E52
    replace F_scale_wz := F_scale_wz.ext E52
    replace E_b2 := E_b2.ext E52
    replace F_whole_b2 := F_whole_b2.ext E52
    replace F_rest_b2 := F_rest_b2.ext E52
    replace E_b13 := E_b13.ext E52
    replace F_whole_b13 := F_whole_b13.ext E52
    replace F_rest_b13 := F_rest_b13.ext E52
    replace E_r_51 := E_r_51.ext E52
    replace F_intCompact_r_51 := F_intCompact_r_51.ext E52
    replace F_scale_r_51 := F_scale_r_51.ext E52
    replace OZ := OZ.ext E52
    replace Z0 := Nat.le_trans Z0 E52.1
    have E_b52 := A52
    have F_rest_b52 : Fld Z h52 b52 "com/example/foray/foray/graph/Sum" "rest" "Ljava/math/BigDecimal;" .null := D52 (Or.inl (hw _ (List.mem_of_getElem? (i := 15) rfl))) (ty := (.object "java/math/BigDecimal")) (by decide)
    have F_whole_b52 : Fld Z h52 b52 "com/example/foray/foray/graph/Sum" "whole" "J" (.long (0 : Int64)) := D52 (Or.inl (hw _ (List.mem_of_getElem? (i := 26) rfl))) (ty := .long) (by decide)
    refine own_by st52 ?_
    show own_Go p e below _ (T52.setTop (mkF m 108 #[oJ q0, oS, oJ q1, oS, oJ q2, oS, iv p3, oJ qq, oS, oJ rr, oS, oJ mm, oS, rv b2, rv b13, oU, oU] [(.ref b52)]))
    refine own_by (B := T52.setTop (mkF m 109 #[oJ q0, oS, oJ q1, oS, oJ q2, oS, iv p3, oJ qq, oS, oJ rr, oS, oJ mm, oS, rv b2, rv b13, oU, oU] [(.ref b52), (.ref b52)])) (fun t k => ?_) ?_
    · show Steps p.tables e below (T52.setTop (mkF m 108 #[oJ q0, oS, oJ q1, oS, oJ q2, oS, iv p3, oJ qq, oS, oJ rr, oS, oJ mm, oS, rv b2, rv b13, oU, oU] [(.ref b52)])) _
      refine XS.dup X52.here hx rfl (hb hby at_108) rfl rfl ?_
      show Steps p.tables e below (T52.setTop (mkF m 109 #[oJ q0, oS, oJ q1, oS, oJ q2, oS, iv p3, oJ qq, oS, oJ rr, oS, oJ mm, oS, rv b2, rv b13, oU, oU] [(.ref b52), (.ref b52)])) _
      exact k
    refine own_cc (own_callI X52 hx hZ (y := (⟨"com/example/foray/foray/graph/Sum", "<init>", "()V"⟩ : MethodName)) rfl hown (hw _ (List.mem_of_getElem? (i := 6) rfl)) (hw _ (List.mem_of_getElem? (i := 7) rfl)) (hw _ (List.mem_of_getElem? (i := 5) rfl)) (hw _ (List.mem_of_getElem? (i := 8) rfl)) (by decide) (rm1 l Z a0 hw [] b52 wz h52 n0 Z0 E_b52 F_whole_b52 F_rest_b52 g_b52 OZ S_ZERO) e52 1 (by decide) (by decide) (by decide) (by decide) rfl (by rw [hml]; rfl) b52 [] [(.ref b52)] rfl (lenOf pd_0 rfl) rfl (by show 2 * 0 + _ ≤ _; exact Nat.le_of_eq rfl) (hb hby at_109)) fun T54 L54 v54 X54 hQ54 => ?_
    obtain ⟨rfl, N54, K54, E_b52', F_whole_b52', F_rest_b52'⟩ := hQ54
    replace N0 := Fr.app N0 N54
    replace E_wz := E_wz.keep K54
    replace F_intCompact_wz := F_intCompact_wz.keep K54 (ninS ne_wz_b52 nin0)
    replace F_scale_wz := F_scale_wz.keep K54 (ninS ne_wz_b52 nin0)
    replace E_b2 := E_b2.keep K54
    replace F_whole_b2 := F_whole_b2.keep K54 (ninS ne_b2_b52 nin0)
    replace F_rest_b2 := F_rest_b2.keep K54 (ninS ne_b2_b52 nin0)
    replace E_b13 := E_b13.keep K54
    replace F_whole_b13 := F_whole_b13.keep K54 (ninS ne_b13_b52 nin0)
    replace F_rest_b13 := F_rest_b13.keep K54 (ninS ne_b13_b52 nin0)
    replace E_r_51 := E_r_51.keep K54
    replace F_intCompact_r_51 := F_intCompact_r_51.keep K54 (ninS ne_r_51_b52 nin0)
    replace F_scale_r_51 := F_scale_r_51.keep K54 (ninS ne_r_51_b52 nin0)
    replace E_b52 := E_b52.keep K54
    replace OZ := OZ.keep K54 (allS g_b52 all0)
    replace Z0 := Nat.le_trans Z0 K54.1
    replace E_b52 := E_b52'
    have F_whole_b52 := F_whole_b52'
    have F_rest_b52 := F_rest_b52'
    show own_Go p e below _ (T54.setTop (mkF m 112 #[oJ q0, oS, oJ q1, oS, oJ q2, oS, iv p3, oJ qq, oS, oJ rr, oS, oJ mm, oS, rv b2, rv b13, oU, oU] [(.ref b52)]))
    refine own_by (B := T54.setTop (mkF m 118 #[oJ q0, oS, oJ q1, oS, oJ q2, oS, iv p3, oJ qq, oS, oJ rr, oS, oJ mm, oS, rv b2, rv b13, rv b52, oU] [(.int (p3 &&& (4 : Int32)))])) (fun t k => ?_) ?_
    · show Steps p.tables e below (T54.setTop (mkF m 112 #[oJ q0, oS, oJ q1, oS, oJ q2, oS, iv p3, oJ qq, oS, oJ rr, oS, oJ mm, oS, rv b2, rv b13, oU, oU] [(.ref b52)])) _
      refine XS.astore X54.here hx rfl (hb hby at_112) rfl rfl (l' := #[oJ q0, oS, oJ q1, oS, oJ q2, oS, iv p3, oJ qq, oS, oJ rr, oS, oJ mm, oS, rv b2, rv b13, rv b52, oU]) rfl ?_
      show Steps p.tables e below (T54.setTop (mkF m 114 #[oJ q0, oS, oJ q1, oS, oJ q2, oS, iv p3, oJ qq, oS, oJ rr, oS, oJ mm, oS, rv b2, rv b13, rv b52, oU] [])) _
      refine XS.iload X54.here hx rfl (hb hby at_114) rfl ?_
      show Steps p.tables e below (T54.setTop (mkF m 116 #[oJ q0, oS, oJ q1, oS, oJ q2, oS, iv p3, oJ qq, oS, oJ rr, oS, oJ mm, oS, rv b2, rv b13, rv b52, oU] [(.int p3)])) _
      refine XS.iconst X54.here hx rfl (hb hby at_116) ?_
      show Steps p.tables e below (T54.setTop (mkF m 117 #[oJ q0, oS, oJ q1, oS, oJ q2, oS, iv p3, oJ qq, oS, oJ rr, oS, oJ mm, oS, rv b2, rv b13, rv b52, oU] [(.int (4 : Int32)), (.int p3)])) _
      refine XS.iand X54.here hx rfl (hb hby at_117) rfl ?_
      show Steps p.tables e below (T54.setTop (mkF m 118 #[oJ q0, oS, oJ q1, oS, oJ q2, oS, iv p3, oJ qq, oS, oJ rr, oS, oJ mm, oS, rv b2, rv b13, rv b52, oU] [(.int (p3 &&& (4 : Int32)))])) _
      exact k
    by_cases hc56 : (p3 &&& (4 : Int32)) = (0 : Int32)
    · skip
      refine own_by (fun t k => XS.ifYes X54.here hx rfl (pc0 := 118) (pc' := 149) rfl (hb hby at_118) rfl ((if0 _ _).trans (teq hc56).1) (by decide) (by decide) k) ?_
      show own_Go p e below _ (T54.setTop (mkF m 149 #[oJ q0, oS, oJ q1, oS, oJ q2, oS, iv p3, oJ qq, oS, oJ rr, oS, oJ mm, oS, rv b2, rv b13, rv b52, oU] []))
      refine own_by (B := T54.setTop (mkF m 153 #[oJ q0, oS, oJ q1, oS, oJ q2, oS, iv p3, oJ qq, oS, oJ rr, oS, oJ mm, oS, rv b2, rv b13, rv b52, oU] [(.long qq), (.ref b52)])) (fun t k => ?_) ?_
      · show Steps p.tables e below (T54.setTop (mkF m 149 #[oJ q0, oS, oJ q1, oS, oJ q2, oS, iv p3, oJ qq, oS, oJ rr, oS, oJ mm, oS, rv b2, rv b13, rv b52, oU] [])) _
        refine XS.aload X54.here hx rfl (hb hby at_149) rfl rfl ?_
        show Steps p.tables e below (T54.setTop (mkF m 151 #[oJ q0, oS, oJ q1, oS, oJ q2, oS, iv p3, oJ qq, oS, oJ rr, oS, oJ mm, oS, rv b2, rv b13, rv b52, oU] [(.ref b52)])) _
        refine XS.lload X54.here hx rfl (hb hby at_151) rfl ?_
        show Steps p.tables e below (T54.setTop (mkF m 153 #[oJ q0, oS, oJ q1, oS, oJ q2, oS, iv p3, oJ qq, oS, oJ rr, oS, oJ mm, oS, rv b2, rv b13, rv b52, oU] [(.long qq), (.ref b52)])) _
        exact k
      refine own_cc (own_callV X54 hx hZ (y := (⟨"com/example/foray/foray/graph/Sum", "addWhole", "(J)V"⟩ : MethodName)) (z := (⟨"com/example/foray/foray/graph/Sum", "addWhole", "(J)V"⟩ : MethodName)) hown (hw _ (List.mem_of_getElem? (i := 16) rfl)) (hw _ (List.mem_of_getElem? (i := 17) rfl)) (notFace_of_selects (args := #[]) (mvT hZ (hw _ (List.mem_of_getElem? (i := 19) rfl)))) (hw _ (List.mem_of_getElem? (i := 19) rfl)) (hw _ (List.mem_of_getElem? (i := 18) rfl)) (hw _ (List.mem_of_getElem? (i := 5) rfl)) (hw _ (List.mem_of_getElem? (i := 20) rfl)) (by decide) (rm3_a l Z a0 hw [] b52 qq wz T54.heap n0 Z0 E_b52 F_whole_b52 F_rest_b52 g_b52) (rfl : T54.heap = _) 0 (by decide) (by decide) (by decide) (by decide) rfl (by rw [hml]; rfl) b52 E_b52 [(.long qq)] [] rfl (lenOf pd_1 rfl) rfl (by show 2 * 0 + _ ≤ _; exact Nat.le_of_eq rfl) (hb hby at_153)) fun T58 L58 v58 X58 hQ58 => ?_
      obtain ⟨rfl, N58, K58, E_b52', F_whole_b52', F_rest_b52'⟩ := hQ58
      replace N0 := Fr.app N0 N58
      replace E_wz := E_wz.keep K58
      replace F_intCompact_wz := F_intCompact_wz.keep K58 (ninS ne_wz_b52 nin0)
      replace F_scale_wz := F_scale_wz.keep K58 (ninS ne_wz_b52 nin0)
      replace E_b2 := E_b2.keep K58
      replace F_whole_b2 := F_whole_b2.keep K58 (ninS ne_b2_b52 nin0)
      replace F_rest_b2 := F_rest_b2.keep K58 (ninS ne_b2_b52 nin0)
      replace E_b13 := E_b13.keep K58
      replace F_whole_b13 := F_whole_b13.keep K58 (ninS ne_b13_b52 nin0)
      replace F_rest_b13 := F_rest_b13.keep K58 (ninS ne_b13_b52 nin0)
      replace E_r_51 := E_r_51.keep K58
      replace F_intCompact_r_51 := F_intCompact_r_51.keep K58 (ninS ne_r_51_b52 nin0)
      replace F_scale_r_51 := F_scale_r_51.keep K58 (ninS ne_r_51_b52 nin0)
      replace E_b52 := E_b52.keep K58
      replace OZ := OZ.keep K58 (allS g_b52 all0)
      replace Z0 := Nat.le_trans Z0 K58.1
      replace E_b52 := E_b52'
      have F_whole_b52 := F_whole_b52'
      have F_rest_b52 := F_rest_b52'
      show own_Go p e below _ (T58.setTop (mkF m 156 #[oJ q0, oS, oJ q1, oS, oJ q2, oS, iv p3, oJ qq, oS, oJ rr, oS, oJ mm, oS, rv b2, rv b13, rv b52, oU] []))
      obtain ⟨T59, h59, X59, e59, E59, A59, D59, -, st59⟩ := newO X58 hx hZ hown (hw _ (List.mem_of_getElem? (i := 3) rfl)) (hw _ (List.mem_of_getElem? (i := 4) rfl)) (hw _ (List.mem_of_getElem? (i := 5) rfl)) rfl (g := (mkF m 156 #[oJ q0, oS, oJ q1, oS, oJ q2, oS, iv p3, oJ qq, oS, oJ rr, oS, oJ mm, oS, rv b2, rv b13, rv b52, oU] [])) rfl (hb hby at_156) (by decide) (by decide)
      obtain ⟨b59, g59⟩ : ∃ z, z = T58.heap.size := ⟨_, rfl⟩
      rw [← g59] at A59 D59 st59
      have g_b59 : n0 ≤ b59 := Nat.le_trans Z0 (Nat.le_of_eq g59.symm)
      have ne_wz_b59 : wz ≠ b59 := Nat.ne_of_lt (Nat.lt_of_lt_of_le E_wz.lt (Nat.le_of_eq g59.symm))
      have ne_b2_b59 : b2 ≠ b59 := Nat.ne_of_lt (Nat.lt_of_lt_of_le E_b2.lt (Nat.le_of_eq g59.symm))
      have ne_b13_b59 : b13 ≠ b59 := Nat.ne_of_lt (Nat.lt_of_lt_of_le E_b13.lt (Nat.le_of_eq g59.symm))
      have ne_r_51_b59 : r_51 ≠ b59 := Nat.ne_of_lt (Nat.lt_of_lt_of_le E_r_51.lt (Nat.le_of_eq g59.symm))
      have ne_b52_b59 : b52 ≠ b59 := Nat.ne_of_lt (Nat.lt_of_lt_of_le E_b52.lt (Nat.le_of_eq g59.symm))
      replace E_wz := E_wz.ext E59
      replace F_intCompact_wz := F_intCompact_wz.ext E59
      replace F_scale_wz := F_scale_wz.ext E59
      replace E_b2 := E_b2.ext E59
      replace F_whole_b2 := F_whole_b2.ext E59
      replace F_rest_b2 := F_rest_b2.ext E59
      replace E_b13 := E_b13.ext E59
      replace F_whole_b13 := F_whole_b13.ext E59
      replace F_rest_b13 := F_rest_b13.ext E59
      replace E_r_51 := E_r_51.ext E59
      replace F_intCompact_r_51 := F_intCompact_r_51.ext E59
      replace F_scale_r_51 := F_scale_r_51.ext E59
      replace E_b52 := E_b52.ext E59
      replace F_whole_b52 := F_whole_b52.ext E59
      replace F_rest_b52 := F_rest_b52.ext E59
      replace OZ := OZ.ext E59
      replace Z0 := Nat.le_trans Z0 E59.1
      have E_b59 := A59
      have F_rest_b59 : Fld Z h59 b59 "com/example/foray/foray/graph/Sum" "rest" "Ljava/math/BigDecimal;" .null := D59 (Or.inl (hw _ (List.mem_of_getElem? (i := 15) rfl))) (ty := (.object "java/math/BigDecimal")) (by decide)
      have F_whole_b59 : Fld Z h59 b59 "com/example/foray/foray/graph/Sum" "whole" "J" (.long (0 : Int64)) := D59 (Or.inl (hw _ (List.mem_of_getElem? (i := 26) rfl))) (ty := .long) (by decide)
      refine own_by st59 ?_
      show own_Go p e below _ (T59.setTop (mkF m 159 #[oJ q0, oS, oJ q1, oS, oJ q2, oS, iv p3, oJ qq, oS, oJ rr, oS, oJ mm, oS, rv b2, rv b13, rv b52, oU] [(.ref b59)]))
      refine own_by (B := T59.setTop (mkF m 160 #[oJ q0, oS, oJ q1, oS, oJ q2, oS, iv p3, oJ qq, oS, oJ rr, oS, oJ mm, oS, rv b2, rv b13, rv b52, oU] [(.ref b59), (.ref b59)])) (fun t k => ?_) ?_
      · show Steps p.tables e below (T59.setTop (mkF m 159 #[oJ q0, oS, oJ q1, oS, oJ q2, oS, iv p3, oJ qq, oS, oJ rr, oS, oJ mm, oS, rv b2, rv b13, rv b52, oU] [(.ref b59)])) _
        refine XS.dup X59.here hx rfl (hb hby at_159) rfl rfl ?_
        show Steps p.tables e below (T59.setTop (mkF m 160 #[oJ q0, oS, oJ q1, oS, oJ q2, oS, iv p3, oJ qq, oS, oJ rr, oS, oJ mm, oS, rv b2, rv b13, rv b52, oU] [(.ref b59), (.ref b59)])) _
        exact k
      refine own_cc (own_callI X59 hx hZ (y := (⟨"com/example/foray/foray/graph/Sum", "<init>", "()V"⟩ : MethodName)) rfl hown (hw _ (List.mem_of_getElem? (i := 6) rfl)) (hw _ (List.mem_of_getElem? (i := 7) rfl)) (hw _ (List.mem_of_getElem? (i := 5) rfl)) (hw _ (List.mem_of_getElem? (i := 8) rfl)) (by decide) (rm1 l Z a0 hw [] b59 wz h59 n0 Z0 E_b59 F_whole_b59 F_rest_b59 g_b59 OZ S_ZERO) e59 1 (by decide) (by decide) (by decide) (by decide) rfl (by rw [hml]; rfl) b59 [] [(.ref b59)] rfl (lenOf pd_0 rfl) rfl (by show 2 * 0 + _ ≤ _; exact Nat.le_of_eq rfl) (hb hby at_160)) fun T61 L61 v61 X61 hQ61 => ?_
      obtain ⟨rfl, N61, K61, E_b59', F_whole_b59', F_rest_b59'⟩ := hQ61
      replace N0 := Fr.app N0 N61
      replace E_wz := E_wz.keep K61
      replace F_intCompact_wz := F_intCompact_wz.keep K61 (ninS ne_wz_b59 nin0)
      replace F_scale_wz := F_scale_wz.keep K61 (ninS ne_wz_b59 nin0)
      replace E_b2 := E_b2.keep K61
      replace F_whole_b2 := F_whole_b2.keep K61 (ninS ne_b2_b59 nin0)
      replace F_rest_b2 := F_rest_b2.keep K61 (ninS ne_b2_b59 nin0)
      replace E_b13 := E_b13.keep K61
      replace F_whole_b13 := F_whole_b13.keep K61 (ninS ne_b13_b59 nin0)
      replace F_rest_b13 := F_rest_b13.keep K61 (ninS ne_b13_b59 nin0)
      replace E_r_51 := E_r_51.keep K61
      replace F_intCompact_r_51 := F_intCompact_r_51.keep K61 (ninS ne_r_51_b59 nin0)
      replace F_scale_r_51 := F_scale_r_51.keep K61 (ninS ne_r_51_b59 nin0)
      replace E_b52 := E_b52.keep K61
      replace F_whole_b52 := F_whole_b52.keep K61 (ninS ne_b52_b59 nin0)
      replace F_rest_b52 := F_rest_b52.keep K61 (ninS ne_b52_b59 nin0)
      replace E_b59 := E_b59.keep K61
      replace OZ := OZ.keep K61 (allS g_b59 all0)
      replace Z0 := Nat.le_trans Z0 K61.1
      replace E_b59 := E_b59'
      have F_whole_b59 := F_whole_b59'
      have F_rest_b59 := F_rest_b59'
      show own_Go p e below _ (T61.setTop (mkF m 163 #[oJ q0, oS, oJ q1, oS, oJ q2, oS, iv p3, oJ qq, oS, oJ rr, oS, oJ mm, oS, rv b2, rv b13, rv b52, oU] [(.ref b59)]))
      refine own_by (B := T61.setTop (mkF m 169 #[oJ q0, oS, oJ q1, oS, oJ q2, oS, iv p3, oJ qq, oS, oJ rr, oS, oJ mm, oS, rv b2, rv b13, rv b52, rv b59] [(.long qq), (.ref b59)])) (fun t k => ?_) ?_
      · show Steps p.tables e below (T61.setTop (mkF m 163 #[oJ q0, oS, oJ q1, oS, oJ q2, oS, iv p3, oJ qq, oS, oJ rr, oS, oJ mm, oS, rv b2, rv b13, rv b52, oU] [(.ref b59)])) _
        refine XS.astore X61.here hx rfl (hb hby at_163) rfl rfl (l' := #[oJ q0, oS, oJ q1, oS, oJ q2, oS, iv p3, oJ qq, oS, oJ rr, oS, oJ mm, oS, rv b2, rv b13, rv b52, rv b59]) rfl ?_
        show Steps p.tables e below (T61.setTop (mkF m 165 #[oJ q0, oS, oJ q1, oS, oJ q2, oS, iv p3, oJ qq, oS, oJ rr, oS, oJ mm, oS, rv b2, rv b13, rv b52, rv b59] [])) _
        refine XS.aload X61.here hx rfl (hb hby at_165) rfl rfl ?_
        show Steps p.tables e below (T61.setTop (mkF m 167 #[oJ q0, oS, oJ q1, oS, oJ q2, oS, iv p3, oJ qq, oS, oJ rr, oS, oJ mm, oS, rv b2, rv b13, rv b52, rv b59] [(.ref b59)])) _
        refine XS.lload X61.here hx rfl (hb hby at_167) rfl ?_
        show Steps p.tables e below (T61.setTop (mkF m 169 #[oJ q0, oS, oJ q1, oS, oJ q2, oS, iv p3, oJ qq, oS, oJ rr, oS, oJ mm, oS, rv b2, rv b13, rv b52, rv b59] [(.long qq), (.ref b59)])) _
        exact k
      refine own_cc (own_callV X61 hx hZ (y := (⟨"com/example/foray/foray/graph/Sum", "addWhole", "(J)V"⟩ : MethodName)) (z := (⟨"com/example/foray/foray/graph/Sum", "addWhole", "(J)V"⟩ : MethodName)) hown (hw _ (List.mem_of_getElem? (i := 16) rfl)) (hw _ (List.mem_of_getElem? (i := 17) rfl)) (notFace_of_selects (args := #[]) (mvT hZ (hw _ (List.mem_of_getElem? (i := 19) rfl)))) (hw _ (List.mem_of_getElem? (i := 19) rfl)) (hw _ (List.mem_of_getElem? (i := 18) rfl)) (hw _ (List.mem_of_getElem? (i := 5) rfl)) (hw _ (List.mem_of_getElem? (i := 20) rfl)) (by decide) (rm3_a l Z a0 hw [] b59 qq wz T61.heap n0 Z0 E_b59 F_whole_b59 F_rest_b59 g_b59) (rfl : T61.heap = _) 0 (by decide) (by decide) (by decide) (by decide) rfl (by rw [hml]; rfl) b59 E_b59 [(.long qq)] [] rfl (lenOf pd_1 rfl) rfl (by show 2 * 0 + _ ≤ _; exact Nat.le_of_eq rfl) (hb hby at_169)) fun T63 L63 v63 X63 hQ63 => ?_
      obtain ⟨rfl, N63, K63, E_b59', F_whole_b59', F_rest_b59'⟩ := hQ63
      replace N0 := Fr.app N0 N63
      replace E_wz := E_wz.keep K63
      replace F_intCompact_wz := F_intCompact_wz.keep K63 (ninS ne_wz_b59 nin0)
      replace F_scale_wz := F_scale_wz.keep K63 (ninS ne_wz_b59 nin0)
      replace E_b2 := E_b2.keep K63
      replace F_whole_b2 := F_whole_b2.keep K63 (ninS ne_b2_b59 nin0)
      replace F_rest_b2 := F_rest_b2.keep K63 (ninS ne_b2_b59 nin0)
      replace E_b13 := E_b13.keep K63
      replace F_whole_b13 := F_whole_b13.keep K63 (ninS ne_b13_b59 nin0)
      replace F_rest_b13 := F_rest_b13.keep K63 (ninS ne_b13_b59 nin0)
      replace E_r_51 := E_r_51.keep K63
      replace F_intCompact_r_51 := F_intCompact_r_51.keep K63 (ninS ne_r_51_b59 nin0)
      replace F_scale_r_51 := F_scale_r_51.keep K63 (ninS ne_r_51_b59 nin0)
      replace E_b52 := E_b52.keep K63
      replace F_whole_b52 := F_whole_b52.keep K63 (ninS ne_b52_b59 nin0)
      replace F_rest_b52 := F_rest_b52.keep K63 (ninS ne_b52_b59 nin0)
      replace E_b59 := E_b59.keep K63
      replace OZ := OZ.keep K63 (allS g_b59 all0)
      replace Z0 := Nat.le_trans Z0 K63.1
      replace E_b59 := E_b59'
      have F_whole_b59 := F_whole_b59'
      have F_rest_b59 := F_rest_b59'
      show own_Go p e below _ (T63.setTop (mkF m 172 #[oJ q0, oS, oJ q1, oS, oJ q2, oS, iv p3, oJ qq, oS, oJ rr, oS, oJ mm, oS, rv b2, rv b13, rv b52, rv b59] []))
      refine own_by (B := T63.setTop (mkF m 176 #[oJ q0, oS, oJ q1, oS, oJ q2, oS, iv p3, oJ qq, oS, oJ rr, oS, oJ mm, oS, rv b2, rv b13, rv b52, rv b59] [(.ref b52), (.ref b13)])) (fun t k => ?_) ?_
      · show Steps p.tables e below (T63.setTop (mkF m 172 #[oJ q0, oS, oJ q1, oS, oJ q2, oS, iv p3, oJ qq, oS, oJ rr, oS, oJ mm, oS, rv b2, rv b13, rv b52, rv b59] [])) _
        refine XS.aload X63.here hx rfl (hb hby at_172) rfl rfl ?_
        show Steps p.tables e below (T63.setTop (mkF m 174 #[oJ q0, oS, oJ q1, oS, oJ q2, oS, iv p3, oJ qq, oS, oJ rr, oS, oJ mm, oS, rv b2, rv b13, rv b52, rv b59] [(.ref b13)])) _
        refine XS.aload X63.here hx rfl (hb hby at_174) rfl rfl ?_
        show Steps p.tables e below (T63.setTop (mkF m 176 #[oJ q0, oS, oJ q1, oS, oJ q2, oS, iv p3, oJ qq, oS, oJ rr, oS, oJ mm, oS, rv b2, rv b13, rv b52, rv b59] [(.ref b52), (.ref b13)])) _
        exact k
      refine own_cc (own_callV X63 hx hZ (y := (⟨"com/example/foray/foray/graph/Sum", "set", "(Lcom/example/foray/foray/graph/Sum;)V"⟩ : MethodName)) (z := (⟨"com/example/foray/foray/graph/Sum", "set", "(Lcom/example/foray/foray/graph/Sum;)V"⟩ : MethodName)) hown (hw _ (List.mem_of_getElem? (i := 92) rfl)) (hw _ (List.mem_of_getElem? (i := 93) rfl)) (notFace_of_selects (args := #[]) (mvT hZ (hw _ (List.mem_of_getElem? (i := 95) rfl)))) (hw _ (List.mem_of_getElem? (i := 95) rfl)) (hw _ (List.mem_of_getElem? (i := 94) rfl)) (hw _ (List.mem_of_getElem? (i := 5) rfl)) (hw _ (List.mem_of_getElem? (i := 96) rfl)) (by decide) (rm17 l Z a0 hw [] b13 b52 rr r_51 qq wz T63.heap n0 Z0 E_b13 F_whole_b13 F_rest_b13 F_whole_b52 F_rest_b52 ne_b13_b52 g_b13) (rfl : T63.heap = _) 0 (by decide) (by decide) (by decide) (by decide) rfl (by rw [hml]; rfl) b13 E_b13 [(.ref b52)] [] rfl (lenOf pd_2 rfl) rfl (by show 2 * 0 + _ ≤ _; exact Nat.le_of_eq rfl) (hb hby at_176)) fun T65 L65 v65 X65 hQ65 => ?_
      obtain ⟨rfl, N65, K65, E_b13', F_whole_b13', F_rest_b13'⟩ := hQ65
      replace N0 := Fr.app N0 N65
      have nx5 : r_51 ≠ b13 := (ne_exa E_r_51 E_b13 (by decide))
      replace E_wz := E_wz.keep K65
      replace F_intCompact_wz := F_intCompact_wz.keep K65 (ninS ne_wz_b13 nin0)
      replace F_scale_wz := F_scale_wz.keep K65 (ninS ne_wz_b13 nin0)
      replace E_b2 := E_b2.keep K65
      replace F_whole_b2 := F_whole_b2.keep K65 (ninS ne_b2_b13 nin0)
      replace F_rest_b2 := F_rest_b2.keep K65 (ninS ne_b2_b13 nin0)
      replace E_b13 := E_b13.keep K65
      replace E_r_51 := E_r_51.keep K65
      replace F_intCompact_r_51 := F_intCompact_r_51.keep K65 (ninS nx5 nin0)
      replace F_scale_r_51 := F_scale_r_51.keep K65 (ninS nx5 nin0)
      replace E_b52 := E_b52.keep K65
      replace F_whole_b52 := F_whole_b52.keep K65 (ninS (Ne.symm ne_b13_b52) nin0)
      replace F_rest_b52 := F_rest_b52.keep K65 (ninS (Ne.symm ne_b13_b52) nin0)
      replace E_b59 := E_b59.keep K65
      replace F_whole_b59 := F_whole_b59.keep K65 (ninS (Ne.symm ne_b13_b59) nin0)
      replace F_rest_b59 := F_rest_b59.keep K65 (ninS (Ne.symm ne_b13_b59) nin0)
      replace OZ := OZ.keep K65 (allS g_b13 all0)
      replace Z0 := Nat.le_trans Z0 K65.1
      replace E_b13 := E_b13'
      have F_whole_b13 := F_whole_b13'
      have F_rest_b13 := F_rest_b13'
      show own_Go p e below _ (T65.setTop (mkF m 179 #[oJ q0, oS, oJ q1, oS, oJ q2, oS, iv p3, oJ qq, oS, oJ rr, oS, oJ mm, oS, rv b2, rv b13, rv b52, rv b59] []))
      refine own_by (B := T65.setTop (mkF m 183 #[oJ q0, oS, oJ q1, oS, oJ q2, oS, iv p3, oJ qq, oS, oJ rr, oS, oJ mm, oS, rv b2, rv b13, rv b52, rv b59] [(.ref b59), (.ref b13)])) (fun t k => ?_) ?_
      · show Steps p.tables e below (T65.setTop (mkF m 179 #[oJ q0, oS, oJ q1, oS, oJ q2, oS, iv p3, oJ qq, oS, oJ rr, oS, oJ mm, oS, rv b2, rv b13, rv b52, rv b59] [])) _
        refine XS.aload X65.here hx rfl (hb hby at_179) rfl rfl ?_
        show Steps p.tables e below (T65.setTop (mkF m 181 #[oJ q0, oS, oJ q1, oS, oJ q2, oS, iv p3, oJ qq, oS, oJ rr, oS, oJ mm, oS, rv b2, rv b13, rv b52, rv b59] [(.ref b13)])) _
        refine XS.aload X65.here hx rfl (hb hby at_181) rfl rfl ?_
        show Steps p.tables e below (T65.setTop (mkF m 183 #[oJ q0, oS, oJ q1, oS, oJ q2, oS, iv p3, oJ qq, oS, oJ rr, oS, oJ mm, oS, rv b2, rv b13, rv b52, rv b59] [(.ref b59), (.ref b13)])) _
        exact k
      refine own_cc (own_callV X65 hx hZ (y := (⟨"com/example/foray/foray/graph/Sum", "compareTo", "(Lcom/example/foray/foray/graph/Sum;)I"⟩ : MethodName)) (z := (⟨"com/example/foray/foray/graph/Sum", "compareTo", "(Lcom/example/foray/foray/graph/Sum;)I"⟩ : MethodName)) hown (hw _ (List.mem_of_getElem? (i := 97) rfl)) (hw _ (List.mem_of_getElem? (i := 98) rfl)) (notFace_of_selects (args := #[]) (mvT hZ (hw _ (List.mem_of_getElem? (i := 100) rfl)))) (hw _ (List.mem_of_getElem? (i := 100) rfl)) (hw _ (List.mem_of_getElem? (i := 99) rfl)) (hw _ (List.mem_of_getElem? (i := 5) rfl)) (hw _ (List.mem_of_getElem? (i := 101) rfl)) (by decide) (rm18_a l Z a0 hw [] b13 b59 qq wz wz T65.heap n0 Z0 F_whole_b13 F_rest_b13 F_whole_b59 F_rest_b59 E_wz F_intCompact_wz F_scale_wz E_wz F_intCompact_wz F_scale_wz) (rfl : T65.heap = _) 0 (by decide) (by decide) (by decide) (by decide) rfl (by rw [hml]; rfl) b13 E_b13 [(.ref b59)] [] rfl (lenOf pd_12 rfl) rfl (by show 2 * 0 + _ ≤ _; exact Nat.le_of_eq rfl) (hb hby at_183)) fun T67 L67 v67 X67 hQ67 => ?_
      obtain ⟨rfl, N67, e67⟩ := hQ67
      replace N0 := Fr.app N0 N67
      show own_Go p e below _ (T67.setTop (mkF m 186 #[oJ q0, oS, oJ q1, oS, oJ q2, oS, iv p3, oJ qq, oS, oJ rr, oS, oJ mm, oS, rv b2, rv b13, rv b52, rv b59] [(.int (fcmp qq qq))]))
      refine own_by (B := T67.setTop (mkF m 193 #[oJ q0, oS, oJ q1, oS, oJ q2, oS, iv p3, oJ qq, oS, oJ rr, oS, oJ mm, oS, rv b2, rv b13, rv b52, rv b59] [(.ref b59), (.ref b52)])) (fun t k => ?_) ?_
      · show Steps p.tables e below (T67.setTop (mkF m 186 #[oJ q0, oS, oJ q1, oS, oJ q2, oS, iv p3, oJ qq, oS, oJ rr, oS, oJ mm, oS, rv b2, rv b13, rv b52, rv b59] [(.int (fcmp qq qq))])) _
        refine XS.ifNo X67.here hx rfl (hb hby at_186) rfl ((if0 _ _).trans (teq (own_cmp qq)).2) ?_
        show Steps p.tables e below (T67.setTop (mkF m 189 #[oJ q0, oS, oJ q1, oS, oJ q2, oS, iv p3, oJ qq, oS, oJ rr, oS, oJ mm, oS, rv b2, rv b13, rv b52, rv b59] [])) _
        refine XS.aload X67.here hx rfl (hb hby at_189) rfl rfl ?_
        show Steps p.tables e below (T67.setTop (mkF m 191 #[oJ q0, oS, oJ q1, oS, oJ q2, oS, iv p3, oJ qq, oS, oJ rr, oS, oJ mm, oS, rv b2, rv b13, rv b52, rv b59] [(.ref b52)])) _
        refine XS.aload X67.here hx rfl (hb hby at_191) rfl rfl ?_
        show Steps p.tables e below (T67.setTop (mkF m 193 #[oJ q0, oS, oJ q1, oS, oJ q2, oS, iv p3, oJ qq, oS, oJ rr, oS, oJ mm, oS, rv b2, rv b13, rv b52, rv b59] [(.ref b59), (.ref b52)])) _
        exact k
      refine own_cc (own_callV X67 hx hZ (y := (⟨"com/example/foray/foray/graph/Sum", "compareTo", "(Lcom/example/foray/foray/graph/Sum;)I"⟩ : MethodName)) (z := (⟨"com/example/foray/foray/graph/Sum", "compareTo", "(Lcom/example/foray/foray/graph/Sum;)I"⟩ : MethodName)) hown (hw _ (List.mem_of_getElem? (i := 97) rfl)) (hw _ (List.mem_of_getElem? (i := 98) rfl)) (notFace_of_selects (args := #[]) (mvT hZ (hw _ (List.mem_of_getElem? (i := 100) rfl)))) (hw _ (List.mem_of_getElem? (i := 100) rfl)) (hw _ (List.mem_of_getElem? (i := 99) rfl)) (hw _ (List.mem_of_getElem? (i := 5) rfl)) (hw _ (List.mem_of_getElem? (i := 101) rfl)) (by decide) (rm18_a l Z a0 hw [] b52 b59 qq wz wz T65.heap n0 Z0 F_whole_b52 F_rest_b52 F_whole_b59 F_rest_b59 E_wz F_intCompact_wz F_scale_wz E_wz F_intCompact_wz F_scale_wz) e67 0 (by decide) (by decide) (by decide) (by decide) rfl (by rw [hml]; rfl) b52 E_b52 [(.ref b59)] [] rfl (lenOf pd_12 rfl) rfl (by show 2 * 0 + _ ≤ _; exact Nat.le_of_eq rfl) (hb hby at_193)) fun T69 L69 v69 X69 hQ69 => ?_
      obtain ⟨rfl, N69, e69⟩ := hQ69
      replace N0 := Fr.app N0 N69
      show own_Go p e below _ (T69.setTop (mkF m 196 #[oJ q0, oS, oJ q1, oS, oJ q2, oS, iv p3, oJ qq, oS, oJ rr, oS, oJ mm, oS, rv b2, rv b13, rv b52, rv b59] [(.int (fcmp qq qq))]))
      refine own_by (B := T69.setTop (mkF m 204 #[oJ q0, oS, oJ q1, oS, oJ q2, oS, iv p3, oJ qq, oS, oJ rr, oS, oJ mm, oS, rv b2, rv b13, rv b52, rv b59] [(.int (1 : Int32))])) (fun t k => ?_) ?_
      · show Steps p.tables e below (T69.setTop (mkF m 196 #[oJ q0, oS, oJ q1, oS, oJ q2, oS, iv p3, oJ qq, oS, oJ rr, oS, oJ mm, oS, rv b2, rv b13, rv b52, rv b59] [(.int (fcmp qq qq))])) _
        refine XS.ifNo X69.here hx rfl (hb hby at_196) rfl ((if0 _ _).trans (teq (own_cmp qq)).2) ?_
        show Steps p.tables e below (T69.setTop (mkF m 199 #[oJ q0, oS, oJ q1, oS, oJ q2, oS, iv p3, oJ qq, oS, oJ rr, oS, oJ mm, oS, rv b2, rv b13, rv b52, rv b59] [])) _
        refine XS.iconst X69.here hx rfl (hb hby at_199) ?_
        show Steps p.tables e below (T69.setTop (mkF m 200 #[oJ q0, oS, oJ q1, oS, oJ q2, oS, iv p3, oJ qq, oS, oJ rr, oS, oJ mm, oS, rv b2, rv b13, rv b52, rv b59] [(.int (1 : Int32))])) _
        refine XS.goto X69.here hx rfl (pc0 := 200) (pc' := 204) rfl (hb hby at_200) (by decide) (by decide) ?_
        show Steps p.tables e below (T69.setTop (mkF m 204 #[oJ q0, oS, oJ q1, oS, oJ q2, oS, iv p3, oJ qq, oS, oJ rr, oS, oJ mm, oS, rv b2, rv b13, rv b52, rv b59] [(.int (1 : Int32))])) _
        exact k
      exact own_retN X69 Bd.notSynchronized hx (t := .boolean) Bd.returns (by simp) (hb hby at_204) (by
          rw [show T69.heap = T65.heap from e69]
          exact ⟨rfl, N0⟩) (by decide) (by decide)
    · skip
      refine own_by (fun t k => XS.ifNo X54.here hx rfl (hb hby at_118) rfl ((if0 _ _).trans (feq hc56).1) k) ?_
      show own_Go p e below _ (T54.setTop (mkF m 121 #[oJ q0, oS, oJ q1, oS, oJ q2, oS, iv p3, oJ qq, oS, oJ rr, oS, oJ mm, oS, rv b2, rv b13, rv b52, oU] []))
      refine own_by (B := T54.setTop (mkF m 125 #[oJ q0, oS, oJ q1, oS, oJ q2, oS, iv p3, oJ qq, oS, oJ rr, oS, oJ mm, oS, rv b2, rv b13, rv b52, oU] [(.ref b2), (.ref b52)])) (fun t k => ?_) ?_
      · show Steps p.tables e below (T54.setTop (mkF m 121 #[oJ q0, oS, oJ q1, oS, oJ q2, oS, iv p3, oJ qq, oS, oJ rr, oS, oJ mm, oS, rv b2, rv b13, rv b52, oU] [])) _
        refine XS.aload X54.here hx rfl (hb hby at_121) rfl rfl ?_
        show Steps p.tables e below (T54.setTop (mkF m 123 #[oJ q0, oS, oJ q1, oS, oJ q2, oS, iv p3, oJ qq, oS, oJ rr, oS, oJ mm, oS, rv b2, rv b13, rv b52, oU] [(.ref b52)])) _
        refine XS.aload X54.here hx rfl (hb hby at_123) rfl rfl ?_
        show Steps p.tables e below (T54.setTop (mkF m 125 #[oJ q0, oS, oJ q1, oS, oJ q2, oS, iv p3, oJ qq, oS, oJ rr, oS, oJ mm, oS, rv b2, rv b13, rv b52, oU] [(.ref b2), (.ref b52)])) _
        exact k
      refine own_cc (own_callV X54 hx hZ (y := (⟨"com/example/foray/foray/graph/Sum", "add", "(Lcom/example/foray/foray/graph/Sum;)V"⟩ : MethodName)) (z := (⟨"com/example/foray/foray/graph/Sum", "add", "(Lcom/example/foray/foray/graph/Sum;)V"⟩ : MethodName)) hown (hw _ (List.mem_of_getElem? (i := 29) rfl)) (hw _ (List.mem_of_getElem? (i := 30) rfl)) (notFace_of_selects (args := #[]) (mvT hZ (hw _ (List.mem_of_getElem? (i := 32) rfl)))) (hw _ (List.mem_of_getElem? (i := 32) rfl)) (hw _ (List.mem_of_getElem? (i := 31) rfl)) (hw _ (List.mem_of_getElem? (i := 5) rfl)) (hw _ (List.mem_of_getElem? (i := 33) rfl)) (by decide) (rm5_b l Z a0 hw [] b52 b2 (0 : Int64) wz (((mm + mm) + (mm + mm)) + ((mm + mm) + (mm + mm))) wz T54.heap n0 Z0 E_b52 F_whole_b52 F_rest_b52 E_wz F_intCompact_wz F_scale_wz E_b2 F_whole_b2 F_rest_b2 E_wz F_intCompact_wz F_scale_wz (Ne.symm ne_b2_b52) g_b52 OZ hBD (by decide) (by decide) (own_big mm (hmm ▸ own_mm _ _)) (own_nm mm (hmm ▸ own_mm _ _))) (rfl : T54.heap = _) 0 (by decide) (by decide) (by decide) (by decide) rfl (by rw [hml]; rfl) b52 E_b52 [(.ref b2)] [] rfl (lenOf pd_2 rfl) rfl (by show 2 * 0 + _ ≤ _; exact Nat.le_of_eq rfl) (hb hby at_125)) fun T71 L71 v71 X71 hQ71 => ?_
      obtain ⟨r_71, rfl, N71, K71, E_b52', F_whole_b52', F_rest_b52', E_r_71', F_intCompact_r_71', F_scale_r_71'⟩ := hQ71
      replace N0 := Fr.app N0 N71
      replace E_wz := E_wz.keep K71
      replace F_intCompact_wz := F_intCompact_wz.keep K71 (ninS ne_wz_b52 nin0)
      replace F_scale_wz := F_scale_wz.keep K71 (ninS ne_wz_b52 nin0)
      replace E_b2 := E_b2.keep K71
      replace F_whole_b2 := F_whole_b2.keep K71 (ninS ne_b2_b52 nin0)
      replace F_rest_b2 := F_rest_b2.keep K71 (ninS ne_b2_b52 nin0)
      replace E_b13 := E_b13.keep K71
      replace F_whole_b13 := F_whole_b13.keep K71 (ninS ne_b13_b52 nin0)
      replace F_rest_b13 := F_rest_b13.keep K71 (ninS ne_b13_b52 nin0)
      replace E_r_51 := E_r_51.keep K71
      replace F_intCompact_r_51 := F_intCompact_r_51.keep K71 (ninS ne_r_51_b52 nin0)
      replace F_scale_r_51 := F_scale_r_51.keep K71 (ninS ne_r_51_b52 nin0)
      replace E_b52 := E_b52.keep K71
      replace OZ := OZ.keep K71 (allS g_b52 all0)
      replace Z0 := Nat.le_trans Z0 K71.1
      replace E_b52 := E_b52'
      have F_whole_b52 := F_whole_b52'
      have F_rest_b52 := F_rest_b52'
      have E_r_71 := E_r_71'
      have F_intCompact_r_71 := F_intCompact_r_71'
      have F_scale_r_71 := F_scale_r_71'
      show own_Go p e below _ (T71.setTop (mkF m 128 #[oJ q0, oS, oJ q1, oS, oJ q2, oS, iv p3, oJ qq, oS, oJ rr, oS, oJ mm, oS, rv b2, rv b13, rv b52, oU] []))
      refine own_by (B := T71.setTop (mkF m 132 #[oJ q0, oS, oJ q1, oS, oJ q2, oS, iv p3, oJ qq, oS, oJ rr, oS, oJ mm, oS, rv b2, rv b13, rv b52, oU] [(.long qq), (.ref b52)])) (fun t k => ?_) ?_
      · show Steps p.tables e below (T71.setTop (mkF m 128 #[oJ q0, oS, oJ q1, oS, oJ q2, oS, iv p3, oJ qq, oS, oJ rr, oS, oJ mm, oS, rv b2, rv b13, rv b52, oU] [])) _
        refine XS.aload X71.here hx rfl (hb hby at_128) rfl rfl ?_
        show Steps p.tables e below (T71.setTop (mkF m 130 #[oJ q0, oS, oJ q1, oS, oJ q2, oS, iv p3, oJ qq, oS, oJ rr, oS, oJ mm, oS, rv b2, rv b13, rv b52, oU] [(.ref b52)])) _
        refine XS.lload X71.here hx rfl (hb hby at_130) rfl ?_
        show Steps p.tables e below (T71.setTop (mkF m 132 #[oJ q0, oS, oJ q1, oS, oJ q2, oS, iv p3, oJ qq, oS, oJ rr, oS, oJ mm, oS, rv b2, rv b13, rv b52, oU] [(.long qq), (.ref b52)])) _
        exact k
      refine own_cc (own_callV X71 hx hZ (y := (⟨"com/example/foray/foray/graph/Sum", "addWhole", "(J)V"⟩ : MethodName)) (z := (⟨"com/example/foray/foray/graph/Sum", "addWhole", "(J)V"⟩ : MethodName)) hown (hw _ (List.mem_of_getElem? (i := 16) rfl)) (hw _ (List.mem_of_getElem? (i := 17) rfl)) (notFace_of_selects (args := #[]) (mvT hZ (hw _ (List.mem_of_getElem? (i := 19) rfl)))) (hw _ (List.mem_of_getElem? (i := 19) rfl)) (hw _ (List.mem_of_getElem? (i := 18) rfl)) (hw _ (List.mem_of_getElem? (i := 5) rfl)) (hw _ (List.mem_of_getElem? (i := 20) rfl)) (by decide) (rm3_a l Z a0 hw [] b52 qq r_71 T71.heap n0 Z0 E_b52 F_whole_b52 F_rest_b52 g_b52) (rfl : T71.heap = _) 0 (by decide) (by decide) (by decide) (by decide) rfl (by rw [hml]; rfl) b52 E_b52 [(.long qq)] [] rfl (lenOf pd_1 rfl) rfl (by show 2 * 0 + _ ≤ _; exact Nat.le_of_eq rfl) (hb hby at_132)) fun T73 L73 v73 X73 hQ73 => ?_
      obtain ⟨rfl, N73, K73, E_b52', F_whole_b52', F_rest_b52'⟩ := hQ73
      replace N0 := Fr.app N0 N73
      have nx6 : r_71 ≠ b52 := (ne_exa E_r_71 E_b52 (by decide))
      replace E_wz := E_wz.keep K73
      replace F_intCompact_wz := F_intCompact_wz.keep K73 (ninS ne_wz_b52 nin0)
      replace F_scale_wz := F_scale_wz.keep K73 (ninS ne_wz_b52 nin0)
      replace E_b2 := E_b2.keep K73
      replace F_whole_b2 := F_whole_b2.keep K73 (ninS ne_b2_b52 nin0)
      replace F_rest_b2 := F_rest_b2.keep K73 (ninS ne_b2_b52 nin0)
      replace E_b13 := E_b13.keep K73
      replace F_whole_b13 := F_whole_b13.keep K73 (ninS ne_b13_b52 nin0)
      replace F_rest_b13 := F_rest_b13.keep K73 (ninS ne_b13_b52 nin0)
      replace E_r_51 := E_r_51.keep K73
      replace F_intCompact_r_51 := F_intCompact_r_51.keep K73 (ninS ne_r_51_b52 nin0)
      replace F_scale_r_51 := F_scale_r_51.keep K73 (ninS ne_r_51_b52 nin0)
      replace E_b52 := E_b52.keep K73
      replace E_r_71 := E_r_71.keep K73
      replace F_intCompact_r_71 := F_intCompact_r_71.keep K73 (ninS nx6 nin0)
      replace F_scale_r_71 := F_scale_r_71.keep K73 (ninS nx6 nin0)
      replace OZ := OZ.keep K73 (allS g_b52 all0)
      replace Z0 := Nat.le_trans Z0 K73.1
      replace E_b52 := E_b52'
      have F_whole_b52 := F_whole_b52'
      have F_rest_b52 := F_rest_b52'
      show own_Go p e below _ (T73.setTop (mkF m 135 #[oJ q0, oS, oJ q1, oS, oJ q2, oS, iv p3, oJ qq, oS, oJ rr, oS, oJ mm, oS, rv b2, rv b13, rv b52, oU] []))
      refine own_by (B := T73.setTop (mkF m 139 #[oJ q0, oS, oJ q1, oS, oJ q2, oS, iv p3, oJ qq, oS, oJ rr, oS, oJ mm, oS, rv b2, rv b13, rv b52, oU] [(.long qq), (.ref b2)])) (fun t k => ?_) ?_
      · show Steps p.tables e below (T73.setTop (mkF m 135 #[oJ q0, oS, oJ q1, oS, oJ q2, oS, iv p3, oJ qq, oS, oJ rr, oS, oJ mm, oS, rv b2, rv b13, rv b52, oU] [])) _
        refine XS.aload X73.here hx rfl (hb hby at_135) rfl rfl ?_
        show Steps p.tables e below (T73.setTop (mkF m 137 #[oJ q0, oS, oJ q1, oS, oJ q2, oS, iv p3, oJ qq, oS, oJ rr, oS, oJ mm, oS, rv b2, rv b13, rv b52, oU] [(.ref b2)])) _
        refine XS.lload X73.here hx rfl (hb hby at_137) rfl ?_
        show Steps p.tables e below (T73.setTop (mkF m 139 #[oJ q0, oS, oJ q1, oS, oJ q2, oS, iv p3, oJ qq, oS, oJ rr, oS, oJ mm, oS, rv b2, rv b13, rv b52, oU] [(.long qq), (.ref b2)])) _
        exact k
      refine own_cc (own_callV X73 hx hZ (y := (⟨"com/example/foray/foray/graph/Sum", "addWhole", "(J)V"⟩ : MethodName)) (z := (⟨"com/example/foray/foray/graph/Sum", "addWhole", "(J)V"⟩ : MethodName)) hown (hw _ (List.mem_of_getElem? (i := 16) rfl)) (hw _ (List.mem_of_getElem? (i := 17) rfl)) (notFace_of_selects (args := #[]) (mvT hZ (hw _ (List.mem_of_getElem? (i := 19) rfl)))) (hw _ (List.mem_of_getElem? (i := 19) rfl)) (hw _ (List.mem_of_getElem? (i := 18) rfl)) (hw _ (List.mem_of_getElem? (i := 5) rfl)) (hw _ (List.mem_of_getElem? (i := 20) rfl)) (by decide) (rm3_b l Z a0 hw [] b2 qq (((mm + mm) + (mm + mm)) + ((mm + mm) + (mm + mm))) wz T73.heap n0 Z0 E_b2 F_whole_b2 F_rest_b2 E_wz F_intCompact_wz F_scale_wz g_b2 OZ hBD (own_big mm (hmm ▸ own_mm _ _)) (own_nm mm (hmm ▸ own_mm _ _))) (rfl : T73.heap = _) 0 (by decide) (by decide) (by decide) (by decide) rfl (by rw [hml]; rfl) b2 E_b2 [(.long qq)] [] rfl (lenOf pd_1 rfl) rfl (by show 2 * 0 + _ ≤ _; exact Nat.le_of_eq rfl) (hb hby at_139)) fun T75 L75 v75 X75 hQ75 => ?_
      obtain ⟨r_75, rfl, N75, K75, E_b2', F_whole_b2', F_rest_b2', E_r_75', F_intCompact_r_75', F_scale_r_75'⟩ := hQ75
      replace N0 := Fr.app N0 N75
      have nx7 : r_51 ≠ b2 := (ne_exa E_r_51 E_b2 (by decide))
      have nx8 : r_71 ≠ b2 := (ne_exa E_r_71 E_b2 (by decide))
      replace E_wz := E_wz.keep K75
      replace F_intCompact_wz := F_intCompact_wz.keep K75 (ninS ne_wz_b2 nin0)
      replace F_scale_wz := F_scale_wz.keep K75 (ninS ne_wz_b2 nin0)
      replace E_b2 := E_b2.keep K75
      replace E_b13 := E_b13.keep K75
      replace F_whole_b13 := F_whole_b13.keep K75 (ninS (Ne.symm ne_b2_b13) nin0)
      replace F_rest_b13 := F_rest_b13.keep K75 (ninS (Ne.symm ne_b2_b13) nin0)
      replace E_r_51 := E_r_51.keep K75
      replace F_intCompact_r_51 := F_intCompact_r_51.keep K75 (ninS nx7 nin0)
      replace F_scale_r_51 := F_scale_r_51.keep K75 (ninS nx7 nin0)
      replace E_b52 := E_b52.keep K75
      replace E_r_71 := E_r_71.keep K75
      replace F_intCompact_r_71 := F_intCompact_r_71.keep K75 (ninS nx8 nin0)
      replace F_scale_r_71 := F_scale_r_71.keep K75 (ninS nx8 nin0)
      replace F_whole_b52 := F_whole_b52.keep K75 (ninS (Ne.symm ne_b2_b52) nin0)
      replace F_rest_b52 := F_rest_b52.keep K75 (ninS (Ne.symm ne_b2_b52) nin0)
      replace OZ := OZ.keep K75 (allS g_b2 all0)
      replace Z0 := Nat.le_trans Z0 K75.1
      replace E_b2 := E_b2'
      have F_whole_b2 := F_whole_b2'
      have F_rest_b2 := F_rest_b2'
      have E_r_75 := E_r_75'
      have F_intCompact_r_75 := F_intCompact_r_75'
      have F_scale_r_75 := F_scale_r_75'
      show own_Go p e below _ (T75.setTop (mkF m 142 #[oJ q0, oS, oJ q1, oS, oJ q2, oS, iv p3, oJ qq, oS, oJ rr, oS, oJ mm, oS, rv b2, rv b13, rv b52, oU] []))
      refine own_by (B := T75.setTop (mkF m 176 #[oJ q0, oS, oJ q1, oS, oJ q2, oS, iv p3, oJ qq, oS, oJ rr, oS, oJ mm, oS, rv b2, rv b13, rv b52, rv b2] [(.ref b52), (.ref b13)])) (fun t k => ?_) ?_
      · show Steps p.tables e below (T75.setTop (mkF m 142 #[oJ q0, oS, oJ q1, oS, oJ q2, oS, iv p3, oJ qq, oS, oJ rr, oS, oJ mm, oS, rv b2, rv b13, rv b52, oU] [])) _
        refine XS.aload X75.here hx rfl (hb hby at_142) rfl rfl ?_
        show Steps p.tables e below (T75.setTop (mkF m 144 #[oJ q0, oS, oJ q1, oS, oJ q2, oS, iv p3, oJ qq, oS, oJ rr, oS, oJ mm, oS, rv b2, rv b13, rv b52, oU] [(.ref b2)])) _
        refine XS.astore X75.here hx rfl (hb hby at_144) rfl rfl (l' := #[oJ q0, oS, oJ q1, oS, oJ q2, oS, iv p3, oJ qq, oS, oJ rr, oS, oJ mm, oS, rv b2, rv b13, rv b52, rv b2]) rfl ?_
        show Steps p.tables e below (T75.setTop (mkF m 146 #[oJ q0, oS, oJ q1, oS, oJ q2, oS, iv p3, oJ qq, oS, oJ rr, oS, oJ mm, oS, rv b2, rv b13, rv b52, rv b2] [])) _
        refine XS.goto X75.here hx rfl (pc0 := 146) (pc' := 172) rfl (hb hby at_146) (by decide) (by decide) ?_
        show Steps p.tables e below (T75.setTop (mkF m 172 #[oJ q0, oS, oJ q1, oS, oJ q2, oS, iv p3, oJ qq, oS, oJ rr, oS, oJ mm, oS, rv b2, rv b13, rv b52, rv b2] [])) _
        refine XS.aload X75.here hx rfl (hb hby at_172) rfl rfl ?_
        show Steps p.tables e below (T75.setTop (mkF m 174 #[oJ q0, oS, oJ q1, oS, oJ q2, oS, iv p3, oJ qq, oS, oJ rr, oS, oJ mm, oS, rv b2, rv b13, rv b52, rv b2] [(.ref b13)])) _
        refine XS.aload X75.here hx rfl (hb hby at_174) rfl rfl ?_
        show Steps p.tables e below (T75.setTop (mkF m 176 #[oJ q0, oS, oJ q1, oS, oJ q2, oS, iv p3, oJ qq, oS, oJ rr, oS, oJ mm, oS, rv b2, rv b13, rv b52, rv b2] [(.ref b52), (.ref b13)])) _
        exact k
      refine own_cc (own_callV X75 hx hZ (y := (⟨"com/example/foray/foray/graph/Sum", "set", "(Lcom/example/foray/foray/graph/Sum;)V"⟩ : MethodName)) (z := (⟨"com/example/foray/foray/graph/Sum", "set", "(Lcom/example/foray/foray/graph/Sum;)V"⟩ : MethodName)) hown (hw _ (List.mem_of_getElem? (i := 92) rfl)) (hw _ (List.mem_of_getElem? (i := 93) rfl)) (notFace_of_selects (args := #[]) (mvT hZ (hw _ (List.mem_of_getElem? (i := 95) rfl)))) (hw _ (List.mem_of_getElem? (i := 95) rfl)) (hw _ (List.mem_of_getElem? (i := 94) rfl)) (hw _ (List.mem_of_getElem? (i := 5) rfl)) (hw _ (List.mem_of_getElem? (i := 96) rfl)) (by decide) (rm17 l Z a0 hw [] b13 b52 rr r_51 qq r_71 T75.heap n0 Z0 E_b13 F_whole_b13 F_rest_b13 F_whole_b52 F_rest_b52 ne_b13_b52 g_b13) (rfl : T75.heap = _) 0 (by decide) (by decide) (by decide) (by decide) rfl (by rw [hml]; rfl) b13 E_b13 [(.ref b52)] [] rfl (lenOf pd_2 rfl) rfl (by show 2 * 0 + _ ≤ _; exact Nat.le_of_eq rfl) (hb hby at_176)) fun T77 L77 v77 X77 hQ77 => ?_
      obtain ⟨rfl, N77, K77, E_b13', F_whole_b13', F_rest_b13'⟩ := hQ77
      replace N0 := Fr.app N0 N77
      have nx9 : r_51 ≠ b13 := (ne_exa E_r_51 E_b13 (by decide))
      have nx10 : r_71 ≠ b13 := (ne_exa E_r_71 E_b13 (by decide))
      have nx11 : r_75 ≠ b13 := (ne_exa E_r_75 E_b13 (by decide))
      replace E_wz := E_wz.keep K77
      replace F_intCompact_wz := F_intCompact_wz.keep K77 (ninS ne_wz_b13 nin0)
      replace F_scale_wz := F_scale_wz.keep K77 (ninS ne_wz_b13 nin0)
      replace E_b2 := E_b2.keep K77
      replace E_b13 := E_b13.keep K77
      replace E_r_51 := E_r_51.keep K77
      replace F_intCompact_r_51 := F_intCompact_r_51.keep K77 (ninS nx9 nin0)
      replace F_scale_r_51 := F_scale_r_51.keep K77 (ninS nx9 nin0)
      replace E_b52 := E_b52.keep K77
      replace E_r_71 := E_r_71.keep K77
      replace F_intCompact_r_71 := F_intCompact_r_71.keep K77 (ninS nx10 nin0)
      replace F_scale_r_71 := F_scale_r_71.keep K77 (ninS nx10 nin0)
      replace F_whole_b52 := F_whole_b52.keep K77 (ninS (Ne.symm ne_b13_b52) nin0)
      replace F_rest_b52 := F_rest_b52.keep K77 (ninS (Ne.symm ne_b13_b52) nin0)
      replace F_whole_b2 := F_whole_b2.keep K77 (ninS ne_b2_b13 nin0)
      replace F_rest_b2 := F_rest_b2.keep K77 (ninS ne_b2_b13 nin0)
      replace E_r_75 := E_r_75.keep K77
      replace F_intCompact_r_75 := F_intCompact_r_75.keep K77 (ninS nx11 nin0)
      replace F_scale_r_75 := F_scale_r_75.keep K77 (ninS nx11 nin0)
      replace OZ := OZ.keep K77 (allS g_b13 all0)
      replace Z0 := Nat.le_trans Z0 K77.1
      replace E_b13 := E_b13'
      have F_whole_b13 := F_whole_b13'
      have F_rest_b13 := F_rest_b13'
      show own_Go p e below _ (T77.setTop (mkF m 179 #[oJ q0, oS, oJ q1, oS, oJ q2, oS, iv p3, oJ qq, oS, oJ rr, oS, oJ mm, oS, rv b2, rv b13, rv b52, rv b2] []))
      refine own_by (B := T77.setTop (mkF m 183 #[oJ q0, oS, oJ q1, oS, oJ q2, oS, iv p3, oJ qq, oS, oJ rr, oS, oJ mm, oS, rv b2, rv b13, rv b52, rv b2] [(.ref b2), (.ref b13)])) (fun t k => ?_) ?_
      · show Steps p.tables e below (T77.setTop (mkF m 179 #[oJ q0, oS, oJ q1, oS, oJ q2, oS, iv p3, oJ qq, oS, oJ rr, oS, oJ mm, oS, rv b2, rv b13, rv b52, rv b2] [])) _
        refine XS.aload X77.here hx rfl (hb hby at_179) rfl rfl ?_
        show Steps p.tables e below (T77.setTop (mkF m 181 #[oJ q0, oS, oJ q1, oS, oJ q2, oS, iv p3, oJ qq, oS, oJ rr, oS, oJ mm, oS, rv b2, rv b13, rv b52, rv b2] [(.ref b13)])) _
        refine XS.aload X77.here hx rfl (hb hby at_181) rfl rfl ?_
        show Steps p.tables e below (T77.setTop (mkF m 183 #[oJ q0, oS, oJ q1, oS, oJ q2, oS, iv p3, oJ qq, oS, oJ rr, oS, oJ mm, oS, rv b2, rv b13, rv b52, rv b2] [(.ref b2), (.ref b13)])) _
        exact k
      refine own_cc (own_callV X77 hx hZ (y := (⟨"com/example/foray/foray/graph/Sum", "compareTo", "(Lcom/example/foray/foray/graph/Sum;)I"⟩ : MethodName)) (z := (⟨"com/example/foray/foray/graph/Sum", "compareTo", "(Lcom/example/foray/foray/graph/Sum;)I"⟩ : MethodName)) hown (hw _ (List.mem_of_getElem? (i := 97) rfl)) (hw _ (List.mem_of_getElem? (i := 98) rfl)) (notFace_of_selects (args := #[]) (mvT hZ (hw _ (List.mem_of_getElem? (i := 100) rfl)))) (hw _ (List.mem_of_getElem? (i := 100) rfl)) (hw _ (List.mem_of_getElem? (i := 99) rfl)) (hw _ (List.mem_of_getElem? (i := 5) rfl)) (hw _ (List.mem_of_getElem? (i := 101) rfl)) (by decide) (rm18_b l Z a0 hw [] b13 b2 qq r_71 r_75 (((mm + mm) + (mm + mm)) + ((mm + mm) + (mm + mm))) T77.heap n0 Z0 E_b13 F_whole_b13 F_rest_b13 E_b2 F_whole_b2 F_rest_b2 E_r_71 F_intCompact_r_71 F_scale_r_71 E_r_75 F_intCompact_r_75 F_scale_r_75 OZ hBD (own_qn qq (hqq ▸ own_qq _)) (own_nm mm (hmm ▸ own_mm _ _)) (own_sum mm qq (hmm ▸ own_mm _ _) (hqq ▸ own_qq _)) (own_sg mm (hmm ▸ own_mm _ _))) (rfl : T77.heap = _) 0 (by decide) (by decide) (by decide) (by decide) rfl (by rw [hml]; rfl) b13 E_b13 [(.ref b2)] [] rfl (lenOf pd_12 rfl) rfl (by show 2 * 0 + _ ≤ _; exact Nat.le_of_eq rfl) (hb hby at_183)) fun T79 L79 v79 X79 hQ79 => ?_
      obtain ⟨rfl, N79, K79⟩ := hQ79
      replace N0 := Fr.app N0 N79
      replace E_wz := E_wz.keep K79
      replace F_intCompact_wz := F_intCompact_wz.keep K79 nin0
      replace F_scale_wz := F_scale_wz.keep K79 nin0
      replace E_b2 := E_b2.keep K79
      replace E_b13 := E_b13.keep K79
      replace E_r_51 := E_r_51.keep K79
      replace F_intCompact_r_51 := F_intCompact_r_51.keep K79 nin0
      replace F_scale_r_51 := F_scale_r_51.keep K79 nin0
      replace E_b52 := E_b52.keep K79
      replace E_r_71 := E_r_71.keep K79
      replace F_intCompact_r_71 := F_intCompact_r_71.keep K79 nin0
      replace F_scale_r_71 := F_scale_r_71.keep K79 nin0
      replace F_whole_b52 := F_whole_b52.keep K79 nin0
      replace F_rest_b52 := F_rest_b52.keep K79 nin0
      replace F_whole_b2 := F_whole_b2.keep K79 nin0
      replace F_rest_b2 := F_rest_b2.keep K79 nin0
      replace E_r_75 := E_r_75.keep K79
      replace F_intCompact_r_75 := F_intCompact_r_75.keep K79 nin0
      replace F_scale_r_75 := F_scale_r_75.keep K79 nin0
      replace F_whole_b13 := F_whole_b13.keep K79 nin0
      replace F_rest_b13 := F_rest_b13.keep K79 nin0
      replace OZ := OZ.keep K79 all0
      replace Z0 := Nat.le_trans Z0 K79.1
      show own_Go p e below _ (T79.setTop (mkF m 186 #[oJ q0, oS, oJ q1, oS, oJ q2, oS, iv p3, oJ qq, oS, oJ rr, oS, oJ mm, oS, rv b2, rv b13, rv b52, rv b2] [(.int (0 : Int32))]))
      refine own_by (B := T79.setTop (mkF m 193 #[oJ q0, oS, oJ q1, oS, oJ q2, oS, iv p3, oJ qq, oS, oJ rr, oS, oJ mm, oS, rv b2, rv b13, rv b52, rv b2] [(.ref b2), (.ref b52)])) (fun t k => ?_) ?_
      · show Steps p.tables e below (T79.setTop (mkF m 186 #[oJ q0, oS, oJ q1, oS, oJ q2, oS, iv p3, oJ qq, oS, oJ rr, oS, oJ mm, oS, rv b2, rv b13, rv b52, rv b2] [(.int (0 : Int32))])) _
        refine XS.ifNo X79.here hx rfl (hb hby at_186) rfl ((if0 _ _).trans (teq (by decide : (0 : Int32) = (0 : Int32))).2) ?_
        show Steps p.tables e below (T79.setTop (mkF m 189 #[oJ q0, oS, oJ q1, oS, oJ q2, oS, iv p3, oJ qq, oS, oJ rr, oS, oJ mm, oS, rv b2, rv b13, rv b52, rv b2] [])) _
        refine XS.aload X79.here hx rfl (hb hby at_189) rfl rfl ?_
        show Steps p.tables e below (T79.setTop (mkF m 191 #[oJ q0, oS, oJ q1, oS, oJ q2, oS, iv p3, oJ qq, oS, oJ rr, oS, oJ mm, oS, rv b2, rv b13, rv b52, rv b2] [(.ref b52)])) _
        refine XS.aload X79.here hx rfl (hb hby at_191) rfl rfl ?_
        show Steps p.tables e below (T79.setTop (mkF m 193 #[oJ q0, oS, oJ q1, oS, oJ q2, oS, iv p3, oJ qq, oS, oJ rr, oS, oJ mm, oS, rv b2, rv b13, rv b52, rv b2] [(.ref b2), (.ref b52)])) _
        exact k
      refine own_cc (own_callV X79 hx hZ (y := (⟨"com/example/foray/foray/graph/Sum", "compareTo", "(Lcom/example/foray/foray/graph/Sum;)I"⟩ : MethodName)) (z := (⟨"com/example/foray/foray/graph/Sum", "compareTo", "(Lcom/example/foray/foray/graph/Sum;)I"⟩ : MethodName)) hown (hw _ (List.mem_of_getElem? (i := 97) rfl)) (hw _ (List.mem_of_getElem? (i := 98) rfl)) (notFace_of_selects (args := #[]) (mvT hZ (hw _ (List.mem_of_getElem? (i := 100) rfl)))) (hw _ (List.mem_of_getElem? (i := 100) rfl)) (hw _ (List.mem_of_getElem? (i := 99) rfl)) (hw _ (List.mem_of_getElem? (i := 5) rfl)) (hw _ (List.mem_of_getElem? (i := 101) rfl)) (by decide) (rm18_b l Z a0 hw [] b52 b2 qq r_71 r_75 (((mm + mm) + (mm + mm)) + ((mm + mm) + (mm + mm))) T79.heap n0 Z0 E_b52 F_whole_b52 F_rest_b52 E_b2 F_whole_b2 F_rest_b2 E_r_71 F_intCompact_r_71 F_scale_r_71 E_r_75 F_intCompact_r_75 F_scale_r_75 OZ hBD (own_qn qq (hqq ▸ own_qq _)) (own_nm mm (hmm ▸ own_mm _ _)) (own_sum mm qq (hmm ▸ own_mm _ _) (hqq ▸ own_qq _)) (own_sg mm (hmm ▸ own_mm _ _))) (rfl : T79.heap = _) 0 (by decide) (by decide) (by decide) (by decide) rfl (by rw [hml]; rfl) b52 E_b52 [(.ref b2)] [] rfl (lenOf pd_12 rfl) rfl (by show 2 * 0 + _ ≤ _; exact Nat.le_of_eq rfl) (hb hby at_193)) fun T81 L81 v81 X81 hQ81 => ?_
      obtain ⟨rfl, N81, K81⟩ := hQ81
      replace N0 := Fr.app N0 N81
      replace E_wz := E_wz.keep K81
      replace F_intCompact_wz := F_intCompact_wz.keep K81 nin0
      replace F_scale_wz := F_scale_wz.keep K81 nin0
      replace E_b2 := E_b2.keep K81
      replace E_b13 := E_b13.keep K81
      replace E_r_51 := E_r_51.keep K81
      replace F_intCompact_r_51 := F_intCompact_r_51.keep K81 nin0
      replace F_scale_r_51 := F_scale_r_51.keep K81 nin0
      replace E_b52 := E_b52.keep K81
      replace E_r_71 := E_r_71.keep K81
      replace F_intCompact_r_71 := F_intCompact_r_71.keep K81 nin0
      replace F_scale_r_71 := F_scale_r_71.keep K81 nin0
      replace F_whole_b52 := F_whole_b52.keep K81 nin0
      replace F_rest_b52 := F_rest_b52.keep K81 nin0
      replace F_whole_b2 := F_whole_b2.keep K81 nin0
      replace F_rest_b2 := F_rest_b2.keep K81 nin0
      replace E_r_75 := E_r_75.keep K81
      replace F_intCompact_r_75 := F_intCompact_r_75.keep K81 nin0
      replace F_scale_r_75 := F_scale_r_75.keep K81 nin0
      replace F_whole_b13 := F_whole_b13.keep K81 nin0
      replace F_rest_b13 := F_rest_b13.keep K81 nin0
      replace OZ := OZ.keep K81 all0
      replace Z0 := Nat.le_trans Z0 K81.1
      show own_Go p e below _ (T81.setTop (mkF m 196 #[oJ q0, oS, oJ q1, oS, oJ q2, oS, iv p3, oJ qq, oS, oJ rr, oS, oJ mm, oS, rv b2, rv b13, rv b52, rv b2] [(.int (0 : Int32))]))
      refine own_by (B := T81.setTop (mkF m 204 #[oJ q0, oS, oJ q1, oS, oJ q2, oS, iv p3, oJ qq, oS, oJ rr, oS, oJ mm, oS, rv b2, rv b13, rv b52, rv b2] [(.int (1 : Int32))])) (fun t k => ?_) ?_
      · show Steps p.tables e below (T81.setTop (mkF m 196 #[oJ q0, oS, oJ q1, oS, oJ q2, oS, iv p3, oJ qq, oS, oJ rr, oS, oJ mm, oS, rv b2, rv b13, rv b52, rv b2] [(.int (0 : Int32))])) _
        refine XS.ifNo X81.here hx rfl (hb hby at_196) rfl ((if0 _ _).trans (teq (by decide : (0 : Int32) = (0 : Int32))).2) ?_
        show Steps p.tables e below (T81.setTop (mkF m 199 #[oJ q0, oS, oJ q1, oS, oJ q2, oS, iv p3, oJ qq, oS, oJ rr, oS, oJ mm, oS, rv b2, rv b13, rv b52, rv b2] [])) _
        refine XS.iconst X81.here hx rfl (hb hby at_199) ?_
        show Steps p.tables e below (T81.setTop (mkF m 200 #[oJ q0, oS, oJ q1, oS, oJ q2, oS, iv p3, oJ qq, oS, oJ rr, oS, oJ mm, oS, rv b2, rv b13, rv b52, rv b2] [(.int (1 : Int32))])) _
        refine XS.goto X81.here hx rfl (pc0 := 200) (pc' := 204) rfl (hb hby at_200) (by decide) (by decide) ?_
        show Steps p.tables e below (T81.setTop (mkF m 204 #[oJ q0, oS, oJ q1, oS, oJ q2, oS, iv p3, oJ qq, oS, oJ rr, oS, oJ mm, oS, rv b2, rv b13, rv b52, rv b2] [(.int (1 : Int32))])) _
        exact k
      exact own_retN X81 Bd.notSynchronized hx (t := .boolean) Bd.returns (by simp) (hb hby at_204) ⟨rfl, N0⟩ (by decide) (by decide)

set_option maxRecDepth 65536 in
set_option maxHeartbeats 40000000 in
theorem comes_1 {Post : Tables → Env → Array Value → State → Outcome → State → Prop} (hpost : ∀ tb e args s v u, (limb_1_1.after args s (.returned v) u = true ∧ limb_1_2.after args s (.returned v) u = true ∧ True) → FrameEnd s (.returned v) u (Jvm.fieldLocs frame_1_writes args s ++ Jvm.arrayLocs frame_1_arrays args s ++ Jvm.staticLocs frame_1_statics s) 48 256 → Post tb e args s (.returned v) u) :
    ArmFor flags0 classFile x code maxLocals ret World_1 tables_1 room_1 Calls_1 rest_1 Pre_1 Post := by
  intro l hfl _ _ p e ha hc hk s m args below hf hA hF happ hP
  obtain ⟨hcalls, hrest, hpre⟩ := hP
  obtain ⟨-, -, -, hnamed, -, -, -, hat⟩ := (Spec.applies_iff hf).mp happ
  obtain ⟨hg, hn⟩ := and_e (Cond.before_iff.mp (show (Jvm.Cond.and given_1 narrow_1).before args s = true from hpre))
  obtain ⟨g0, g0'⟩ := and_e hg
  obtain ⟨g1, g1'⟩ := and_e g0'
  obtain ⟨g2, g2'⟩ := and_e g1'
  obtain ⟨g3, g3'⟩ := and_e g2'
  obtain ⟨w0, w1, w2, w3, rfl⟩ : ∃ w0 w1 w2 w3 : Value, args = #[w0, w1, w2, w3] := by
    have hs : args.size = 4 := by simpa [Cond.value, given_1] using g0
    obtain ⟨L⟩ := args
    match L, hs with
    | [w0, w1, w2, w3], _ => exact ⟨w0, w1, w2, w3, rfl⟩
  have hw := fun d (hd : d ∈ tables_1) => atoms_spec (ws := Jvm.Cond.code x code maxLocals ret :: tables_1) hat d (List.mem_cons_of_mem _ hd)
  have hfit : Fit s := fun {y c} hc i hi => by
    obtain ⟨ha, rfl⟩ := Array.getElem?_eq_some_iff.mp hc
    have q := List.all_eq_true.mp ((Array.all_eq_true_iff_forall_mem.mp hF) _ (Array.getElem_mem ha)) i (List.mem_range.mpr hi)
    simpa [Array.getElem?_eq_getElem hi] using q
  obtain ⟨i0, ei0⟩ := isL_v g1
  obtain rfl : w0 = (.long i0) := Option.some.inj ei0
  obtain ⟨i1, ei1⟩ := isL_v g2
  obtain rfl : w1 = (.long i1) := Option.some.inj ei1
  obtain ⟨i2, ei2⟩ := isL_v g3
  obtain rfl : w2 = (.long i2) := Option.some.inj ei2
  obtain ⟨i3, ei3⟩ := is_v g3'
  obtain rfl : w3 = (.int i3) := Option.some.inj ei3
  obtain ⟨hsets, hown0⟩ := atoms_of _ (rest_1_c_eq ▸ (show rest_1_c.before _ s = true from hrest))
  obtain ⟨zt, vzt⟩ := exa_v (Cond.before_iff.mp (hsets _ (List.mem_of_getElem? (i := 32) rfl)))
  have S_zt := Sta.start vzt (Or.inl (hsets _ (List.mem_of_getElem? (i := 14) rfl)))
  obtain ⟨cl, A, hA1, hA2⟩ := own_arr vzt (Cond.before_iff.mp (hsets _ (List.mem_of_getElem? (i := 31) rfl))) (Cond.before_iff.mp (hsets _ (List.mem_of_getElem? (i := 33) rfl)))
  obtain ⟨w0, vw0⟩ := exa_v (Cond.before_iff.mp (hsets _ (List.mem_of_getElem? (i := 35) rfl)))
  have E_w0 := Exa.start vw0 (Cond.before_iff.mp (hsets _ (List.mem_of_getElem? (i := 35) rfl)))
  have F_w0 := own_ordL vw0 (Cond.before_iff.mp (hsets _ (List.mem_of_getElem? (i := 37) rfl)))
  have G_w0 := own_ord vw0 (Cond.before_iff.mp (hsets _ (List.mem_of_getElem? (i := 36) rfl)))
  have q0 := own_elem vzt A vw0
  obtain ⟨w1, vw1⟩ := exa_v (Cond.before_iff.mp (hsets _ (List.mem_of_getElem? (i := 45) rfl)))
  have E_w1 := Exa.start vw1 (Cond.before_iff.mp (hsets _ (List.mem_of_getElem? (i := 45) rfl)))
  have F_w1 := own_ordL vw1 (Cond.before_iff.mp (hsets _ (List.mem_of_getElem? (i := 47) rfl)))
  have G_w1 := own_ord vw1 (Cond.before_iff.mp (hsets _ (List.mem_of_getElem? (i := 46) rfl)))
  have q1 := own_elem vzt A vw1
  obtain ⟨w2, vw2⟩ := exa_v (Cond.before_iff.mp (hsets _ (List.mem_of_getElem? (i := 55) rfl)))
  have E_w2 := Exa.start vw2 (Cond.before_iff.mp (hsets _ (List.mem_of_getElem? (i := 55) rfl)))
  have F_w2 := own_ordL vw2 (Cond.before_iff.mp (hsets _ (List.mem_of_getElem? (i := 57) rfl)))
  have G_w2 := own_ord vw2 (Cond.before_iff.mp (hsets _ (List.mem_of_getElem? (i := 56) rfl)))
  have q2 := own_elem vzt A vw2
  obtain ⟨w3, vw3⟩ := exa_v (Cond.before_iff.mp (hsets _ (List.mem_of_getElem? (i := 64) rfl)))
  have E_w3 := Exa.start vw3 (Cond.before_iff.mp (hsets _ (List.mem_of_getElem? (i := 64) rfl)))
  have F_w3 := own_ordL vw3 (Cond.before_iff.mp (hsets _ (List.mem_of_getElem? (i := 66) rfl)))
  have G_w3 := own_ord vw3 (Cond.before_iff.mp (hsets _ (List.mem_of_getElem? (i := 65) rfl)))
  have q3 := own_elem vzt A vw3
  obtain ⟨w4, vw4⟩ := exa_v (Cond.before_iff.mp (hsets _ (List.mem_of_getElem? (i := 72) rfl)))
  have E_w4 := Exa.start vw4 (Cond.before_iff.mp (hsets _ (List.mem_of_getElem? (i := 72) rfl)))
  have F_w4 := own_ordL vw4 (Cond.before_iff.mp (hsets _ (List.mem_of_getElem? (i := 74) rfl)))
  have G_w4 := own_ord vw4 (Cond.before_iff.mp (hsets _ (List.mem_of_getElem? (i := 73) rfl)))
  have q4 := own_elem vzt A vw4
  obtain ⟨w5, vw5⟩ := exa_v (Cond.before_iff.mp (hsets _ (List.mem_of_getElem? (i := 80) rfl)))
  have E_w5 := Exa.start vw5 (Cond.before_iff.mp (hsets _ (List.mem_of_getElem? (i := 80) rfl)))
  have F_w5 := own_ordL vw5 (Cond.before_iff.mp (hsets _ (List.mem_of_getElem? (i := 82) rfl)))
  have G_w5 := own_ord vw5 (Cond.before_iff.mp (hsets _ (List.mem_of_getElem? (i := 81) rfl)))
  have q5 := own_elem vzt A vw5
  obtain ⟨w6, vw6⟩ := exa_v (Cond.before_iff.mp (hsets _ (List.mem_of_getElem? (i := 88) rfl)))
  have E_w6 := Exa.start vw6 (Cond.before_iff.mp (hsets _ (List.mem_of_getElem? (i := 88) rfl)))
  have F_w6 := own_ordL vw6 (Cond.before_iff.mp (hsets _ (List.mem_of_getElem? (i := 90) rfl)))
  have G_w6 := own_ord vw6 (Cond.before_iff.mp (hsets _ (List.mem_of_getElem? (i := 89) rfl)))
  have q6 := own_elem vzt A vw6
  obtain ⟨w7, vw7⟩ := exa_v (Cond.before_iff.mp (hsets _ (List.mem_of_getElem? (i := 96) rfl)))
  have E_w7 := Exa.start vw7 (Cond.before_iff.mp (hsets _ (List.mem_of_getElem? (i := 96) rfl)))
  have F_w7 := own_ordL vw7 (Cond.before_iff.mp (hsets _ (List.mem_of_getElem? (i := 98) rfl)))
  have G_w7 := own_ord vw7 (Cond.before_iff.mp (hsets _ (List.mem_of_getElem? (i := 97) rfl)))
  have q7 := own_elem vzt A vw7
  obtain ⟨w8, vw8⟩ := exa_v (Cond.before_iff.mp (hsets _ (List.mem_of_getElem? (i := 104) rfl)))
  have E_w8 := Exa.start vw8 (Cond.before_iff.mp (hsets _ (List.mem_of_getElem? (i := 104) rfl)))
  have F_w8 := own_ordL vw8 (Cond.before_iff.mp (hsets _ (List.mem_of_getElem? (i := 106) rfl)))
  have G_w8 := own_ord vw8 (Cond.before_iff.mp (hsets _ (List.mem_of_getElem? (i := 105) rfl)))
  have q8 := own_elem vzt A vw8
  obtain ⟨w9, vw9⟩ := exa_v (Cond.before_iff.mp (hsets _ (List.mem_of_getElem? (i := 112) rfl)))
  have E_w9 := Exa.start vw9 (Cond.before_iff.mp (hsets _ (List.mem_of_getElem? (i := 112) rfl)))
  have F_w9 := own_ordL vw9 (Cond.before_iff.mp (hsets _ (List.mem_of_getElem? (i := 114) rfl)))
  have G_w9 := own_ord vw9 (Cond.before_iff.mp (hsets _ (List.mem_of_getElem? (i := 113) rfl)))
  have q9 := own_elem vzt A vw9
  obtain ⟨w10, vw10⟩ := exa_v (Cond.before_iff.mp (hsets _ (List.mem_of_getElem? (i := 121) rfl)))
  have E_w10 := Exa.start vw10 (Cond.before_iff.mp (hsets _ (List.mem_of_getElem? (i := 121) rfl)))
  have F_w10 := own_ordL vw10 (Cond.before_iff.mp (hsets _ (List.mem_of_getElem? (i := 123) rfl)))
  have G_w10 := own_ord vw10 (Cond.before_iff.mp (hsets _ (List.mem_of_getElem? (i := 122) rfl)))
  have q10 := own_elem vzt A vw10
  have V : Arv s s.heap zt cl.cls (.object "java/math/BigDecimal") (11 : Int32) [.ref w0, .ref w1, .ref w2, .ref w3, .ref w4, .ref w5, .ref w6, .ref w7, .ref w8, .ref w9, .ref w10] .null := Arv.start hfit A hA1 hA2 (by decide) rfl ⟨q0, q1, q2, q3, q4, q5, q6, q7, q8, q9, q10, trivial⟩
  have hBD : own_BD s := ⟨zt, cl.cls, w0, w1, w2, w3, w4, w5, w6, w7, w8, w9, w10, S_zt, V, ⟨E_w0, F_w0, G_w0⟩, ⟨E_w1, F_w1, G_w1⟩, ⟨E_w2, F_w2, G_w2⟩, ⟨E_w3, F_w3, G_w3⟩, ⟨E_w4, F_w4, G_w4⟩, ⟨E_w5, F_w5, G_w5⟩, ⟨E_w6, F_w6, G_w6⟩, ⟨E_w7, F_w7, G_w7⟩, ⟨E_w8, F_w8, G_w8⟩, ⟨E_w9, F_w9, G_w9⟩, ⟨E_w10, F_w10, G_w10⟩⟩
  obtain ⟨wz, vwz⟩ := exa_v (Cond.before_iff.mp (hsets _ (List.mem_of_getElem? (i := 4) rfl)))
  have E_wz := Exa.start vwz (Cond.before_iff.mp (hsets _ (List.mem_of_getElem? (i := 4) rfl)))
  have F_wz := own_ordL vwz (Cond.before_iff.mp (hsets _ (List.mem_of_getElem? (i := 6) rfl)))
  have G_wz := own_ord vwz (Cond.before_iff.mp (hsets _ (List.mem_of_getElem? (i := 5) rfl)))
  have S_z := Sta.start vwz (Or.inl (hsets _ (List.mem_of_getElem? (i := 1) rfl)))
  obtain ⟨n, o, h1, h2, h3, _, L, rfl, ⟨rfl, N⟩, hq⟩ := rm0 l s _ hw tables_1 i0 i1 i2 i3 wz s.heap s.heap.size (Nat.le_refl _) (Old.start s) hBD S_z E_wz F_wz G_wz p e ha hc hk s m _ below hf ((Spec.applies_iff_loose hf).mp happ).1 ⟨rfl, State.Warmed39.refl s, rfl⟩ trivial
  refine ⟨n, _, h1, h2, h3, hpost _ _ _ _ _ _ ⟨Cond.after_iff.mpr rfl, Cond.after_iff.mpr (eq_i res_at (Term.int_eval (1)) rfl), trivial⟩ ⟨hq.1, hq.2.1, (hq.2.2.sift fun y hy => Or.inr (N y hy)).mono (by decide) (by decide)⟩⟩
theorem main_1_1 : Claimed_1_1 := comes_1 fun _ _ _ _ _ _ h hF => ⟨h.1, hF⟩
theorem main_1_2 : Claimed_1_2 := comes_1 fun _ _ _ _ _ _ h hF => ⟨h.2.1, hF⟩
end Jvm.Pilot.@@N@@
namespace Jvm.Pilot.@@N@@
open Jvm Jvm.ClassFile Sem Op Lib Jvm.Free Jvm.Stand Jvm.Pilot.@@N@@.Jvm.D
/-! MADE BY PROGRAM (witnessworld.py) out of the Statement's table words and the real class files: 17 classes; the members and pool entries that the words name. The judged class is class 1, her method 1. -/
namespace start1
open Jvm.ClassFile
def u (s : String) : CpInfo := .utf8 (stringToUtf16 s)
/-- a pool by its gaps: so many unusable entries, then the entry; so many at the end -/
def gap : Nat → List CpInfo → List CpInfo
  | 0, r => r
  | n + 1, r => .unusable :: gap n r
def poolList (es : List (Nat × CpInfo)) (last : Nat) : List CpInfo := es.foldr (fun e r => gap e.1 (e.2 :: r)) (gap last [])
def pool (es : List (Nat × CpInfo)) (last : Nat) : Array CpInfo := ⟨poolList es last⟩
def fileOf (pool : Array CpInfo) (this : Nat) (attrs : Array Attribute := #[]) (ms : Array MethodInfo := #[]) (fl : Nat := 33) (sup : Nat := 0) (ifs : Array Nat := #[]) (fds : Array FieldInfo := #[]) : ClassFile where
  minorVersion := 0
  majorVersion := 65
  constantPool := pool
  accessFlags := fl
  thisClass := this
  superClass := sup
  interfaces := ifs
  fields := fds
  methods := ms
  attributes := attrs
def plain (name : String) (sup : Option ClassId) : Class where
  name := name
  kind := .ordinary
  loader := none
  accessFlags := 33
  super := sup
  interfaces := #[]
  cf := none
  fields := #[]
  methods := #[]
  instanceTypes := #[]
  staticTypes := #[]
  resolved := #[]
  callSites := []
  init := .initialized
  statics := none
  mirror := none

def pool0 : Array CpInfo := pool [(5, u "<init>"), (0, u "()V"), (1, .class_ 10), (1, u "java/lang/Object")] 113

def k0c0 : Code := { maxStack := 0, maxLocals := 1, code := object_method_1_code, exceptionTable := #[], attributes := #[] }
def k0m0 : Method := { name := "<init>", desc := "()V", sig := { parameters := [], returnType := none }, accessFlags := 1, code := some k0c0 }
/-- java/lang/Object -/
def k0 : Class := { plain "java/lang/Object" none with
  accessFlags := 33
  interfaces := #[]
  cf := some (fileOf pool0 8 #[] #[{ accessFlags := 1, nameIndex := 5, descriptorIndex := 6, attributes := #[] }] 33 0 #[] #[])
  fields := #[]
  methods := #[k0m0]
  instanceTypes := #[]
  staticTypes := #[]
  resolved := Array.replicate 124 none
  statics := none }

def pool1 : Array CpInfo := pool [(2, .class_ 4), (0, .nameAndType 5 6), (0, u "java/lang/Object"), (0, u "<init>"), (0, u "()V"), (0, .long 1000000000000000000), (1, .long 576460752303423488), (1, .long 288230376151711743), (1, .class_ 14), (0, u "com/example/foray/foray/graph/Sum"), (0, .methodref 13 3), (0, .methodref 13 17), (0, .nameAndType 18 19), (0, u "addWhole"), (0, u "(J)V"), (0, .methodref 13 21), (0, .nameAndType 22 23), (0, u "add"), (0, u "(Lcom/example/foray/foray/graph/Sum;)V"), (0, .methodref 13 25), (0, .nameAndType 26 23), (0, u "set"), (0, .methodref 13 28), (0, .nameAndType 29 30), (0, u "compareTo"), (0, u "(Lcom/example/foray/foray/graph/Sum;)I"), (0, .class_ 32), (0, u "com/example/foray/foray/graph/SumSetPinLaw"), (2, u "law"), (0, u "(JJJI)Z")] 3

def k1m0 : Method := { name := "<init>", desc := "()V", sig := { parameters := [], returnType := none }, accessFlags := 1, code := none }
def k1c1 : Code := { maxStack := 6, maxLocals := 17, code := code, exceptionTable := #[], attributes := #[] }
def k1m1 : Method := { name := "law", desc := "(JJJI)Z", sig := { parameters := [.long, .long, .long, .int], returnType := some .boolean }, accessFlags := 9, code := some k1c1 }
/-- com/example/foray/foray/graph/SumSetPinLaw -/
def k1 : Class := { plain "com/example/foray/foray/graph/SumSetPinLaw" (some 0) with
  accessFlags := 49
  interfaces := #[]
  cf := some (fileOf pool1 31 #[] #[{ accessFlags := 1, nameIndex := 5, descriptorIndex := 6, attributes := #[] }, { accessFlags := 9, nameIndex := 35, descriptorIndex := 36, attributes := #[] }] 49 2 #[] #[])
  fields := #[]
  methods := #[k1m0, k1m1]
  instanceTypes := #[]
  staticTypes := #[]
  resolved := Array.replicate 40 none
  statics := none }

def pool2 : Array CpInfo := pool [(1, .class_ 2), (0, u "java/lang/Long"), (0, .methodref 4 5), (0, .class_ 6), (0, .nameAndType 7 8), (0, u "java/lang/Object"), (0, u "<init>"), (0, u "()V"), (0, .fieldref 10 11), (0, .class_ 12), (0, .nameAndType 13 14), (0, u "java/math/BigDecimal"), (0, u "ZERO"), (0, u "Ljava/math/BigDecimal;"), (0, .fieldref 16 17), (0, .class_ 18), (0, .nameAndType 19 14), (0, u "com/example/foray/foray/graph/Sum"), (0, u "rest"), (12, u "whole"), (1, .methodref 10 35), (0, .nameAndType 36 37), (0, u "add"), (0, u "(Ljava/math/BigDecimal;)Ljava/math/BigDecimal;"), (2, u "addWhole"), (0, u "(J)V"), (0, .methodref 16 43), (0, .nameAndType 44 8), (0, u "makeRoom"), (0, .fieldref 16 46), (0, .nameAndType 32 47), (0, u "J"), (0, .methodref 10 49), (0, .nameAndType 50 51), (0, u "signum"), (0, u "()I"), (0, .methodref 10 53), (0, .nameAndType 54 51), (0, u "scale"), (0, .long 4611686018427387904), (1, .long 13835058055282163712), (1, .methodref 10 60), (0, .nameAndType 61 62), (0, u "valueOf"), (0, u "(J)Ljava/math/BigDecimal;"), (3, .methodref 1 67), (0, .nameAndType 68 69), (0, u "compare"), (0, u "(JJ)I"), (0, .methodref 16 71), (0, .nameAndType 72 73), (0, u "value"), (0, u "()Ljava/math/BigDecimal;"), (0, .methodref 10 75), (0, .nameAndType 76 77), (0, u "compareTo"), (0, u "(Ljava/math/BigDecimal;)I"), (3, u "NOT_WHOLE"), (1, u "WHOLE_DIGITS"), (0, u "I"), (1, u "WHOLE_LIMIT"), (4, u "(Lcom/example/foray/foray/graph/Sum;)V"), (0, u "set"), (0, u "(Lcom/example/foray/foray/graph/Sum;)I")] 2

def k2c0 : Code := { maxStack := 2, maxLocals := 1, code := prog_48_method_1_code, exceptionTable := #[], attributes := #[] }
def k2m0 : Method := { name := "<init>", desc := "()V", sig := { parameters := [], returnType := none }, accessFlags := 1, code := some k2c0 }
def k2c1 : Code := { maxStack := 5, maxLocals := 3, code := prog_48_method_4_code, exceptionTable := #[], attributes := #[] }
def k2m1 : Method := { name := "addWhole", desc := "(J)V", sig := { parameters := [.long], returnType := none }, accessFlags := 1, code := some k2c1 }
def k2c2 : Code := { maxStack := 5, maxLocals := 2, code := prog_48_method_5_code, exceptionTable := #[], attributes := #[] }
def k2m2 : Method := { name := "add", desc := "(Lcom/example/foray/foray/graph/Sum;)V", sig := { parameters := [(.object "com/example/foray/foray/graph/Sum")], returnType := none }, accessFlags := 1, code := some k2c2 }
def k2c3 : Code := { maxStack := 3, maxLocals := 2, code := prog_48_method_7_code, exceptionTable := #[], attributes := #[] }
def k2m3 : Method := { name := "set", desc := "(Lcom/example/foray/foray/graph/Sum;)V", sig := { parameters := [(.object "com/example/foray/foray/graph/Sum")], returnType := none }, accessFlags := 1, code := some k2c3 }
def k2c4 : Code := { maxStack := 4, maxLocals := 2, code := prog_48_method_8_code, exceptionTable := #[], attributes := #[] }
def k2m4 : Method := { name := "compareTo", desc := "(Lcom/example/foray/foray/graph/Sum;)I", sig := { parameters := [(.object "com/example/foray/foray/graph/Sum")], returnType := some .int }, accessFlags := 1, code := some k2c4 }
def k2c5 : Code := { maxStack := 3, maxLocals := 1, code := prog_48_method_9_code, exceptionTable := #[], attributes := #[] }
def k2m5 : Method := { name := "value", desc := "()Ljava/math/BigDecimal;", sig := { parameters := [], returnType := some (.object "java/math/BigDecimal") }, accessFlags := 1, code := some k2c5 }
def k2c6 : Code := { maxStack := 4, maxLocals := 1, code := prog_48_method_11_code, exceptionTable := #[], attributes := #[] }
def k2m6 : Method := { name := "makeRoom", desc := "()V", sig := { parameters := [], returnType := none }, accessFlags := 2, code := some k2c6 }
/-- com/example/foray/foray/graph/Sum -/
def k2 : Class := { plain "com/example/foray/foray/graph/Sum" (some 0) with
  accessFlags := 49
  interfaces := #[]
  cf := some (fileOf pool2 16 #[] #[{ accessFlags := 1, nameIndex := 7, descriptorIndex := 8, attributes := #[] }, { accessFlags := 1, nameIndex := 40, descriptorIndex := 41, attributes := #[] }, { accessFlags := 1, nameIndex := 36, descriptorIndex := 91, attributes := #[] }, { accessFlags := 1, nameIndex := 92, descriptorIndex := 91, attributes := #[] }, { accessFlags := 1, nameIndex := 76, descriptorIndex := 93, attributes := #[] }, { accessFlags := 1, nameIndex := 72, descriptorIndex := 73, attributes := #[] }, { accessFlags := 2, nameIndex := 44, descriptorIndex := 8, attributes := #[] }] 49 4 #[] #[{ accessFlags := 25, nameIndex := 81, descriptorIndex := 47, attributes := #[] }, { accessFlags := 26, nameIndex := 83, descriptorIndex := 84, attributes := #[] }, { accessFlags := 26, nameIndex := 86, descriptorIndex := 47, attributes := #[] }, { accessFlags := 2, nameIndex := 32, descriptorIndex := 47, attributes := #[] }, { accessFlags := 2, nameIndex := 19, descriptorIndex := 14, attributes := #[] }])
  fields := #[{ name := "NOT_WHOLE", type := .long, accessFlags := 25, slot := 0, constantValue := 0 }, { name := "WHOLE_DIGITS", type := .int, accessFlags := 26, slot := 1, constantValue := 0 }, { name := "WHOLE_LIMIT", type := .long, accessFlags := 26, slot := 2, constantValue := 0 }, { name := "whole", type := .long, accessFlags := 2, slot := 0, constantValue := 0 }, { name := "rest", type := (.object "java/math/BigDecimal"), accessFlags := 2, slot := 1, constantValue := 0 }]
  methods := #[k2m0, k2m1, k2m2, k2m3, k2m4, k2m5, k2m6]
  instanceTypes := #[.long, (.object "java/math/BigDecimal")]
  staticTypes := #[.long, .int, .long]
  resolved := Array.replicate 96 none
  statics := none }

def pool3 : Array CpInfo := pool [(1, .class_ 2), (0, u "java/io/Serializable"), (0, .class_ 4), (0, u "java/lang/Object")] 2

/-- java/io/Serializable -/
def k3 : Class := { plain "java/io/Serializable" (some 0) with
  accessFlags := 1537
  interfaces := #[]
  cf := some (fileOf pool3 1 #[] #[] 1537 3 #[] #[])
  fields := #[]
  methods := #[]
  instanceTypes := #[]
  staticTypes := #[]
  resolved := Array.replicate 7 none
  statics := none }

def pool4 : Array CpInfo := pool [(1, .methodref 2 3), (0, .class_ 4), (0, .nameAndType 5 6), (0, u "java/lang/Object"), (0, u "<init>"), (0, u "()V"), (1, .class_ 10), (1, u "java/lang/Number"), (2, .class_ 14), (0, u "java/io/Serializable"), (0, u "serialVersionUID"), (0, u "J")] 20

def k4c0 : Code := { maxStack := 1, maxLocals := 1, code := jdk_18_method_1_code, exceptionTable := #[], attributes := #[] }
def k4m0 : Method := { name := "<init>", desc := "()V", sig := { parameters := [], returnType := none }, accessFlags := 1, code := some k4c0 }
/-- java/lang/Number -/
def k4 : Class := { plain "java/lang/Number" (some 0) with
  accessFlags := 1057
  interfaces := #[3]
  cf := some (fileOf pool4 8 #[] #[{ accessFlags := 1, nameIndex := 5, descriptorIndex := 6, attributes := #[] }] 1057 2 #[13] #[{ accessFlags := 26, nameIndex := 15, descriptorIndex := 16, attributes := #[] }])
  fields := #[{ name := "serialVersionUID", type := .long, accessFlags := 26, slot := 0, constantValue := 0 }]
  methods := #[k4m0]
  instanceTypes := #[]
  staticTypes := #[.long]
  resolved := Array.replicate 37 none
  statics := none }

def pool5 : Array CpInfo := pool [(1, .class_ 2), (0, u "java/lang/Comparable"), (0, .class_ 4), (0, u "java/lang/Object")] 7

/-- java/lang/Comparable -/
def k5 : Class := { plain "java/lang/Comparable" (some 0) with
  accessFlags := 1537
  interfaces := #[]
  cf := some (fileOf pool5 1 #[] #[] 1537 3 #[] #[])
  fields := #[]
  methods := #[]
  instanceTypes := #[]
  staticTypes := #[]
  resolved := Array.replicate 12 none
  statics := none }

def pool6 : Array CpInfo := pool [(3, .class_ 4), (0, u "java/math/BigDecimal"), (2, .class_ 8), (0, u "java/lang/Long"), (2, .methodref 12 13), (0, .class_ 14), (0, .nameAndType 15 16), (0, u "java/lang/Number"), (0, u "<init>"), (0, u "()V"), (0, .fieldref 3 18), (0, .nameAndType 19 20), (0, u "scale"), (0, u "I"), (0, .fieldref 3 22), (0, .nameAndType 23 20), (0, u "precision"), (0, .fieldref 3 25), (0, .nameAndType 26 27), (0, u "intCompact"), (0, u "J"), (0, .fieldref 3 29), (0, .nameAndType 30 31), (0, u "intVal"), (0, u "Ljava/math/BigInteger;"), (65, u "LONG_TEN_POWERS_TABLE"), (0, u "[J"), (16, u "(J)I"), (9, .long 9223372036854775808), (36, u "()I"), (24, u "ZERO"), (2, u "INFLATED_BIGINT"), (4, u "valueOf"), (10, u "TWO"), (29, .methodref 3 237), (0, .nameAndType 195 238), (0, u "(J)Ljava/math/BigDecimal;"), (4, .methodref 3 244), (0, .nameAndType 15 245), (0, u "(Ljava/math/BigInteger;JII)V"), (0, .fieldref 3 247), (0, .nameAndType 248 249), (0, u "ZERO_THROUGH_TEN"), (0, u "[Ljava/math/BigDecimal;"), (2, u "ZERO_SCALED_BY"), (4, .methodref 3 258), (0, .nameAndType 259 260), (0, u "add"), (0, u "(JIJI)Ljava/math/BigDecimal;"), (8, u "(Ljava/math/BigDecimal;)Ljava/math/BigDecimal;"), (2, u "signum"), (40, u "$assertionsDisabled"), (0, u "Z"), (7, u "(JJ)J"), (5, .methodref 3 329), (0, .nameAndType 195 330), (0, u "(JI)Ljava/math/BigDecimal;"), (13, u "(JJI)Ljava/math/BigDecimal;"), (94, u "(Ljava/math/BigDecimal;)I"), (38, u "ONE_TENTH"), (0, u "Ljava/math/BigDecimal;"), (2, u "compareTo"), (2, u "TEN"), (14, .class_ 502), (1, u "java/math/BigDecimal$1"), (15, u "ONE_HALF"), (16, u "ONE"), (60, .methodref 7 597), (0, .nameAndType 272 115), (45, u "stringCache"), (0, u "Ljava/lang/String;"), (52, .class_ 699), (1, u "java/math/BigDecimal$LongOverflow"), (8, u "FLOAT_10_POW"), (0, u "[F"), (39, u "DOUBLE_10_POW"), (0, u "[D"), (19, .class_ 772), (1, u "java/math/BigDecimal$StringBuilderHelper"), (35, u "BIG_TEN_POWERS_TABLE_MAX"), (2, u "BIG_TEN_POWERS_TABLE"), (0, u "[Ljava/math/BigInteger;"), (14, u "THRESHOLDS_TABLE"), (23, .class_ 853), (1, u "java/math/BigDecimal$UnsafeHolder"), (142, .methodref 3 997), (0, .nameAndType 259 322), (2, .methodref 3 1001), (0, .nameAndType 259 344), (66, u "LONGLONG_TEN_POWERS_TABLE"), (0, u "[[J"), (112, u "BIG_TEN_POWERS_TABLE_INITLEN"), (113, .class_ 1297), (0, u "java/lang/Comparable"), (0, u "L"), (0, u "D"), (1, u "P_F"), (1, u "Q_MIN_F"), (1, u "Q_MAX_F"), (1, u "P_D"), (1, u "Q_MIN_D"), (1, u "Q_MAX_D"), (1, u "INFLATED"), (0, u "MAX_COMPACT_DIGITS"), (1, u "serialVersionUID"), (2, u "HALF_LONG_MAX_VALUE"), (0, u "HALF_LONG_MIN_VALUE"), (0, u "ROUND_UP"), (6, u "ROUND_DOWN"), (1, u "ROUND_CEILING"), (1, u "ROUND_FLOOR"), (1, u "ROUND_HALF_UP"), (1, u "ROUND_HALF_DOWN"), (1, u "ROUND_HALF_EVEN"), (1, u "ROUND_UNNECESSARY"), (1, u "DIV_NUM_BASE")] 294

def k6c0 : Code := { maxStack := 3, maxLocals := 6, code := jdk_17_method_1_code, exceptionTable := #[], attributes := #[] }
def k6m0 : Method := { name := "<init>", desc := "(Ljava/math/BigInteger;JII)V", sig := { parameters := [(.object "java/math/BigInteger"), .long, .int, .int], returnType := none }, accessFlags := 0, code := some k6c0 }
def k6c1 : Code := { maxStack := 7, maxLocals := 3, code := jdk_17_method_20_code, exceptionTable := #[], attributes := #[] }
def k6m1 : Method := { name := "valueOf", desc := "(JI)Ljava/math/BigDecimal;", sig := { parameters := [.long, .int], returnType := some (.object "java/math/BigDecimal") }, accessFlags := 9, code := some k6c1 }
def k6c2 : Code := { maxStack := 7, maxLocals := 2, code := jdk_17_method_21_code, exceptionTable := #[], attributes := #[] }
def k6m2 : Method := { name := "valueOf", desc := "(J)Ljava/math/BigDecimal;", sig := { parameters := [.long], returnType := some (.object "java/math/BigDecimal") }, accessFlags := 9, code := some k6c2 }
def k6c3 : Code := { maxStack := 6, maxLocals := 2, code := jdk_17_method_26_code, exceptionTable := #[], attributes := #[] }
def k6m3 : Method := { name := "add", desc := "(Ljava/math/BigDecimal;)Ljava/math/BigDecimal;", sig := { parameters := [(.object "java/math/BigDecimal")], returnType := some (.object "java/math/BigDecimal") }, accessFlags := 1, code := some k6c3 }
def k6c4 : Code := { maxStack := 4, maxLocals := 1, code := jdk_17_method_58_code, exceptionTable := #[], attributes := #[] }
def k6m4 : Method := { name := "signum", desc := "()I", sig := { parameters := [], returnType := some .int }, accessFlags := 1, code := some k6c4 }
def k6c5 : Code := { maxStack := 1, maxLocals := 1, code := jdk_17_method_59_code, exceptionTable := #[], attributes := #[] }
def k6m5 : Method := { name := "scale", desc := "()I", sig := { parameters := [], returnType := some .int }, accessFlags := 1, code := some k6c5 }
def k6c6 : Code := { maxStack := 4, maxLocals := 6, code := jdk_17_method_70_code, exceptionTable := #[], attributes := #[] }
def k6m6 : Method := { name := "compareTo", desc := "(Ljava/math/BigDecimal;)I", sig := { parameters := [(.object "java/math/BigDecimal")], returnType := some .int }, accessFlags := 1, code := some k6c6 }
def k6c7 : Code := { maxStack := 6, maxLocals := 6, code := jdk_17_method_132_code, exceptionTable := #[], attributes := #[] }
def k6m7 : Method := { name := "add", desc := "(JJ)J", sig := { parameters := [.long, .long], returnType := some .long }, accessFlags := 10, code := some k6c7 }
def k6c8 : Code := { maxStack := 5, maxLocals := 7, code := jdk_17_method_133_code, exceptionTable := #[], attributes := #[] }
def k6m8 : Method := { name := "add", desc := "(JJI)Ljava/math/BigDecimal;", sig := { parameters := [.long, .long, .int], returnType := some (.object "java/math/BigDecimal") }, accessFlags := 10, code := some k6c8 }
def k6c9 : Code := { maxStack := 7, maxLocals := 12, code := jdk_17_method_134_code, exceptionTable := #[], attributes := #[] }
def k6m9 : Method := { name := "add", desc := "(JIJI)Ljava/math/BigDecimal;", sig := { parameters := [.long, .int, .long, .int], returnType := some (.object "java/math/BigDecimal") }, accessFlags := 10, code := some k6c9 }
/-- java/math/BigDecimal -/
def k6 : Class := { plain "java/math/BigDecimal" (some 4) with
  accessFlags := 33
  interfaces := #[5]
  cf := some (fileOf pool6 3 #[.nestMembers #[500, 851, 770, 697]] #[{ accessFlags := 0, nameIndex := 15, descriptorIndex := 245, attributes := #[] }, { accessFlags := 9, nameIndex := 195, descriptorIndex := 330, attributes := #[] }, { accessFlags := 9, nameIndex := 195, descriptorIndex := 238, attributes := #[] }, { accessFlags := 1, nameIndex := 259, descriptorIndex := 269, attributes := #[] }, { accessFlags := 1, nameIndex := 272, descriptorIndex := 162, attributes := #[] }, { accessFlags := 1, nameIndex := 19, descriptorIndex := 162, attributes := #[] }, { accessFlags := 1, nameIndex := 482, descriptorIndex := 439, attributes := #[] }, { accessFlags := 10, nameIndex := 259, descriptorIndex := 322, attributes := #[] }, { accessFlags := 10, nameIndex := 259, descriptorIndex := 344, attributes := #[] }, { accessFlags := 10, nameIndex := 259, descriptorIndex := 260, attributes := #[] }] 33 12 #[1296] #[{ accessFlags := 26, nameIndex := 1298, descriptorIndex := 1299, attributes := #[] }, { accessFlags := 26, nameIndex := 1301, descriptorIndex := 20, attributes := #[] }, { accessFlags := 26, nameIndex := 1303, descriptorIndex := 20, attributes := #[] }, { accessFlags := 26, nameIndex := 1305, descriptorIndex := 20, attributes := #[] }, { accessFlags := 26, nameIndex := 1307, descriptorIndex := 20, attributes := #[] }, { accessFlags := 26, nameIndex := 1309, descriptorIndex := 20, attributes := #[] }, { accessFlags := 26, nameIndex := 1311, descriptorIndex := 20, attributes := #[] }, { accessFlags := 18, nameIndex := 30, descriptorIndex := 31, attributes := #[] }, { accessFlags := 18, nameIndex := 19, descriptorIndex := 20, attributes := #[] }, { accessFlags := 130, nameIndex := 23, descriptorIndex := 20, attributes := #[] }, { accessFlags := 130, nameIndex := 643, descriptorIndex := 644, attributes := #[] }, { accessFlags := 24, nameIndex := 1313, descriptorIndex := 27, attributes := #[] }, { accessFlags := 26, nameIndex := 190, descriptorIndex := 31, attributes := #[] }, { accessFlags := 146, nameIndex := 26, descriptorIndex := 27, attributes := #[] }, { accessFlags := 26, nameIndex := 1314, descriptorIndex := 20, attributes := #[] }, { accessFlags := 26, nameIndex := 1316, descriptorIndex := 27, attributes := #[] }, { accessFlags := 26, nameIndex := 248, descriptorIndex := 249, attributes := #[] }, { accessFlags := 26, nameIndex := 252, descriptorIndex := 249, attributes := #[] }, { accessFlags := 26, nameIndex := 1319, descriptorIndex := 27, attributes := #[] }, { accessFlags := 26, nameIndex := 1320, descriptorIndex := 27, attributes := #[] }, { accessFlags := 25, nameIndex := 187, descriptorIndex := 479, attributes := #[] }, { accessFlags := 25, nameIndex := 535, descriptorIndex := 479, attributes := #[] }, { accessFlags := 25, nameIndex := 206, descriptorIndex := 479, attributes := #[] }, { accessFlags := 25, nameIndex := 485, descriptorIndex := 479, attributes := #[] }, { accessFlags := 26, nameIndex := 478, descriptorIndex := 479, attributes := #[] }, { accessFlags := 26, nameIndex := 518, descriptorIndex := 479, attributes := #[] }, { accessFlags := 25, nameIndex := 1321, descriptorIndex := 20, attributes := #[] }, { accessFlags := 25, nameIndex := 1328, descriptorIndex := 20, attributes := #[] }, { accessFlags := 25, nameIndex := 1330, descriptorIndex := 20, attributes := #[] }, { accessFlags := 25, nameIndex := 1332, descriptorIndex := 20, attributes := #[] }, { accessFlags := 25, nameIndex := 1334, descriptorIndex := 20, attributes := #[] }, { accessFlags := 25, nameIndex := 1336, descriptorIndex := 20, attributes := #[] }, { accessFlags := 25, nameIndex := 1338, descriptorIndex := 20, attributes := #[] }, { accessFlags := 25, nameIndex := 1340, descriptorIndex := 20, attributes := #[] }, { accessFlags := 26, nameIndex := 749, descriptorIndex := 750, attributes := #[] }, { accessFlags := 26, nameIndex := 708, descriptorIndex := 709, attributes := #[] }, { accessFlags := 26, nameIndex := 97, descriptorIndex := 98, attributes := #[] }, { accessFlags := 74, nameIndex := 811, descriptorIndex := 812, attributes := #[] }, { accessFlags := 26, nameIndex := 1182, descriptorIndex := 20, attributes := #[] }, { accessFlags := 26, nameIndex := 808, descriptorIndex := 20, attributes := #[] }, { accessFlags := 26, nameIndex := 827, descriptorIndex := 98, attributes := #[] }, { accessFlags := 26, nameIndex := 1342, descriptorIndex := 27, attributes := #[] }, { accessFlags := 26, nameIndex := 1068, descriptorIndex := 1069, attributes := #[] }, { accessFlags := 4120, nameIndex := 313, descriptorIndex := 314, attributes := #[] }])
  fields := #[{ name := "L", type := .double, accessFlags := 26, slot := 0, constantValue := 0 }, { name := "P_F", type := .int, accessFlags := 26, slot := 1, constantValue := 0 }, { name := "Q_MIN_F", type := .int, accessFlags := 26, slot := 2, constantValue := 0 }, { name := "Q_MAX_F", type := .int, accessFlags := 26, slot := 3, constantValue := 0 }, { name := "P_D", type := .int, accessFlags := 26, slot := 4, constantValue := 0 }, { name := "Q_MIN_D", type := .int, accessFlags := 26, slot := 5, constantValue := 0 }, { name := "Q_MAX_D", type := .int, accessFlags := 26, slot := 6, constantValue := 0 }, { name := "intVal", type := (.object "java/math/BigInteger"), accessFlags := 18, slot := 0, constantValue := 0 }, { name := "scale", type := .int, accessFlags := 18, slot := 1, constantValue := 0 }, { name := "precision", type := .int, accessFlags := 130, slot := 2, constantValue := 0 }, { name := "stringCache", type := (.object "java/lang/String"), accessFlags := 130, slot := 3, constantValue := 0 }, { name := "INFLATED", type := .long, accessFlags := 24, slot := 7, constantValue := 0 }, { name := "INFLATED_BIGINT", type := (.object "java/math/BigInteger"), accessFlags := 26, slot := 8, constantValue := 0 }, { name := "intCompact", type := .long, accessFlags := 146, slot := 4, constantValue := 0 }, { name := "MAX_COMPACT_DIGITS", type := .int, accessFlags := 26, slot := 9, constantValue := 0 }, { name := "serialVersionUID", type := .long, accessFlags := 26, slot := 10, constantValue := 0 }, { name := "ZERO_THROUGH_TEN", type := (.array (.object "java/math/BigDecimal")), accessFlags := 26, slot := 11, constantValue := 0 }, { name := "ZERO_SCALED_BY", type := (.array (.object "java/math/BigDecimal")), accessFlags := 26, slot := 12, constantValue := 0 }, { name := "HALF_LONG_MAX_VALUE", type := .long, accessFlags := 26, slot := 13, constantValue := 0 }, { name := "HALF_LONG_MIN_VALUE", type := .long, accessFlags := 26, slot := 14, constantValue := 0 }, { name := "ZERO", type := (.object "java/math/BigDecimal"), accessFlags := 25, slot := 15, constantValue := 0 }, { name := "ONE", type := (.object "java/math/BigDecimal"), accessFlags := 25, slot := 16, constantValue := 0 }, { name := "TWO", type := (.object "java/math/BigDecimal"), accessFlags := 25, slot := 17, constantValue := 0 }, { name := "TEN", type := (.object "java/math/BigDecimal"), accessFlags := 25, slot := 18, constantValue := 0 }, { name := "ONE_TENTH", type := (.object "java/math/BigDecimal"), accessFlags := 26, slot := 19, constantValue := 0 }, { name := "ONE_HALF", type := (.object "java/math/BigDecimal"), accessFlags := 26, slot := 20, constantValue := 0 }, { name := "ROUND_UP", type := .int, accessFlags := 25, slot := 21, constantValue := 0 }, { name := "ROUND_DOWN", type := .int, accessFlags := 25, slot := 22, constantValue := 0 }, { name := "ROUND_CEILING", type := .int, accessFlags := 25, slot := 23, constantValue := 0 }, { name := "ROUND_FLOOR", type := .int, accessFlags := 25, slot := 24, constantValue := 0 }, { name := "ROUND_HALF_UP", type := .int, accessFlags := 25, slot := 25, constantValue := 0 }, { name := "ROUND_HALF_DOWN", type := .int, accessFlags := 25, slot := 26, constantValue := 0 }, { name := "ROUND_HALF_EVEN", type := .int, accessFlags := 25, slot := 27, constantValue := 0 }, { name := "ROUND_UNNECESSARY", type := .int, accessFlags := 25, slot := 28, constantValue := 0 }, { name := "DOUBLE_10_POW", type := (.array .double), accessFlags := 26, slot := 29, constantValue := 0 }, { name := "FLOAT_10_POW", type := (.array .float), accessFlags := 26, slot := 30, constantValue := 0 }, { name := "LONG_TEN_POWERS_TABLE", type := (.array .long), accessFlags := 26, slot := 31, constantValue := 0 }, { name := "BIG_TEN_POWERS_TABLE", type := (.array (.object "java/math/BigInteger")), accessFlags := 74, slot := 32, constantValue := 0 }, { name := "BIG_TEN_POWERS_TABLE_INITLEN", type := .int, accessFlags := 26, slot := 33, constantValue := 0 }, { name := "BIG_TEN_POWERS_TABLE_MAX", type := .int, accessFlags := 26, slot := 34, constantValue := 0 }, { name := "THRESHOLDS_TABLE", type := (.array .long), accessFlags := 26, slot := 35, constantValue := 0 }, { name := "DIV_NUM_BASE", type := .long, accessFlags := 26, slot := 36, constantValue := 0 }, { name := "LONGLONG_TEN_POWERS_TABLE", type := (.array (.array .long)), accessFlags := 26, slot := 37, constantValue := 0 }, { name := "$assertionsDisabled", type := .boolean, accessFlags := 4120, slot := 38, constantValue := 0 }]
  methods := #[k6m0, k6m1, k6m2, k6m3, k6m4, k6m5, k6m6, k6m7, k6m8, k6m9]
  instanceTypes := #[(.object "java/math/BigInteger"), .int, .int, (.object "java/lang/String"), .long]
  staticTypes := #[.double, .int, .int, .int, .int, .int, .int, .long, (.object "java/math/BigInteger"), .int, .long, (.array (.object "java/math/BigDecimal")), (.array (.object "java/math/BigDecimal")), .long, .long, (.object "java/math/BigDecimal"), (.object "java/math/BigDecimal"), (.object "java/math/BigDecimal"), (.object "java/math/BigDecimal"), (.object "java/math/BigDecimal"), (.object "java/math/BigDecimal"), .int, .int, .int, .int, .int, .int, .int, .int, (.array .double), (.array .float), (.array .long), (.array (.object "java/math/BigInteger")), .int, .int, (.array .long), .long, (.array (.array .long)), .boolean]
  resolved := Array.replicate 1637 none
  statics := some 0 }

def pool7 : Array CpInfo := pool [(1, .class_ 2), (0, u "java/lang/constant/Constable"), (0, .class_ 4), (0, u "java/lang/Object")] 6

/-- java/lang/constant/Constable -/
def k7 : Class := { plain "java/lang/constant/Constable" (some 0) with
  accessFlags := 1537
  interfaces := #[]
  cf := some (fileOf pool7 1 #[] #[] 1537 3 #[] #[])
  fields := #[]
  methods := #[]
  instanceTypes := #[]
  staticTypes := #[]
  resolved := Array.replicate 11 none
  statics := none }

def pool8 : Array CpInfo := pool [(1, .class_ 2), (0, u "java/lang/constant/ConstantDesc"), (0, .class_ 4), (0, u "java/lang/Object")] 32

/-- java/lang/constant/ConstantDesc -/
def k8 : Class := { plain "java/lang/constant/ConstantDesc" (some 0) with
  accessFlags := 1537
  interfaces := #[]
  cf := some (fileOf pool8 1 #[] #[] 1537 3 #[] #[])
  fields := #[]
  methods := #[]
  instanceTypes := #[]
  staticTypes := #[]
  resolved := Array.replicate 37 none
  statics := none }

def pool9 : Array CpInfo := pool [(1, .class_ 2), (0, u "java/lang/Long"), (98, u "(J)I"), (133, .class_ 237), (1, u "java/lang/Long$LongCache"), (33, .class_ 272), (0, u "java/lang/Number"), (2, u "value"), (0, u "J"), (27, u "compare"), (0, u "(JJ)I"), (55, u "TYPE"), (0, u "Ljava/lang/Class;"), (0, .class_ 364), (0, u "java/lang/Comparable"), (0, .class_ 366), (0, u "java/lang/constant/Constable"), (0, .class_ 368), (0, u "java/lang/constant/ConstantDesc"), (0, u "MIN_VALUE"), (1, u "MAX_VALUE"), (4, u "SIZE"), (0, u "I"), (1, u "BYTES"), (1, u "serialVersionUID"), (115, u "signum")] 26

def k9c0 : Code := { maxStack := 4, maxLocals := 4, code := jdk_35_method_42_code, exceptionTable := #[], attributes := #[] }
def k9m0 : Method := { name := "compare", desc := "(JJ)I", sig := { parameters := [.long, .long], returnType := some .int }, accessFlags := 9, code := some k9c0 }
def k9c1 : Code := { maxStack := 5, maxLocals := 2, code := jdk_35_method_57_code, exceptionTable := #[], attributes := #[] }
def k9m1 : Method := { name := "signum", desc := "(J)I", sig := { parameters := [.long], returnType := some .int }, accessFlags := 9, code := some k9c1 }
/-- java/lang/Long -/
def k9 : Class := { plain "java/lang/Long" (some 4) with
  accessFlags := 49
  interfaces := #[5, 7, 8]
  cf := some (fileOf pool9 1 #[.nestMembers #[235]] #[{ accessFlags := 9, nameIndex := 304, descriptorIndex := 305, attributes := #[] }, { accessFlags := 9, nameIndex := 497, descriptorIndex := 101, attributes := #[] }] 49 271 #[363, 365, 367] #[{ accessFlags := 25, nameIndex := 369, descriptorIndex := 276, attributes := #[] }, { accessFlags := 25, nameIndex := 371, descriptorIndex := 276, attributes := #[] }, { accessFlags := 25, nameIndex := 361, descriptorIndex := 362, attributes := #[] }, { accessFlags := 18, nameIndex := 275, descriptorIndex := 276, attributes := #[] }, { accessFlags := 25, nameIndex := 376, descriptorIndex := 377, attributes := #[] }, { accessFlags := 25, nameIndex := 379, descriptorIndex := 377, attributes := #[] }, { accessFlags := 26, nameIndex := 381, descriptorIndex := 276, attributes := #[] }])
  fields := #[{ name := "MIN_VALUE", type := .long, accessFlags := 25, slot := 0, constantValue := 0 }, { name := "MAX_VALUE", type := .long, accessFlags := 25, slot := 1, constantValue := 0 }, { name := "TYPE", type := (.object "java/lang/Class"), accessFlags := 25, slot := 2, constantValue := 0 }, { name := "value", type := .long, accessFlags := 18, slot := 0, constantValue := 0 }, { name := "SIZE", type := .int, accessFlags := 25, slot := 3, constantValue := 0 }, { name := "BYTES", type := .int, accessFlags := 25, slot := 4, constantValue := 0 }, { name := "serialVersionUID", type := .long, accessFlags := 26, slot := 5, constantValue := 0 }]
  methods := #[k9m0, k9m1]
  instanceTypes := #[.long]
  staticTypes := #[.long, .long, (.object "java/lang/Class"), .int, .int, .long]
  resolved := Array.replicate 524 none
  statics := none }

def pool10 : Array CpInfo := pool [(4, .class_ 6), (1, u "java/lang/Number"), (16, .class_ 25), (1, u "java/math/BigInteger"), (0, u "ZERO"), (0, u "Ljava/math/BigInteger;"), (2, u "mag"), (0, u "[I"), (2, u "signum"), (0, u "I"), (59, u "bitsPerDigit"), (0, u "[J"), (9, u "digitsPerInt"), (12, u "intRadix"), (60, u "SMALL_PRIME_PRODUCT"), (79, u "ONE"), (6, u "TWO"), (43, u "$assertionsDisabled"), (0, u "Z"), (36, u "posConst"), (0, u "[Ljava/math/BigInteger;"), (4, u "negConst"), (116, .class_ 474), (1, u "java/math/BigInteger$RecursiveOp"), (106, u "NEGATIVE_ONE"), (91, u "bnExpModThreshTable"), (72, u "lowestSetBitPlusTwo"), (2, u "bitLengthPlusOne"), (2, u "bitCountPlusOne"), (6, u "LOG_TWO"), (0, u "D"), (2, u "logCache"), (0, u "[D"), (13, u "NUM_ZEROS"), (2, u "ZEROS"), (0, u "Ljava/lang/String;"), (9, u "longRadix"), (5, u "digitsPerLong"), (22, u "powerCache"), (0, u "[[Ljava/math/BigInteger;"), (45, u "firstNonzeroIntNumPlusTwo"), (38, .class_ 909), (1, u "java/math/BigInteger$UnsafeHolder"), (141, u "TEN"), (106, u "serialPersistentFields"), (0, u "[Ljava/io/ObjectStreamField;"), (0, .class_ 1161), (0, u "java/lang/Comparable"), (0, u "LONG_MASK"), (0, u "J"), (1, u "MAX_MAG_LENGTH"), (0, u "PRIME_SEARCH_BIT_LENGTH_LIMIT"), (1, u "KARATSUBA_THRESHOLD"), (1, u "TOOM_COOK_THRESHOLD"), (1, u "KARATSUBA_SQUARE_THRESHOLD"), (1, u "TOOM_COOK_SQUARE_THRESHOLD"), (1, u "BURNIKEL_ZIEGLER_THRESHOLD"), (0, u "BURNIKEL_ZIEGLER_OFFSET"), (1, u "SCHOENHAGE_BASE_CONVERSION_THRESHOLD"), (1, u "MULTIPLY_SQUARE_THRESHOLD"), (0, u "MONTGOMERY_INTRINSIC_THRESHOLD"), (1, u "SMALL_PRIME_THRESHOLD"), (1, u "DEFAULT_PRIME_CERTAINTY"), (1, u "MAX_CONSTANT"), (3, u "serialVersionUID"), (338, .class_ 1532), (0, u "java/math/BigInteger$RecursiveOp$RecursiveSquare"), (0, .class_ 1534), (0, u "java/math/BigInteger$RecursiveOp$RecursiveMultiply")] 7

/-- java/math/BigInteger -/
def k10 : Class := { plain "java/math/BigInteger" (some 4) with
  accessFlags := 33
  interfaces := #[5]
  cf := some (fileOf pool10 23 #[.nestMembers #[907, 472, 1531, 1533]] #[] 33 4 #[1160] #[{ accessFlags := 16, nameIndex := 34, descriptorIndex := 35, attributes := #[] }, { accessFlags := 16, nameIndex := 30, descriptorIndex := 31, attributes := #[] }, { accessFlags := 2, nameIndex := 752, descriptorIndex := 35, attributes := #[] }, { accessFlags := 2, nameIndex := 749, descriptorIndex := 35, attributes := #[] }, { accessFlags := 2, nameIndex := 746, descriptorIndex := 35, attributes := #[] }, { accessFlags := 2, nameIndex := 868, descriptorIndex := 35, attributes := #[] }, { accessFlags := 24, nameIndex := 1162, descriptorIndex := 1163, attributes := #[] }, { accessFlags := 26, nameIndex := 1165, descriptorIndex := 35, attributes := #[] }, { accessFlags := 26, nameIndex := 1166, descriptorIndex := 35, attributes := #[] }, { accessFlags := 26, nameIndex := 1168, descriptorIndex := 35, attributes := #[] }, { accessFlags := 26, nameIndex := 1170, descriptorIndex := 35, attributes := #[] }, { accessFlags := 26, nameIndex := 1172, descriptorIndex := 35, attributes := #[] }, { accessFlags := 26, nameIndex := 1174, descriptorIndex := 35, attributes := #[] }, { accessFlags := 24, nameIndex := 1176, descriptorIndex := 35, attributes := #[] }, { accessFlags := 24, nameIndex := 1177, descriptorIndex := 35, attributes := #[] }, { accessFlags := 26, nameIndex := 1179, descriptorIndex := 35, attributes := #[] }, { accessFlags := 26, nameIndex := 1181, descriptorIndex := 35, attributes := #[] }, { accessFlags := 26, nameIndex := 1182, descriptorIndex := 35, attributes := #[] }, { accessFlags := 10, nameIndex := 95, descriptorIndex := 96, attributes := #[] }, { accessFlags := 26, nameIndex := 1184, descriptorIndex := 35, attributes := #[] }, { accessFlags := 26, nameIndex := 1186, descriptorIndex := 35, attributes := #[] }, { accessFlags := 26, nameIndex := 180, descriptorIndex := 27, attributes := #[] }, { accessFlags := 26, nameIndex := 1188, descriptorIndex := 35, attributes := #[] }, { accessFlags := 26, nameIndex := 349, descriptorIndex := 350, attributes := #[] }, { accessFlags := 26, nameIndex := 355, descriptorIndex := 350, attributes := #[] }, { accessFlags := 74, nameIndex := 821, descriptorIndex := 822, attributes := #[] }, { accessFlags := 26, nameIndex := 763, descriptorIndex := 764, attributes := #[] }, { accessFlags := 26, nameIndex := 759, descriptorIndex := 760, attributes := #[] }, { accessFlags := 25, nameIndex := 26, descriptorIndex := 27, attributes := #[] }, { accessFlags := 25, nameIndex := 260, descriptorIndex := 27, attributes := #[] }, { accessFlags := 25, nameIndex := 267, descriptorIndex := 27, attributes := #[] }, { accessFlags := 26, nameIndex := 581, descriptorIndex := 27, attributes := #[] }, { accessFlags := 25, nameIndex := 1051, descriptorIndex := 27, attributes := #[] }, { accessFlags := 8, nameIndex := 673, descriptorIndex := 31, attributes := #[] }, { accessFlags := 10, nameIndex := 778, descriptorIndex := 35, attributes := #[] }, { accessFlags := 26, nameIndex := 781, descriptorIndex := 782, attributes := #[] }, { accessFlags := 10, nameIndex := 798, descriptorIndex := 31, attributes := #[] }, { accessFlags := 10, nameIndex := 792, descriptorIndex := 350, attributes := #[] }, { accessFlags := 10, nameIndex := 106, descriptorIndex := 31, attributes := #[] }, { accessFlags := 10, nameIndex := 119, descriptorIndex := 31, attributes := #[] }, { accessFlags := 26, nameIndex := 1192, descriptorIndex := 1163, attributes := #[] }, { accessFlags := 26, nameIndex := 1158, descriptorIndex := 1159, attributes := #[] }, { accessFlags := 4120, nameIndex := 311, descriptorIndex := 312, attributes := #[] }])
  fields := #[{ name := "signum", type := .int, accessFlags := 16, slot := 0, constantValue := 0 }, { name := "mag", type := (.array .int), accessFlags := 16, slot := 1, constantValue := 0 }, { name := "bitCountPlusOne", type := .int, accessFlags := 2, slot := 2, constantValue := 0 }, { name := "bitLengthPlusOne", type := .int, accessFlags := 2, slot := 3, constantValue := 0 }, { name := "lowestSetBitPlusTwo", type := .int, accessFlags := 2, slot := 4, constantValue := 0 }, { name := "firstNonzeroIntNumPlusTwo", type := .int, accessFlags := 2, slot := 5, constantValue := 0 }, { name := "LONG_MASK", type := .long, accessFlags := 24, slot := 0, constantValue := 0 }, { name := "MAX_MAG_LENGTH", type := .int, accessFlags := 26, slot := 1, constantValue := 0 }, { name := "PRIME_SEARCH_BIT_LENGTH_LIMIT", type := .int, accessFlags := 26, slot := 2, constantValue := 0 }, { name := "KARATSUBA_THRESHOLD", type := .int, accessFlags := 26, slot := 3, constantValue := 0 }, { name := "TOOM_COOK_THRESHOLD", type := .int, accessFlags := 26, slot := 4, constantValue := 0 }, { name := "KARATSUBA_SQUARE_THRESHOLD", type := .int, accessFlags := 26, slot := 5, constantValue := 0 }, { name := "TOOM_COOK_SQUARE_THRESHOLD", type := .int, accessFlags := 26, slot := 6, constantValue := 0 }, { name := "BURNIKEL_ZIEGLER_THRESHOLD", type := .int, accessFlags := 24, slot := 7, constantValue := 0 }, { name := "BURNIKEL_ZIEGLER_OFFSET", type := .int, accessFlags := 24, slot := 8, constantValue := 0 }, { name := "SCHOENHAGE_BASE_CONVERSION_THRESHOLD", type := .int, accessFlags := 26, slot := 9, constantValue := 0 }, { name := "MULTIPLY_SQUARE_THRESHOLD", type := .int, accessFlags := 26, slot := 10, constantValue := 0 }, { name := "MONTGOMERY_INTRINSIC_THRESHOLD", type := .int, accessFlags := 26, slot := 11, constantValue := 0 }, { name := "bitsPerDigit", type := (.array .long), accessFlags := 10, slot := 12, constantValue := 0 }, { name := "SMALL_PRIME_THRESHOLD", type := .int, accessFlags := 26, slot := 13, constantValue := 0 }, { name := "DEFAULT_PRIME_CERTAINTY", type := .int, accessFlags := 26, slot := 14, constantValue := 0 }, { name := "SMALL_PRIME_PRODUCT", type := (.object "java/math/BigInteger"), accessFlags := 26, slot := 15, constantValue := 0 }, { name := "MAX_CONSTANT", type := .int, accessFlags := 26, slot := 16, constantValue := 0 }, { name := "posConst", type := (.array (.object "java/math/BigInteger")), accessFlags := 26, slot := 17, constantValue := 0 }, { name := "negConst", type := (.array (.object "java/math/BigInteger")), accessFlags := 26, slot := 18, constantValue := 0 }, { name := "powerCache", type := (.array (.array (.object "java/math/BigInteger"))), accessFlags := 74, slot := 19, constantValue := 0 }, { name := "logCache", type := (.array .double), accessFlags := 26, slot := 20, constantValue := 0 }, { name := "LOG_TWO", type := .double, accessFlags := 26, slot := 21, constantValue := 0 }, { name := "ZERO", type := (.object "java/math/BigInteger"), accessFlags := 25, slot := 22, constantValue := 0 }, { name := "ONE", type := (.object "java/math/BigInteger"), accessFlags := 25, slot := 23, constantValue := 0 }, { name := "TWO", type := (.object "java/math/BigInteger"), accessFlags := 25, slot := 24, constantValue := 0 }, { name := "NEGATIVE_ONE", type := (.object "java/math/BigInteger"), accessFlags := 26, slot := 25, constantValue := 0 }, { name := "TEN", type := (.object "java/math/BigInteger"), accessFlags := 25, slot := 26, constantValue := 0 }, { name := "bnExpModThreshTable", type := (.array .int), accessFlags := 8, slot := 27, constantValue := 0 }, { name := "NUM_ZEROS", type := .int, accessFlags := 10, slot := 28, constantValue := 0 }, { name := "ZEROS", type := (.object "java/lang/String"), accessFlags := 26, slot := 29, constantValue := 0 }, { name := "digitsPerLong", type := (.array .int), accessFlags := 10, slot := 30, constantValue := 0 }, { name := "longRadix", type := (.array (.object "java/math/BigInteger")), accessFlags := 10, slot := 31, constantValue := 0 }, { name := "digitsPerInt", type := (.array .int), accessFlags := 10, slot := 32, constantValue := 0 }, { name := "intRadix", type := (.array .int), accessFlags := 10, slot := 33, constantValue := 0 }, { name := "serialVersionUID", type := .long, accessFlags := 26, slot := 34, constantValue := 0 }, { name := "serialPersistentFields", type := (.array (.object "java/io/ObjectStreamField")), accessFlags := 26, slot := 35, constantValue := 0 }, { name := "$assertionsDisabled", type := .boolean, accessFlags := 4120, slot := 36, constantValue := 0 }]
  methods := #[]
  instanceTypes := #[.int, (.array .int), .int, .int, .int, .int]
  staticTypes := #[.long, .int, .int, .int, .int, .int, .int, .int, .int, .int, .int, .int, (.array .long), .int, .int, (.object "java/math/BigInteger"), .int, (.array (.object "java/math/BigInteger")), (.array (.object "java/math/BigInteger")), (.array (.array (.object "java/math/BigInteger"))), (.array .double), .double, (.object "java/math/BigInteger"), (.object "java/math/BigInteger"), (.object "java/math/BigInteger"), (.object "java/math/BigInteger"), (.object "java/math/BigInteger"), (.array .int), .int, (.object "java/lang/String"), (.array .int), (.array (.object "java/math/BigInteger")), (.array .int), (.array .int), .long, (.array (.object "java/io/ObjectStreamField")), .boolean]
  resolved := Array.replicate 1542 none
  statics := some 1 }

def pool11 : Array CpInfo := pool [(1, u "java/lang/Cloneable"), (0, .class_ 1), (0, u "java/lang/Object"), (0, .class_ 3)] 3

/-- java/lang/Cloneable -/
def k11 : Class := { plain "java/lang/Cloneable" (some 0) with
  accessFlags := 1537
  interfaces := #[]
  cf := some (fileOf pool11 2 #[] #[] 1537 4 #[] #[])
  fields := #[]
  methods := #[]
  instanceTypes := #[]
  staticTypes := #[]
  resolved := Array.replicate 8 none
  statics := none }

/-- the primitive byte -/
def k12 : Class := { plain "byte" none with kind := .primitive 'B', accessFlags := 0x411 }
/-- [B -/
def k13 : Class := { plain "[B" (some 0) with kind := .array 12 .byte, interfaces := #[11, 3], accessFlags := 1041 }

/-- the primitive int -/
def k14 : Class := { plain "int" none with kind := .primitive 'I', accessFlags := 0x411 }
/-- [I -/
def k15 : Class := { plain "[I" (some 0) with kind := .array 14 .int, interfaces := #[11, 3], accessFlags := 1041 }

/-- [Ljava/math/BigDecimal; -/
def k16 : Class := { plain "[Ljava/math/BigDecimal;" (some 0) with kind := .array 6 (.object "java/math/BigDecimal"), interfaces := #[11, 3], accessFlags := 1041 }

def heap : Heap := #[{ cls := 6, slots := #[.double 0, .int 0, .int 0, .int 0, .int 0, .int 0, .int 0, .long 0, .null, .int 0, .long 0, .ref 2, .null, .long 0, .long 0, .ref 3, .ref 4, .ref 5, .ref 13, .null, .null, .int 0, .int 0, .int 0, .int 0, .int 0, .int 0, .int 0, .int 0, .null, .null, .null, .null, .int 0, .int 0, .null, .long 0, .null, .int 0], vm := .statics 6 },
  { cls := 10, slots := #[.long 0, .int 0, .int 0, .int 0, .int 0, .int 0, .int 0, .int 0, .int 0, .int 0, .int 0, .int 0, .null, .int 0, .int 0, .null, .int 0, .null, .null, .null, .null, .double 0, .ref 14, .ref 15, .ref 16, .null, .ref 24, .null, .int 0, .null, .null, .null, .null, .null, .long 0, .null, .int 0], vm := .statics 10 },
  { cls := 16, slots := #[.ref 3, .ref 4, .ref 5, .ref 6, .ref 7, .ref 8, .ref 9, .ref 10, .ref 11, .ref 12, .ref 13], vm := .none },
  { cls := 6, slots := #[.ref 14, .int 0, .int 0, .null, .long 0], vm := .none },
  { cls := 6, slots := #[.ref 15, .int 0, .int 0, .null, .long 1], vm := .none },
  { cls := 6, slots := #[.ref 16, .int 0, .int 0, .null, .long 2], vm := .none },
  { cls := 6, slots := #[.ref 17, .int 0, .int 0, .null, .long 3], vm := .none },
  { cls := 6, slots := #[.ref 18, .int 0, .int 0, .null, .long 4], vm := .none },
  { cls := 6, slots := #[.ref 19, .int 0, .int 0, .null, .long 5], vm := .none },
  { cls := 6, slots := #[.ref 20, .int 0, .int 0, .null, .long 6], vm := .none },
  { cls := 6, slots := #[.ref 21, .int 0, .int 0, .null, .long 7], vm := .none },
  { cls := 6, slots := #[.ref 22, .int 0, .int 0, .null, .long 8], vm := .none },
  { cls := 6, slots := #[.ref 23, .int 0, .int 0, .null, .long 9], vm := .none },
  { cls := 6, slots := #[.ref 24, .int 0, .int 0, .null, .long 10], vm := .none },
  { cls := 10, slots := #[.int 0, .ref 25, .int 0, .int 0, .int 0, .int 0], vm := .none },
  { cls := 10, slots := #[.int 1, .ref 26, .int 0, .int 0, .int 0, .int 0], vm := .none },
  { cls := 10, slots := #[.int 1, .ref 27, .int 0, .int 0, .int 0, .int 0], vm := .none },
  { cls := 10, slots := #[.int 1, .ref 28, .int 0, .int 0, .int 0, .int 0], vm := .none },
  { cls := 10, slots := #[.int 1, .ref 29, .int 0, .int 0, .int 0, .int 0], vm := .none },
  { cls := 10, slots := #[.int 1, .ref 30, .int 0, .int 0, .int 0, .int 0], vm := .none },
  { cls := 10, slots := #[.int 1, .ref 31, .int 0, .int 0, .int 0, .int 0], vm := .none },
  { cls := 10, slots := #[.int 1, .ref 32, .int 0, .int 0, .int 0, .int 0], vm := .none },
  { cls := 10, slots := #[.int 1, .ref 33, .int 0, .int 0, .int 0, .int 0], vm := .none },
  { cls := 10, slots := #[.int 1, .ref 34, .int 0, .int 0, .int 0, .int 0], vm := .none },
  { cls := 10, slots := #[.int 1, .ref 35, .int 0, .int 0, .int 0, .int 0], vm := .none },
  { cls := 15, slots := #[], vm := .none },
  { cls := 15, slots := #[.int 1], vm := .none },
  { cls := 15, slots := #[.int 2], vm := .none },
  { cls := 15, slots := #[.int 3], vm := .none },
  { cls := 15, slots := #[.int 4], vm := .none },
  { cls := 15, slots := #[.int 5], vm := .none },
  { cls := 15, slots := #[.int 6], vm := .none },
  { cls := 15, slots := #[.int 7], vm := .none },
  { cls := 15, slots := #[.int 8], vm := .none },
  { cls := 15, slots := #[.int 9], vm := .none },
  { cls := 15, slots := #[.int 10], vm := .none }]
def classes : Array Class := #[k0, k1, k2, k3, k4, k5, k6, k7, k8, k9, k10, k11, k12, k13, k14, k15, k16]
def interned : List (Array UInt16 × Addr) := []
def slotsUsed : Nat := 218
def theMethod : MethodId := ⟨1, 1⟩
def args0 : Array Value := #[.long 5, .long 7, .long 9, .int 3]
def aboutOver (below : List Frame) : State where
  vm := { classes := classes, interned := interned.toArray }
  heap := heap
  slotsUsed := slotsUsed
  threads := #[{ frames := .invoking theMethod args0 :: below }]
def below0 : List Frame := [.native { method := ⟨0, 0⟩, args := #[] }]
def about1 : State := aboutOver below0
def p0 : Program := .bare "" "" ""
def e0 : Env := launch0.env 0 0 0
theorem w_frames : about1.frames = Frame.invoking theMethod args0 :: below0 := rfl
set_option maxRecDepth 65536 in
theorem w_args : argsFit about1.vm theMethod args0 = true := by decide +kernel
set_option maxRecDepth 65536 in
theorem w_heap : heapFits about1 = true := by decide +kernel
set_option maxRecDepth 65536 in
theorem w_runnable : about1.curStatus? = some .runnable := by decide +kernel
set_option maxRecDepth 65536 in
theorem w_alone : about1.alone = true := by decide +kernel
set_option maxRecDepth 65536 in
theorem w_named : about1.methodNamed? x = some theMethod := by decide +kernel
set_option maxRecDepth 65536 in
theorem w_hears : about1.hears theMethod below0 = true := by decide +kernel
set_option maxRecDepth 65536 in
theorem w_ripe : about1.ripe theMethod args0 below0 = true := by decide +kernel
theorem w_running : about1.status = .running := rfl
set_option maxRecDepth 65536 in
theorem w_room : about1.hasRoom e0.platform room_1 = true :=
  launch0.hasRoom_least _ room_1 (by decide +kernel) (by decide +kernel) (by decide +kernel) (by decide +kernel) (by decide +kernel) (by decide +kernel)
theorem allAtoms_all (ts : List Jvm.Cond) (a : Array Jvm.Value) (st : Jvm.State) : (allAtoms ts).before a st = ts.all (fun c => c.before a st) := by
  induction ts with
  | nil => rfl
  | cons c t ih =>
    show (Jvm.Cond.and c (allAtoms t)).before a st = _
    rw [Jvm.Cond.before_and, ih, List.all_cons]
def words1 : List Jvm.Cond := Jvm.Cond.code x code maxLocals ret :: tables_1
/-- a 'code' word, met by the world's own term for the bytes: nothing is compared byte by byte -/
theorem code_word {y : MethodName} {bytes : ByteArray} {mx : Nat} {rt : Option FieldType} {a : Array Value} {s : State} {m : MethodId} {meth : Method} {c : Code} (h1 : s.methodNamed? y = some m) (h2 : s.vm.method? m = some meth) (h3 : meth.code = some c) (h4 : c.code = bytes)
    (h5 : (c.maxLocals == mx && c.exceptionTable.isEmpty && decide (c.maxStack ≤ mostOperands) && decide (meth.sig.returnType = rt) && !meth.locks && decide (parseMethodDescriptor y.desc = some meth.sig)) = true) : (Jvm.Cond.code y bytes mx rt).before a s = true := by
  simp only [Bool.and_eq_true, beq_iff_eq, Bool.not_eq_true', decide_eq_true_eq] at h5
  obtain ⟨⟨⟨⟨⟨g1, g2⟩, g3⟩, g4⟩, g5⟩, g6⟩ := h5
  simp [Cond.before, Cond.holds, Cond.value, h1, h2, h3, h4, g1, g2, g3, g4, g5, g6]
def isCode : Jvm.Cond → Bool
  | .code _ _ _ _ => true
  | _ => false
theorem all_split {L : List Jvm.Cond} {P : Jvm.Cond → Bool} (h1 : L.all (fun c => isCode c || P c) = true) (h2 : ∀ c ∈ L.filter isCode, P c = true) : L.all P = true := by
  refine List.all_eq_true.mpr fun c hc => ?_
  have h := List.all_eq_true.mp h1 c hc
  rcases Bool.eq_false_or_eq_true (isCode c) with hi | hi
  · exact h2 c (List.mem_filter.mpr ⟨hc, hi⟩)
  · simpa [hi] using h
set_option maxRecDepth 65536 in
theorem w_c0 : (Jvm.Cond.code x code maxLocals ret).before args0 about1 = true := code_word (m := ⟨1, 1⟩) (meth := k1m1) (c := k1c1) (by decide +kernel) rfl rfl rfl (by decide +kernel)
set_option maxRecDepth 65536 in
theorem w_c1 : (Jvm.Cond.code ({ cls := "com/example/foray/foray/graph/Sum", name := "<init>", desc := "()V" } : Jvm.MethodName) prog_48_method_1_code (1 : Nat) (Option.none : Option Jvm.ClassFile.FieldType)).before args0 about1 = true := code_word (m := ⟨2, 0⟩) (meth := k2m0) (c := k2c0) (by decide +kernel) rfl rfl rfl (by decide +kernel)
set_option maxRecDepth 65536 in
theorem w_c2 : (Jvm.Cond.code ({ cls := "java/lang/Object", name := "<init>", desc := "()V" } : Jvm.MethodName) object_method_1_code (1 : Nat) (Option.none : Option Jvm.ClassFile.FieldType)).before args0 about1 = true := code_word (m := ⟨0, 0⟩) (meth := k0m0) (c := k0c0) (by decide +kernel) rfl rfl rfl (by decide +kernel)
set_option maxRecDepth 65536 in
theorem w_c3 : (Jvm.Cond.code ({ cls := "com/example/foray/foray/graph/Sum", name := "addWhole", desc := "(J)V" } : Jvm.MethodName) prog_48_method_4_code (3 : Nat) (Option.none : Option Jvm.ClassFile.FieldType)).before args0 about1 = true := code_word (m := ⟨2, 1⟩) (meth := k2m1) (c := k2c1) (by decide +kernel) rfl rfl rfl (by decide +kernel)
set_option maxRecDepth 65536 in
theorem w_c4 : (Jvm.Cond.code ({ cls := "com/example/foray/foray/graph/Sum", name := "makeRoom", desc := "()V" } : Jvm.MethodName) prog_48_method_11_code (1 : Nat) (Option.none : Option Jvm.ClassFile.FieldType)).before args0 about1 = true := code_word (m := ⟨2, 6⟩) (meth := k2m6) (c := k2c6) (by decide +kernel) rfl rfl rfl (by decide +kernel)
set_option maxRecDepth 65536 in
theorem w_c5 : (Jvm.Cond.code ({ cls := "com/example/foray/foray/graph/Sum", name := "add", desc := "(Lcom/example/foray/foray/graph/Sum;)V" } : Jvm.MethodName) prog_48_method_5_code (2 : Nat) (Option.none : Option Jvm.ClassFile.FieldType)).before args0 about1 = true := code_word (m := ⟨2, 2⟩) (meth := k2m2) (c := k2c2) (by decide +kernel) rfl rfl rfl (by decide +kernel)
set_option maxRecDepth 65536 in
theorem w_c6 : (Jvm.Cond.code ({ cls := "java/math/BigDecimal", name := "signum", desc := "()I" } : Jvm.MethodName) jdk_17_method_58_code (1 : Nat) (Option.some Jvm.ClassFile.FieldType.int)).before args0 about1 = true := code_word (m := ⟨6, 4⟩) (meth := k6m4) (c := k6c4) (by decide +kernel) rfl rfl rfl (by decide +kernel)
set_option maxRecDepth 65536 in
theorem w_c7 : (Jvm.Cond.code ({ cls := "java/lang/Long", name := "signum", desc := "(J)I" } : Jvm.MethodName) jdk_35_method_57_code (2 : Nat) (Option.some Jvm.ClassFile.FieldType.int)).before args0 about1 = true := code_word (m := ⟨9, 1⟩) (meth := k9m1) (c := k9c1) (by decide +kernel) rfl rfl rfl (by decide +kernel)
set_option maxRecDepth 65536 in
theorem w_c8 : (Jvm.Cond.code ({ cls := "java/math/BigDecimal", name := "scale", desc := "()I" } : Jvm.MethodName) jdk_17_method_59_code (1 : Nat) (Option.some Jvm.ClassFile.FieldType.int)).before args0 about1 = true := code_word (m := ⟨6, 5⟩) (meth := k6m5) (c := k6c5) (by decide +kernel) rfl rfl rfl (by decide +kernel)
set_option maxRecDepth 65536 in
theorem w_c9 : (Jvm.Cond.code ({ cls := "java/math/BigDecimal", name := "valueOf", desc := "(J)Ljava/math/BigDecimal;" } : Jvm.MethodName) jdk_17_method_21_code (2 : Nat) (Option.some (Jvm.ClassFile.FieldType.object "java/math/BigDecimal"))).before args0 about1 = true := code_word (m := ⟨6, 2⟩) (meth := k6m2) (c := k6c2) (by decide +kernel) rfl rfl rfl (by decide +kernel)
set_option maxRecDepth 65536 in
theorem w_c10 : (Jvm.Cond.code ({ cls := "java/math/BigDecimal", name := "<init>", desc := "(Ljava/math/BigInteger;JII)V" } : Jvm.MethodName) jdk_17_method_1_code (6 : Nat) (Option.none : Option Jvm.ClassFile.FieldType)).before args0 about1 = true := code_word (m := ⟨6, 0⟩) (meth := k6m0) (c := k6c0) (by decide +kernel) rfl rfl rfl (by decide +kernel)
set_option maxRecDepth 65536 in
theorem w_c11 : (Jvm.Cond.code ({ cls := "java/lang/Number", name := "<init>", desc := "()V" } : Jvm.MethodName) jdk_18_method_1_code (1 : Nat) (Option.none : Option Jvm.ClassFile.FieldType)).before args0 about1 = true := code_word (m := ⟨4, 0⟩) (meth := k4m0) (c := k4c0) (by decide +kernel) rfl rfl rfl (by decide +kernel)
set_option maxRecDepth 65536 in
theorem w_c12 : (Jvm.Cond.code ({ cls := "java/math/BigDecimal", name := "add", desc := "(Ljava/math/BigDecimal;)Ljava/math/BigDecimal;" } : Jvm.MethodName) jdk_17_method_26_code (2 : Nat) (Option.some (Jvm.ClassFile.FieldType.object "java/math/BigDecimal"))).before args0 about1 = true := code_word (m := ⟨6, 3⟩) (meth := k6m3) (c := k6c3) (by decide +kernel) rfl rfl rfl (by decide +kernel)
set_option maxRecDepth 65536 in
theorem w_c13 : (Jvm.Cond.code ({ cls := "java/math/BigDecimal", name := "add", desc := "(JIJI)Ljava/math/BigDecimal;" } : Jvm.MethodName) jdk_17_method_134_code (12 : Nat) (Option.some (Jvm.ClassFile.FieldType.object "java/math/BigDecimal"))).before args0 about1 = true := code_word (m := ⟨6, 9⟩) (meth := k6m9) (c := k6c9) (by decide +kernel) rfl rfl rfl (by decide +kernel)
set_option maxRecDepth 65536 in
theorem w_c14 : (Jvm.Cond.code ({ cls := "java/math/BigDecimal", name := "add", desc := "(JJI)Ljava/math/BigDecimal;" } : Jvm.MethodName) jdk_17_method_133_code (7 : Nat) (Option.some (Jvm.ClassFile.FieldType.object "java/math/BigDecimal"))).before args0 about1 = true := code_word (m := ⟨6, 8⟩) (meth := k6m8) (c := k6c8) (by decide +kernel) rfl rfl rfl (by decide +kernel)
set_option maxRecDepth 65536 in
theorem w_c15 : (Jvm.Cond.code ({ cls := "java/math/BigDecimal", name := "add", desc := "(JJ)J" } : Jvm.MethodName) jdk_17_method_132_code (6 : Nat) (Option.some Jvm.ClassFile.FieldType.long)).before args0 about1 = true := code_word (m := ⟨6, 7⟩) (meth := k6m7) (c := k6c7) (by decide +kernel) rfl rfl rfl (by decide +kernel)
set_option maxRecDepth 65536 in
theorem w_c16 : (Jvm.Cond.code ({ cls := "java/math/BigDecimal", name := "valueOf", desc := "(JI)Ljava/math/BigDecimal;" } : Jvm.MethodName) jdk_17_method_20_code (3 : Nat) (Option.some (Jvm.ClassFile.FieldType.object "java/math/BigDecimal"))).before args0 about1 = true := code_word (m := ⟨6, 1⟩) (meth := k6m1) (c := k6c1) (by decide +kernel) rfl rfl rfl (by decide +kernel)
set_option maxRecDepth 65536 in
theorem w_c17 : (Jvm.Cond.code ({ cls := "com/example/foray/foray/graph/Sum", name := "set", desc := "(Lcom/example/foray/foray/graph/Sum;)V" } : Jvm.MethodName) prog_48_method_7_code (2 : Nat) (Option.none : Option Jvm.ClassFile.FieldType)).before args0 about1 = true := code_word (m := ⟨2, 3⟩) (meth := k2m3) (c := k2c3) (by decide +kernel) rfl rfl rfl (by decide +kernel)
set_option maxRecDepth 65536 in
theorem w_c18 : (Jvm.Cond.code ({ cls := "com/example/foray/foray/graph/Sum", name := "compareTo", desc := "(Lcom/example/foray/foray/graph/Sum;)I" } : Jvm.MethodName) prog_48_method_8_code (2 : Nat) (Option.some Jvm.ClassFile.FieldType.int)).before args0 about1 = true := code_word (m := ⟨2, 4⟩) (meth := k2m4) (c := k2c4) (by decide +kernel) rfl rfl rfl (by decide +kernel)
set_option maxRecDepth 65536 in
theorem w_c19 : (Jvm.Cond.code ({ cls := "java/lang/Long", name := "compare", desc := "(JJ)I" } : Jvm.MethodName) jdk_35_method_42_code (4 : Nat) (Option.some Jvm.ClassFile.FieldType.int)).before args0 about1 = true := code_word (m := ⟨9, 0⟩) (meth := k9m0) (c := k9c0) (by decide +kernel) rfl rfl rfl (by decide +kernel)
set_option maxRecDepth 65536 in
theorem w_c20 : (Jvm.Cond.code ({ cls := "com/example/foray/foray/graph/Sum", name := "value", desc := "()Ljava/math/BigDecimal;" } : Jvm.MethodName) prog_48_method_9_code (1 : Nat) (Option.some (Jvm.ClassFile.FieldType.object "java/math/BigDecimal"))).before args0 about1 = true := code_word (m := ⟨2, 5⟩) (meth := k2m5) (c := k2c5) (by decide +kernel) rfl rfl rfl (by decide +kernel)
set_option maxRecDepth 65536 in
theorem w_c21 : (Jvm.Cond.code ({ cls := "java/math/BigDecimal", name := "compareTo", desc := "(Ljava/math/BigDecimal;)I" } : Jvm.MethodName) jdk_17_method_70_code (6 : Nat) (Option.some Jvm.ClassFile.FieldType.int)).before args0 about1 = true := code_word (m := ⟨6, 6⟩) (meth := k6m6) (c := k6c6) (by decide +kernel) rfl rfl rfl (by decide +kernel)
def codes1 : List Jvm.Cond := [Jvm.Cond.code x code maxLocals ret, Jvm.Cond.code ({ cls := "com/example/foray/foray/graph/Sum", name := "<init>", desc := "()V" } : Jvm.MethodName) prog_48_method_1_code (1 : Nat) (Option.none : Option Jvm.ClassFile.FieldType), Jvm.Cond.code ({ cls := "java/lang/Object", name := "<init>", desc := "()V" } : Jvm.MethodName) object_method_1_code (1 : Nat) (Option.none : Option Jvm.ClassFile.FieldType), Jvm.Cond.code ({ cls := "com/example/foray/foray/graph/Sum", name := "addWhole", desc := "(J)V" } : Jvm.MethodName) prog_48_method_4_code (3 : Nat) (Option.none : Option Jvm.ClassFile.FieldType), Jvm.Cond.code ({ cls := "com/example/foray/foray/graph/Sum", name := "makeRoom", desc := "()V" } : Jvm.MethodName) prog_48_method_11_code (1 : Nat) (Option.none : Option Jvm.ClassFile.FieldType), Jvm.Cond.code ({ cls := "com/example/foray/foray/graph/Sum", name := "add", desc := "(Lcom/example/foray/foray/graph/Sum;)V" } : Jvm.MethodName) prog_48_method_5_code (2 : Nat) (Option.none : Option Jvm.ClassFile.FieldType), Jvm.Cond.code ({ cls := "java/math/BigDecimal", name := "signum", desc := "()I" } : Jvm.MethodName) jdk_17_method_58_code (1 : Nat) (Option.some Jvm.ClassFile.FieldType.int), Jvm.Cond.code ({ cls := "java/lang/Long", name := "signum", desc := "(J)I" } : Jvm.MethodName) jdk_35_method_57_code (2 : Nat) (Option.some Jvm.ClassFile.FieldType.int), Jvm.Cond.code ({ cls := "java/math/BigDecimal", name := "scale", desc := "()I" } : Jvm.MethodName) jdk_17_method_59_code (1 : Nat) (Option.some Jvm.ClassFile.FieldType.int), Jvm.Cond.code ({ cls := "java/math/BigDecimal", name := "valueOf", desc := "(J)Ljava/math/BigDecimal;" } : Jvm.MethodName) jdk_17_method_21_code (2 : Nat) (Option.some (Jvm.ClassFile.FieldType.object "java/math/BigDecimal")), Jvm.Cond.code ({ cls := "java/math/BigDecimal", name := "<init>", desc := "(Ljava/math/BigInteger;JII)V" } : Jvm.MethodName) jdk_17_method_1_code (6 : Nat) (Option.none : Option Jvm.ClassFile.FieldType), Jvm.Cond.code ({ cls := "java/lang/Number", name := "<init>", desc := "()V" } : Jvm.MethodName) jdk_18_method_1_code (1 : Nat) (Option.none : Option Jvm.ClassFile.FieldType), Jvm.Cond.code ({ cls := "java/math/BigDecimal", name := "add", desc := "(Ljava/math/BigDecimal;)Ljava/math/BigDecimal;" } : Jvm.MethodName) jdk_17_method_26_code (2 : Nat) (Option.some (Jvm.ClassFile.FieldType.object "java/math/BigDecimal")), Jvm.Cond.code ({ cls := "java/math/BigDecimal", name := "add", desc := "(JIJI)Ljava/math/BigDecimal;" } : Jvm.MethodName) jdk_17_method_134_code (12 : Nat) (Option.some (Jvm.ClassFile.FieldType.object "java/math/BigDecimal")), Jvm.Cond.code ({ cls := "java/math/BigDecimal", name := "add", desc := "(JJI)Ljava/math/BigDecimal;" } : Jvm.MethodName) jdk_17_method_133_code (7 : Nat) (Option.some (Jvm.ClassFile.FieldType.object "java/math/BigDecimal")), Jvm.Cond.code ({ cls := "java/math/BigDecimal", name := "add", desc := "(JJ)J" } : Jvm.MethodName) jdk_17_method_132_code (6 : Nat) (Option.some Jvm.ClassFile.FieldType.long), Jvm.Cond.code ({ cls := "java/math/BigDecimal", name := "valueOf", desc := "(JI)Ljava/math/BigDecimal;" } : Jvm.MethodName) jdk_17_method_20_code (3 : Nat) (Option.some (Jvm.ClassFile.FieldType.object "java/math/BigDecimal")), Jvm.Cond.code ({ cls := "com/example/foray/foray/graph/Sum", name := "set", desc := "(Lcom/example/foray/foray/graph/Sum;)V" } : Jvm.MethodName) prog_48_method_7_code (2 : Nat) (Option.none : Option Jvm.ClassFile.FieldType), Jvm.Cond.code ({ cls := "com/example/foray/foray/graph/Sum", name := "compareTo", desc := "(Lcom/example/foray/foray/graph/Sum;)I" } : Jvm.MethodName) prog_48_method_8_code (2 : Nat) (Option.some Jvm.ClassFile.FieldType.int), Jvm.Cond.code ({ cls := "java/lang/Long", name := "compare", desc := "(JJ)I" } : Jvm.MethodName) jdk_35_method_42_code (4 : Nat) (Option.some Jvm.ClassFile.FieldType.int), Jvm.Cond.code ({ cls := "com/example/foray/foray/graph/Sum", name := "value", desc := "()Ljava/math/BigDecimal;" } : Jvm.MethodName) prog_48_method_9_code (1 : Nat) (Option.some (Jvm.ClassFile.FieldType.object "java/math/BigDecimal")), Jvm.Cond.code ({ cls := "java/math/BigDecimal", name := "compareTo", desc := "(Ljava/math/BigDecimal;)I" } : Jvm.MethodName) jdk_17_method_70_code (6 : Nat) (Option.some Jvm.ClassFile.FieldType.int)]
set_option maxRecDepth 65536 in
theorem codes_eq : words1.filter isCode = codes1 := rfl
theorem w_codes : ∀ c ∈ words1.filter isCode, c.before args0 about1 = true := by
  rw [codes_eq]
  intro c hc
  simp only [codes1, List.mem_cons, List.not_mem_nil, or_false] at hc
  rcases hc with rfl | rfl | rfl | rfl | rfl | rfl | rfl | rfl | rfl | rfl | rfl | rfl | rfl | rfl | rfl | rfl | rfl | rfl | rfl | rfl | rfl | rfl
  · exact w_c0
  · exact w_c1
  · exact w_c2
  · exact w_c3
  · exact w_c4
  · exact w_c5
  · exact w_c6
  · exact w_c7
  · exact w_c8
  · exact w_c9
  · exact w_c10
  · exact w_c11
  · exact w_c12
  · exact w_c13
  · exact w_c14
  · exact w_c15
  · exact w_c16
  · exact w_c17
  · exact w_c18
  · exact w_c19
  · exact w_c20
  · exact w_c21
set_option maxRecDepth 65536 in
theorem w_t1 : (words1.take 24).all (fun c => isCode c || c.before args0 about1) = true := by decide +kernel
set_option maxRecDepth 65536 in
theorem w_t2 : ((words1.drop 24).take 24).all (fun c => isCode c || c.before args0 about1) = true := by decide +kernel
set_option maxRecDepth 65536 in
theorem w_t3 : (((words1.drop 24).drop 24).take 24).all (fun c => isCode c || c.before args0 about1) = true := by decide +kernel
set_option maxRecDepth 65536 in
theorem w_t4 : ((((words1.drop 24).drop 24).drop 24).take 24).all (fun c => isCode c || c.before args0 about1) = true := by decide +kernel
set_option maxRecDepth 65536 in
theorem w_t5 : ((((words1.drop 24).drop 24).drop 24).drop 24).all (fun c => isCode c || c.before args0 about1) = true := by decide +kernel
theorem w_tables : (allAtoms (Jvm.Cond.code x code maxLocals ret :: tables_1)).before args0 about1 = true := by
  rw [allAtoms_all]
  show words1.all (fun c => c.before args0 about1) = true
  refine all_split ?_ w_codes
  rw [← List.take_append_drop 24 words1, List.all_append, w_t1, ← List.take_append_drop 24 (words1.drop 24), List.all_append, w_t2, ← List.take_append_drop 24 ((words1.drop 24).drop 24), List.all_append, w_t3, ← List.take_append_drop 24 (((words1.drop 24).drop 24).drop 24), List.all_append, w_t4, w_t5]
  rfl
set_option maxRecDepth 65536 in
theorem w_rest : rest_1_c.before args0 about1 = true := by decide +kernel
set_option maxRecDepth 65536 in
theorem w_case : (Jvm.Cond.and given_1 narrow_1).before args0 about1 = true := by decide +kernel
theorem w_applies : (headSpec (Jvm.Cond.code x code maxLocals ret :: tables_1) room_1).applies x e0.platform about1 = true :=
  (Spec.applies_iff w_frames).mpr ⟨w_running, w_runnable, w_alone, w_named, w_hears, w_ripe, w_room, w_tables⟩
theorem atStart : AtStart classFile x code maxLocals ret World_1 tables_1 room_1 Calls_1 rest_1 Pre_1 launch0 p0 e0 about1 theMethod args0 below0 :=
  ⟨lists_1, trivial, launch0.admits_env _ _ _, launch0.least_env, fairChoices_fair.cas, fairChoices_fair.clock, w_frames, w_args, w_heap, w_applies, trivial, w_rest, w_case⟩
end start1
theorem witness_1 : WitnessClaimed_1 := ⟨start1.p0, start1.e0, start1.about1, start1.theMethod, start1.args0, start1.below0, start1.atStart⟩
end Jvm.Pilot.@@N@@
