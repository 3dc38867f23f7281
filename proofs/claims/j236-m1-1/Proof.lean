import JvmDerived
import JvmDerived.Pilot.@@N@@Statement
import JvmDerived.Pilot.@@N@@Code
set_option linter.unusedVariables false
set_option linter.unusedSimpArgs false
namespace Jvm.Pilot.@@N@@
open Jvm Jvm.ClassFile Sem Op Lib Jvm.Free Jvm.Stand Jvm.LawKit Jvm.RoadKit Bundle Jvm.Pilot.@@N@@.Jvm.D
section OwnKit
abbrev oU : Slot := .unset
abbrev oS : Slot := .second
abbrev oJ (x : Int64) : Slot := .val (.long x)
variable {p : Program} {l : Launch} {e : Env} {R : Room} {s : State} {m : MethodId} {args : Array Value} {below : List Frame} {meth : Method} {c : Code} {T A B : State} {locs : List Loc} {cells slots : Nat} {G : State → Outcome → Prop} {Q : Option Value → Heap → List Loc → Prop} {C S : Nat} {pc : Nat} {Ls : Array Slot} {rest : List Value}
/-- from A the run ends, and what it leaves is G -/
def own_Go (p : Program) (e : Env) (below : List Frame) (G : State → Outcome → Prop) (A : State) : Prop := ∃ u o, Steps p.tables e below A u ∧ u.status = .running ∧ Ended u below o ∧ G u o
def own_Post (s : State) (Q : Option Value → Heap → List Loc → Prop) (C S : Nat) : State → Outcome → Prop := fun u o => ∃ v L, o = .returned v ∧ Q v u.heap L ∧ FrameEnd s o u L C S
def own_PostW (s : State) (Q : Option Value → Heap → List Loc → Prop) (C S : Nat) : State → Outcome → Prop := fun u o => ∃ v L, o = .returned v ∧ Q v u.heap L ∧ ReturnedEndW s o u L C S
theorem own_by (k : ∀ t, Steps p.tables e below B t → Steps p.tables e below A t) (h : own_Go p e below G B) : own_Go p e below G A := by
  obtain ⟨u, o, h1, h2⟩ := h
  exact ⟨u, o, k _ h1, h2⟩
theorem own_tr (k : Steps p.tables e below A B) (h : own_Go p e below G B) : own_Go p e below G A := by
  obtain ⟨u, o, h1, h2⟩ := h
  exact ⟨u, o, k.trans h1, h2⟩
theorem own_retI (X : Stand p l e R s m args below meth c T locs cells slots) (hlk : meth.locks = false) (hx : p.tables.exec = Jvm.exec) (hret : meth.sig.returnType = some .int) {z : Int32} (hd : decode c.code pc = .ok (.ireturn, 1)) (hq : Q (some (.int z)) T.heap locs) (hC : cells ≤ C) (hS : slots ≤ S) :
    own_Go p e below (own_Post s Q C S) (T.setTop (mkF m pc Ls (.int z :: rest))) := by
  obtain ⟨fs, hr, hrun, hended, hW, hsame⟩ := X.leave (v := some (.int z)) (fun h => by rw [hret] at h; cases h) hlk
  have hm' : T.vm.method? m = some meth := X.method'
  have hn : narrow .int (.int z) = .int z := rfl
  refine ⟨_, _, ?_, hrun, hended, _, _, rfl, hq, ⟨_, rfl⟩, hW, hsame.mono hC hS⟩
  show Steps p.tables e below (T.setTop { method := m, pc := pc, locals := Ls, stack := _ :: rest, locked := none }) _
  jvm_step X.here [X.here.top, hx, hd, hm', hret, hn]
  first | (intro acts; rw [hr _ acts rfl rfl rfl]) | rw [hr _ _ rfl rfl rfl]
  exact Steps.refl _
theorem own_retN (X : Stand p l e R s m args below meth c T locs cells slots) (hlk : meth.locks = false) (hx : p.tables.exec = Jvm.exec) {t : FieldType} (hret : meth.sig.returnType = some t) (ht : t = .boolean ∨ t = .byte ∨ t = .char ∨ t = .short) {z : Int32} (hd : decode c.code pc = .ok (.ireturn, 1)) (hq : Q (some (.int (nar t z))) T.heap locs) (hC : cells ≤ C) (hS : slots ≤ S) :
    own_Go p e below (own_Post s Q C S) (T.setTop (mkF m pc Ls (.int z :: rest))) := by
  obtain ⟨fs, hr, hrun, hended, hW, hsame⟩ := X.leave (v := some (.int (nar t z))) (fun h => by rw [hret] at h; cases h) hlk
  exact ⟨_, _, retN X hx hret ht hd hr, hrun, hended, _, _, rfl, hq, ⟨_, rfl⟩, hW, hsame.mono hC hS⟩
theorem own_retNW {vm₁ : Vm} (X : Stand p l e R (s.setVm vm₁) m args below meth c T locs cells slots) (hlk : meth.locks = false) (hx : p.tables.exec = Jvm.exec) {t : FieldType} (hret : meth.sig.returnType = some t) (ht : t = .boolean ∨ t = .byte ∨ t = .char ∨ t = .short) {z : Int32} (hd : decode c.code pc = .ok (.ireturn, 1)) {n : Nat} (hSi : s.Since vm₁ n) (hn : n ≤ T.heap.size) (hq : Q (some (.int (nar t z))) T.heap locs) (hC : cells ≤ C) (hS : slots ≤ S) :
    own_Go p e below (own_PostW s Q C S) (T.setTop (mkF m pc Ls (.int z :: rest))) := by
  obtain ⟨fs, hr, hrun, hended, h1, h2, h3, h4⟩ := X.leaveW hSi hn (v := some (.int (nar t z))) (fun h => by rw [hret] at h; cases h) hlk
  exact ⟨_, _, retN X hx hret ht hd hr, hrun, hended, _, _, rfl, hq, h1, h2, h3, h4.mono hC hS⟩
theorem own_retL (X : Stand p l e R s m args below meth c T locs cells slots) (hlk : meth.locks = false) (hx : p.tables.exec = Jvm.exec) (hret : meth.sig.returnType = some .long) {z : Int64} (hd : decode c.code pc = .ok (.lreturn, 1)) (hq : Q (some (.long z)) T.heap locs) (hC : cells ≤ C) (hS : slots ≤ S) :
    own_Go p e below (own_Post s Q C S) (T.setTop (mkF m pc Ls [.long z])) := by
  obtain ⟨fs, hr, hrun, hended, hW, hsame⟩ := X.leave (v := some (.long z)) (fun h => by rw [hret] at h; cases h) hlk
  exact ⟨_, _, retOut X hx (t := .long) (i := .lreturn) hret rfl (Or.inr (Or.inl ⟨rfl, rfl, _, rfl⟩)) hd hr, hrun, hended, _, _, rfl, hq, ⟨_, rfl⟩, hW, hsame.mono hC hS⟩
theorem own_retR (X : Stand p l e R s m args below meth c T locs cells slots) (hlk : meth.locks = false) (hx : p.tables.exec = Jvm.exec) {t : FieldType} (hret : meth.sig.returnType = some t) {w : Value} (ht : t.isReference = true) (hn : narrow t w = w) (hw : w.isRef = true) (hd : decode c.code pc = .ok (.areturn, 1)) (hq : Q (some w) T.heap locs) (hC : cells ≤ C) (hS : slots ≤ S) :
    own_Go p e below (own_Post s Q C S) (T.setTop (mkF m pc Ls (w :: rest))) := by
  obtain ⟨fs, hr, hrun, hended, hW, hsame⟩ := X.leave (v := some w) (fun h => by rw [hret] at h; cases h) hlk
  exact ⟨_, _, retOut X hx (t := t) (i := .areturn) hret hn (Or.inr (Or.inr (Or.inr (Or.inr ⟨rfl, ht, hw⟩)))) hd hr, hrun, hended, _, _, rfl, hq, ⟨_, rfl⟩, hW, hsame.mono hC hS⟩
theorem own_retV (X : Stand p l e R s m args below meth c T locs cells slots) (hlk : meth.locks = false) (hx : p.tables.exec = Jvm.exec) (hret : meth.sig.returnType = none) (hd : decode c.code pc = .ok (.return_, 1)) (hq : Q none T.heap locs) (hC : cells ≤ C) (hS : slots ≤ S) :
    own_Go p e below (own_Post s Q C S) (T.setTop (mkF m pc Ls [])) := by
  obtain ⟨fs, hr, hrun, hended, hW, hsame⟩ := X.leave (v := none) (fun _ => rfl) hlk
  exact ⟨_, _, X.returnOut hx hret hd hr, hrun, hended, _, _, rfl, hq, ⟨_, rfl⟩, hW, hsame.mono hC hS⟩
theorem own_nev {Z : State} {h : Heap} {a b : Addr} {C : String} {a0 : Array Value} {n : Nat} {k : ClassId} {ty : FieldType} {z : Int32} {vs : List Value} {dv : Value} (E : Exa Z h a C) (wi : (Jvm.Cond.instantiable C n).before a0 Z = true) (F : Arv Z h b k ty z vs dv) : a ≠ b := by
  obtain ⟨c, A, -⟩ := F
  exact ne_arr E wi A
theorem own_selp {args' : Array Value} {y : MethodName} {n : Nat} (hins : (Jvm.Cond.instantiable y.cls n).before args' s = true) (hpriv : (Jvm.Cond.privateMethod y).before args' s = true) (hinst : (Jvm.Cond.instanceMethod y).before args' s = true) (hy : y.cls ≠ "java/lang/invoke/MethodHandle" ∧ y.cls ≠ "java/lang/invoke/VarHandle") : (Jvm.Cond.selects y.cls y y).before args' s = true := by
  obtain ⟨c, k, hc, hk, -, hniab, -, -⟩ := Cond.instantiable_spec hins
  exact selects_self_of_private hc hk (Bool.or_eq_false_iff.mp hniab).1 (Cond.privateMethod_at hpriv) hinst hy
theorem own_callS (X : Stand p l e R s m args below meth c T locs cells slots) (hx : p.tables.exec = Jvm.exec) {Z : State} {a0 : Array Value} {h : Heap} (hZ : Z.Warmed39 s.vm) {own : String} {index : Nat} {y : MethodName} (hown : s.vm.findClass own = some m.cls) {bytes : ByteArray} {maxL : Nat} {ret : Option FieldType} {rm : Room} {as' : Array Value} {Q : Option Value → Heap → List Loc → Prop} (w1 : (Jvm.Cond.methodLink own index y).before a0 Z = true) (w2 : (Jvm.Cond.static y).before a0 Z = true) (w3 : (Jvm.Cond.initialized y.cls).before a0 Z = true) (w4 : (Jvm.Cond.code y bytes maxL ret).before a0 Z = true) (hy : y.cls ≠ "java/lang/invoke/MethodHandle" ∧ y.cls ≠ "java/lang/invoke/VarHandle")
    (hM : MetFree l y (head1 [Jvm.Cond.code y bytes maxL ret] rm) (fun a U => a = as' ∧ Z.Warmed39 U.vm ∧ U.heap = h) (fun _ _ _ _ _ => True) (fun _ U o U' => ∃ v L, o = .returned v ∧ Q v U'.heap L ∧ FrameEnd U o U' L rm.cells rm.slots)) (eT : T.heap = h) (W : Nat) (hf : rm.frames + 1 ≤ R.frames) (hl : W + (maxL + 11) + rm.locals ≤ R.locals) (hc : cells + rm.cells ≤ R.cells) (hs : slots + rm.slots ≤ R.slots) {g : JFrame} (hg : g.method = m) (hsize : g.locals.size = c.maxLocals) (argsL rest : List Value) (ha : argsL.toArray = as') (hlen : ∀ sig, parseMethodDescriptor y.desc = some sig → argsL.length = sig.parameters.length) (hstack : g.stack = argsL.reverse ++ rest) (hW : 2 * g.monitorRoom + (rest.map fun v => v.category).sum ≤ W) (hd : decode c.code g.pc = .ok (.invokestatic index, 3)) :
    ∃ (T' : State) (L : List Loc) (v : Option Value), Stand p l e R s m args below meth c T' (locs ++ L) (cells + rm.cells) (slots + rm.slots) ∧ Q v T'.heap L ∧ ∀ t, Steps p.tables e below (T'.setTop { g with pc := g.pc + 3, stack := v.toList ++ rest }) t → Steps p.tables e below (T.setTop g) t := by
  obtain ⟨v, _, ⟨T', L', k', n'⟩, -, X', ⟨L, hQ, h2, h3, h4⟩, st⟩ := Jvm.LawKit.callS X hx (y := y) hown (mvT hZ w1) (mvT hZ w2) (mvT hZ w3) (mvT hZ w4) hy (backOf (W := W) hM hZ w4 w3 hf hl) (g := g) hg hsize (argsL := argsL) (rest := rest) hlen hstack hW hd (fun _ _ => ⟨ha, eT, hc, hs⟩)
  dsimp only [Pt.U, Pt.locs, Pt.cells, Pt.slots] at X' h2 h3 h4 st hQ
  subst h2 h3 h4
  exact ⟨T', L, v, X', hQ, st⟩
theorem own_callI (X : Stand p l e R s m args below meth c T locs cells slots) (hx : p.tables.exec = Jvm.exec) {Z : State} {a0 : Array Value} {h : Heap} (hZ : Z.Warmed39 s.vm) {own : String} {index : Nat} {y : MethodName} (hy1 : y.name = "<init>") (hown : s.vm.findClass own = some m.cls) {bytes : ByteArray} {maxL : Nat} {rm : Room} {as' : Array Value} {Q : Option Value → Heap → List Loc → Prop} (w1 : (Jvm.Cond.methodLink own index y).before a0 Z = true) (w2 : (Jvm.Cond.instanceMethod y).before a0 Z = true) (w3 : (Jvm.Cond.initialized y.cls).before a0 Z = true) (w4 : (Jvm.Cond.code y bytes maxL none).before a0 Z = true) (hy : y.cls ≠ "java/lang/invoke/MethodHandle" ∧ y.cls ≠ "java/lang/invoke/VarHandle")
    (hM : MetFree l y (head1 [Jvm.Cond.code y bytes maxL none] rm) (fun a U => a = as' ∧ Z.Warmed39 U.vm ∧ U.heap = h) (fun _ _ _ _ _ => True) (fun _ U o U' => ∃ v L, o = .returned v ∧ Q v U'.heap L ∧ FrameEnd U o U' L rm.cells rm.slots)) (eT : T.heap = h) (W : Nat) (hf : rm.frames + 1 ≤ R.frames) (hl : W + (maxL + 11) + rm.locals ≤ R.locals) (hc : cells + rm.cells ≤ R.cells) (hs : slots + rm.slots ≤ R.slots) {g : JFrame} (hg : g.method = m) (hsize : g.locals.size = c.maxLocals) (a : Addr) (argsL rest : List Value) (ha : (.ref a :: argsL).toArray = as') (hlen : ∀ sig, parseMethodDescriptor y.desc = some sig → argsL.length = sig.parameters.length) (hstack : g.stack = argsL.reverse ++ .ref a :: rest) (hW : 2 * g.monitorRoom + (rest.map fun v => v.category).sum ≤ W) (hd : decode c.code g.pc = .ok (.invokespecial index, 3)) :
    ∃ (T' : State) (L : List Loc) (v : Option Value), Stand p l e R s m args below meth c T' (locs ++ L) (cells + rm.cells) (slots + rm.slots) ∧ Q v T'.heap L ∧ ∀ t, Steps p.tables e below (T'.setTop { g with pc := g.pc + 3, stack := v.toList ++ rest }) t → Steps p.tables e below (T.setTop g) t := by
  obtain ⟨v, _, ⟨T', L', k', n'⟩, -, X', ⟨L, hQ, h2, h3, h4⟩, st⟩ := X.specialBack hx (y := y) hy1 hown (mvT hZ w1) (mvT hZ w2) (mvT hZ w4) hy (backOf (W := W) hM hZ w4 w3 hf hl) (g := g) hg hsize (Steps.refl _) (a := a) (argsL := argsL) (rest := rest) hlen hstack hW hd (fun _ _ => ⟨ha, eT, hc, hs⟩)
  dsimp only [Pt.U, Pt.locs, Pt.cells, Pt.slots] at X' h2 h3 h4 st hQ
  subst h2 h3 h4
  exact ⟨T', L, v, X', hQ, fun t k => st.trans k⟩
theorem own_callP (X : Stand p l e R s m args below meth c T locs cells slots) (hx : p.tables.exec = Jvm.exec) {Z : State} {a0 : Array Value} {h : Heap} (hZ : Z.Warmed39 s.vm) {own C : String} {index n : Nat} {y : MethodName} (hown : s.vm.findClass own = some m.cls) {bytes : ByteArray} {maxL : Nat} {ret : Option FieldType} {rm : Room} {as' : Array Value} {Q : Option Value → Heap → List Loc → Prop} (w1 : (Jvm.Cond.methodLink own index y).before a0 Z = true) (w2 : (Jvm.Cond.instanceMethod y).before a0 Z = true) (w3 : (Jvm.Cond.initialized y.cls).before a0 Z = true) (w4 : (Jvm.Cond.code y bytes maxL ret).before a0 Z = true) (w5 : (Jvm.Cond.privateMethod y).before a0 Z = true) (w6 : (Jvm.Cond.instantiable y.cls n).before a0 Z = true) (hy : y.cls ≠ "java/lang/invoke/MethodHandle" ∧ y.cls ≠ "java/lang/invoke/VarHandle")
    (hM : MetFree l y (head1 [Jvm.Cond.code y bytes maxL ret] rm) (fun a U => a = as' ∧ Z.Warmed39 U.vm ∧ U.heap = h) (fun _ _ _ _ _ => True) (fun _ U o U' => ∃ v L, o = .returned v ∧ Q v U'.heap L ∧ FrameEnd U o U' L rm.cells rm.slots)) (eT : T.heap = h) (W : Nat) (hf : rm.frames + 1 ≤ R.frames) (hl : W + (maxL + 11) + rm.locals ≤ R.locals) (hc : cells + rm.cells ≤ R.cells) (hs : slots + rm.slots ≤ R.slots) {g : JFrame} (hg : g.method = m) (hsize : g.locals.size = c.maxLocals) (a : Addr) (E : Exa Z h a C) (argsL rest : List Value) (ha : (.ref a :: argsL).toArray = as') (hlen : ∀ sig, parseMethodDescriptor y.desc = some sig → argsL.length = sig.parameters.length) (hstack : g.stack = argsL.reverse ++ .ref a :: rest) (hW : 2 * g.monitorRoom + (rest.map fun v => v.category).sum ≤ W) (hd : decode c.code g.pc = .ok (.invokevirtual index, 3)) :
    ∃ (T' : State) (L : List Loc) (v : Option Value), Stand p l e R s m args below meth c T' (locs ++ L) (cells + rm.cells) (slots + rm.slots) ∧ Q v T'.heap L ∧ ∀ t, Steps p.tables e below (T'.setTop { g with pc := g.pc + 3, stack := v.toList ++ rest }) t → Steps p.tables e below (T.setTop g) t := by
  obtain ⟨cq, q1, q2⟩ := E.cell
  obtain ⟨v, _, ⟨T', L', k', n'⟩, -, X', ⟨L, hQ, h2, h3, h4⟩, st⟩ := X.privateBack hx (y := y) hown (mvT hZ w1) (mvT hZ w2) (own_selp (y := y) (mvT hZ w6) (mvP hZ w5) (mvT hZ w2) hy) (Cond.privateMethod_at (mvP hZ w5 (args := #[]))) (mvT hZ w4) hy (backOf (W := W) hM hZ w4 w3 hf hl) (g := g) hg hsize (Steps.refl _) (a := a) (by rw [eT]; exact q1) q2 (argsL := argsL) (rest := rest) hlen hstack hW hd (fun _ _ => ⟨ha, eT, hc, hs⟩)
  dsimp only [Pt.U, Pt.locs, Pt.cells, Pt.slots] at X' h2 h3 h4 st hQ
  subst h2 h3 h4
  exact ⟨T', L, v, X', hQ, fun t k => st.trans k⟩
theorem own_callV (X : Stand p l e R s m args below meth c T locs cells slots) (hx : p.tables.exec = Jvm.exec) {Z : State} {a0 : Array Value} {h : Heap} (hZ : Z.Warmed39 s.vm) {own C : String} {index : Nat} {y z : MethodName} (hown : s.vm.findClass own = some m.cls) {bytes : ByteArray} {maxL : Nat} {ret : Option FieldType} {rm : Room} {as' : Array Value} {Q : Option Value → Heap → List Loc → Prop} (w1 : (Jvm.Cond.methodLink own index y).before a0 Z = true) (w2 : (Jvm.Cond.declares y).before a0 Z = true) (hnf : NotFace s y) (w3 : (Jvm.Cond.selects C y z).before a0 Z = true) (w4 : (Jvm.Cond.instanceMethod z).before a0 Z = true) (w5 : (Jvm.Cond.initialized z.cls).before a0 Z = true) (w6 : (Jvm.Cond.code z bytes maxL ret).before a0 Z = true) (hy : y.cls ≠ "java/lang/invoke/MethodHandle" ∧ y.cls ≠ "java/lang/invoke/VarHandle")
    (hM : MetFree l z (head1 [Jvm.Cond.code z bytes maxL ret] rm) (fun a U => a = as' ∧ Z.Warmed39 U.vm ∧ U.heap = h) (fun _ _ _ _ _ => True) (fun _ U o U' => ∃ v L, o = .returned v ∧ Q v U'.heap L ∧ FrameEnd U o U' L rm.cells rm.slots)) (eT : T.heap = h) (W : Nat) (hf : rm.frames + 1 ≤ R.frames) (hl : W + (maxL + 11) + rm.locals ≤ R.locals) (hc : cells + rm.cells ≤ R.cells) (hs : slots + rm.slots ≤ R.slots) {g : JFrame} (hg : g.method = m) (hsize : g.locals.size = c.maxLocals) (a : Addr) (E : Exa Z h a C) (argsL rest : List Value) (ha : (.ref a :: argsL).toArray = as') (hlen : ∀ sig, parseMethodDescriptor y.desc = some sig → argsL.length = sig.parameters.length) (hstack : g.stack = argsL.reverse ++ .ref a :: rest) (hW : 2 * g.monitorRoom + (rest.map fun v => v.category).sum ≤ W) (hd : decode c.code g.pc = .ok (.invokevirtual index, 3)) :
    ∃ (T' : State) (L : List Loc) (v : Option Value), Stand p l e R s m args below meth c T' (locs ++ L) (cells + rm.cells) (slots + rm.slots) ∧ Q v T'.heap L ∧ ∀ t, Steps p.tables e below (T'.setTop { g with pc := g.pc + 3, stack := v.toList ++ rest }) t → Steps p.tables e below (T.setTop g) t := by
  obtain ⟨cq, kq, qa, qb, qc⟩ := isOf hZ eT E
  obtain ⟨v, _, ⟨T', L', k', n'⟩, -, X', ⟨L, hQ, h2, h3, h4⟩, st⟩ := X.virtualBack hx (y := y) (z := z) hown (mvT hZ w1) (mvT hZ w2) hnf (mvT hZ w3) (mvT hZ w4) hy (backOf (W := W) hM hZ w6 w5 hf hl) qa qc (g := g) hg hsize (Steps.refl _) (argsL := argsL) (rest := rest) hlen hstack hW hd (fun _ _ => ⟨ha, eT, hc, hs⟩)
  dsimp only [Pt.U, Pt.locs, Pt.cells, Pt.slots] at X' h2 h3 h4 st hQ
  subst h2 h3 h4
  exact ⟨T', L, v, X', hQ, fun t k => st.trans k⟩
theorem own_callF (X : Stand p l e R s m args below meth c T locs cells slots) (hx : p.tables.exec = Jvm.exec) {Z : State} {a0 : Array Value} {h : Heap} (hZ : Z.Warmed39 s.vm) {own C : String} {index count : Nat} {y z : MethodName} (hown : s.vm.findClass own = some m.cls) {bytes : ByteArray} {maxL : Nat} {ret : Option FieldType} {rm : Room} {as' : Array Value} {Q : Option Value → Heap → List Loc → Prop} (w1 : (Jvm.Cond.methodLink own index y).before a0 Z = true) (w2 : (Jvm.Cond.declares y).before a0 Z = true) (w3 : (Jvm.Cond.interfaceMethod y.cls y.cls y.name y.desc).before a0 Z = true) (w4 : (Jvm.Cond.selects C y z).before a0 Z = true) (w5 : (Jvm.Cond.instanceMethod z).before a0 Z = true) (w6 : (Jvm.Cond.publicMethod z).before a0 Z = true) (w7 : (Jvm.Cond.unhidden C y.name y.desc).before a0 Z = true) (w8 : (Jvm.Cond.castable C y.cls).before a0 Z = true) (w9 : (Jvm.Cond.initialized z.cls).before a0 Z = true) (w10 : (Jvm.Cond.code z bytes maxL ret).before a0 Z = true) (hy : y.cls ≠ "java/lang/invoke/MethodHandle" ∧ y.cls ≠ "java/lang/invoke/VarHandle")
    (hM : MetFree l z (head1 [Jvm.Cond.code z bytes maxL ret] rm) (fun a U => a = as' ∧ Z.Warmed39 U.vm ∧ U.heap = h) (fun _ _ _ _ _ => True) (fun _ U o U' => ∃ v L, o = .returned v ∧ Q v U'.heap L ∧ FrameEnd U o U' L rm.cells rm.slots)) (eT : T.heap = h) (W : Nat) (hf : rm.frames + 1 ≤ R.frames) (hl : W + (maxL + 11) + rm.locals ≤ R.locals) (hc : cells + rm.cells ≤ R.cells) (hs : slots + rm.slots ≤ R.slots) {g : JFrame} (hg : g.method = m) (hsize : g.locals.size = c.maxLocals) (a : Addr) (E : Exa Z h a C) (argsL rest : List Value) (ha : (.ref a :: argsL).toArray = as') (hlen : ∀ sig, parseMethodDescriptor y.desc = some sig → argsL.length = sig.parameters.length) (hstack : g.stack = argsL.reverse ++ .ref a :: rest) (hW : 2 * g.monitorRoom + (rest.map fun v => v.category).sum ≤ W) (hd : decode c.code g.pc = .ok (.invokeinterface index count, 5)) (hw3 : ((Jvm.Cond.interfaceMethod y.cls y.cls y.name y.desc).onTables && (Jvm.Cond.interfaceMethod y.cls y.cls y.name y.desc).keepsFace) = true := by first | rfl | simp [Cond.onTables, Cond.keepsFace, Cond.keeps, Cond.steady]) :
    ∃ (T' : State) (L : List Loc) (v : Option Value), Stand p l e R s m args below meth c T' (locs ++ L) (cells + rm.cells) (slots + rm.slots) ∧ Q v T'.heap L ∧ ∀ t, Steps p.tables e below (T'.setTop { g with pc := g.pc + 5, stack := v.toList ++ rest }) t → Steps p.tables e below (T.setTop g) t := by
  obtain ⟨cq, kq, qa, qb, qc⟩ := isOf hZ eT E
  obtain ⟨v, _, ⟨T', L', k', n'⟩, -, X', ⟨L, hQ, h2, h3, h4⟩, st⟩ := X.interfaceBack hx (xi := y) (y := z) hown (mvT hZ w1) (mvT hZ w2) (mvT hZ w3 hw3) (mvT hZ w4) (mvT hZ w5) (mvT hZ w6) (mvT hZ w7) (mvT hZ w8) hy (backOf (W := W) hM hZ w10 w9 hf hl) qa qb qc (g := g) hg hsize (Steps.refl _) (argsL := argsL) (rest := rest) hlen hstack hW hd (fun _ _ => ⟨ha, eT, hc, hs⟩)
  dsimp only [Pt.U, Pt.locs, Pt.cells, Pt.slots] at X' h2 h3 h4 st hQ
  subst h2 h3 h4
  exact ⟨T', L, v, X', hQ, fun t k => st.trans k⟩
theorem own_c1 {g g' : JFrame} {h : Heap} (h1 : ∃ T', Stand p l e R s m args below meth c T' locs cells slots ∧ T'.heap = h ∧ ∀ t, Steps p.tables e below (T'.setTop g') t → Steps p.tables e below (T.setTop g) t) (k : ∀ T', Stand p l e R s m args below meth c T' locs cells slots → T'.heap = h → own_Go p e below G (T'.setTop g')) : own_Go p e below G (T.setTop g) := by
  obtain ⟨T', X', e', st⟩ := h1
  exact own_by st (k T' X' e')
theorem own_c2 {g g' : JFrame} {h : Heap} {a : Addr} {sl : Nat} {v : Value} (h1 : ∃ T' h', Stand p l e R s m args below meth c T' (locs ++ [⟨a, sl⟩]) cells slots ∧ T'.heap = h' ∧ Wr h h' a sl v ∧ ∀ t, Steps p.tables e below (T'.setTop g') t → Steps p.tables e below (T.setTop g) t) (k : ∀ T' h', Stand p l e R s m args below meth c T' (locs ++ [⟨a, sl⟩]) cells slots → T'.heap = h' → Wr h h' a sl v → own_Go p e below G (T'.setTop g')) : own_Go p e below G (T.setTop g) := by
  obtain ⟨T', h', X', e', W, st⟩ := h1
  exact own_by st (k T' h' X' e' W)
theorem own_cc {g : JFrame} {c1 s1 : Nat} {Q : Option Value → Heap → List Loc → Prop} {f : Option Value → JFrame} (h1 : ∃ (T' : State) (L : List Loc) (v : Option Value), Stand p l e R s m args below meth c T' (locs ++ L) c1 s1 ∧ Q v T'.heap L ∧ ∀ t, Steps p.tables e below (T'.setTop (f v)) t → Steps p.tables e below (T.setTop g) t) (k : ∀ (T' : State) (L : List Loc) (v : Option Value), Stand p l e R s m args below meth c T' (locs ++ L) c1 s1 → Q v T'.heap L → own_Go p e below G (T'.setTop (f v))) : own_Go p e below G (T.setTop g) := by
  obtain ⟨T', L, v, X', hQ, st⟩ := h1
  exact own_by st (k T' L v X' hQ)
end OwnKit
theorem sn0 {Z : State} {a0 : Array Value} (hw : ∀ d ∈ tables_1, d.before a0 Z = true) : Jvm.RoadKit.slotOf Z "com/example/grantwright/grantwright/model/RetirementAlternative" "minServiceYears" "I" ≠ Jvm.RoadKit.slotOf Z "com/example/grantwright/grantwright/model/RetirementAlternative" "minAge" "I" := slot_ne (Or.inr (hw _ (List.mem_of_getElem? (i := 17) rfl))) (Or.inr (hw _ (List.mem_of_getElem? (i := 15) rfl))) (by decide) (t := .int) (t' := .int) (by decide) (by decide)
theorem sn1 {Z : State} {a0 : Array Value} (hw : ∀ d ∈ tables_1, d.before a0 Z = true) : Jvm.RoadKit.slotOf Z "com/example/grantwright/grantwright/model/RetirementAlternative" "minAge" "I" ≠ Jvm.RoadKit.slotOf Z "com/example/grantwright/grantwright/model/RetirementAlternative" "minServiceYears" "I" := slot_ne (Or.inr (hw _ (List.mem_of_getElem? (i := 15) rfl))) (Or.inr (hw _ (List.mem_of_getElem? (i := 17) rfl))) (by decide) (t := .int) (t' := .int) (by decide) (by decide)
theorem d2_0 : decode jdk_30_method_1_code 0 = .ok (.aload_n 0, 1) := by decide +kernel
theorem d2_1 : decode jdk_30_method_1_code 1 = .ok (.invokespecial 1, 3) := by decide +kernel
theorem d2_4 : decode jdk_30_method_1_code 4 = .ok (.return_, 1) := by decide +kernel
theorem pn_2 : plainName "java/lang/Record" = true := by first | (simp [plainName, overriddenIn]; done) | decide +kernel
theorem ef_2 (m : MethodId) (x0 : Addr) : entryFrame m #[(.ref x0)] 1 = mkF m 0 #[rv x0] [] := by first | (simp [entryFrame, mkF, argsToLocals, Value.category]; done) | rfl
def Q2 (Z : State) (o0 : Addr) (h0 : Heap) (n0 : Nat) (v : Option Value) (h : Heap) (L : List Loc) : Prop := v = none ∧ Fr n0 L ∧ h = h0
set_option maxRecDepth 65536 in
set_option maxHeartbeats 40000000 in
theorem rm2 (l : Launch) (Z : State) (a0 : Array Value) (hw : ∀ d ∈ tables_1, d.before a0 Z = true) (ws : List Jvm.Cond) (o0 : Addr) (h0 : Heap) (n0 : Nat) (Z0 : n0 ≤ h0.size) :
    MetFree l (⟨"java/lang/Record", "<init>", "()V"⟩ : MethodName) (head1 (Jvm.Cond.code (⟨"java/lang/Record", "<init>", "()V"⟩ : MethodName) jdk_30_method_1_code 1 none :: ws) ({ frames := 1, cells := 0, slots := 0, locals := 12 } : Room)) (fun a U => a = #[(.ref o0)] ∧ Z.Warmed39 U.vm ∧ U.heap = h0) (fun _ _ _ _ _ => True) (fun _ U o U' => ∃ v L, o = .returned v ∧ Q2 Z o0 h0 n0 v U'.heap L ∧ FrameEnd U o U' L ({ frames := 1, cells := 0, slots := 0, locals := 12 } : Room).cells ({ frames := 1, cells := 0, slots := 0, locals := 12 } : Room).slots) := by
  refine MetFree.of_bodySF (plainFor_of_name pn_2) hisR ?_
  intro p e s m args below meth c s₁ Bd hml0 hP hK
  obtain ⟨rfl, hZ, hh⟩ := hP
  have hx := Bd.exec
  have hby := Bd.bytes
  have hml : c.maxLocals = 1 := hml0
  have hown : s.vm.findClass "java/lang/Record" = some m.cls := findClass_of_methodNamed Bd.named
  have hnm := (name_of_methodNamed Bd.named Bd.method).1
  have X0 : Stand p l e ({ frames := 1, cells := 0, slots := 0, locals := 12 } : Room) s m #[(.ref o0)] below meth c s₁ [] 0 0 := Stand.of_body Bd
  have e0 : s₁.heap = h0 := by rw [← hh, Bd.state]; rfl
  have N0 := Fr.nil n0
  change own_Go p e below (own_Post s (Q2 Z o0 h0 n0) ({ frames := 1, cells := 0, slots := 0, locals := 12 } : Room).cells ({ frames := 1, cells := 0, slots := 0, locals := 12 } : Room).slots) (s₁.setTop (entryFrame m #[(.ref o0)] 1))
  refine own_by (fun t k => castTop (ef_2 m o0) k) ?_
  show own_Go p e below _ (s₁.setTop (mkF m 0 #[rv o0] []))
  refine own_by (B := s₁.setTop (mkF m 1 #[rv o0] [(.ref o0)])) (fun t k => ?_) ?_
  · show Steps p.tables e below (s₁.setTop (mkF m 0 #[rv o0] [])) _
    refine XS.aloadN X0.here hx rfl (hb hby d2_0) rfl rfl ?_
    show Steps p.tables e below (s₁.setTop (mkF m 1 #[rv o0] [(.ref o0)])) _
    exact k
  refine own_c1 (initO X0 hx hZ hown (hw _ (List.mem_of_getElem? (i := 11) rfl)) (hw _ (List.mem_of_getElem? (i := 12) rfl)) (hw _ (List.mem_of_getElem? (i := 13) rfl)) e0 rfl (by rw [hml]; rfl) rfl (hb hby d2_1) (by decide) (W := 0) (by show 2 * 0 + _ ≤ _; exact Nat.le_of_eq rfl) (by decide)) fun T2 X2 e2 => ?_
  show own_Go p e below _ (T2.setTop (mkF m 4 #[rv o0] []))
  exact own_retV X2 Bd.notSynchronized hx Bd.returns (hb hby d2_4) (by
      rw [show T2.heap = h0 from e2]
      exact ⟨rfl, N0, rfl⟩) (by decide) (by decide)

theorem d1_0 : decode prog_73_method_1_code 0 = .ok (.aload_n 0, 1) := by decide +kernel
theorem d1_1 : decode prog_73_method_1_code 1 = .ok (.invokespecial 1, 3) := by decide +kernel
theorem d1_4 : decode prog_73_method_1_code 4 = .ok (.aload_n 0, 1) := by decide +kernel
theorem d1_5 : decode prog_73_method_1_code 5 = .ok (.iload_n 1, 1) := by decide +kernel
theorem d1_6 : decode prog_73_method_1_code 6 = .ok (.putfield 7, 3) := by decide +kernel
theorem d1_9 : decode prog_73_method_1_code 9 = .ok (.aload_n 0, 1) := by decide +kernel
theorem d1_10 : decode prog_73_method_1_code 10 = .ok (.iload_n 2, 1) := by decide +kernel
theorem d1_11 : decode prog_73_method_1_code 11 = .ok (.putfield 13, 3) := by decide +kernel
theorem d1_14 : decode prog_73_method_1_code 14 = .ok (.return_, 1) := by decide +kernel
theorem pn_1 : plainName "com/example/grantwright/grantwright/model/RetirementAlternative" = true := by first | (simp [plainName, overriddenIn]; done) | decide +kernel
theorem pd_1 : parseMethodDescriptor "()V" = some ⟨[], none⟩ := by decide +kernel
theorem ef_1 (m : MethodId) (x0 : Addr) (x1 : Int32) (x2 : Int32) : entryFrame m #[(.ref x0), (.int x1), (.int x2)] 3 = mkF m 0 #[rv x0, iv x1, iv x2] [] := by first | (simp [entryFrame, mkF, argsToLocals, Value.category]; done) | rfl
def Q1 (Z : State) (o0 : Addr) (p1 : Int32) (p2 : Int32) (h0 : Heap) (n0 : Nat) (v : Option Value) (h : Heap) (L : List Loc) : Prop := v = none ∧ Fr n0 L ∧ Keep h0 h [o0] ∧ Exa Z h o0 "com/example/grantwright/grantwright/model/RetirementAlternative" ∧ Fld Z h o0 "com/example/grantwright/grantwright/model/RetirementAlternative" "minAge" "I" (.int p1) ∧ Fld Z h o0 "com/example/grantwright/grantwright/model/RetirementAlternative" "minServiceYears" "I" (.int p2)
set_option maxRecDepth 65536 in
set_option maxHeartbeats 40000000 in
theorem rm1 (l : Launch) (Z : State) (a0 : Array Value) (hw : ∀ d ∈ tables_1, d.before a0 Z = true) (ws : List Jvm.Cond) (o0 : Addr) (p1 : Int32) (p2 : Int32) (h0 : Heap) (n0 : Nat) (Z0 : n0 ≤ h0.size) (E_o0 : Exa Z h0 o0 "com/example/grantwright/grantwright/model/RetirementAlternative") (F_minAge_o0 : Fld Z h0 o0 "com/example/grantwright/grantwright/model/RetirementAlternative" "minAge" "I" (.int (0 : Int32))) (F_minServiceYears_o0 : Fld Z h0 o0 "com/example/grantwright/grantwright/model/RetirementAlternative" "minServiceYears" "I" (.int (0 : Int32))) (g_o0 : n0 ≤ o0) :
    MetFree l (⟨"com/example/grantwright/grantwright/model/RetirementAlternative", "<init>", "(II)V"⟩ : MethodName) (head1 (Jvm.Cond.code (⟨"com/example/grantwright/grantwright/model/RetirementAlternative", "<init>", "(II)V"⟩ : MethodName) prog_73_method_1_code 3 none :: ws) ({ frames := 2, cells := 0, slots := 0, locals := 24 } : Room)) (fun a U => a = #[(.ref o0), (.int p1), (.int p2)] ∧ Z.Warmed39 U.vm ∧ U.heap = h0) (fun _ _ _ _ _ => True) (fun _ U o U' => ∃ v L, o = .returned v ∧ Q1 Z o0 p1 p2 h0 n0 v U'.heap L ∧ FrameEnd U o U' L ({ frames := 2, cells := 0, slots := 0, locals := 24 } : Room).cells ({ frames := 2, cells := 0, slots := 0, locals := 24 } : Room).slots) := by
  refine MetFree.of_bodySF (plainFor_of_name pn_1) hisR ?_
  intro p e s m args below meth c s₁ Bd hml0 hP hK
  obtain ⟨rfl, hZ, hh⟩ := hP
  have hx := Bd.exec
  have hby := Bd.bytes
  have hml : c.maxLocals = 3 := hml0
  have hown : s.vm.findClass "com/example/grantwright/grantwright/model/RetirementAlternative" = some m.cls := findClass_of_methodNamed Bd.named
  have hnm := (name_of_methodNamed Bd.named Bd.method).1
  have X0 : Stand p l e ({ frames := 2, cells := 0, slots := 0, locals := 24 } : Room) s m #[(.ref o0), (.int p1), (.int p2)] below meth c s₁ [] 0 0 := Stand.of_body Bd
  have e0 : s₁.heap = h0 := by rw [← hh, Bd.state]; rfl
  have N0 := Fr.nil n0
  have K0 : Keep h0 h0 [o0] := Keep.refl h0 _
  change own_Go p e below (own_Post s (Q1 Z o0 p1 p2 h0 n0) ({ frames := 2, cells := 0, slots := 0, locals := 24 } : Room).cells ({ frames := 2, cells := 0, slots := 0, locals := 24 } : Room).slots) (s₁.setTop (entryFrame m #[(.ref o0), (.int p1), (.int p2)] 3))
  refine own_by (fun t k => castTop (ef_1 m o0 p1 p2) k) ?_
  show own_Go p e below _ (s₁.setTop (mkF m 0 #[rv o0, iv p1, iv p2] []))
  refine own_by (B := s₁.setTop (mkF m 1 #[rv o0, iv p1, iv p2] [(.ref o0)])) (fun t k => ?_) ?_
  · show Steps p.tables e below (s₁.setTop (mkF m 0 #[rv o0, iv p1, iv p2] [])) _
    refine XS.aloadN X0.here hx rfl (hb hby d1_0) rfl rfl ?_
    show Steps p.tables e below (s₁.setTop (mkF m 1 #[rv o0, iv p1, iv p2] [(.ref o0)])) _
    exact k
  refine own_cc (own_callI X0 hx hZ (y := (⟨"java/lang/Record", "<init>", "()V"⟩ : MethodName)) rfl hown (hw _ (List.mem_of_getElem? (i := 6) rfl)) (hw _ (List.mem_of_getElem? (i := 7) rfl)) (hw _ (List.mem_of_getElem? (i := 9) rfl)) (hw _ (List.mem_of_getElem? (i := 10) rfl)) (by decide) (rm2 l Z a0 hw [] o0 h0 n0 Z0 ) e0 0 (by decide) (by decide) (by decide) (by decide) rfl (by rw [hml]; rfl) o0 [] [] rfl (lenOf pd_1 rfl) rfl (by show 2 * 0 + _ ≤ _; exact Nat.le_of_eq rfl) (hb hby d1_1)) fun T2 L2 v2 X2 hQ2 => ?_
  obtain ⟨rfl, N2, e2⟩ := hQ2
  replace N0 := Fr.app N0 N2
  show own_Go p e below _ (T2.setTop (mkF m 4 #[rv o0, iv p1, iv p2] []))
  refine own_by (B := T2.setTop (mkF m 6 #[rv o0, iv p1, iv p2] [(.int p1), (.ref o0)])) (fun t k => ?_) ?_
  · show Steps p.tables e below (T2.setTop (mkF m 4 #[rv o0, iv p1, iv p2] [])) _
    refine XS.aloadN X2.here hx rfl (hb hby d1_4) rfl rfl ?_
    show Steps p.tables e below (T2.setTop (mkF m 5 #[rv o0, iv p1, iv p2] [(.ref o0)])) _
    refine XS.iloadN X2.here hx rfl (hb hby d1_5) rfl ?_
    show Steps p.tables e below (T2.setTop (mkF m 6 #[rv o0, iv p1, iv p2] [(.int p1), (.ref o0)])) _
    exact k
  refine own_c2 (putF X2 hx hZ hown (host := "") (Or.inl (hw _ (List.mem_of_getElem? (i := 14) rfl))) Via.refl e2 F_minAge_o0 E_o0 (Or.inr ⟨(hw _ (List.mem_of_getElem? (i := 15) rfl)), rfl, hnm⟩) (hw _ (List.mem_of_getElem? (i := 1) rfl)) (ty := .int) (by decide) rfl rfl rfl rfl (hb hby d1_6)) fun T3 h3 X3 e3 W3 => ?_
  replace F_minAge_o0 := F_minAge_o0.same W3
  replace E_o0 := E_o0.wr W3
  replace F_minServiceYears_o0 := F_minServiceYears_o0.other W3 (Or.inr (sn0 hw))
  replace K0 := K0.wr W3 (Or.inl (List.mem_of_getElem? (i := 0) rfl))
  replace Z0 := Nat.le_trans Z0 (Keep.of_wr W3).1
  replace N0 := Fr.snoc X3 N0 g_o0
  show own_Go p e below _ (T3.setTop (mkF m 9 #[rv o0, iv p1, iv p2] []))
  refine own_by (B := T3.setTop (mkF m 11 #[rv o0, iv p1, iv p2] [(.int p2), (.ref o0)])) (fun t k => ?_) ?_
  · show Steps p.tables e below (T3.setTop (mkF m 9 #[rv o0, iv p1, iv p2] [])) _
    refine XS.aloadN X3.here hx rfl (hb hby d1_9) rfl rfl ?_
    show Steps p.tables e below (T3.setTop (mkF m 10 #[rv o0, iv p1, iv p2] [(.ref o0)])) _
    refine XS.iloadN X3.here hx rfl (hb hby d1_10) rfl ?_
    show Steps p.tables e below (T3.setTop (mkF m 11 #[rv o0, iv p1, iv p2] [(.int p2), (.ref o0)])) _
    exact k
  refine own_c2 (putF X3 hx hZ hown (host := "") (Or.inl (hw _ (List.mem_of_getElem? (i := 16) rfl))) Via.refl e3 F_minServiceYears_o0 E_o0 (Or.inr ⟨(hw _ (List.mem_of_getElem? (i := 17) rfl)), rfl, hnm⟩) (hw _ (List.mem_of_getElem? (i := 1) rfl)) (ty := .int) (by decide) rfl rfl rfl rfl (hb hby d1_11)) fun T4 h4 X4 e4 W4 => ?_
  replace F_minServiceYears_o0 := F_minServiceYears_o0.same W4
  replace E_o0 := E_o0.wr W4
  replace F_minAge_o0 := F_minAge_o0.other W4 (Or.inr (sn1 hw))
  replace K0 := K0.wr W4 (Or.inl (List.mem_of_getElem? (i := 0) rfl))
  replace Z0 := Nat.le_trans Z0 (Keep.of_wr W4).1
  replace N0 := Fr.snoc X4 N0 g_o0
  show own_Go p e below _ (T4.setTop (mkF m 14 #[rv o0, iv p1, iv p2] []))
  exact own_retV X4 Bd.notSynchronized hx Bd.returns (hb hby d1_14) (by
      rw [show T4.heap = h4 from e4]
      exact ⟨rfl, N0, K0, E_o0, F_minAge_o0, F_minServiceYears_o0⟩) (by decide) (by decide)

def fh (p1 : Int32) (p2 : Int32) (w1 : Int32) (w2 : Int32) : Int32 := (if p1 < w1 then (nar .boolean (0 : Int32)) else (nar .boolean (if p2 < w2 then (0 : Int32) else (1 : Int32))))
theorem d4_0 : decode prog_73_method_2_code 0 = .ok (.iload_n 1, 1) := by decide +kernel
theorem d4_1 : decode prog_73_method_2_code 1 = .ok (.aload_n 0, 1) := by decide +kernel
theorem d4_2 : decode prog_73_method_2_code 2 = .ok (.getfield 7, 3) := by decide +kernel
theorem d4_5 : decode prog_73_method_2_code 5 = .ok (.if_icmp .lt 15, 3) := by decide +kernel
theorem d4_8 : decode prog_73_method_2_code 8 = .ok (.iload_n 2, 1) := by decide +kernel
theorem d4_9 : decode prog_73_method_2_code 9 = .ok (.aload_n 0, 1) := by decide +kernel
theorem d4_10 : decode prog_73_method_2_code 10 = .ok (.getfield 13, 3) := by decide +kernel
theorem d4_13 : decode prog_73_method_2_code 13 = .ok (.if_icmp .lt 7, 3) := by decide +kernel
theorem d4_16 : decode prog_73_method_2_code 16 = .ok (.iconst 1, 1) := by decide +kernel
theorem d4_17 : decode prog_73_method_2_code 17 = .ok (.goto 4, 3) := by decide +kernel
theorem d4_20 : decode prog_73_method_2_code 20 = .ok (.iconst 0, 1) := by decide +kernel
theorem d4_21 : decode prog_73_method_2_code 21 = .ok (.ireturn, 1) := by decide +kernel
theorem pn_4 : plainName "com/example/grantwright/grantwright/model/RetirementAlternative" = true := by first | (simp [plainName, overriddenIn]; done) | decide +kernel
theorem ef_4 (m : MethodId) (x0 : Addr) (x1 : Int32) (x2 : Int32) : entryFrame m #[(.ref x0), (.int x1), (.int x2)] 3 = mkF m 0 #[rv x0, iv x1, iv x2] [] := by first | (simp [entryFrame, mkF, argsToLocals, Value.category]; done) | rfl
def Q4 (Z : State) (o0 : Addr) (p1 : Int32) (p2 : Int32) (w1 : Int32) (w2 : Int32) (h0 : Heap) (n0 : Nat) (v : Option Value) (h : Heap) (L : List Loc) : Prop := v = some (.int (fh p1 p2 w1 w2)) ∧ Fr n0 L ∧ h = h0
set_option maxRecDepth 65536 in
set_option maxHeartbeats 40000000 in
theorem rm4 (l : Launch) (Z : State) (a0 : Array Value) (hw : ∀ d ∈ tables_1, d.before a0 Z = true) (ws : List Jvm.Cond) (o0 : Addr) (p1 : Int32) (p2 : Int32) (w1 : Int32) (w2 : Int32) (h0 : Heap) (n0 : Nat) (Z0 : n0 ≤ h0.size) (F_minAge_o0 : Fld Z h0 o0 "com/example/grantwright/grantwright/model/RetirementAlternative" "minAge" "I" (.int w1)) (F_minServiceYears_o0 : Fld Z h0 o0 "com/example/grantwright/grantwright/model/RetirementAlternative" "minServiceYears" "I" (.int w2)) :
    MetFree l (⟨"com/example/grantwright/grantwright/model/RetirementAlternative", "heldBy", "(II)Z"⟩ : MethodName) (head1 (Jvm.Cond.code (⟨"com/example/grantwright/grantwright/model/RetirementAlternative", "heldBy", "(II)Z"⟩ : MethodName) prog_73_method_2_code 3 (some .boolean) :: ws) ({ frames := 0, cells := 0, slots := 0, locals := 0 } : Room)) (fun a U => a = #[(.ref o0), (.int p1), (.int p2)] ∧ Z.Warmed39 U.vm ∧ U.heap = h0) (fun _ _ _ _ _ => True) (fun _ U o U' => ∃ v L, o = .returned v ∧ Q4 Z o0 p1 p2 w1 w2 h0 n0 v U'.heap L ∧ FrameEnd U o U' L ({ frames := 0, cells := 0, slots := 0, locals := 0 } : Room).cells ({ frames := 0, cells := 0, slots := 0, locals := 0 } : Room).slots) := by
  refine MetFree.of_bodySF (plainFor_of_name pn_4) hisR ?_
  intro p e s m args below meth c s₁ Bd hml0 hP hK
  obtain ⟨rfl, hZ, hh⟩ := hP
  have hx := Bd.exec
  have hby := Bd.bytes
  have hml : c.maxLocals = 3 := hml0
  have hown : s.vm.findClass "com/example/grantwright/grantwright/model/RetirementAlternative" = some m.cls := findClass_of_methodNamed Bd.named
  have hnm := (name_of_methodNamed Bd.named Bd.method).1
  have X0 : Stand p l e ({ frames := 0, cells := 0, slots := 0, locals := 0 } : Room) s m #[(.ref o0), (.int p1), (.int p2)] below meth c s₁ [] 0 0 := Stand.of_body Bd
  have e0 : s₁.heap = h0 := by rw [← hh, Bd.state]; rfl
  have N0 := Fr.nil n0
  change own_Go p e below (own_Post s (Q4 Z o0 p1 p2 w1 w2 h0 n0) ({ frames := 0, cells := 0, slots := 0, locals := 0 } : Room).cells ({ frames := 0, cells := 0, slots := 0, locals := 0 } : Room).slots) (s₁.setTop (entryFrame m #[(.ref o0), (.int p1), (.int p2)] 3))
  refine own_by (fun t k => castTop (ef_4 m o0 p1 p2) k) ?_
  show own_Go p e below _ (s₁.setTop (mkF m 0 #[rv o0, iv p1, iv p2] []))
  refine own_by (B := s₁.setTop (mkF m 2 #[rv o0, iv p1, iv p2] [(.ref o0), (.int p1)])) (fun t k => ?_) ?_
  · show Steps p.tables e below (s₁.setTop (mkF m 0 #[rv o0, iv p1, iv p2] [])) _
    refine XS.iloadN X0.here hx rfl (hb hby d4_0) rfl ?_
    show Steps p.tables e below (s₁.setTop (mkF m 1 #[rv o0, iv p1, iv p2] [(.int p1)])) _
    refine XS.aloadN X0.here hx rfl (hb hby d4_1) rfl rfl ?_
    show Steps p.tables e below (s₁.setTop (mkF m 2 #[rv o0, iv p1, iv p2] [(.ref o0), (.int p1)])) _
    exact k
  refine own_c1 (getF X0 hx hZ hown (host := "") (Or.inl (hw _ (List.mem_of_getElem? (i := 14) rfl))) Via.refl e0 F_minAge_o0 rfl rfl (hb hby d4_2)) fun T1 X1 e1 => ?_
  show own_Go p e below _ (T1.setTop (mkF m 5 #[rv o0, iv p1, iv p2] [(.int w1), (.int p1)]))
  by_cases hc3 : p1 < w1
  · skip
    refine own_by (fun t k => XS.icmpYes X1.here hx rfl (pc0 := 5) (pc' := 20) rfl (hb hby d4_5) rfl (tlt hc3).1 (by decide) (by decide) k) ?_
    show own_Go p e below _ (T1.setTop (mkF m 20 #[rv o0, iv p1, iv p2] []))
    refine own_by (B := T1.setTop (mkF m 21 #[rv o0, iv p1, iv p2] [(.int (0 : Int32))])) (fun t k => ?_) ?_
    · show Steps p.tables e below (T1.setTop (mkF m 20 #[rv o0, iv p1, iv p2] [])) _
      refine XS.iconst X1.here hx rfl (hb hby d4_20) ?_
      show Steps p.tables e below (T1.setTop (mkF m 21 #[rv o0, iv p1, iv p2] [(.int (0 : Int32))])) _
      exact k
    exact own_retN X1 Bd.notSynchronized hx (t := .boolean) Bd.returns (by simp) (hb hby d4_21) (by
        rw [show T1.heap = h0 from e1]
        exact ⟨congrArg (fun z => some (Value.int z)) (show nar .boolean (0 : Int32) = (fh p1 p2 w1 w2) from (by simp only [fh, if_pos hc3])), N0, rfl⟩) (by decide) (by decide)
  · skip
    refine own_by (fun t k => XS.icmpNo X1.here hx rfl (hb hby d4_5) rfl (flt hc3).1 k) ?_
    show own_Go p e below _ (T1.setTop (mkF m 8 #[rv o0, iv p1, iv p2] []))
    refine own_by (B := T1.setTop (mkF m 10 #[rv o0, iv p1, iv p2] [(.ref o0), (.int p2)])) (fun t k => ?_) ?_
    · show Steps p.tables e below (T1.setTop (mkF m 8 #[rv o0, iv p1, iv p2] [])) _
      refine XS.iloadN X1.here hx rfl (hb hby d4_8) rfl ?_
      show Steps p.tables e below (T1.setTop (mkF m 9 #[rv o0, iv p1, iv p2] [(.int p2)])) _
      refine XS.aloadN X1.here hx rfl (hb hby d4_9) rfl rfl ?_
      show Steps p.tables e below (T1.setTop (mkF m 10 #[rv o0, iv p1, iv p2] [(.ref o0), (.int p2)])) _
      exact k
    refine own_c1 (getF X1 hx hZ hown (host := "") (Or.inl (hw _ (List.mem_of_getElem? (i := 16) rfl))) Via.refl e1 F_minServiceYears_o0 rfl rfl (hb hby d4_10)) fun T4 X4 e4 => ?_
    show own_Go p e below _ (T4.setTop (mkF m 13 #[rv o0, iv p1, iv p2] [(.int w2), (.int p2)]))
    refine own_by (B := T4.setTop (mkF m 21 #[rv o0, iv p1, iv p2] [(.int (if p2 < w2 then (0 : Int32) else (1 : Int32)))])) (fun t k => ?_) ?_
    · show Steps p.tables e below (T4.setTop (mkF m 13 #[rv o0, iv p1, iv p2] [(.int w2), (.int p2)])) _
      refine (fun t (k : Steps p.tables e below (T4.setTop (mkF m 21 #[rv o0, iv p1, iv p2] [(.int (if p2 < w2 then (0 : Int32) else (1 : Int32)))])) t) => (?_ : Steps p.tables e below _ t)) _ ?_
      · by_cases hc5 : p2 < w2
        · simp only [if_pos hc5] at k
          refine XS.icmpYes X4.here hx rfl (pc0 := 13) (pc' := 20) rfl (hb hby d4_13) rfl (tlt hc5).1 (by decide) (by decide) ?_
          show Steps p.tables e below (T4.setTop (mkF m 20 #[rv o0, iv p1, iv p2] [])) _
          refine XS.iconst X4.here hx rfl (hb hby d4_20) ?_
          show Steps p.tables e below (T4.setTop (mkF m 21 #[rv o0, iv p1, iv p2] [(.int (0 : Int32))])) _
          exact k
        · simp only [if_neg hc5] at k
          refine XS.icmpNo X4.here hx rfl (hb hby d4_13) rfl (flt hc5).1 ?_
          show Steps p.tables e below (T4.setTop (mkF m 16 #[rv o0, iv p1, iv p2] [])) _
          refine XS.iconst X4.here hx rfl (hb hby d4_16) ?_
          show Steps p.tables e below (T4.setTop (mkF m 17 #[rv o0, iv p1, iv p2] [(.int (1 : Int32))])) _
          refine XS.goto X4.here hx rfl (pc0 := 17) (pc' := 21) rfl (hb hby d4_17) (by decide) (by decide) ?_
          show Steps p.tables e below (T4.setTop (mkF m 21 #[rv o0, iv p1, iv p2] [(.int (1 : Int32))])) _
          exact k
      show Steps p.tables e below (T4.setTop (mkF m 21 #[rv o0, iv p1, iv p2] [(.int (if p2 < w2 then (0 : Int32) else (1 : Int32)))])) _
      exact k
    exact own_retN X4 Bd.notSynchronized hx (t := .boolean) Bd.returns (by simp) (hb hby d4_21) (by
        rw [show T4.heap = h0 from e4]
        exact ⟨congrArg (fun z => some (Value.int z)) (show nar .boolean (if p2 < w2 then (0 : Int32) else (1 : Int32)) = (fh p1 p2 w1 w2) from (by simp only [fh, if_neg hc3])), N0, rfl⟩) (by decide) (by decide)

theorem own_ge (x y : Int32) : x.toInt64 - y.toInt64 < (0 : Int64) ↔ x < y := by
  have a := rng32 x
  have b := rng32 y
  have c := c_lsub x.toInt64 y.toInt64
  have d := rng64 (x.toInt64 - y.toInt64)
  have e := c_i2l x
  have f := c_i2l y
  have ez : (0 : Int64).toInt = 0 := by decide
  rw [Int64.lt_iff_toInt_lt, Int32.lt_iff_toInt_lt]
  omega
theorem own_law (x y u v : Int32) : fh x y u v = (if (if x.toInt64 - u.toInt64 < (0 : Int64) then (0 : Int32) else (1 : Int32)) = (0 : Int32) then (0 : Int32) else (if (if y.toInt64 - v.toInt64 < (0 : Int64) then (0 : Int32) else (1 : Int32)) = (0 : Int32) then (0 : Int32) else (1 : Int32))) := by
  unfold fh
  simp only [own_ge]
  by_cases h1 : x < u
  · simp only [if_pos h1]; rfl
  · simp only [if_neg h1]
    by_cases h2 : y < v
    · simp only [if_pos h2]; rfl
    · simp only [if_neg h2]; rfl

theorem pn_0 : plainName "com/example/grantwright/grantwright/model/RetirementAlternativeHeldByPinLaw" = true := by first | (simp [plainName, overriddenIn]; done) | decide +kernel
theorem pd_0 : parseMethodDescriptor "(II)V" = some ⟨[.int, .int], none⟩ := by decide +kernel
theorem pd_2 : parseMethodDescriptor "(II)Z" = some ⟨[.int, .int], some .boolean⟩ := by decide +kernel
theorem ef_0 (m : MethodId) (x0 : Int32) (x1 : Int32) (x2 : Int32) (x3 : Int32) (x4 : Int32) (x5 : Int32) : entryFrame m #[(.int x0), (.int x1), (.int x2), (.int x3), (.int x4), (.int x5)] maxLocals = mkF m 0 #[iv x0, iv x1, iv x2, iv x3, iv x4, iv x5, oU, oU, oU, oU, oU, oU, oU] [] := by first | (simp [entryFrame, mkF, argsToLocals, Value.category, maxLocals]; done) | rfl
def Q0 (Z : State) (p0 : Int32) (p1 : Int32) (p2 : Int32) (p3 : Int32) (p4 : Int32) (p5 : Int32) (h0 : Heap) (n0 : Nat) (v : Option Value) (h : Heap) (L : List Loc) : Prop := v = some (.int (1 : Int32)) ∧ Fr n0 L
set_option maxRecDepth 65536 in
set_option maxHeartbeats 40000000 in
theorem rm0 (l : Launch) (Z : State) (a0 : Array Value) (hw : ∀ d ∈ tables_1, d.before a0 Z = true) (ws : List Jvm.Cond) (p0 : Int32) (p1 : Int32) (p2 : Int32) (p3 : Int32) (p4 : Int32) (p5 : Int32) (h0 : Heap) (n0 : Nat) (Z0 : n0 ≤ h0.size) :
    MetFree l x (head1 (Jvm.Cond.code x code maxLocals ret :: ws) room_1) (fun a U => a = #[(.int p0), (.int p1), (.int p2), (.int p3), (.int p4), (.int p5)] ∧ Z.Warmed39 U.vm ∧ U.heap = h0) (fun _ _ _ _ _ => True) (fun _ U o U' => ∃ v L, o = .returned v ∧ Q0 Z p0 p1 p2 p3 p4 p5 h0 n0 v U'.heap L ∧ FrameEnd U o U' L room_1.cells room_1.slots) := by
  refine MetFree.of_bodySF (plainFor_of_name pn_0) hisR ?_
  intro p e s m args below meth c s₁ Bd hml0 hP hK
  obtain ⟨rfl, hZ, hh⟩ := hP
  have hx := Bd.exec
  have hby := Bd.bytes
  have hml : c.maxLocals = 13 := hml0
  have hown : s.vm.findClass "com/example/grantwright/grantwright/model/RetirementAlternativeHeldByPinLaw" = some m.cls := findClass_of_methodNamed Bd.named
  have hnm := (name_of_methodNamed Bd.named Bd.method).1
  have X0 : Stand p l e room_1 s m #[(.int p0), (.int p1), (.int p2), (.int p3), (.int p4), (.int p5)] below meth c s₁ [] 0 0 := Stand.of_body Bd
  have e0 : s₁.heap = h0 := by rw [← hh, Bd.state]; rfl
  have N0 := Fr.nil n0
  change own_Go p e below (own_Post s (Q0 Z p0 p1 p2 p3 p4 p5 h0 n0) room_1.cells room_1.slots) (s₁.setTop (entryFrame m #[(.int p0), (.int p1), (.int p2), (.int p3), (.int p4), (.int p5)] maxLocals))
  refine own_by (fun t k => castTop (ef_0 m p0 p1 p2 p3 p4 p5) k) ?_
  show own_Go p e below _ (s₁.setTop (mkF m 0 #[iv p0, iv p1, iv p2, iv p3, iv p4, iv p5, oU, oU, oU, oU, oU, oU, oU] []))
  refine own_by (B := s₁.setTop (mkF m 38 #[iv p0, iv p1, iv p2, iv p3, iv p4, iv p5, iv (if (p4 &&& (1 : Int32)) = (0 : Int32) then p0 else (p2 + (p5 % (2 : Int32)))), iv (if (p4 &&& (2 : Int32)) = (0 : Int32) then p1 else (p3 + ((p5 >>> ((4 : Int32) &&& 31)) % (2 : Int32)))), oU, oU, oU, oU, oU] [])) (fun t k => ?_) ?_
  · show Steps p.tables e below (s₁.setTop (mkF m 0 #[iv p0, iv p1, iv p2, iv p3, iv p4, iv p5, oU, oU, oU, oU, oU, oU, oU] [])) _
    refine XS.iloadN X0.here hx rfl (hb hby at_0) rfl ?_
    show Steps p.tables e below (s₁.setTop (mkF m 1 #[iv p0, iv p1, iv p2, iv p3, iv p4, iv p5, oU, oU, oU, oU, oU, oU, oU] [(.int p0)])) _
    refine XS.istore X0.here hx rfl (hb hby at_1) rfl (l' := #[iv p0, iv p1, iv p2, iv p3, iv p4, iv p5, iv p0, oU, oU, oU, oU, oU, oU]) rfl ?_
    show Steps p.tables e below (s₁.setTop (mkF m 3 #[iv p0, iv p1, iv p2, iv p3, iv p4, iv p5, iv p0, oU, oU, oU, oU, oU, oU] [])) _
    refine XS.iloadN X0.here hx rfl (hb hby at_3) rfl ?_
    show Steps p.tables e below (s₁.setTop (mkF m 4 #[iv p0, iv p1, iv p2, iv p3, iv p4, iv p5, iv p0, oU, oU, oU, oU, oU, oU] [(.int p1)])) _
    refine XS.istore X0.here hx rfl (hb hby at_4) rfl (l' := #[iv p0, iv p1, iv p2, iv p3, iv p4, iv p5, iv p0, iv p1, oU, oU, oU, oU, oU]) rfl ?_
    show Steps p.tables e below (s₁.setTop (mkF m 6 #[iv p0, iv p1, iv p2, iv p3, iv p4, iv p5, iv p0, iv p1, oU, oU, oU, oU, oU] [])) _
    refine XS.iload X0.here hx rfl (hb hby at_6) rfl ?_
    show Steps p.tables e below (s₁.setTop (mkF m 8 #[iv p0, iv p1, iv p2, iv p3, iv p4, iv p5, iv p0, iv p1, oU, oU, oU, oU, oU] [(.int p4)])) _
    refine XS.iconst X0.here hx rfl (hb hby at_8) ?_
    show Steps p.tables e below (s₁.setTop (mkF m 9 #[iv p0, iv p1, iv p2, iv p3, iv p4, iv p5, iv p0, iv p1, oU, oU, oU, oU, oU] [(.int (1 : Int32)), (.int p4)])) _
    refine XS.iand X0.here hx rfl (hb hby at_9) rfl ?_
    show Steps p.tables e below (s₁.setTop (mkF m 10 #[iv p0, iv p1, iv p2, iv p3, iv p4, iv p5, iv p0, iv p1, oU, oU, oU, oU, oU] [(.int (p4 &&& (1 : Int32)))])) _
    refine (fun t (k : Steps p.tables e below (s₁.setTop (mkF m 21 #[iv p0, iv p1, iv p2, iv p3, iv p4, iv p5, iv (if (p4 &&& (1 : Int32)) = (0 : Int32) then p0 else (p2 + (p5 % (2 : Int32)))), iv p1, oU, oU, oU, oU, oU] [])) t) => (?_ : Steps p.tables e below _ t)) _ ?_
    · by_cases hc1 : (p4 &&& (1 : Int32)) = (0 : Int32)
      · simp only [if_pos hc1] at k
        refine XS.ifYes X0.here hx rfl (pc0 := 10) (pc' := 21) rfl (hb hby at_10) rfl ((if0 _ _).trans (teq hc1).1) (by decide) (by decide) ?_
        show Steps p.tables e below (s₁.setTop (mkF m 21 #[iv p0, iv p1, iv p2, iv p3, iv p4, iv p5, iv p0, iv p1, oU, oU, oU, oU, oU] [])) _
        exact k
      · simp only [if_neg hc1] at k
        refine XS.ifNo X0.here hx rfl (hb hby at_10) rfl ((if0 _ _).trans (feq hc1).1) ?_
        show Steps p.tables e below (s₁.setTop (mkF m 13 #[iv p0, iv p1, iv p2, iv p3, iv p4, iv p5, iv p0, iv p1, oU, oU, oU, oU, oU] [])) _
        refine XS.iloadN X0.here hx rfl (hb hby at_13) rfl ?_
        show Steps p.tables e below (s₁.setTop (mkF m 14 #[iv p0, iv p1, iv p2, iv p3, iv p4, iv p5, iv p0, iv p1, oU, oU, oU, oU, oU] [(.int p2)])) _
        refine XS.iload X0.here hx rfl (hb hby at_14) rfl ?_
        show Steps p.tables e below (s₁.setTop (mkF m 16 #[iv p0, iv p1, iv p2, iv p3, iv p4, iv p5, iv p0, iv p1, oU, oU, oU, oU, oU] [(.int p5), (.int p2)])) _
        refine XS.iconst X0.here hx rfl (hb hby at_16) ?_
        show Steps p.tables e below (s₁.setTop (mkF m 17 #[iv p0, iv p1, iv p2, iv p3, iv p4, iv p5, iv p0, iv p1, oU, oU, oU, oU, oU] [(.int (2 : Int32)), (.int p5), (.int p2)])) _
        refine iremM X0 hx rfl (hb hby at_17) rfl (by decide) ?_
        show Steps p.tables e below (s₁.setTop (mkF m 18 #[iv p0, iv p1, iv p2, iv p3, iv p4, iv p5, iv p0, iv p1, oU, oU, oU, oU, oU] [(.int (p5 % (2 : Int32))), (.int p2)])) _
        refine XS.iadd X0.here hx rfl (hb hby at_18) rfl ?_
        show Steps p.tables e below (s₁.setTop (mkF m 19 #[iv p0, iv p1, iv p2, iv p3, iv p4, iv p5, iv p0, iv p1, oU, oU, oU, oU, oU] [(.int (p2 + (p5 % (2 : Int32))))])) _
        refine XS.istore X0.here hx rfl (hb hby at_19) rfl (l' := #[iv p0, iv p1, iv p2, iv p3, iv p4, iv p5, iv (p2 + (p5 % (2 : Int32))), iv p1, oU, oU, oU, oU, oU]) rfl ?_
        show Steps p.tables e below (s₁.setTop (mkF m 21 #[iv p0, iv p1, iv p2, iv p3, iv p4, iv p5, iv (p2 + (p5 % (2 : Int32))), iv p1, oU, oU, oU, oU, oU] [])) _
        exact k
    show Steps p.tables e below (s₁.setTop (mkF m 21 #[iv p0, iv p1, iv p2, iv p3, iv p4, iv p5, iv (if (p4 &&& (1 : Int32)) = (0 : Int32) then p0 else (p2 + (p5 % (2 : Int32)))), iv p1, oU, oU, oU, oU, oU] [])) _
    refine XS.iload X0.here hx rfl (hb hby at_21) rfl ?_
    show Steps p.tables e below (s₁.setTop (mkF m 23 #[iv p0, iv p1, iv p2, iv p3, iv p4, iv p5, iv (if (p4 &&& (1 : Int32)) = (0 : Int32) then p0 else (p2 + (p5 % (2 : Int32)))), iv p1, oU, oU, oU, oU, oU] [(.int p4)])) _
    refine XS.iconst X0.here hx rfl (hb hby at_23) ?_
    show Steps p.tables e below (s₁.setTop (mkF m 24 #[iv p0, iv p1, iv p2, iv p3, iv p4, iv p5, iv (if (p4 &&& (1 : Int32)) = (0 : Int32) then p0 else (p2 + (p5 % (2 : Int32)))), iv p1, oU, oU, oU, oU, oU] [(.int (2 : Int32)), (.int p4)])) _
    refine XS.iand X0.here hx rfl (hb hby at_24) rfl ?_
    show Steps p.tables e below (s₁.setTop (mkF m 25 #[iv p0, iv p1, iv p2, iv p3, iv p4, iv p5, iv (if (p4 &&& (1 : Int32)) = (0 : Int32) then p0 else (p2 + (p5 % (2 : Int32)))), iv p1, oU, oU, oU, oU, oU] [(.int (p4 &&& (2 : Int32)))])) _
    refine (fun t (k : Steps p.tables e below (s₁.setTop (mkF m 38 #[iv p0, iv p1, iv p2, iv p3, iv p4, iv p5, iv (if (p4 &&& (1 : Int32)) = (0 : Int32) then p0 else (p2 + (p5 % (2 : Int32)))), iv (if (p4 &&& (2 : Int32)) = (0 : Int32) then p1 else (p3 + ((p5 >>> ((4 : Int32) &&& 31)) % (2 : Int32)))), oU, oU, oU, oU, oU] [])) t) => (?_ : Steps p.tables e below _ t)) _ ?_
    · by_cases hc2 : (p4 &&& (2 : Int32)) = (0 : Int32)
      · simp only [if_pos hc2] at k
        refine XS.ifYes X0.here hx rfl (pc0 := 25) (pc' := 38) rfl (hb hby at_25) rfl ((if0 _ _).trans (teq hc2).1) (by decide) (by decide) ?_
        show Steps p.tables e below (s₁.setTop (mkF m 38 #[iv p0, iv p1, iv p2, iv p3, iv p4, iv p5, iv (if (p4 &&& (1 : Int32)) = (0 : Int32) then p0 else (p2 + (p5 % (2 : Int32)))), iv p1, oU, oU, oU, oU, oU] [])) _
        exact k
      · simp only [if_neg hc2] at k
        refine XS.ifNo X0.here hx rfl (hb hby at_25) rfl ((if0 _ _).trans (feq hc2).1) ?_
        show Steps p.tables e below (s₁.setTop (mkF m 28 #[iv p0, iv p1, iv p2, iv p3, iv p4, iv p5, iv (if (p4 &&& (1 : Int32)) = (0 : Int32) then p0 else (p2 + (p5 % (2 : Int32)))), iv p1, oU, oU, oU, oU, oU] [])) _
        refine XS.iloadN X0.here hx rfl (hb hby at_28) rfl ?_
        show Steps p.tables e below (s₁.setTop (mkF m 29 #[iv p0, iv p1, iv p2, iv p3, iv p4, iv p5, iv (if (p4 &&& (1 : Int32)) = (0 : Int32) then p0 else (p2 + (p5 % (2 : Int32)))), iv p1, oU, oU, oU, oU, oU] [(.int p3)])) _
        refine XS.iload X0.here hx rfl (hb hby at_29) rfl ?_
        show Steps p.tables e below (s₁.setTop (mkF m 31 #[iv p0, iv p1, iv p2, iv p3, iv p4, iv p5, iv (if (p4 &&& (1 : Int32)) = (0 : Int32) then p0 else (p2 + (p5 % (2 : Int32)))), iv p1, oU, oU, oU, oU, oU] [(.int p5), (.int p3)])) _
        refine XS.iconst X0.here hx rfl (hb hby at_31) ?_
        show Steps p.tables e below (s₁.setTop (mkF m 32 #[iv p0, iv p1, iv p2, iv p3, iv p4, iv p5, iv (if (p4 &&& (1 : Int32)) = (0 : Int32) then p0 else (p2 + (p5 % (2 : Int32)))), iv p1, oU, oU, oU, oU, oU] [(.int (4 : Int32)), (.int p5), (.int p3)])) _
        refine XS.ishr X0.here hx rfl (hb hby at_32) rfl ?_
        show Steps p.tables e below (s₁.setTop (mkF m 33 #[iv p0, iv p1, iv p2, iv p3, iv p4, iv p5, iv (if (p4 &&& (1 : Int32)) = (0 : Int32) then p0 else (p2 + (p5 % (2 : Int32)))), iv p1, oU, oU, oU, oU, oU] [(.int (p5 >>> ((4 : Int32) &&& 31))), (.int p3)])) _
        refine XS.iconst X0.here hx rfl (hb hby at_33) ?_
        show Steps p.tables e below (s₁.setTop (mkF m 34 #[iv p0, iv p1, iv p2, iv p3, iv p4, iv p5, iv (if (p4 &&& (1 : Int32)) = (0 : Int32) then p0 else (p2 + (p5 % (2 : Int32)))), iv p1, oU, oU, oU, oU, oU] [(.int (2 : Int32)), (.int (p5 >>> ((4 : Int32) &&& 31))), (.int p3)])) _
        refine iremM X0 hx rfl (hb hby at_34) rfl (by decide) ?_
        show Steps p.tables e below (s₁.setTop (mkF m 35 #[iv p0, iv p1, iv p2, iv p3, iv p4, iv p5, iv (if (p4 &&& (1 : Int32)) = (0 : Int32) then p0 else (p2 + (p5 % (2 : Int32)))), iv p1, oU, oU, oU, oU, oU] [(.int ((p5 >>> ((4 : Int32) &&& 31)) % (2 : Int32))), (.int p3)])) _
        refine XS.iadd X0.here hx rfl (hb hby at_35) rfl ?_
        show Steps p.tables e below (s₁.setTop (mkF m 36 #[iv p0, iv p1, iv p2, iv p3, iv p4, iv p5, iv (if (p4 &&& (1 : Int32)) = (0 : Int32) then p0 else (p2 + (p5 % (2 : Int32)))), iv p1, oU, oU, oU, oU, oU] [(.int (p3 + ((p5 >>> ((4 : Int32) &&& 31)) % (2 : Int32))))])) _
        refine XS.istore X0.here hx rfl (hb hby at_36) rfl (l' := #[iv p0, iv p1, iv p2, iv p3, iv p4, iv p5, iv (if (p4 &&& (1 : Int32)) = (0 : Int32) then p0 else (p2 + (p5 % (2 : Int32)))), iv (p3 + ((p5 >>> ((4 : Int32) &&& 31)) % (2 : Int32))), oU, oU, oU, oU, oU]) rfl ?_
        show Steps p.tables e below (s₁.setTop (mkF m 38 #[iv p0, iv p1, iv p2, iv p3, iv p4, iv p5, iv (if (p4 &&& (1 : Int32)) = (0 : Int32) then p0 else (p2 + (p5 % (2 : Int32)))), iv (p3 + ((p5 >>> ((4 : Int32) &&& 31)) % (2 : Int32))), oU, oU, oU, oU, oU] [])) _
        exact k
    show Steps p.tables e below (s₁.setTop (mkF m 38 #[iv p0, iv p1, iv p2, iv p3, iv p4, iv p5, iv (if (p4 &&& (1 : Int32)) = (0 : Int32) then p0 else (p2 + (p5 % (2 : Int32)))), iv (if (p4 &&& (2 : Int32)) = (0 : Int32) then p1 else (p3 + ((p5 >>> ((4 : Int32) &&& 31)) % (2 : Int32)))), oU, oU, oU, oU, oU] [])) _
    exact k
  obtain ⟨T3, h3, X3, e3, E3, A3, D3, -, st3⟩ := newO X0 hx hZ hown (hw _ (List.mem_of_getElem? (i := 0) rfl)) (hw _ (List.mem_of_getElem? (i := 1) rfl)) (hw _ (List.mem_of_getElem? (i := 2) rfl)) e0 (g := (mkF m 38 #[iv p0, iv p1, iv p2, iv p3, iv p4, iv p5, iv (if (p4 &&& (1 : Int32)) = (0 : Int32) then p0 else (p2 + (p5 % (2 : Int32)))), iv (if (p4 &&& (2 : Int32)) = (0 : Int32) then p1 else (p3 + ((p5 >>> ((4 : Int32) &&& 31)) % (2 : Int32)))), oU, oU, oU, oU, oU] [])) rfl (hb hby at_38) (by decide) (by decide)
  obtain ⟨b3, g3⟩ : ∃ z, z = h0.size := ⟨_, rfl⟩
  rw [← g3] at A3 D3 st3
  have g_b3 : n0 ≤ b3 := Nat.le_trans Z0 (Nat.le_of_eq g3.symm)
  replace Z0 := Nat.le_trans Z0 E3.1
  have E_b3 := A3
  have F_minAge_b3 : Fld Z h3 b3 "com/example/grantwright/grantwright/model/RetirementAlternative" "minAge" "I" (.int (0 : Int32)) := D3 (Or.inr (hw _ (List.mem_of_getElem? (i := 15) rfl))) (ty := .int) (by decide)
  have F_minServiceYears_b3 : Fld Z h3 b3 "com/example/grantwright/grantwright/model/RetirementAlternative" "minServiceYears" "I" (.int (0 : Int32)) := D3 (Or.inr (hw _ (List.mem_of_getElem? (i := 17) rfl))) (ty := .int) (by decide)
  refine own_by st3 ?_
  show own_Go p e below _ (T3.setTop (mkF m 41 #[iv p0, iv p1, iv p2, iv p3, iv p4, iv p5, iv (if (p4 &&& (1 : Int32)) = (0 : Int32) then p0 else (p2 + (p5 % (2 : Int32)))), iv (if (p4 &&& (2 : Int32)) = (0 : Int32) then p1 else (p3 + ((p5 >>> ((4 : Int32) &&& 31)) % (2 : Int32)))), oU, oU, oU, oU, oU] [(.ref b3)]))
  refine own_by (B := T3.setTop (mkF m 44 #[iv p0, iv p1, iv p2, iv p3, iv p4, iv p5, iv (if (p4 &&& (1 : Int32)) = (0 : Int32) then p0 else (p2 + (p5 % (2 : Int32)))), iv (if (p4 &&& (2 : Int32)) = (0 : Int32) then p1 else (p3 + ((p5 >>> ((4 : Int32) &&& 31)) % (2 : Int32)))), oU, oU, oU, oU, oU] [(.int p3), (.int p2), (.ref b3), (.ref b3)])) (fun t k => ?_) ?_
  · show Steps p.tables e below (T3.setTop (mkF m 41 #[iv p0, iv p1, iv p2, iv p3, iv p4, iv p5, iv (if (p4 &&& (1 : Int32)) = (0 : Int32) then p0 else (p2 + (p5 % (2 : Int32)))), iv (if (p4 &&& (2 : Int32)) = (0 : Int32) then p1 else (p3 + ((p5 >>> ((4 : Int32) &&& 31)) % (2 : Int32)))), oU, oU, oU, oU, oU] [(.ref b3)])) _
    refine XS.dup X3.here hx rfl (hb hby at_41) rfl rfl ?_
    show Steps p.tables e below (T3.setTop (mkF m 42 #[iv p0, iv p1, iv p2, iv p3, iv p4, iv p5, iv (if (p4 &&& (1 : Int32)) = (0 : Int32) then p0 else (p2 + (p5 % (2 : Int32)))), iv (if (p4 &&& (2 : Int32)) = (0 : Int32) then p1 else (p3 + ((p5 >>> ((4 : Int32) &&& 31)) % (2 : Int32)))), oU, oU, oU, oU, oU] [(.ref b3), (.ref b3)])) _
    refine XS.iloadN X3.here hx rfl (hb hby at_42) rfl ?_
    show Steps p.tables e below (T3.setTop (mkF m 43 #[iv p0, iv p1, iv p2, iv p3, iv p4, iv p5, iv (if (p4 &&& (1 : Int32)) = (0 : Int32) then p0 else (p2 + (p5 % (2 : Int32)))), iv (if (p4 &&& (2 : Int32)) = (0 : Int32) then p1 else (p3 + ((p5 >>> ((4 : Int32) &&& 31)) % (2 : Int32)))), oU, oU, oU, oU, oU] [(.int p2), (.ref b3), (.ref b3)])) _
    refine XS.iloadN X3.here hx rfl (hb hby at_43) rfl ?_
    show Steps p.tables e below (T3.setTop (mkF m 44 #[iv p0, iv p1, iv p2, iv p3, iv p4, iv p5, iv (if (p4 &&& (1 : Int32)) = (0 : Int32) then p0 else (p2 + (p5 % (2 : Int32)))), iv (if (p4 &&& (2 : Int32)) = (0 : Int32) then p1 else (p3 + ((p5 >>> ((4 : Int32) &&& 31)) % (2 : Int32)))), oU, oU, oU, oU, oU] [(.int p3), (.int p2), (.ref b3), (.ref b3)])) _
    exact k
  refine own_cc (own_callI X3 hx hZ (y := (⟨"com/example/grantwright/grantwright/model/RetirementAlternative", "<init>", "(II)V"⟩ : MethodName)) rfl hown (hw _ (List.mem_of_getElem? (i := 3) rfl)) (hw _ (List.mem_of_getElem? (i := 4) rfl)) (hw _ (List.mem_of_getElem? (i := 2) rfl)) (hw _ (List.mem_of_getElem? (i := 5) rfl)) (by decide) (rm1 l Z a0 hw [] b3 p2 p3 h3 n0 Z0 E_b3 F_minAge_b3 F_minServiceYears_b3 g_b3) e3 1 (by decide) (by decide) (by decide) (by decide) rfl (by rw [hml]; rfl) b3 [(.int p2), (.int p3)] [(.ref b3)] rfl (lenOf pd_0 rfl) rfl (by show 2 * 0 + _ ≤ _; exact Nat.le_of_eq rfl) (hb hby at_44)) fun T5 L5 v5 X5 hQ5 => ?_
  obtain ⟨rfl, N5, K5, E_b3', F_minAge_b3', F_minServiceYears_b3'⟩ := hQ5
  replace N0 := Fr.app N0 N5
  replace E_b3 := E_b3.keep K5
  replace Z0 := Nat.le_trans Z0 K5.1
  replace E_b3 := E_b3'
  have F_minAge_b3 := F_minAge_b3'
  have F_minServiceYears_b3 := F_minServiceYears_b3'
  show own_Go p e below _ (T5.setTop (mkF m 47 #[iv p0, iv p1, iv p2, iv p3, iv p4, iv p5, iv (if (p4 &&& (1 : Int32)) = (0 : Int32) then p0 else (p2 + (p5 % (2 : Int32)))), iv (if (p4 &&& (2 : Int32)) = (0 : Int32) then p1 else (p3 + ((p5 >>> ((4 : Int32) &&& 31)) % (2 : Int32)))), oU, oU, oU, oU, oU] [(.ref b3)]))
  refine own_by (B := T5.setTop (mkF m 55 #[iv p0, iv p1, iv p2, iv p3, iv p4, iv p5, iv (if (p4 &&& (1 : Int32)) = (0 : Int32) then p0 else (p2 + (p5 % (2 : Int32)))), iv (if (p4 &&& (2 : Int32)) = (0 : Int32) then p1 else (p3 + ((p5 >>> ((4 : Int32) &&& 31)) % (2 : Int32)))), rv b3, oU, oU, oU, oU] [(.int (if (p4 &&& (2 : Int32)) = (0 : Int32) then p1 else (p3 + ((p5 >>> ((4 : Int32) &&& 31)) % (2 : Int32))))), (.int (if (p4 &&& (1 : Int32)) = (0 : Int32) then p0 else (p2 + (p5 % (2 : Int32))))), (.ref b3)])) (fun t k => ?_) ?_
  · show Steps p.tables e below (T5.setTop (mkF m 47 #[iv p0, iv p1, iv p2, iv p3, iv p4, iv p5, iv (if (p4 &&& (1 : Int32)) = (0 : Int32) then p0 else (p2 + (p5 % (2 : Int32)))), iv (if (p4 &&& (2 : Int32)) = (0 : Int32) then p1 else (p3 + ((p5 >>> ((4 : Int32) &&& 31)) % (2 : Int32)))), oU, oU, oU, oU, oU] [(.ref b3)])) _
    refine XS.astore X5.here hx rfl (hb hby at_47) rfl rfl (l' := #[iv p0, iv p1, iv p2, iv p3, iv p4, iv p5, iv (if (p4 &&& (1 : Int32)) = (0 : Int32) then p0 else (p2 + (p5 % (2 : Int32)))), iv (if (p4 &&& (2 : Int32)) = (0 : Int32) then p1 else (p3 + ((p5 >>> ((4 : Int32) &&& 31)) % (2 : Int32)))), rv b3, oU, oU, oU, oU]) rfl ?_
    show Steps p.tables e below (T5.setTop (mkF m 49 #[iv p0, iv p1, iv p2, iv p3, iv p4, iv p5, iv (if (p4 &&& (1 : Int32)) = (0 : Int32) then p0 else (p2 + (p5 % (2 : Int32)))), iv (if (p4 &&& (2 : Int32)) = (0 : Int32) then p1 else (p3 + ((p5 >>> ((4 : Int32) &&& 31)) % (2 : Int32)))), rv b3, oU, oU, oU, oU] [])) _
    refine XS.aload X5.here hx rfl (hb hby at_49) rfl rfl ?_
    show Steps p.tables e below (T5.setTop (mkF m 51 #[iv p0, iv p1, iv p2, iv p3, iv p4, iv p5, iv (if (p4 &&& (1 : Int32)) = (0 : Int32) then p0 else (p2 + (p5 % (2 : Int32)))), iv (if (p4 &&& (2 : Int32)) = (0 : Int32) then p1 else (p3 + ((p5 >>> ((4 : Int32) &&& 31)) % (2 : Int32)))), rv b3, oU, oU, oU, oU] [(.ref b3)])) _
    refine XS.iload X5.here hx rfl (hb hby at_51) rfl ?_
    show Steps p.tables e below (T5.setTop (mkF m 53 #[iv p0, iv p1, iv p2, iv p3, iv p4, iv p5, iv (if (p4 &&& (1 : Int32)) = (0 : Int32) then p0 else (p2 + (p5 % (2 : Int32)))), iv (if (p4 &&& (2 : Int32)) = (0 : Int32) then p1 else (p3 + ((p5 >>> ((4 : Int32) &&& 31)) % (2 : Int32)))), rv b3, oU, oU, oU, oU] [(.int (if (p4 &&& (1 : Int32)) = (0 : Int32) then p0 else (p2 + (p5 % (2 : Int32))))), (.ref b3)])) _
    refine XS.iload X5.here hx rfl (hb hby at_53) rfl ?_
    show Steps p.tables e below (T5.setTop (mkF m 55 #[iv p0, iv p1, iv p2, iv p3, iv p4, iv p5, iv (if (p4 &&& (1 : Int32)) = (0 : Int32) then p0 else (p2 + (p5 % (2 : Int32)))), iv (if (p4 &&& (2 : Int32)) = (0 : Int32) then p1 else (p3 + ((p5 >>> ((4 : Int32) &&& 31)) % (2 : Int32)))), rv b3, oU, oU, oU, oU] [(.int (if (p4 &&& (2 : Int32)) = (0 : Int32) then p1 else (p3 + ((p5 >>> ((4 : Int32) &&& 31)) % (2 : Int32))))), (.int (if (p4 &&& (1 : Int32)) = (0 : Int32) then p0 else (p2 + (p5 % (2 : Int32))))), (.ref b3)])) _
    exact k
  refine own_cc (own_callV X5 hx hZ (y := (⟨"com/example/grantwright/grantwright/model/RetirementAlternative", "heldBy", "(II)Z"⟩ : MethodName)) (z := (⟨"com/example/grantwright/grantwright/model/RetirementAlternative", "heldBy", "(II)Z"⟩ : MethodName)) hown (hw _ (List.mem_of_getElem? (i := 18) rfl)) (hw _ (List.mem_of_getElem? (i := 19) rfl)) (notFace_of_selects (args := #[]) (mvT hZ (hw _ (List.mem_of_getElem? (i := 21) rfl)))) (hw _ (List.mem_of_getElem? (i := 21) rfl)) (hw _ (List.mem_of_getElem? (i := 20) rfl)) (hw _ (List.mem_of_getElem? (i := 2) rfl)) (hw _ (List.mem_of_getElem? (i := 22) rfl)) (by decide) (rm4 l Z a0 hw [] b3 (if (p4 &&& (1 : Int32)) = (0 : Int32) then p0 else (p2 + (p5 % (2 : Int32)))) (if (p4 &&& (2 : Int32)) = (0 : Int32) then p1 else (p3 + ((p5 >>> ((4 : Int32) &&& 31)) % (2 : Int32)))) p2 p3 T5.heap n0 Z0 F_minAge_b3 F_minServiceYears_b3) (rfl : T5.heap = _) 0 (by decide) (by decide) (by decide) (by decide) rfl (by rw [hml]; rfl) b3 E_b3 [(.int (if (p4 &&& (1 : Int32)) = (0 : Int32) then p0 else (p2 + (p5 % (2 : Int32))))), (.int (if (p4 &&& (2 : Int32)) = (0 : Int32) then p1 else (p3 + ((p5 >>> ((4 : Int32) &&& 31)) % (2 : Int32)))))] [] rfl (lenOf pd_2 rfl) rfl (by show 2 * 0 + _ ≤ _; exact Nat.le_of_eq rfl) (hb hby at_55)) fun T7 L7 v7 X7 hQ7 => ?_
  obtain ⟨rfl, N7, e7⟩ := hQ7
  replace N0 := Fr.app N0 N7
  show own_Go p e below _ (T7.setTop (mkF m 58 #[iv p0, iv p1, iv p2, iv p3, iv p4, iv p5, iv (if (p4 &&& (1 : Int32)) = (0 : Int32) then p0 else (p2 + (p5 % (2 : Int32)))), iv (if (p4 &&& (2 : Int32)) = (0 : Int32) then p1 else (p3 + ((p5 >>> ((4 : Int32) &&& 31)) % (2 : Int32)))), rv b3, oU, oU, oU, oU] [(.int (fh (if (p4 &&& (1 : Int32)) = (0 : Int32) then p0 else (p2 + (p5 % (2 : Int32)))) (if (p4 &&& (2 : Int32)) = (0 : Int32) then p1 else (p3 + ((p5 >>> (4 : Int32)) % (2 : Int32)))) p2 p3))]))
  refine own_by (B := T7.setTop (mkF m 125 #[iv p0, iv p1, iv p2, iv p3, iv p4, iv p5, iv (if (p4 &&& (1 : Int32)) = (0 : Int32) then p0 else (p2 + (p5 % (2 : Int32)))), iv (if (p4 &&& (2 : Int32)) = (0 : Int32) then p1 else (p3 + ((p5 >>> ((4 : Int32) &&& 31)) % (2 : Int32)))), rv b3, iv (fh (if (p4 &&& (1 : Int32)) = (0 : Int32) then p0 else (p2 + (p5 % (2 : Int32)))) (if (p4 &&& (2 : Int32)) = (0 : Int32) then p1 else (p3 + ((p5 >>> (4 : Int32)) % (2 : Int32)))) p2 p3), iv (if (((if (p4 &&& (1 : Int32)) = (0 : Int32) then p0 else (p2 + (p5 % (2 : Int32)))).toInt64) - (p2.toInt64)) < (0 : Int64) then (0 : Int32) else (1 : Int32)), iv (if (((if (p4 &&& (2 : Int32)) = (0 : Int32) then p1 else (p3 + ((p5 >>> ((4 : Int32) &&& 31)) % (2 : Int32)))).toInt64) - (p3.toInt64)) < (0 : Int64) then (0 : Int32) else (1 : Int32)), iv (if (if (((if (p4 &&& (1 : Int32)) = (0 : Int32) then p0 else (p2 + (p5 % (2 : Int32)))).toInt64) - (p2.toInt64)) < (0 : Int64) then (0 : Int32) else (1 : Int32)) = (0 : Int32) then (0 : Int32) else (if (if (((if (p4 &&& (2 : Int32)) = (0 : Int32) then p1 else (p3 + ((p5 >>> ((4 : Int32) &&& 31)) % (2 : Int32)))).toInt64) - (p3.toInt64)) < (0 : Int64) then (0 : Int32) else (1 : Int32)) = (0 : Int32) then (0 : Int32) else (1 : Int32)))] [(.int (1 : Int32))])) (fun t k => ?_) ?_
  · show Steps p.tables e below (T7.setTop (mkF m 58 #[iv p0, iv p1, iv p2, iv p3, iv p4, iv p5, iv (if (p4 &&& (1 : Int32)) = (0 : Int32) then p0 else (p2 + (p5 % (2 : Int32)))), iv (if (p4 &&& (2 : Int32)) = (0 : Int32) then p1 else (p3 + ((p5 >>> ((4 : Int32) &&& 31)) % (2 : Int32)))), rv b3, oU, oU, oU, oU] [(.int (fh (if (p4 &&& (1 : Int32)) = (0 : Int32) then p0 else (p2 + (p5 % (2 : Int32)))) (if (p4 &&& (2 : Int32)) = (0 : Int32) then p1 else (p3 + ((p5 >>> (4 : Int32)) % (2 : Int32)))) p2 p3))])) _
    refine XS.istore X7.here hx rfl (hb hby at_58) rfl (l' := #[iv p0, iv p1, iv p2, iv p3, iv p4, iv p5, iv (if (p4 &&& (1 : Int32)) = (0 : Int32) then p0 else (p2 + (p5 % (2 : Int32)))), iv (if (p4 &&& (2 : Int32)) = (0 : Int32) then p1 else (p3 + ((p5 >>> ((4 : Int32) &&& 31)) % (2 : Int32)))), rv b3, iv (fh (if (p4 &&& (1 : Int32)) = (0 : Int32) then p0 else (p2 + (p5 % (2 : Int32)))) (if (p4 &&& (2 : Int32)) = (0 : Int32) then p1 else (p3 + ((p5 >>> (4 : Int32)) % (2 : Int32)))) p2 p3), oU, oU, oU]) rfl ?_
    show Steps p.tables e below (T7.setTop (mkF m 60 #[iv p0, iv p1, iv p2, iv p3, iv p4, iv p5, iv (if (p4 &&& (1 : Int32)) = (0 : Int32) then p0 else (p2 + (p5 % (2 : Int32)))), iv (if (p4 &&& (2 : Int32)) = (0 : Int32) then p1 else (p3 + ((p5 >>> ((4 : Int32) &&& 31)) % (2 : Int32)))), rv b3, iv (fh (if (p4 &&& (1 : Int32)) = (0 : Int32) then p0 else (p2 + (p5 % (2 : Int32)))) (if (p4 &&& (2 : Int32)) = (0 : Int32) then p1 else (p3 + ((p5 >>> (4 : Int32)) % (2 : Int32)))) p2 p3), oU, oU, oU] [])) _
    refine XS.iload X7.here hx rfl (hb hby at_60) rfl ?_
    show Steps p.tables e below (T7.setTop (mkF m 62 #[iv p0, iv p1, iv p2, iv p3, iv p4, iv p5, iv (if (p4 &&& (1 : Int32)) = (0 : Int32) then p0 else (p2 + (p5 % (2 : Int32)))), iv (if (p4 &&& (2 : Int32)) = (0 : Int32) then p1 else (p3 + ((p5 >>> ((4 : Int32) &&& 31)) % (2 : Int32)))), rv b3, iv (fh (if (p4 &&& (1 : Int32)) = (0 : Int32) then p0 else (p2 + (p5 % (2 : Int32)))) (if (p4 &&& (2 : Int32)) = (0 : Int32) then p1 else (p3 + ((p5 >>> (4 : Int32)) % (2 : Int32)))) p2 p3), oU, oU, oU] [(.int (if (p4 &&& (1 : Int32)) = (0 : Int32) then p0 else (p2 + (p5 % (2 : Int32)))))])) _
    refine XS.i2l X7.here hx rfl (hb hby at_62) rfl ?_
    show Steps p.tables e below (T7.setTop (mkF m 63 #[iv p0, iv p1, iv p2, iv p3, iv p4, iv p5, iv (if (p4 &&& (1 : Int32)) = (0 : Int32) then p0 else (p2 + (p5 % (2 : Int32)))), iv (if (p4 &&& (2 : Int32)) = (0 : Int32) then p1 else (p3 + ((p5 >>> ((4 : Int32) &&& 31)) % (2 : Int32)))), rv b3, iv (fh (if (p4 &&& (1 : Int32)) = (0 : Int32) then p0 else (p2 + (p5 % (2 : Int32)))) (if (p4 &&& (2 : Int32)) = (0 : Int32) then p1 else (p3 + ((p5 >>> (4 : Int32)) % (2 : Int32)))) p2 p3), oU, oU, oU] [(.long ((if (p4 &&& (1 : Int32)) = (0 : Int32) then p0 else (p2 + (p5 % (2 : Int32)))).toInt64))])) _
    refine XS.iloadN X7.here hx rfl (hb hby at_63) rfl ?_
    show Steps p.tables e below (T7.setTop (mkF m 64 #[iv p0, iv p1, iv p2, iv p3, iv p4, iv p5, iv (if (p4 &&& (1 : Int32)) = (0 : Int32) then p0 else (p2 + (p5 % (2 : Int32)))), iv (if (p4 &&& (2 : Int32)) = (0 : Int32) then p1 else (p3 + ((p5 >>> ((4 : Int32) &&& 31)) % (2 : Int32)))), rv b3, iv (fh (if (p4 &&& (1 : Int32)) = (0 : Int32) then p0 else (p2 + (p5 % (2 : Int32)))) (if (p4 &&& (2 : Int32)) = (0 : Int32) then p1 else (p3 + ((p5 >>> (4 : Int32)) % (2 : Int32)))) p2 p3), oU, oU, oU] [(.int p2), (.long ((if (p4 &&& (1 : Int32)) = (0 : Int32) then p0 else (p2 + (p5 % (2 : Int32)))).toInt64))])) _
    refine XS.i2l X7.here hx rfl (hb hby at_64) rfl ?_
    show Steps p.tables e below (T7.setTop (mkF m 65 #[iv p0, iv p1, iv p2, iv p3, iv p4, iv p5, iv (if (p4 &&& (1 : Int32)) = (0 : Int32) then p0 else (p2 + (p5 % (2 : Int32)))), iv (if (p4 &&& (2 : Int32)) = (0 : Int32) then p1 else (p3 + ((p5 >>> ((4 : Int32) &&& 31)) % (2 : Int32)))), rv b3, iv (fh (if (p4 &&& (1 : Int32)) = (0 : Int32) then p0 else (p2 + (p5 % (2 : Int32)))) (if (p4 &&& (2 : Int32)) = (0 : Int32) then p1 else (p3 + ((p5 >>> (4 : Int32)) % (2 : Int32)))) p2 p3), oU, oU, oU] [(.long (p2.toInt64)), (.long ((if (p4 &&& (1 : Int32)) = (0 : Int32) then p0 else (p2 + (p5 % (2 : Int32)))).toInt64))])) _
    refine XS.lsub X7.here hx rfl (hb hby at_65) rfl ?_
    show Steps p.tables e below (T7.setTop (mkF m 66 #[iv p0, iv p1, iv p2, iv p3, iv p4, iv p5, iv (if (p4 &&& (1 : Int32)) = (0 : Int32) then p0 else (p2 + (p5 % (2 : Int32)))), iv (if (p4 &&& (2 : Int32)) = (0 : Int32) then p1 else (p3 + ((p5 >>> ((4 : Int32) &&& 31)) % (2 : Int32)))), rv b3, iv (fh (if (p4 &&& (1 : Int32)) = (0 : Int32) then p0 else (p2 + (p5 % (2 : Int32)))) (if (p4 &&& (2 : Int32)) = (0 : Int32) then p1 else (p3 + ((p5 >>> (4 : Int32)) % (2 : Int32)))) p2 p3), oU, oU, oU] [(.long (((if (p4 &&& (1 : Int32)) = (0 : Int32) then p0 else (p2 + (p5 % (2 : Int32)))).toInt64) - (p2.toInt64)))])) _
    refine XS.lconst X7.here hx rfl (hb hby at_66) ?_
    show Steps p.tables e below (T7.setTop (mkF m 67 #[iv p0, iv p1, iv p2, iv p3, iv p4, iv p5, iv (if (p4 &&& (1 : Int32)) = (0 : Int32) then p0 else (p2 + (p5 % (2 : Int32)))), iv (if (p4 &&& (2 : Int32)) = (0 : Int32) then p1 else (p3 + ((p5 >>> ((4 : Int32) &&& 31)) % (2 : Int32)))), rv b3, iv (fh (if (p4 &&& (1 : Int32)) = (0 : Int32) then p0 else (p2 + (p5 % (2 : Int32)))) (if (p4 &&& (2 : Int32)) = (0 : Int32) then p1 else (p3 + ((p5 >>> (4 : Int32)) % (2 : Int32)))) p2 p3), oU, oU, oU] [(.long (0 : Int64)), (.long (((if (p4 &&& (1 : Int32)) = (0 : Int32) then p0 else (p2 + (p5 % (2 : Int32)))).toInt64) - (p2.toInt64)))])) _
    refine XS.lcmp X7.here hx rfl (hb hby at_67) rfl ?_
    show Steps p.tables e below (T7.setTop (mkF m 68 #[iv p0, iv p1, iv p2, iv p3, iv p4, iv p5, iv (if (p4 &&& (1 : Int32)) = (0 : Int32) then p0 else (p2 + (p5 % (2 : Int32)))), iv (if (p4 &&& (2 : Int32)) = (0 : Int32) then p1 else (p3 + ((p5 >>> ((4 : Int32) &&& 31)) % (2 : Int32)))), rv b3, iv (fh (if (p4 &&& (1 : Int32)) = (0 : Int32) then p0 else (p2 + (p5 % (2 : Int32)))) (if (p4 &&& (2 : Int32)) = (0 : Int32) then p1 else (p3 + ((p5 >>> (4 : Int32)) % (2 : Int32)))) p2 p3), oU, oU, oU] [(.int (lcmpW (((if (p4 &&& (1 : Int32)) = (0 : Int32) then p0 else (p2 + (p5 % (2 : Int32)))).toInt64) - (p2.toInt64)) (0 : Int64)))])) _
    refine (fun t (k : Steps p.tables e below (T7.setTop (mkF m 76 #[iv p0, iv p1, iv p2, iv p3, iv p4, iv p5, iv (if (p4 &&& (1 : Int32)) = (0 : Int32) then p0 else (p2 + (p5 % (2 : Int32)))), iv (if (p4 &&& (2 : Int32)) = (0 : Int32) then p1 else (p3 + ((p5 >>> ((4 : Int32) &&& 31)) % (2 : Int32)))), rv b3, iv (fh (if (p4 &&& (1 : Int32)) = (0 : Int32) then p0 else (p2 + (p5 % (2 : Int32)))) (if (p4 &&& (2 : Int32)) = (0 : Int32) then p1 else (p3 + ((p5 >>> (4 : Int32)) % (2 : Int32)))) p2 p3), oU, oU, oU] [(.int (if (((if (p4 &&& (1 : Int32)) = (0 : Int32) then p0 else (p2 + (p5 % (2 : Int32)))).toInt64) - (p2.toInt64)) < (0 : Int64) then (0 : Int32) else (1 : Int32)))])) t) => (?_ : Steps p.tables e below _ t)) _ ?_
    · by_cases hc8 : (((if (p4 &&& (1 : Int32)) = (0 : Int32) then p0 else (p2 + (p5 % (2 : Int32)))).toInt64) - (p2.toInt64)) < (0 : Int64)
      · simp only [if_pos hc8] at k
        refine XS.ifYes X7.here hx rfl (pc0 := 68) (pc' := 75) rfl (hb hby at_68) rfl ((if0 _ _).trans (tlt ((lw_lt _ _).mpr hc8)).1) (by decide) (by decide) ?_
        show Steps p.tables e below (T7.setTop (mkF m 75 #[iv p0, iv p1, iv p2, iv p3, iv p4, iv p5, iv (if (p4 &&& (1 : Int32)) = (0 : Int32) then p0 else (p2 + (p5 % (2 : Int32)))), iv (if (p4 &&& (2 : Int32)) = (0 : Int32) then p1 else (p3 + ((p5 >>> ((4 : Int32) &&& 31)) % (2 : Int32)))), rv b3, iv (fh (if (p4 &&& (1 : Int32)) = (0 : Int32) then p0 else (p2 + (p5 % (2 : Int32)))) (if (p4 &&& (2 : Int32)) = (0 : Int32) then p1 else (p3 + ((p5 >>> (4 : Int32)) % (2 : Int32)))) p2 p3), oU, oU, oU] [])) _
        refine XS.iconst X7.here hx rfl (hb hby at_75) ?_
        show Steps p.tables e below (T7.setTop (mkF m 76 #[iv p0, iv p1, iv p2, iv p3, iv p4, iv p5, iv (if (p4 &&& (1 : Int32)) = (0 : Int32) then p0 else (p2 + (p5 % (2 : Int32)))), iv (if (p4 &&& (2 : Int32)) = (0 : Int32) then p1 else (p3 + ((p5 >>> ((4 : Int32) &&& 31)) % (2 : Int32)))), rv b3, iv (fh (if (p4 &&& (1 : Int32)) = (0 : Int32) then p0 else (p2 + (p5 % (2 : Int32)))) (if (p4 &&& (2 : Int32)) = (0 : Int32) then p1 else (p3 + ((p5 >>> (4 : Int32)) % (2 : Int32)))) p2 p3), oU, oU, oU] [(.int (0 : Int32))])) _
        exact k
      · simp only [if_neg hc8] at k
        refine XS.ifNo X7.here hx rfl (hb hby at_68) rfl ((if0 _ _).trans (flt (fun q => hc8 ((lw_lt _ _).mp q))).1) ?_
        show Steps p.tables e below (T7.setTop (mkF m 71 #[iv p0, iv p1, iv p2, iv p3, iv p4, iv p5, iv (if (p4 &&& (1 : Int32)) = (0 : Int32) then p0 else (p2 + (p5 % (2 : Int32)))), iv (if (p4 &&& (2 : Int32)) = (0 : Int32) then p1 else (p3 + ((p5 >>> ((4 : Int32) &&& 31)) % (2 : Int32)))), rv b3, iv (fh (if (p4 &&& (1 : Int32)) = (0 : Int32) then p0 else (p2 + (p5 % (2 : Int32)))) (if (p4 &&& (2 : Int32)) = (0 : Int32) then p1 else (p3 + ((p5 >>> (4 : Int32)) % (2 : Int32)))) p2 p3), oU, oU, oU] [])) _
        refine XS.iconst X7.here hx rfl (hb hby at_71) ?_
        show Steps p.tables e below (T7.setTop (mkF m 72 #[iv p0, iv p1, iv p2, iv p3, iv p4, iv p5, iv (if (p4 &&& (1 : Int32)) = (0 : Int32) then p0 else (p2 + (p5 % (2 : Int32)))), iv (if (p4 &&& (2 : Int32)) = (0 : Int32) then p1 else (p3 + ((p5 >>> ((4 : Int32) &&& 31)) % (2 : Int32)))), rv b3, iv (fh (if (p4 &&& (1 : Int32)) = (0 : Int32) then p0 else (p2 + (p5 % (2 : Int32)))) (if (p4 &&& (2 : Int32)) = (0 : Int32) then p1 else (p3 + ((p5 >>> (4 : Int32)) % (2 : Int32)))) p2 p3), oU, oU, oU] [(.int (1 : Int32))])) _
        refine XS.goto X7.here hx rfl (pc0 := 72) (pc' := 76) rfl (hb hby at_72) (by decide) (by decide) ?_
        show Steps p.tables e below (T7.setTop (mkF m 76 #[iv p0, iv p1, iv p2, iv p3, iv p4, iv p5, iv (if (p4 &&& (1 : Int32)) = (0 : Int32) then p0 else (p2 + (p5 % (2 : Int32)))), iv (if (p4 &&& (2 : Int32)) = (0 : Int32) then p1 else (p3 + ((p5 >>> ((4 : Int32) &&& 31)) % (2 : Int32)))), rv b3, iv (fh (if (p4 &&& (1 : Int32)) = (0 : Int32) then p0 else (p2 + (p5 % (2 : Int32)))) (if (p4 &&& (2 : Int32)) = (0 : Int32) then p1 else (p3 + ((p5 >>> (4 : Int32)) % (2 : Int32)))) p2 p3), oU, oU, oU] [(.int (1 : Int32))])) _
        exact k
    show Steps p.tables e below (T7.setTop (mkF m 76 #[iv p0, iv p1, iv p2, iv p3, iv p4, iv p5, iv (if (p4 &&& (1 : Int32)) = (0 : Int32) then p0 else (p2 + (p5 % (2 : Int32)))), iv (if (p4 &&& (2 : Int32)) = (0 : Int32) then p1 else (p3 + ((p5 >>> ((4 : Int32) &&& 31)) % (2 : Int32)))), rv b3, iv (fh (if (p4 &&& (1 : Int32)) = (0 : Int32) then p0 else (p2 + (p5 % (2 : Int32)))) (if (p4 &&& (2 : Int32)) = (0 : Int32) then p1 else (p3 + ((p5 >>> (4 : Int32)) % (2 : Int32)))) p2 p3), oU, oU, oU] [(.int (if (((if (p4 &&& (1 : Int32)) = (0 : Int32) then p0 else (p2 + (p5 % (2 : Int32)))).toInt64) - (p2.toInt64)) < (0 : Int64) then (0 : Int32) else (1 : Int32)))])) _
    refine XS.istore X7.here hx rfl (hb hby at_76) rfl (l' := #[iv p0, iv p1, iv p2, iv p3, iv p4, iv p5, iv (if (p4 &&& (1 : Int32)) = (0 : Int32) then p0 else (p2 + (p5 % (2 : Int32)))), iv (if (p4 &&& (2 : Int32)) = (0 : Int32) then p1 else (p3 + ((p5 >>> ((4 : Int32) &&& 31)) % (2 : Int32)))), rv b3, iv (fh (if (p4 &&& (1 : Int32)) = (0 : Int32) then p0 else (p2 + (p5 % (2 : Int32)))) (if (p4 &&& (2 : Int32)) = (0 : Int32) then p1 else (p3 + ((p5 >>> (4 : Int32)) % (2 : Int32)))) p2 p3), iv (if (((if (p4 &&& (1 : Int32)) = (0 : Int32) then p0 else (p2 + (p5 % (2 : Int32)))).toInt64) - (p2.toInt64)) < (0 : Int64) then (0 : Int32) else (1 : Int32)), oU, oU]) rfl ?_
    show Steps p.tables e below (T7.setTop (mkF m 78 #[iv p0, iv p1, iv p2, iv p3, iv p4, iv p5, iv (if (p4 &&& (1 : Int32)) = (0 : Int32) then p0 else (p2 + (p5 % (2 : Int32)))), iv (if (p4 &&& (2 : Int32)) = (0 : Int32) then p1 else (p3 + ((p5 >>> ((4 : Int32) &&& 31)) % (2 : Int32)))), rv b3, iv (fh (if (p4 &&& (1 : Int32)) = (0 : Int32) then p0 else (p2 + (p5 % (2 : Int32)))) (if (p4 &&& (2 : Int32)) = (0 : Int32) then p1 else (p3 + ((p5 >>> (4 : Int32)) % (2 : Int32)))) p2 p3), iv (if (((if (p4 &&& (1 : Int32)) = (0 : Int32) then p0 else (p2 + (p5 % (2 : Int32)))).toInt64) - (p2.toInt64)) < (0 : Int64) then (0 : Int32) else (1 : Int32)), oU, oU] [])) _
    refine XS.iload X7.here hx rfl (hb hby at_78) rfl ?_
    show Steps p.tables e below (T7.setTop (mkF m 80 #[iv p0, iv p1, iv p2, iv p3, iv p4, iv p5, iv (if (p4 &&& (1 : Int32)) = (0 : Int32) then p0 else (p2 + (p5 % (2 : Int32)))), iv (if (p4 &&& (2 : Int32)) = (0 : Int32) then p1 else (p3 + ((p5 >>> ((4 : Int32) &&& 31)) % (2 : Int32)))), rv b3, iv (fh (if (p4 &&& (1 : Int32)) = (0 : Int32) then p0 else (p2 + (p5 % (2 : Int32)))) (if (p4 &&& (2 : Int32)) = (0 : Int32) then p1 else (p3 + ((p5 >>> (4 : Int32)) % (2 : Int32)))) p2 p3), iv (if (((if (p4 &&& (1 : Int32)) = (0 : Int32) then p0 else (p2 + (p5 % (2 : Int32)))).toInt64) - (p2.toInt64)) < (0 : Int64) then (0 : Int32) else (1 : Int32)), oU, oU] [(.int (if (p4 &&& (2 : Int32)) = (0 : Int32) then p1 else (p3 + ((p5 >>> ((4 : Int32) &&& 31)) % (2 : Int32)))))])) _
    refine XS.i2l X7.here hx rfl (hb hby at_80) rfl ?_
    show Steps p.tables e below (T7.setTop (mkF m 81 #[iv p0, iv p1, iv p2, iv p3, iv p4, iv p5, iv (if (p4 &&& (1 : Int32)) = (0 : Int32) then p0 else (p2 + (p5 % (2 : Int32)))), iv (if (p4 &&& (2 : Int32)) = (0 : Int32) then p1 else (p3 + ((p5 >>> ((4 : Int32) &&& 31)) % (2 : Int32)))), rv b3, iv (fh (if (p4 &&& (1 : Int32)) = (0 : Int32) then p0 else (p2 + (p5 % (2 : Int32)))) (if (p4 &&& (2 : Int32)) = (0 : Int32) then p1 else (p3 + ((p5 >>> (4 : Int32)) % (2 : Int32)))) p2 p3), iv (if (((if (p4 &&& (1 : Int32)) = (0 : Int32) then p0 else (p2 + (p5 % (2 : Int32)))).toInt64) - (p2.toInt64)) < (0 : Int64) then (0 : Int32) else (1 : Int32)), oU, oU] [(.long ((if (p4 &&& (2 : Int32)) = (0 : Int32) then p1 else (p3 + ((p5 >>> ((4 : Int32) &&& 31)) % (2 : Int32)))).toInt64))])) _
    refine XS.iloadN X7.here hx rfl (hb hby at_81) rfl ?_
    show Steps p.tables e below (T7.setTop (mkF m 82 #[iv p0, iv p1, iv p2, iv p3, iv p4, iv p5, iv (if (p4 &&& (1 : Int32)) = (0 : Int32) then p0 else (p2 + (p5 % (2 : Int32)))), iv (if (p4 &&& (2 : Int32)) = (0 : Int32) then p1 else (p3 + ((p5 >>> ((4 : Int32) &&& 31)) % (2 : Int32)))), rv b3, iv (fh (if (p4 &&& (1 : Int32)) = (0 : Int32) then p0 else (p2 + (p5 % (2 : Int32)))) (if (p4 &&& (2 : Int32)) = (0 : Int32) then p1 else (p3 + ((p5 >>> (4 : Int32)) % (2 : Int32)))) p2 p3), iv (if (((if (p4 &&& (1 : Int32)) = (0 : Int32) then p0 else (p2 + (p5 % (2 : Int32)))).toInt64) - (p2.toInt64)) < (0 : Int64) then (0 : Int32) else (1 : Int32)), oU, oU] [(.int p3), (.long ((if (p4 &&& (2 : Int32)) = (0 : Int32) then p1 else (p3 + ((p5 >>> ((4 : Int32) &&& 31)) % (2 : Int32)))).toInt64))])) _
    refine XS.i2l X7.here hx rfl (hb hby at_82) rfl ?_
    show Steps p.tables e below (T7.setTop (mkF m 83 #[iv p0, iv p1, iv p2, iv p3, iv p4, iv p5, iv (if (p4 &&& (1 : Int32)) = (0 : Int32) then p0 else (p2 + (p5 % (2 : Int32)))), iv (if (p4 &&& (2 : Int32)) = (0 : Int32) then p1 else (p3 + ((p5 >>> ((4 : Int32) &&& 31)) % (2 : Int32)))), rv b3, iv (fh (if (p4 &&& (1 : Int32)) = (0 : Int32) then p0 else (p2 + (p5 % (2 : Int32)))) (if (p4 &&& (2 : Int32)) = (0 : Int32) then p1 else (p3 + ((p5 >>> (4 : Int32)) % (2 : Int32)))) p2 p3), iv (if (((if (p4 &&& (1 : Int32)) = (0 : Int32) then p0 else (p2 + (p5 % (2 : Int32)))).toInt64) - (p2.toInt64)) < (0 : Int64) then (0 : Int32) else (1 : Int32)), oU, oU] [(.long (p3.toInt64)), (.long ((if (p4 &&& (2 : Int32)) = (0 : Int32) then p1 else (p3 + ((p5 >>> ((4 : Int32) &&& 31)) % (2 : Int32)))).toInt64))])) _
    refine XS.lsub X7.here hx rfl (hb hby at_83) rfl ?_
    show Steps p.tables e below (T7.setTop (mkF m 84 #[iv p0, iv p1, iv p2, iv p3, iv p4, iv p5, iv (if (p4 &&& (1 : Int32)) = (0 : Int32) then p0 else (p2 + (p5 % (2 : Int32)))), iv (if (p4 &&& (2 : Int32)) = (0 : Int32) then p1 else (p3 + ((p5 >>> ((4 : Int32) &&& 31)) % (2 : Int32)))), rv b3, iv (fh (if (p4 &&& (1 : Int32)) = (0 : Int32) then p0 else (p2 + (p5 % (2 : Int32)))) (if (p4 &&& (2 : Int32)) = (0 : Int32) then p1 else (p3 + ((p5 >>> (4 : Int32)) % (2 : Int32)))) p2 p3), iv (if (((if (p4 &&& (1 : Int32)) = (0 : Int32) then p0 else (p2 + (p5 % (2 : Int32)))).toInt64) - (p2.toInt64)) < (0 : Int64) then (0 : Int32) else (1 : Int32)), oU, oU] [(.long (((if (p4 &&& (2 : Int32)) = (0 : Int32) then p1 else (p3 + ((p5 >>> ((4 : Int32) &&& 31)) % (2 : Int32)))).toInt64) - (p3.toInt64)))])) _
    refine XS.lconst X7.here hx rfl (hb hby at_84) ?_
    show Steps p.tables e below (T7.setTop (mkF m 85 #[iv p0, iv p1, iv p2, iv p3, iv p4, iv p5, iv (if (p4 &&& (1 : Int32)) = (0 : Int32) then p0 else (p2 + (p5 % (2 : Int32)))), iv (if (p4 &&& (2 : Int32)) = (0 : Int32) then p1 else (p3 + ((p5 >>> ((4 : Int32) &&& 31)) % (2 : Int32)))), rv b3, iv (fh (if (p4 &&& (1 : Int32)) = (0 : Int32) then p0 else (p2 + (p5 % (2 : Int32)))) (if (p4 &&& (2 : Int32)) = (0 : Int32) then p1 else (p3 + ((p5 >>> (4 : Int32)) % (2 : Int32)))) p2 p3), iv (if (((if (p4 &&& (1 : Int32)) = (0 : Int32) then p0 else (p2 + (p5 % (2 : Int32)))).toInt64) - (p2.toInt64)) < (0 : Int64) then (0 : Int32) else (1 : Int32)), oU, oU] [(.long (0 : Int64)), (.long (((if (p4 &&& (2 : Int32)) = (0 : Int32) then p1 else (p3 + ((p5 >>> ((4 : Int32) &&& 31)) % (2 : Int32)))).toInt64) - (p3.toInt64)))])) _
    refine XS.lcmp X7.here hx rfl (hb hby at_85) rfl ?_
    show Steps p.tables e below (T7.setTop (mkF m 86 #[iv p0, iv p1, iv p2, iv p3, iv p4, iv p5, iv (if (p4 &&& (1 : Int32)) = (0 : Int32) then p0 else (p2 + (p5 % (2 : Int32)))), iv (if (p4 &&& (2 : Int32)) = (0 : Int32) then p1 else (p3 + ((p5 >>> ((4 : Int32) &&& 31)) % (2 : Int32)))), rv b3, iv (fh (if (p4 &&& (1 : Int32)) = (0 : Int32) then p0 else (p2 + (p5 % (2 : Int32)))) (if (p4 &&& (2 : Int32)) = (0 : Int32) then p1 else (p3 + ((p5 >>> (4 : Int32)) % (2 : Int32)))) p2 p3), iv (if (((if (p4 &&& (1 : Int32)) = (0 : Int32) then p0 else (p2 + (p5 % (2 : Int32)))).toInt64) - (p2.toInt64)) < (0 : Int64) then (0 : Int32) else (1 : Int32)), oU, oU] [(.int (lcmpW (((if (p4 &&& (2 : Int32)) = (0 : Int32) then p1 else (p3 + ((p5 >>> ((4 : Int32) &&& 31)) % (2 : Int32)))).toInt64) - (p3.toInt64)) (0 : Int64)))])) _
    refine (fun t (k : Steps p.tables e below (T7.setTop (mkF m 94 #[iv p0, iv p1, iv p2, iv p3, iv p4, iv p5, iv (if (p4 &&& (1 : Int32)) = (0 : Int32) then p0 else (p2 + (p5 % (2 : Int32)))), iv (if (p4 &&& (2 : Int32)) = (0 : Int32) then p1 else (p3 + ((p5 >>> ((4 : Int32) &&& 31)) % (2 : Int32)))), rv b3, iv (fh (if (p4 &&& (1 : Int32)) = (0 : Int32) then p0 else (p2 + (p5 % (2 : Int32)))) (if (p4 &&& (2 : Int32)) = (0 : Int32) then p1 else (p3 + ((p5 >>> (4 : Int32)) % (2 : Int32)))) p2 p3), iv (if (((if (p4 &&& (1 : Int32)) = (0 : Int32) then p0 else (p2 + (p5 % (2 : Int32)))).toInt64) - (p2.toInt64)) < (0 : Int64) then (0 : Int32) else (1 : Int32)), oU, oU] [(.int (if (((if (p4 &&& (2 : Int32)) = (0 : Int32) then p1 else (p3 + ((p5 >>> ((4 : Int32) &&& 31)) % (2 : Int32)))).toInt64) - (p3.toInt64)) < (0 : Int64) then (0 : Int32) else (1 : Int32)))])) t) => (?_ : Steps p.tables e below _ t)) _ ?_
    · by_cases hc9 : (((if (p4 &&& (2 : Int32)) = (0 : Int32) then p1 else (p3 + ((p5 >>> ((4 : Int32) &&& 31)) % (2 : Int32)))).toInt64) - (p3.toInt64)) < (0 : Int64)
      · simp only [if_pos hc9] at k
        refine XS.ifYes X7.here hx rfl (pc0 := 86) (pc' := 93) rfl (hb hby at_86) rfl ((if0 _ _).trans (tlt ((lw_lt _ _).mpr hc9)).1) (by decide) (by decide) ?_
        show Steps p.tables e below (T7.setTop (mkF m 93 #[iv p0, iv p1, iv p2, iv p3, iv p4, iv p5, iv (if (p4 &&& (1 : Int32)) = (0 : Int32) then p0 else (p2 + (p5 % (2 : Int32)))), iv (if (p4 &&& (2 : Int32)) = (0 : Int32) then p1 else (p3 + ((p5 >>> ((4 : Int32) &&& 31)) % (2 : Int32)))), rv b3, iv (fh (if (p4 &&& (1 : Int32)) = (0 : Int32) then p0 else (p2 + (p5 % (2 : Int32)))) (if (p4 &&& (2 : Int32)) = (0 : Int32) then p1 else (p3 + ((p5 >>> (4 : Int32)) % (2 : Int32)))) p2 p3), iv (if (((if (p4 &&& (1 : Int32)) = (0 : Int32) then p0 else (p2 + (p5 % (2 : Int32)))).toInt64) - (p2.toInt64)) < (0 : Int64) then (0 : Int32) else (1 : Int32)), oU, oU] [])) _
        refine XS.iconst X7.here hx rfl (hb hby at_93) ?_
        show Steps p.tables e below (T7.setTop (mkF m 94 #[iv p0, iv p1, iv p2, iv p3, iv p4, iv p5, iv (if (p4 &&& (1 : Int32)) = (0 : Int32) then p0 else (p2 + (p5 % (2 : Int32)))), iv (if (p4 &&& (2 : Int32)) = (0 : Int32) then p1 else (p3 + ((p5 >>> ((4 : Int32) &&& 31)) % (2 : Int32)))), rv b3, iv (fh (if (p4 &&& (1 : Int32)) = (0 : Int32) then p0 else (p2 + (p5 % (2 : Int32)))) (if (p4 &&& (2 : Int32)) = (0 : Int32) then p1 else (p3 + ((p5 >>> (4 : Int32)) % (2 : Int32)))) p2 p3), iv (if (((if (p4 &&& (1 : Int32)) = (0 : Int32) then p0 else (p2 + (p5 % (2 : Int32)))).toInt64) - (p2.toInt64)) < (0 : Int64) then (0 : Int32) else (1 : Int32)), oU, oU] [(.int (0 : Int32))])) _
        exact k
      · simp only [if_neg hc9] at k
        refine XS.ifNo X7.here hx rfl (hb hby at_86) rfl ((if0 _ _).trans (flt (fun q => hc9 ((lw_lt _ _).mp q))).1) ?_
        show Steps p.tables e below (T7.setTop (mkF m 89 #[iv p0, iv p1, iv p2, iv p3, iv p4, iv p5, iv (if (p4 &&& (1 : Int32)) = (0 : Int32) then p0 else (p2 + (p5 % (2 : Int32)))), iv (if (p4 &&& (2 : Int32)) = (0 : Int32) then p1 else (p3 + ((p5 >>> ((4 : Int32) &&& 31)) % (2 : Int32)))), rv b3, iv (fh (if (p4 &&& (1 : Int32)) = (0 : Int32) then p0 else (p2 + (p5 % (2 : Int32)))) (if (p4 &&& (2 : Int32)) = (0 : Int32) then p1 else (p3 + ((p5 >>> (4 : Int32)) % (2 : Int32)))) p2 p3), iv (if (((if (p4 &&& (1 : Int32)) = (0 : Int32) then p0 else (p2 + (p5 % (2 : Int32)))).toInt64) - (p2.toInt64)) < (0 : Int64) then (0 : Int32) else (1 : Int32)), oU, oU] [])) _
        refine XS.iconst X7.here hx rfl (hb hby at_89) ?_
        show Steps p.tables e below (T7.setTop (mkF m 90 #[iv p0, iv p1, iv p2, iv p3, iv p4, iv p5, iv (if (p4 &&& (1 : Int32)) = (0 : Int32) then p0 else (p2 + (p5 % (2 : Int32)))), iv (if (p4 &&& (2 : Int32)) = (0 : Int32) then p1 else (p3 + ((p5 >>> ((4 : Int32) &&& 31)) % (2 : Int32)))), rv b3, iv (fh (if (p4 &&& (1 : Int32)) = (0 : Int32) then p0 else (p2 + (p5 % (2 : Int32)))) (if (p4 &&& (2 : Int32)) = (0 : Int32) then p1 else (p3 + ((p5 >>> (4 : Int32)) % (2 : Int32)))) p2 p3), iv (if (((if (p4 &&& (1 : Int32)) = (0 : Int32) then p0 else (p2 + (p5 % (2 : Int32)))).toInt64) - (p2.toInt64)) < (0 : Int64) then (0 : Int32) else (1 : Int32)), oU, oU] [(.int (1 : Int32))])) _
        refine XS.goto X7.here hx rfl (pc0 := 90) (pc' := 94) rfl (hb hby at_90) (by decide) (by decide) ?_
        show Steps p.tables e below (T7.setTop (mkF m 94 #[iv p0, iv p1, iv p2, iv p3, iv p4, iv p5, iv (if (p4 &&& (1 : Int32)) = (0 : Int32) then p0 else (p2 + (p5 % (2 : Int32)))), iv (if (p4 &&& (2 : Int32)) = (0 : Int32) then p1 else (p3 + ((p5 >>> ((4 : Int32) &&& 31)) % (2 : Int32)))), rv b3, iv (fh (if (p4 &&& (1 : Int32)) = (0 : Int32) then p0 else (p2 + (p5 % (2 : Int32)))) (if (p4 &&& (2 : Int32)) = (0 : Int32) then p1 else (p3 + ((p5 >>> (4 : Int32)) % (2 : Int32)))) p2 p3), iv (if (((if (p4 &&& (1 : Int32)) = (0 : Int32) then p0 else (p2 + (p5 % (2 : Int32)))).toInt64) - (p2.toInt64)) < (0 : Int64) then (0 : Int32) else (1 : Int32)), oU, oU] [(.int (1 : Int32))])) _
        exact k
    show Steps p.tables e below (T7.setTop (mkF m 94 #[iv p0, iv p1, iv p2, iv p3, iv p4, iv p5, iv (if (p4 &&& (1 : Int32)) = (0 : Int32) then p0 else (p2 + (p5 % (2 : Int32)))), iv (if (p4 &&& (2 : Int32)) = (0 : Int32) then p1 else (p3 + ((p5 >>> ((4 : Int32) &&& 31)) % (2 : Int32)))), rv b3, iv (fh (if (p4 &&& (1 : Int32)) = (0 : Int32) then p0 else (p2 + (p5 % (2 : Int32)))) (if (p4 &&& (2 : Int32)) = (0 : Int32) then p1 else (p3 + ((p5 >>> (4 : Int32)) % (2 : Int32)))) p2 p3), iv (if (((if (p4 &&& (1 : Int32)) = (0 : Int32) then p0 else (p2 + (p5 % (2 : Int32)))).toInt64) - (p2.toInt64)) < (0 : Int64) then (0 : Int32) else (1 : Int32)), oU, oU] [(.int (if (((if (p4 &&& (2 : Int32)) = (0 : Int32) then p1 else (p3 + ((p5 >>> ((4 : Int32) &&& 31)) % (2 : Int32)))).toInt64) - (p3.toInt64)) < (0 : Int64) then (0 : Int32) else (1 : Int32)))])) _
    refine XS.istore X7.here hx rfl (hb hby at_94) rfl (l' := #[iv p0, iv p1, iv p2, iv p3, iv p4, iv p5, iv (if (p4 &&& (1 : Int32)) = (0 : Int32) then p0 else (p2 + (p5 % (2 : Int32)))), iv (if (p4 &&& (2 : Int32)) = (0 : Int32) then p1 else (p3 + ((p5 >>> ((4 : Int32) &&& 31)) % (2 : Int32)))), rv b3, iv (fh (if (p4 &&& (1 : Int32)) = (0 : Int32) then p0 else (p2 + (p5 % (2 : Int32)))) (if (p4 &&& (2 : Int32)) = (0 : Int32) then p1 else (p3 + ((p5 >>> (4 : Int32)) % (2 : Int32)))) p2 p3), iv (if (((if (p4 &&& (1 : Int32)) = (0 : Int32) then p0 else (p2 + (p5 % (2 : Int32)))).toInt64) - (p2.toInt64)) < (0 : Int64) then (0 : Int32) else (1 : Int32)), iv (if (((if (p4 &&& (2 : Int32)) = (0 : Int32) then p1 else (p3 + ((p5 >>> ((4 : Int32) &&& 31)) % (2 : Int32)))).toInt64) - (p3.toInt64)) < (0 : Int64) then (0 : Int32) else (1 : Int32)), oU]) rfl ?_
    show Steps p.tables e below (T7.setTop (mkF m 96 #[iv p0, iv p1, iv p2, iv p3, iv p4, iv p5, iv (if (p4 &&& (1 : Int32)) = (0 : Int32) then p0 else (p2 + (p5 % (2 : Int32)))), iv (if (p4 &&& (2 : Int32)) = (0 : Int32) then p1 else (p3 + ((p5 >>> ((4 : Int32) &&& 31)) % (2 : Int32)))), rv b3, iv (fh (if (p4 &&& (1 : Int32)) = (0 : Int32) then p0 else (p2 + (p5 % (2 : Int32)))) (if (p4 &&& (2 : Int32)) = (0 : Int32) then p1 else (p3 + ((p5 >>> (4 : Int32)) % (2 : Int32)))) p2 p3), iv (if (((if (p4 &&& (1 : Int32)) = (0 : Int32) then p0 else (p2 + (p5 % (2 : Int32)))).toInt64) - (p2.toInt64)) < (0 : Int64) then (0 : Int32) else (1 : Int32)), iv (if (((if (p4 &&& (2 : Int32)) = (0 : Int32) then p1 else (p3 + ((p5 >>> ((4 : Int32) &&& 31)) % (2 : Int32)))).toInt64) - (p3.toInt64)) < (0 : Int64) then (0 : Int32) else (1 : Int32)), oU] [])) _
    refine XS.iload X7.here hx rfl (hb hby at_96) rfl ?_
    show Steps p.tables e below (T7.setTop (mkF m 98 #[iv p0, iv p1, iv p2, iv p3, iv p4, iv p5, iv (if (p4 &&& (1 : Int32)) = (0 : Int32) then p0 else (p2 + (p5 % (2 : Int32)))), iv (if (p4 &&& (2 : Int32)) = (0 : Int32) then p1 else (p3 + ((p5 >>> ((4 : Int32) &&& 31)) % (2 : Int32)))), rv b3, iv (fh (if (p4 &&& (1 : Int32)) = (0 : Int32) then p0 else (p2 + (p5 % (2 : Int32)))) (if (p4 &&& (2 : Int32)) = (0 : Int32) then p1 else (p3 + ((p5 >>> (4 : Int32)) % (2 : Int32)))) p2 p3), iv (if (((if (p4 &&& (1 : Int32)) = (0 : Int32) then p0 else (p2 + (p5 % (2 : Int32)))).toInt64) - (p2.toInt64)) < (0 : Int64) then (0 : Int32) else (1 : Int32)), iv (if (((if (p4 &&& (2 : Int32)) = (0 : Int32) then p1 else (p3 + ((p5 >>> ((4 : Int32) &&& 31)) % (2 : Int32)))).toInt64) - (p3.toInt64)) < (0 : Int64) then (0 : Int32) else (1 : Int32)), oU] [(.int (if (((if (p4 &&& (1 : Int32)) = (0 : Int32) then p0 else (p2 + (p5 % (2 : Int32)))).toInt64) - (p2.toInt64)) < (0 : Int64) then (0 : Int32) else (1 : Int32)))])) _
    refine (fun t (k : Steps p.tables e below (T7.setTop (mkF m 111 #[iv p0, iv p1, iv p2, iv p3, iv p4, iv p5, iv (if (p4 &&& (1 : Int32)) = (0 : Int32) then p0 else (p2 + (p5 % (2 : Int32)))), iv (if (p4 &&& (2 : Int32)) = (0 : Int32) then p1 else (p3 + ((p5 >>> ((4 : Int32) &&& 31)) % (2 : Int32)))), rv b3, iv (fh (if (p4 &&& (1 : Int32)) = (0 : Int32) then p0 else (p2 + (p5 % (2 : Int32)))) (if (p4 &&& (2 : Int32)) = (0 : Int32) then p1 else (p3 + ((p5 >>> (4 : Int32)) % (2 : Int32)))) p2 p3), iv (if (((if (p4 &&& (1 : Int32)) = (0 : Int32) then p0 else (p2 + (p5 % (2 : Int32)))).toInt64) - (p2.toInt64)) < (0 : Int64) then (0 : Int32) else (1 : Int32)), iv (if (((if (p4 &&& (2 : Int32)) = (0 : Int32) then p1 else (p3 + ((p5 >>> ((4 : Int32) &&& 31)) % (2 : Int32)))).toInt64) - (p3.toInt64)) < (0 : Int64) then (0 : Int32) else (1 : Int32)), oU] [(.int (if (if (((if (p4 &&& (1 : Int32)) = (0 : Int32) then p0 else (p2 + (p5 % (2 : Int32)))).toInt64) - (p2.toInt64)) < (0 : Int64) then (0 : Int32) else (1 : Int32)) = (0 : Int32) then (0 : Int32) else (if (if (((if (p4 &&& (2 : Int32)) = (0 : Int32) then p1 else (p3 + ((p5 >>> ((4 : Int32) &&& 31)) % (2 : Int32)))).toInt64) - (p3.toInt64)) < (0 : Int64) then (0 : Int32) else (1 : Int32)) = (0 : Int32) then (0 : Int32) else (1 : Int32))))])) t) => (?_ : Steps p.tables e below _ t)) _ ?_
    · by_cases hc10 : (if (((if (p4 &&& (1 : Int32)) = (0 : Int32) then p0 else (p2 + (p5 % (2 : Int32)))).toInt64) - (p2.toInt64)) < (0 : Int64) then (0 : Int32) else (1 : Int32)) = (0 : Int32)
      · simp only [if_pos hc10] at k
        refine XS.ifYes X7.here hx rfl (pc0 := 98) (pc' := 110) rfl (hb hby at_98) rfl ((if0 _ _).trans (teq hc10).1) (by decide) (by decide) ?_
        show Steps p.tables e below (T7.setTop (mkF m 110 #[iv p0, iv p1, iv p2, iv p3, iv p4, iv p5, iv (if (p4 &&& (1 : Int32)) = (0 : Int32) then p0 else (p2 + (p5 % (2 : Int32)))), iv (if (p4 &&& (2 : Int32)) = (0 : Int32) then p1 else (p3 + ((p5 >>> ((4 : Int32) &&& 31)) % (2 : Int32)))), rv b3, iv (fh (if (p4 &&& (1 : Int32)) = (0 : Int32) then p0 else (p2 + (p5 % (2 : Int32)))) (if (p4 &&& (2 : Int32)) = (0 : Int32) then p1 else (p3 + ((p5 >>> (4 : Int32)) % (2 : Int32)))) p2 p3), iv (if (((if (p4 &&& (1 : Int32)) = (0 : Int32) then p0 else (p2 + (p5 % (2 : Int32)))).toInt64) - (p2.toInt64)) < (0 : Int64) then (0 : Int32) else (1 : Int32)), iv (if (((if (p4 &&& (2 : Int32)) = (0 : Int32) then p1 else (p3 + ((p5 >>> ((4 : Int32) &&& 31)) % (2 : Int32)))).toInt64) - (p3.toInt64)) < (0 : Int64) then (0 : Int32) else (1 : Int32)), oU] [])) _
        refine XS.iconst X7.here hx rfl (hb hby at_110) ?_
        show Steps p.tables e below (T7.setTop (mkF m 111 #[iv p0, iv p1, iv p2, iv p3, iv p4, iv p5, iv (if (p4 &&& (1 : Int32)) = (0 : Int32) then p0 else (p2 + (p5 % (2 : Int32)))), iv (if (p4 &&& (2 : Int32)) = (0 : Int32) then p1 else (p3 + ((p5 >>> ((4 : Int32) &&& 31)) % (2 : Int32)))), rv b3, iv (fh (if (p4 &&& (1 : Int32)) = (0 : Int32) then p0 else (p2 + (p5 % (2 : Int32)))) (if (p4 &&& (2 : Int32)) = (0 : Int32) then p1 else (p3 + ((p5 >>> (4 : Int32)) % (2 : Int32)))) p2 p3), iv (if (((if (p4 &&& (1 : Int32)) = (0 : Int32) then p0 else (p2 + (p5 % (2 : Int32)))).toInt64) - (p2.toInt64)) < (0 : Int64) then (0 : Int32) else (1 : Int32)), iv (if (((if (p4 &&& (2 : Int32)) = (0 : Int32) then p1 else (p3 + ((p5 >>> ((4 : Int32) &&& 31)) % (2 : Int32)))).toInt64) - (p3.toInt64)) < (0 : Int64) then (0 : Int32) else (1 : Int32)), oU] [(.int (0 : Int32))])) _
        exact k
      · simp only [if_neg hc10] at k
        refine XS.ifNo X7.here hx rfl (hb hby at_98) rfl ((if0 _ _).trans (feq hc10).1) ?_
        show Steps p.tables e below (T7.setTop (mkF m 101 #[iv p0, iv p1, iv p2, iv p3, iv p4, iv p5, iv (if (p4 &&& (1 : Int32)) = (0 : Int32) then p0 else (p2 + (p5 % (2 : Int32)))), iv (if (p4 &&& (2 : Int32)) = (0 : Int32) then p1 else (p3 + ((p5 >>> ((4 : Int32) &&& 31)) % (2 : Int32)))), rv b3, iv (fh (if (p4 &&& (1 : Int32)) = (0 : Int32) then p0 else (p2 + (p5 % (2 : Int32)))) (if (p4 &&& (2 : Int32)) = (0 : Int32) then p1 else (p3 + ((p5 >>> (4 : Int32)) % (2 : Int32)))) p2 p3), iv (if (((if (p4 &&& (1 : Int32)) = (0 : Int32) then p0 else (p2 + (p5 % (2 : Int32)))).toInt64) - (p2.toInt64)) < (0 : Int64) then (0 : Int32) else (1 : Int32)), iv (if (((if (p4 &&& (2 : Int32)) = (0 : Int32) then p1 else (p3 + ((p5 >>> ((4 : Int32) &&& 31)) % (2 : Int32)))).toInt64) - (p3.toInt64)) < (0 : Int64) then (0 : Int32) else (1 : Int32)), oU] [])) _
        refine XS.iload X7.here hx rfl (hb hby at_101) rfl ?_
        show Steps p.tables e below (T7.setTop (mkF m 103 #[iv p0, iv p1, iv p2, iv p3, iv p4, iv p5, iv (if (p4 &&& (1 : Int32)) = (0 : Int32) then p0 else (p2 + (p5 % (2 : Int32)))), iv (if (p4 &&& (2 : Int32)) = (0 : Int32) then p1 else (p3 + ((p5 >>> ((4 : Int32) &&& 31)) % (2 : Int32)))), rv b3, iv (fh (if (p4 &&& (1 : Int32)) = (0 : Int32) then p0 else (p2 + (p5 % (2 : Int32)))) (if (p4 &&& (2 : Int32)) = (0 : Int32) then p1 else (p3 + ((p5 >>> (4 : Int32)) % (2 : Int32)))) p2 p3), iv (if (((if (p4 &&& (1 : Int32)) = (0 : Int32) then p0 else (p2 + (p5 % (2 : Int32)))).toInt64) - (p2.toInt64)) < (0 : Int64) then (0 : Int32) else (1 : Int32)), iv (if (((if (p4 &&& (2 : Int32)) = (0 : Int32) then p1 else (p3 + ((p5 >>> ((4 : Int32) &&& 31)) % (2 : Int32)))).toInt64) - (p3.toInt64)) < (0 : Int64) then (0 : Int32) else (1 : Int32)), oU] [(.int (if (((if (p4 &&& (2 : Int32)) = (0 : Int32) then p1 else (p3 + ((p5 >>> ((4 : Int32) &&& 31)) % (2 : Int32)))).toInt64) - (p3.toInt64)) < (0 : Int64) then (0 : Int32) else (1 : Int32)))])) _
        refine (fun t (k : Steps p.tables e below (T7.setTop (mkF m 111 #[iv p0, iv p1, iv p2, iv p3, iv p4, iv p5, iv (if (p4 &&& (1 : Int32)) = (0 : Int32) then p0 else (p2 + (p5 % (2 : Int32)))), iv (if (p4 &&& (2 : Int32)) = (0 : Int32) then p1 else (p3 + ((p5 >>> ((4 : Int32) &&& 31)) % (2 : Int32)))), rv b3, iv (fh (if (p4 &&& (1 : Int32)) = (0 : Int32) then p0 else (p2 + (p5 % (2 : Int32)))) (if (p4 &&& (2 : Int32)) = (0 : Int32) then p1 else (p3 + ((p5 >>> (4 : Int32)) % (2 : Int32)))) p2 p3), iv (if (((if (p4 &&& (1 : Int32)) = (0 : Int32) then p0 else (p2 + (p5 % (2 : Int32)))).toInt64) - (p2.toInt64)) < (0 : Int64) then (0 : Int32) else (1 : Int32)), iv (if (((if (p4 &&& (2 : Int32)) = (0 : Int32) then p1 else (p3 + ((p5 >>> ((4 : Int32) &&& 31)) % (2 : Int32)))).toInt64) - (p3.toInt64)) < (0 : Int64) then (0 : Int32) else (1 : Int32)), oU] [(.int (if (if (((if (p4 &&& (2 : Int32)) = (0 : Int32) then p1 else (p3 + ((p5 >>> ((4 : Int32) &&& 31)) % (2 : Int32)))).toInt64) - (p3.toInt64)) < (0 : Int64) then (0 : Int32) else (1 : Int32)) = (0 : Int32) then (0 : Int32) else (1 : Int32)))])) t) => (?_ : Steps p.tables e below _ t)) _ ?_
        · by_cases hc11 : (if (((if (p4 &&& (2 : Int32)) = (0 : Int32) then p1 else (p3 + ((p5 >>> ((4 : Int32) &&& 31)) % (2 : Int32)))).toInt64) - (p3.toInt64)) < (0 : Int64) then (0 : Int32) else (1 : Int32)) = (0 : Int32)
          · simp only [if_pos hc11] at k
            refine XS.ifYes X7.here hx rfl (pc0 := 103) (pc' := 110) rfl (hb hby at_103) rfl ((if0 _ _).trans (teq hc11).1) (by decide) (by decide) ?_
            show Steps p.tables e below (T7.setTop (mkF m 110 #[iv p0, iv p1, iv p2, iv p3, iv p4, iv p5, iv (if (p4 &&& (1 : Int32)) = (0 : Int32) then p0 else (p2 + (p5 % (2 : Int32)))), iv (if (p4 &&& (2 : Int32)) = (0 : Int32) then p1 else (p3 + ((p5 >>> ((4 : Int32) &&& 31)) % (2 : Int32)))), rv b3, iv (fh (if (p4 &&& (1 : Int32)) = (0 : Int32) then p0 else (p2 + (p5 % (2 : Int32)))) (if (p4 &&& (2 : Int32)) = (0 : Int32) then p1 else (p3 + ((p5 >>> (4 : Int32)) % (2 : Int32)))) p2 p3), iv (if (((if (p4 &&& (1 : Int32)) = (0 : Int32) then p0 else (p2 + (p5 % (2 : Int32)))).toInt64) - (p2.toInt64)) < (0 : Int64) then (0 : Int32) else (1 : Int32)), iv (if (((if (p4 &&& (2 : Int32)) = (0 : Int32) then p1 else (p3 + ((p5 >>> ((4 : Int32) &&& 31)) % (2 : Int32)))).toInt64) - (p3.toInt64)) < (0 : Int64) then (0 : Int32) else (1 : Int32)), oU] [])) _
            refine XS.iconst X7.here hx rfl (hb hby at_110) ?_
            show Steps p.tables e below (T7.setTop (mkF m 111 #[iv p0, iv p1, iv p2, iv p3, iv p4, iv p5, iv (if (p4 &&& (1 : Int32)) = (0 : Int32) then p0 else (p2 + (p5 % (2 : Int32)))), iv (if (p4 &&& (2 : Int32)) = (0 : Int32) then p1 else (p3 + ((p5 >>> ((4 : Int32) &&& 31)) % (2 : Int32)))), rv b3, iv (fh (if (p4 &&& (1 : Int32)) = (0 : Int32) then p0 else (p2 + (p5 % (2 : Int32)))) (if (p4 &&& (2 : Int32)) = (0 : Int32) then p1 else (p3 + ((p5 >>> (4 : Int32)) % (2 : Int32)))) p2 p3), iv (if (((if (p4 &&& (1 : Int32)) = (0 : Int32) then p0 else (p2 + (p5 % (2 : Int32)))).toInt64) - (p2.toInt64)) < (0 : Int64) then (0 : Int32) else (1 : Int32)), iv (if (((if (p4 &&& (2 : Int32)) = (0 : Int32) then p1 else (p3 + ((p5 >>> ((4 : Int32) &&& 31)) % (2 : Int32)))).toInt64) - (p3.toInt64)) < (0 : Int64) then (0 : Int32) else (1 : Int32)), oU] [(.int (0 : Int32))])) _
            exact k
          · simp only [if_neg hc11] at k
            refine XS.ifNo X7.here hx rfl (hb hby at_103) rfl ((if0 _ _).trans (feq hc11).1) ?_
            show Steps p.tables e below (T7.setTop (mkF m 106 #[iv p0, iv p1, iv p2, iv p3, iv p4, iv p5, iv (if (p4 &&& (1 : Int32)) = (0 : Int32) then p0 else (p2 + (p5 % (2 : Int32)))), iv (if (p4 &&& (2 : Int32)) = (0 : Int32) then p1 else (p3 + ((p5 >>> ((4 : Int32) &&& 31)) % (2 : Int32)))), rv b3, iv (fh (if (p4 &&& (1 : Int32)) = (0 : Int32) then p0 else (p2 + (p5 % (2 : Int32)))) (if (p4 &&& (2 : Int32)) = (0 : Int32) then p1 else (p3 + ((p5 >>> (4 : Int32)) % (2 : Int32)))) p2 p3), iv (if (((if (p4 &&& (1 : Int32)) = (0 : Int32) then p0 else (p2 + (p5 % (2 : Int32)))).toInt64) - (p2.toInt64)) < (0 : Int64) then (0 : Int32) else (1 : Int32)), iv (if (((if (p4 &&& (2 : Int32)) = (0 : Int32) then p1 else (p3 + ((p5 >>> ((4 : Int32) &&& 31)) % (2 : Int32)))).toInt64) - (p3.toInt64)) < (0 : Int64) then (0 : Int32) else (1 : Int32)), oU] [])) _
            refine XS.iconst X7.here hx rfl (hb hby at_106) ?_
            show Steps p.tables e below (T7.setTop (mkF m 107 #[iv p0, iv p1, iv p2, iv p3, iv p4, iv p5, iv (if (p4 &&& (1 : Int32)) = (0 : Int32) then p0 else (p2 + (p5 % (2 : Int32)))), iv (if (p4 &&& (2 : Int32)) = (0 : Int32) then p1 else (p3 + ((p5 >>> ((4 : Int32) &&& 31)) % (2 : Int32)))), rv b3, iv (fh (if (p4 &&& (1 : Int32)) = (0 : Int32) then p0 else (p2 + (p5 % (2 : Int32)))) (if (p4 &&& (2 : Int32)) = (0 : Int32) then p1 else (p3 + ((p5 >>> (4 : Int32)) % (2 : Int32)))) p2 p3), iv (if (((if (p4 &&& (1 : Int32)) = (0 : Int32) then p0 else (p2 + (p5 % (2 : Int32)))).toInt64) - (p2.toInt64)) < (0 : Int64) then (0 : Int32) else (1 : Int32)), iv (if (((if (p4 &&& (2 : Int32)) = (0 : Int32) then p1 else (p3 + ((p5 >>> ((4 : Int32) &&& 31)) % (2 : Int32)))).toInt64) - (p3.toInt64)) < (0 : Int64) then (0 : Int32) else (1 : Int32)), oU] [(.int (1 : Int32))])) _
            refine XS.goto X7.here hx rfl (pc0 := 107) (pc' := 111) rfl (hb hby at_107) (by decide) (by decide) ?_
            show Steps p.tables e below (T7.setTop (mkF m 111 #[iv p0, iv p1, iv p2, iv p3, iv p4, iv p5, iv (if (p4 &&& (1 : Int32)) = (0 : Int32) then p0 else (p2 + (p5 % (2 : Int32)))), iv (if (p4 &&& (2 : Int32)) = (0 : Int32) then p1 else (p3 + ((p5 >>> ((4 : Int32) &&& 31)) % (2 : Int32)))), rv b3, iv (fh (if (p4 &&& (1 : Int32)) = (0 : Int32) then p0 else (p2 + (p5 % (2 : Int32)))) (if (p4 &&& (2 : Int32)) = (0 : Int32) then p1 else (p3 + ((p5 >>> (4 : Int32)) % (2 : Int32)))) p2 p3), iv (if (((if (p4 &&& (1 : Int32)) = (0 : Int32) then p0 else (p2 + (p5 % (2 : Int32)))).toInt64) - (p2.toInt64)) < (0 : Int64) then (0 : Int32) else (1 : Int32)), iv (if (((if (p4 &&& (2 : Int32)) = (0 : Int32) then p1 else (p3 + ((p5 >>> ((4 : Int32) &&& 31)) % (2 : Int32)))).toInt64) - (p3.toInt64)) < (0 : Int64) then (0 : Int32) else (1 : Int32)), oU] [(.int (1 : Int32))])) _
            exact k
        show Steps p.tables e below (T7.setTop (mkF m 111 #[iv p0, iv p1, iv p2, iv p3, iv p4, iv p5, iv (if (p4 &&& (1 : Int32)) = (0 : Int32) then p0 else (p2 + (p5 % (2 : Int32)))), iv (if (p4 &&& (2 : Int32)) = (0 : Int32) then p1 else (p3 + ((p5 >>> ((4 : Int32) &&& 31)) % (2 : Int32)))), rv b3, iv (fh (if (p4 &&& (1 : Int32)) = (0 : Int32) then p0 else (p2 + (p5 % (2 : Int32)))) (if (p4 &&& (2 : Int32)) = (0 : Int32) then p1 else (p3 + ((p5 >>> (4 : Int32)) % (2 : Int32)))) p2 p3), iv (if (((if (p4 &&& (1 : Int32)) = (0 : Int32) then p0 else (p2 + (p5 % (2 : Int32)))).toInt64) - (p2.toInt64)) < (0 : Int64) then (0 : Int32) else (1 : Int32)), iv (if (((if (p4 &&& (2 : Int32)) = (0 : Int32) then p1 else (p3 + ((p5 >>> ((4 : Int32) &&& 31)) % (2 : Int32)))).toInt64) - (p3.toInt64)) < (0 : Int64) then (0 : Int32) else (1 : Int32)), oU] [(.int (if (if (((if (p4 &&& (2 : Int32)) = (0 : Int32) then p1 else (p3 + ((p5 >>> ((4 : Int32) &&& 31)) % (2 : Int32)))).toInt64) - (p3.toInt64)) < (0 : Int64) then (0 : Int32) else (1 : Int32)) = (0 : Int32) then (0 : Int32) else (1 : Int32)))])) _
        exact k
    show Steps p.tables e below (T7.setTop (mkF m 111 #[iv p0, iv p1, iv p2, iv p3, iv p4, iv p5, iv (if (p4 &&& (1 : Int32)) = (0 : Int32) then p0 else (p2 + (p5 % (2 : Int32)))), iv (if (p4 &&& (2 : Int32)) = (0 : Int32) then p1 else (p3 + ((p5 >>> ((4 : Int32) &&& 31)) % (2 : Int32)))), rv b3, iv (fh (if (p4 &&& (1 : Int32)) = (0 : Int32) then p0 else (p2 + (p5 % (2 : Int32)))) (if (p4 &&& (2 : Int32)) = (0 : Int32) then p1 else (p3 + ((p5 >>> (4 : Int32)) % (2 : Int32)))) p2 p3), iv (if (((if (p4 &&& (1 : Int32)) = (0 : Int32) then p0 else (p2 + (p5 % (2 : Int32)))).toInt64) - (p2.toInt64)) < (0 : Int64) then (0 : Int32) else (1 : Int32)), iv (if (((if (p4 &&& (2 : Int32)) = (0 : Int32) then p1 else (p3 + ((p5 >>> ((4 : Int32) &&& 31)) % (2 : Int32)))).toInt64) - (p3.toInt64)) < (0 : Int64) then (0 : Int32) else (1 : Int32)), oU] [(.int (if (if (((if (p4 &&& (1 : Int32)) = (0 : Int32) then p0 else (p2 + (p5 % (2 : Int32)))).toInt64) - (p2.toInt64)) < (0 : Int64) then (0 : Int32) else (1 : Int32)) = (0 : Int32) then (0 : Int32) else (if (if (((if (p4 &&& (2 : Int32)) = (0 : Int32) then p1 else (p3 + ((p5 >>> ((4 : Int32) &&& 31)) % (2 : Int32)))).toInt64) - (p3.toInt64)) < (0 : Int64) then (0 : Int32) else (1 : Int32)) = (0 : Int32) then (0 : Int32) else (1 : Int32))))])) _
    refine XS.istore X7.here hx rfl (hb hby at_111) rfl (l' := #[iv p0, iv p1, iv p2, iv p3, iv p4, iv p5, iv (if (p4 &&& (1 : Int32)) = (0 : Int32) then p0 else (p2 + (p5 % (2 : Int32)))), iv (if (p4 &&& (2 : Int32)) = (0 : Int32) then p1 else (p3 + ((p5 >>> ((4 : Int32) &&& 31)) % (2 : Int32)))), rv b3, iv (fh (if (p4 &&& (1 : Int32)) = (0 : Int32) then p0 else (p2 + (p5 % (2 : Int32)))) (if (p4 &&& (2 : Int32)) = (0 : Int32) then p1 else (p3 + ((p5 >>> (4 : Int32)) % (2 : Int32)))) p2 p3), iv (if (((if (p4 &&& (1 : Int32)) = (0 : Int32) then p0 else (p2 + (p5 % (2 : Int32)))).toInt64) - (p2.toInt64)) < (0 : Int64) then (0 : Int32) else (1 : Int32)), iv (if (((if (p4 &&& (2 : Int32)) = (0 : Int32) then p1 else (p3 + ((p5 >>> ((4 : Int32) &&& 31)) % (2 : Int32)))).toInt64) - (p3.toInt64)) < (0 : Int64) then (0 : Int32) else (1 : Int32)), iv (if (if (((if (p4 &&& (1 : Int32)) = (0 : Int32) then p0 else (p2 + (p5 % (2 : Int32)))).toInt64) - (p2.toInt64)) < (0 : Int64) then (0 : Int32) else (1 : Int32)) = (0 : Int32) then (0 : Int32) else (if (if (((if (p4 &&& (2 : Int32)) = (0 : Int32) then p1 else (p3 + ((p5 >>> ((4 : Int32) &&& 31)) % (2 : Int32)))).toInt64) - (p3.toInt64)) < (0 : Int64) then (0 : Int32) else (1 : Int32)) = (0 : Int32) then (0 : Int32) else (1 : Int32)))]) rfl ?_
    show Steps p.tables e below (T7.setTop (mkF m 113 #[iv p0, iv p1, iv p2, iv p3, iv p4, iv p5, iv (if (p4 &&& (1 : Int32)) = (0 : Int32) then p0 else (p2 + (p5 % (2 : Int32)))), iv (if (p4 &&& (2 : Int32)) = (0 : Int32) then p1 else (p3 + ((p5 >>> ((4 : Int32) &&& 31)) % (2 : Int32)))), rv b3, iv (fh (if (p4 &&& (1 : Int32)) = (0 : Int32) then p0 else (p2 + (p5 % (2 : Int32)))) (if (p4 &&& (2 : Int32)) = (0 : Int32) then p1 else (p3 + ((p5 >>> (4 : Int32)) % (2 : Int32)))) p2 p3), iv (if (((if (p4 &&& (1 : Int32)) = (0 : Int32) then p0 else (p2 + (p5 % (2 : Int32)))).toInt64) - (p2.toInt64)) < (0 : Int64) then (0 : Int32) else (1 : Int32)), iv (if (((if (p4 &&& (2 : Int32)) = (0 : Int32) then p1 else (p3 + ((p5 >>> ((4 : Int32) &&& 31)) % (2 : Int32)))).toInt64) - (p3.toInt64)) < (0 : Int64) then (0 : Int32) else (1 : Int32)), iv (if (if (((if (p4 &&& (1 : Int32)) = (0 : Int32) then p0 else (p2 + (p5 % (2 : Int32)))).toInt64) - (p2.toInt64)) < (0 : Int64) then (0 : Int32) else (1 : Int32)) = (0 : Int32) then (0 : Int32) else (if (if (((if (p4 &&& (2 : Int32)) = (0 : Int32) then p1 else (p3 + ((p5 >>> ((4 : Int32) &&& 31)) % (2 : Int32)))).toInt64) - (p3.toInt64)) < (0 : Int64) then (0 : Int32) else (1 : Int32)) = (0 : Int32) then (0 : Int32) else (1 : Int32)))] [])) _
    refine XS.iload X7.here hx rfl (hb hby at_113) rfl ?_
    show Steps p.tables e below (T7.setTop (mkF m 115 #[iv p0, iv p1, iv p2, iv p3, iv p4, iv p5, iv (if (p4 &&& (1 : Int32)) = (0 : Int32) then p0 else (p2 + (p5 % (2 : Int32)))), iv (if (p4 &&& (2 : Int32)) = (0 : Int32) then p1 else (p3 + ((p5 >>> ((4 : Int32) &&& 31)) % (2 : Int32)))), rv b3, iv (fh (if (p4 &&& (1 : Int32)) = (0 : Int32) then p0 else (p2 + (p5 % (2 : Int32)))) (if (p4 &&& (2 : Int32)) = (0 : Int32) then p1 else (p3 + ((p5 >>> (4 : Int32)) % (2 : Int32)))) p2 p3), iv (if (((if (p4 &&& (1 : Int32)) = (0 : Int32) then p0 else (p2 + (p5 % (2 : Int32)))).toInt64) - (p2.toInt64)) < (0 : Int64) then (0 : Int32) else (1 : Int32)), iv (if (((if (p4 &&& (2 : Int32)) = (0 : Int32) then p1 else (p3 + ((p5 >>> ((4 : Int32) &&& 31)) % (2 : Int32)))).toInt64) - (p3.toInt64)) < (0 : Int64) then (0 : Int32) else (1 : Int32)), iv (if (if (((if (p4 &&& (1 : Int32)) = (0 : Int32) then p0 else (p2 + (p5 % (2 : Int32)))).toInt64) - (p2.toInt64)) < (0 : Int64) then (0 : Int32) else (1 : Int32)) = (0 : Int32) then (0 : Int32) else (if (if (((if (p4 &&& (2 : Int32)) = (0 : Int32) then p1 else (p3 + ((p5 >>> ((4 : Int32) &&& 31)) % (2 : Int32)))).toInt64) - (p3.toInt64)) < (0 : Int64) then (0 : Int32) else (1 : Int32)) = (0 : Int32) then (0 : Int32) else (1 : Int32)))] [(.int (fh (if (p4 &&& (1 : Int32)) = (0 : Int32) then p0 else (p2 + (p5 % (2 : Int32)))) (if (p4 &&& (2 : Int32)) = (0 : Int32) then p1 else (p3 + ((p5 >>> (4 : Int32)) % (2 : Int32)))) p2 p3))])) _
    refine XS.iload X7.here hx rfl (hb hby at_115) rfl ?_
    show Steps p.tables e below (T7.setTop (mkF m 117 #[iv p0, iv p1, iv p2, iv p3, iv p4, iv p5, iv (if (p4 &&& (1 : Int32)) = (0 : Int32) then p0 else (p2 + (p5 % (2 : Int32)))), iv (if (p4 &&& (2 : Int32)) = (0 : Int32) then p1 else (p3 + ((p5 >>> ((4 : Int32) &&& 31)) % (2 : Int32)))), rv b3, iv (fh (if (p4 &&& (1 : Int32)) = (0 : Int32) then p0 else (p2 + (p5 % (2 : Int32)))) (if (p4 &&& (2 : Int32)) = (0 : Int32) then p1 else (p3 + ((p5 >>> (4 : Int32)) % (2 : Int32)))) p2 p3), iv (if (((if (p4 &&& (1 : Int32)) = (0 : Int32) then p0 else (p2 + (p5 % (2 : Int32)))).toInt64) - (p2.toInt64)) < (0 : Int64) then (0 : Int32) else (1 : Int32)), iv (if (((if (p4 &&& (2 : Int32)) = (0 : Int32) then p1 else (p3 + ((p5 >>> ((4 : Int32) &&& 31)) % (2 : Int32)))).toInt64) - (p3.toInt64)) < (0 : Int64) then (0 : Int32) else (1 : Int32)), iv (if (if (((if (p4 &&& (1 : Int32)) = (0 : Int32) then p0 else (p2 + (p5 % (2 : Int32)))).toInt64) - (p2.toInt64)) < (0 : Int64) then (0 : Int32) else (1 : Int32)) = (0 : Int32) then (0 : Int32) else (if (if (((if (p4 &&& (2 : Int32)) = (0 : Int32) then p1 else (p3 + ((p5 >>> ((4 : Int32) &&& 31)) % (2 : Int32)))).toInt64) - (p3.toInt64)) < (0 : Int64) then (0 : Int32) else (1 : Int32)) = (0 : Int32) then (0 : Int32) else (1 : Int32)))] [(.int (if (if (((if (p4 &&& (1 : Int32)) = (0 : Int32) then p0 else (p2 + (p5 % (2 : Int32)))).toInt64) - (p2.toInt64)) < (0 : Int64) then (0 : Int32) else (1 : Int32)) = (0 : Int32) then (0 : Int32) else (if (if (((if (p4 &&& (2 : Int32)) = (0 : Int32) then p1 else (p3 + ((p5 >>> ((4 : Int32) &&& 31)) % (2 : Int32)))).toInt64) - (p3.toInt64)) < (0 : Int64) then (0 : Int32) else (1 : Int32)) = (0 : Int32) then (0 : Int32) else (1 : Int32)))), (.int (fh (if (p4 &&& (1 : Int32)) = (0 : Int32) then p0 else (p2 + (p5 % (2 : Int32)))) (if (p4 &&& (2 : Int32)) = (0 : Int32) then p1 else (p3 + ((p5 >>> (4 : Int32)) % (2 : Int32)))) p2 p3))])) _
    refine XS.icmpNo X7.here hx rfl (hb hby at_117) rfl (teq (own_law _ _ _ _)).2 ?_
    show Steps p.tables e below (T7.setTop (mkF m 120 #[iv p0, iv p1, iv p2, iv p3, iv p4, iv p5, iv (if (p4 &&& (1 : Int32)) = (0 : Int32) then p0 else (p2 + (p5 % (2 : Int32)))), iv (if (p4 &&& (2 : Int32)) = (0 : Int32) then p1 else (p3 + ((p5 >>> ((4 : Int32) &&& 31)) % (2 : Int32)))), rv b3, iv (fh (if (p4 &&& (1 : Int32)) = (0 : Int32) then p0 else (p2 + (p5 % (2 : Int32)))) (if (p4 &&& (2 : Int32)) = (0 : Int32) then p1 else (p3 + ((p5 >>> (4 : Int32)) % (2 : Int32)))) p2 p3), iv (if (((if (p4 &&& (1 : Int32)) = (0 : Int32) then p0 else (p2 + (p5 % (2 : Int32)))).toInt64) - (p2.toInt64)) < (0 : Int64) then (0 : Int32) else (1 : Int32)), iv (if (((if (p4 &&& (2 : Int32)) = (0 : Int32) then p1 else (p3 + ((p5 >>> ((4 : Int32) &&& 31)) % (2 : Int32)))).toInt64) - (p3.toInt64)) < (0 : Int64) then (0 : Int32) else (1 : Int32)), iv (if (if (((if (p4 &&& (1 : Int32)) = (0 : Int32) then p0 else (p2 + (p5 % (2 : Int32)))).toInt64) - (p2.toInt64)) < (0 : Int64) then (0 : Int32) else (1 : Int32)) = (0 : Int32) then (0 : Int32) else (if (if (((if (p4 &&& (2 : Int32)) = (0 : Int32) then p1 else (p3 + ((p5 >>> ((4 : Int32) &&& 31)) % (2 : Int32)))).toInt64) - (p3.toInt64)) < (0 : Int64) then (0 : Int32) else (1 : Int32)) = (0 : Int32) then (0 : Int32) else (1 : Int32)))] [])) _
    refine XS.iconst X7.here hx rfl (hb hby at_120) ?_
    show Steps p.tables e below (T7.setTop (mkF m 121 #[iv p0, iv p1, iv p2, iv p3, iv p4, iv p5, iv (if (p4 &&& (1 : Int32)) = (0 : Int32) then p0 else (p2 + (p5 % (2 : Int32)))), iv (if (p4 &&& (2 : Int32)) = (0 : Int32) then p1 else (p3 + ((p5 >>> ((4 : Int32) &&& 31)) % (2 : Int32)))), rv b3, iv (fh (if (p4 &&& (1 : Int32)) = (0 : Int32) then p0 else (p2 + (p5 % (2 : Int32)))) (if (p4 &&& (2 : Int32)) = (0 : Int32) then p1 else (p3 + ((p5 >>> (4 : Int32)) % (2 : Int32)))) p2 p3), iv (if (((if (p4 &&& (1 : Int32)) = (0 : Int32) then p0 else (p2 + (p5 % (2 : Int32)))).toInt64) - (p2.toInt64)) < (0 : Int64) then (0 : Int32) else (1 : Int32)), iv (if (((if (p4 &&& (2 : Int32)) = (0 : Int32) then p1 else (p3 + ((p5 >>> ((4 : Int32) &&& 31)) % (2 : Int32)))).toInt64) - (p3.toInt64)) < (0 : Int64) then (0 : Int32) else (1 : Int32)), iv (if (if (((if (p4 &&& (1 : Int32)) = (0 : Int32) then p0 else (p2 + (p5 % (2 : Int32)))).toInt64) - (p2.toInt64)) < (0 : Int64) then (0 : Int32) else (1 : Int32)) = (0 : Int32) then (0 : Int32) else (if (if (((if (p4 &&& (2 : Int32)) = (0 : Int32) then p1 else (p3 + ((p5 >>> ((4 : Int32) &&& 31)) % (2 : Int32)))).toInt64) - (p3.toInt64)) < (0 : Int64) then (0 : Int32) else (1 : Int32)) = (0 : Int32) then (0 : Int32) else (1 : Int32)))] [(.int (1 : Int32))])) _
    refine XS.goto X7.here hx rfl (pc0 := 121) (pc' := 125) rfl (hb hby at_121) (by decide) (by decide) ?_
    show Steps p.tables e below (T7.setTop (mkF m 125 #[iv p0, iv p1, iv p2, iv p3, iv p4, iv p5, iv (if (p4 &&& (1 : Int32)) = (0 : Int32) then p0 else (p2 + (p5 % (2 : Int32)))), iv (if (p4 &&& (2 : Int32)) = (0 : Int32) then p1 else (p3 + ((p5 >>> ((4 : Int32) &&& 31)) % (2 : Int32)))), rv b3, iv (fh (if (p4 &&& (1 : Int32)) = (0 : Int32) then p0 else (p2 + (p5 % (2 : Int32)))) (if (p4 &&& (2 : Int32)) = (0 : Int32) then p1 else (p3 + ((p5 >>> (4 : Int32)) % (2 : Int32)))) p2 p3), iv (if (((if (p4 &&& (1 : Int32)) = (0 : Int32) then p0 else (p2 + (p5 % (2 : Int32)))).toInt64) - (p2.toInt64)) < (0 : Int64) then (0 : Int32) else (1 : Int32)), iv (if (((if (p4 &&& (2 : Int32)) = (0 : Int32) then p1 else (p3 + ((p5 >>> ((4 : Int32) &&& 31)) % (2 : Int32)))).toInt64) - (p3.toInt64)) < (0 : Int64) then (0 : Int32) else (1 : Int32)), iv (if (if (((if (p4 &&& (1 : Int32)) = (0 : Int32) then p0 else (p2 + (p5 % (2 : Int32)))).toInt64) - (p2.toInt64)) < (0 : Int64) then (0 : Int32) else (1 : Int32)) = (0 : Int32) then (0 : Int32) else (if (if (((if (p4 &&& (2 : Int32)) = (0 : Int32) then p1 else (p3 + ((p5 >>> ((4 : Int32) &&& 31)) % (2 : Int32)))).toInt64) - (p3.toInt64)) < (0 : Int64) then (0 : Int32) else (1 : Int32)) = (0 : Int32) then (0 : Int32) else (1 : Int32)))] [(.int (1 : Int32))])) _
    exact k
  exact own_retN X7 Bd.notSynchronized hx (t := .boolean) Bd.returns (by simp) (hb hby at_125) (by
      rw [show T7.heap = T5.heap from e7]
      exact ⟨rfl, N0⟩) (by decide) (by decide)

set_option maxRecDepth 65536 in
set_option maxHeartbeats 40000000 in
theorem comes_1 {Post : Tables → Env → Array Value → State → Outcome → State → Prop} (hpost : ∀ tb e args s v u, (limb_1_1.after args s (.returned v) u = true ∧ limb_1_2.after args s (.returned v) u = true ∧ True) → FrameEnd s (.returned v) u (Jvm.fieldLocs frame_1_writes args s ++ Jvm.arrayLocs frame_1_arrays args s ++ Jvm.staticLocs frame_1_statics s) 16 128 → Post tb e args s (.returned v) u) :
    ArmFor flags0 classFile x code maxLocals ret World_1 tables_1 room_1 Calls_1 rest_1 Pre_1 Post := by
  intro l hfl _ _ p e ha hc hk s m args below hf hA hF happ hP
  obtain ⟨hcalls, hrest, hpre⟩ := hP
  obtain ⟨-, -, -, hnamed, -, -, -, hat⟩ := (Spec.applies_iff hf).mp happ
  obtain ⟨hg, hn⟩ := and_e (Cond.before_iff.mp (show (Jvm.Cond.and given_1 narrow_1).before args s = true from hpre))
  obtain ⟨g0, g0'⟩ := and_e hg
  obtain ⟨g1, g1'⟩ := and_e g0'
  obtain ⟨g2, g2'⟩ := and_e g1'
  obtain ⟨g3, g3'⟩ := and_e g2'
  obtain ⟨g4, g4'⟩ := and_e g3'
  obtain ⟨g5, g5'⟩ := and_e g4'
  obtain ⟨w0, w1, w2, w3, w4, w5, rfl⟩ : ∃ w0 w1 w2 w3 w4 w5 : Value, args = #[w0, w1, w2, w3, w4, w5] := by
    have hs : args.size = 6 := by simpa [Cond.value, given_1] using g0
    obtain ⟨L⟩ := args
    match L, hs with
    | [w0, w1, w2, w3, w4, w5], _ => exact ⟨w0, w1, w2, w3, w4, w5, rfl⟩
  have hw := fun d (hd : d ∈ tables_1) => atoms_spec (ws := Jvm.Cond.code x code maxLocals ret :: tables_1) hat d (List.mem_cons_of_mem _ hd)
  have hfit : Fit s := fun {y c} hc i hi => by
    obtain ⟨ha, rfl⟩ := Array.getElem?_eq_some_iff.mp hc
    have q := List.all_eq_true.mp ((Array.all_eq_true_iff_forall_mem.mp hF) _ (Array.getElem_mem ha)) i (List.mem_range.mpr hi)
    simpa [Array.getElem?_eq_getElem hi] using q
  obtain ⟨i0, ei0⟩ := is_v g1
  obtain rfl : w0 = (.int i0) := Option.some.inj ei0
  obtain ⟨i1, ei1⟩ := is_v g2
  obtain rfl : w1 = (.int i1) := Option.some.inj ei1
  obtain ⟨i2, ei2⟩ := is_v g3
  obtain rfl : w2 = (.int i2) := Option.some.inj ei2
  obtain ⟨i3, ei3⟩ := is_v g4
  obtain rfl : w3 = (.int i3) := Option.some.inj ei3
  obtain ⟨i4, ei4⟩ := is_v g5
  obtain rfl : w4 = (.int i4) := Option.some.inj ei4
  obtain ⟨i5, ei5⟩ := is_v g5'
  obtain rfl : w5 = (.int i5) := Option.some.inj ei5
  obtain ⟨n, o, h1, h2, h3, _, L, rfl, ⟨rfl, N⟩, hq⟩ := rm0 l s _ hw tables_1 i0 i1 i2 i3 i4 i5 s.heap s.heap.size (Nat.le_refl _) p e ha hc hk s m _ below hf ((Spec.applies_iff_loose hf).mp happ).1 ⟨rfl, State.Warmed39.refl s, rfl⟩ trivial
  refine ⟨n, _, h1, h2, h3, hpost _ _ _ _ _ _ ⟨Cond.after_iff.mpr rfl, Cond.after_iff.mpr (eq_i res_at (Term.int_eval (1)) rfl), trivial⟩ ⟨hq.1, hq.2.1, (hq.2.2.sift fun y hy => Or.inr (N y hy)).mono (by decide) (by decide)⟩⟩
theorem main_1_1 : Claimed_1_1 := comes_1 fun _ _ _ _ _ _ h hF => ⟨h.1, hF⟩
theorem main_1_2 : Claimed_1_2 := comes_1 fun _ _ _ _ _ _ h hF => ⟨h.2.1, hF⟩
end Jvm.Pilot.@@N@@
namespace Jvm.Pilot.@@N@@
open Jvm Jvm.ClassFile Sem Op Lib Jvm.Free Jvm.Stand Jvm.Pilot.@@N@@.Jvm.D
/-! MADE BY PROGRAM (witnessworld.py) out of the Statement's table words and the real class files: 10 classes; the members and pool entries that the words name. The judged class is class 1, her method 1. -/
namespace start1
open Jvm.ClassFile
def u (s : String) : CpInfo := .utf8 (stringToUtf16 s)
/-- a pool by its gaps: so many unusable entries, then the entry; so many at the end -/
def gap : Nat → List CpInfo → List CpInfo
  | 0, r => r
  | n + 1, r => .unusable :: gap n r
def poolList (es : List (Nat × CpInfo)) (last : Nat) : List CpInfo := es.foldr (fun e r => gap e.1 (e.2 :: r)) (gap last [])
def pool (es : List (Nat × CpInfo)) (last : Nat) : Array CpInfo := ⟨poolList es last⟩
def fileOf (pool : Array CpInfo) (this : Nat) (attrs : Array Attribute := #[]) (ms : Array MethodInfo := #[]) (fl : Nat := 33) (sup : Nat := 0) (ifs : Array Nat := #[]) (fds : Array FieldInfo := #[]) : ClassFile where
  minorVersion := 0
  majorVersion := 65
  constantPool := pool
  accessFlags := fl
  thisClass := this
  superClass := sup
  interfaces := ifs
  fields := fds
  methods := ms
  attributes := attrs
def plain (name : String) (sup : Option ClassId) : Class where
  name := name
  kind := .ordinary
  loader := none
  accessFlags := 33
  super := sup
  interfaces := #[]
  cf := none
  fields := #[]
  methods := #[]
  instanceTypes := #[]
  staticTypes := #[]
  resolved := #[]
  callSites := []
  init := .initialized
  statics := none
  mirror := none

def pool0 : Array CpInfo := pool [(5, u "<init>"), (0, u "()V"), (1, .class_ 10), (1, u "java/lang/Object")] 113

def k0c0 : Code := { maxStack := 0, maxLocals := 1, code := object_method_1_code, exceptionTable := #[], attributes := #[] }
def k0m0 : Method := { name := "<init>", desc := "()V", sig := { parameters := [], returnType := none }, accessFlags := 1, code := some k0c0 }
/-- java/lang/Object -/
def k0 : Class := { plain "java/lang/Object" none with
  accessFlags := 33
  interfaces := #[]
  cf := some (fileOf pool0 8 #[] #[{ accessFlags := 1, nameIndex := 5, descriptorIndex := 6, attributes := #[] }] 33 0 #[] #[])
  fields := #[]
  methods := #[k0m0]
  instanceTypes := #[]
  staticTypes := #[]
  resolved := Array.replicate 124 none
  statics := none }

def pool1 : Array CpInfo := pool [(2, .class_ 4), (1, u "java/lang/Object"), (0, u "<init>"), (0, u "()V"), (0, .class_ 8), (0, u "com/example/grantwright/grantwright/model/RetirementAlternative"), (0, .methodref 7 10), (0, .nameAndType 5 11), (0, u "(II)V"), (0, .methodref 7 13), (0, .nameAndType 14 15), (0, u "heldBy"), (0, u "(II)Z"), (0, .class_ 17), (0, u "com/example/grantwright/grantwright/model/RetirementAlternativeHeldByPinLaw"), (2, u "law"), (0, u "(IIIIII)Z")] 3

def k1m0 : Method := { name := "<init>", desc := "()V", sig := { parameters := [], returnType := none }, accessFlags := 1, code := none }
def k1c1 : Code := { maxStack := 4, maxLocals := 13, code := code, exceptionTable := #[], attributes := #[] }
def k1m1 : Method := { name := "law", desc := "(IIIIII)Z", sig := { parameters := [.int, .int, .int, .int, .int, .int], returnType := some .boolean }, accessFlags := 9, code := some k1c1 }
/-- com/example/grantwright/grantwright/model/RetirementAlternativeHeldByPinLaw -/
def k1 : Class := { plain "com/example/grantwright/grantwright/model/RetirementAlternativeHeldByPinLaw" (some 0) with
  accessFlags := 49
  interfaces := #[]
  cf := some (fileOf pool1 16 #[] #[{ accessFlags := 1, nameIndex := 5, descriptorIndex := 6, attributes := #[] }, { accessFlags := 9, nameIndex := 20, descriptorIndex := 21, attributes := #[] }] 49 2 #[] #[])
  fields := #[]
  methods := #[k1m0, k1m1]
  instanceTypes := #[]
  staticTypes := #[]
  resolved := Array.replicate 25 none
  statics := none }

def pool2 : Array CpInfo := pool [(1, .methodref 2 3), (0, .class_ 4), (0, .nameAndType 5 6), (0, u "java/lang/Object"), (0, u "<init>"), (0, u "()V"), (0, .class_ 8), (0, u "java/lang/Record")] 13

def k2c0 : Code := { maxStack := 1, maxLocals := 1, code := jdk_30_method_1_code, exceptionTable := #[], attributes := #[] }
def k2m0 : Method := { name := "<init>", desc := "()V", sig := { parameters := [], returnType := none }, accessFlags := 4, code := some k2c0 }
/-- java/lang/Record -/
def k2 : Class := { plain "java/lang/Record" (some 0) with
  accessFlags := 1057
  interfaces := #[]
  cf := some (fileOf pool2 7 #[] #[{ accessFlags := 4, nameIndex := 5, descriptorIndex := 6, attributes := #[] }] 1057 2 #[] #[])
  fields := #[]
  methods := #[k2m0]
  instanceTypes := #[]
  staticTypes := #[]
  resolved := Array.replicate 22 none
  statics := none }

def pool3 : Array CpInfo := pool [(1, .methodref 2 3), (0, .class_ 4), (0, .nameAndType 5 6), (0, u "java/lang/Record"), (0, u "<init>"), (0, u "()V"), (0, .fieldref 8 9), (0, .class_ 10), (0, .nameAndType 11 12), (0, u "com/example/grantwright/grantwright/model/RetirementAlternative"), (0, u "minAge"), (0, u "I"), (0, .fieldref 8 14), (0, .nameAndType 15 12), (0, u "minServiceYears"), (12, u "(II)V"), (3, u "heldBy"), (0, u "(II)Z")] 25

def k3c0 : Code := { maxStack := 2, maxLocals := 3, code := prog_73_method_1_code, exceptionTable := #[], attributes := #[] }
def k3m0 : Method := { name := "<init>", desc := "(II)V", sig := { parameters := [.int, .int], returnType := none }, accessFlags := 1, code := some k3c0 }
def k3c1 : Code := { maxStack := 2, maxLocals := 3, code := prog_73_method_2_code, exceptionTable := #[], attributes := #[] }
def k3m1 : Method := { name := "heldBy", desc := "(II)Z", sig := { parameters := [.int, .int], returnType := some .boolean }, accessFlags := 1, code := some k3c1 }
/-- com/example/grantwright/grantwright/model/RetirementAlternative -/
def k3 : Class := { plain "com/example/grantwright/grantwright/model/RetirementAlternative" (some 2) with
  accessFlags := 49
  interfaces := #[]
  cf := some (fileOf pool3 8 #[] #[{ accessFlags := 1, nameIndex := 5, descriptorIndex := 28, attributes := #[] }, { accessFlags := 1, nameIndex := 32, descriptorIndex := 33, attributes := #[] }] 49 2 #[] #[{ accessFlags := 18, nameIndex := 11, descriptorIndex := 12, attributes := #[] }, { accessFlags := 18, nameIndex := 15, descriptorIndex := 12, attributes := #[] }])
  fields := #[{ name := "minAge", type := .int, accessFlags := 18, slot := 0, constantValue := 0 }, { name := "minServiceYears", type := .int, accessFlags := 18, slot := 1, constantValue := 0 }]
  methods := #[k3m0, k3m1]
  instanceTypes := #[.int, .int]
  staticTypes := #[]
  resolved := Array.replicate 59 none
  statics := none }

def pool4 : Array CpInfo := pool [(1, u "java/lang/Cloneable"), (0, .class_ 1), (0, u "java/lang/Object"), (0, .class_ 3)] 3

/-- java/lang/Cloneable -/
def k4 : Class := { plain "java/lang/Cloneable" (some 0) with
  accessFlags := 1537
  interfaces := #[]
  cf := some (fileOf pool4 2 #[] #[] 1537 4 #[] #[])
  fields := #[]
  methods := #[]
  instanceTypes := #[]
  staticTypes := #[]
  resolved := Array.replicate 8 none
  statics := none }

def pool5 : Array CpInfo := pool [(1, u "java/io/Serializable"), (0, .class_ 1), (0, u "java/lang/Object"), (0, .class_ 3)] 3

/-- java/io/Serializable -/
def k5 : Class := { plain "java/io/Serializable" (some 0) with
  accessFlags := 1537
  interfaces := #[]
  cf := some (fileOf pool5 2 #[] #[] 1537 4 #[] #[])
  fields := #[]
  methods := #[]
  instanceTypes := #[]
  staticTypes := #[]
  resolved := Array.replicate 8 none
  statics := none }

/-- the primitive byte -/
def k6 : Class := { plain "byte" none with kind := .primitive 'B', accessFlags := 0x411 }
/-- [B -/
def k7 : Class := { plain "[B" (some 0) with kind := .array 6 .byte, interfaces := #[4, 5], accessFlags := 1041 }

/-- the primitive int -/
def k8 : Class := { plain "int" none with kind := .primitive 'I', accessFlags := 0x411 }
/-- [I -/
def k9 : Class := { plain "[I" (some 0) with kind := .array 8 .int, interfaces := #[4, 5], accessFlags := 1041 }

def heap : Heap := #[]
def classes : Array Class := #[k0, k1, k2, k3, k4, k5, k6, k7, k8, k9]
def interned : List (Array UInt16 × Addr) := []
def slotsUsed : Nat := 0
def theMethod : MethodId := ⟨1, 1⟩
def args0 : Array Value := #[.int 5, .int 7, .int 9, .int 11, .int 3, .int 2]
def aboutOver (below : List Frame) : State where
  vm := { classes := classes, interned := interned.toArray }
  heap := heap
  slotsUsed := slotsUsed
  threads := #[{ frames := .invoking theMethod args0 :: below }]
def below0 : List Frame := [.native { method := ⟨0, 0⟩, args := #[] }]
def about1 : State := aboutOver below0
def p0 : Program := .bare "" "" ""
def e0 : Env := launch0.env 0 0 0
theorem w_frames : about1.frames = Frame.invoking theMethod args0 :: below0 := rfl
set_option maxRecDepth 65536 in
theorem w_args : argsFit about1.vm theMethod args0 = true := by decide +kernel
set_option maxRecDepth 65536 in
theorem w_heap : heapFits about1 = true := by decide +kernel
set_option maxRecDepth 65536 in
theorem w_runnable : about1.curStatus? = some .runnable := by decide +kernel
set_option maxRecDepth 65536 in
theorem w_alone : about1.alone = true := by decide +kernel
set_option maxRecDepth 65536 in
theorem w_named : about1.methodNamed? x = some theMethod := by decide +kernel
set_option maxRecDepth 65536 in
theorem w_hears : about1.hears theMethod below0 = true := by decide +kernel
set_option maxRecDepth 65536 in
theorem w_ripe : about1.ripe theMethod args0 below0 = true := by decide +kernel
theorem w_running : about1.status = .running := rfl
set_option maxRecDepth 65536 in
theorem w_room : about1.hasRoom e0.platform room_1 = true :=
  launch0.hasRoom_least _ room_1 (by decide +kernel) (by decide +kernel) (by decide +kernel) (by decide +kernel) (by decide +kernel) (by decide +kernel)
theorem allAtoms_all (ts : List Jvm.Cond) (a : Array Jvm.Value) (st : Jvm.State) : (allAtoms ts).before a st = ts.all (fun c => c.before a st) := by
  induction ts with
  | nil => rfl
  | cons c t ih =>
    show (Jvm.Cond.and c (allAtoms t)).before a st = _
    rw [Jvm.Cond.before_and, ih, List.all_cons]
def words1 : List Jvm.Cond := Jvm.Cond.code x code maxLocals ret :: tables_1
/-- a 'code' word, met by the world's own term for the bytes: nothing is compared byte by byte -/
theorem code_word {y : MethodName} {bytes : ByteArray} {mx : Nat} {rt : Option FieldType} {a : Array Value} {s : State} {m : MethodId} {meth : Method} {c : Code} (h1 : s.methodNamed? y = some m) (h2 : s.vm.method? m = some meth) (h3 : meth.code = some c) (h4 : c.code = bytes)
    (h5 : (c.maxLocals == mx && c.exceptionTable.isEmpty && decide (c.maxStack ≤ mostOperands) && decide (meth.sig.returnType = rt) && !meth.locks && decide (parseMethodDescriptor y.desc = some meth.sig)) = true) : (Jvm.Cond.code y bytes mx rt).before a s = true := by
  simp only [Bool.and_eq_true, beq_iff_eq, Bool.not_eq_true', decide_eq_true_eq] at h5
  obtain ⟨⟨⟨⟨⟨g1, g2⟩, g3⟩, g4⟩, g5⟩, g6⟩ := h5
  simp [Cond.before, Cond.holds, Cond.value, h1, h2, h3, h4, g1, g2, g3, g4, g5, g6]
def isCode : Jvm.Cond → Bool
  | .code _ _ _ _ => true
  | _ => false
theorem all_split {L : List Jvm.Cond} {P : Jvm.Cond → Bool} (h1 : L.all (fun c => isCode c || P c) = true) (h2 : ∀ c ∈ L.filter isCode, P c = true) : L.all P = true := by
  refine List.all_eq_true.mpr fun c hc => ?_
  have h := List.all_eq_true.mp h1 c hc
  rcases Bool.eq_false_or_eq_true (isCode c) with hi | hi
  · exact h2 c (List.mem_filter.mpr ⟨hc, hi⟩)
  · simpa [hi] using h
set_option maxRecDepth 65536 in
theorem w_c0 : (Jvm.Cond.code x code maxLocals ret).before args0 about1 = true := code_word (m := ⟨1, 1⟩) (meth := k1m1) (c := k1c1) (by decide +kernel) rfl rfl rfl (by decide +kernel)
set_option maxRecDepth 65536 in
theorem w_c1 : (Jvm.Cond.code ({ cls := "com/example/grantwright/grantwright/model/RetirementAlternative", name := "<init>", desc := "(II)V" } : Jvm.MethodName) prog_73_method_1_code (3 : Nat) (Option.none : Option Jvm.ClassFile.FieldType)).before args0 about1 = true := code_word (m := ⟨3, 0⟩) (meth := k3m0) (c := k3c0) (by decide +kernel) rfl rfl rfl (by decide +kernel)
set_option maxRecDepth 65536 in
theorem w_c2 : (Jvm.Cond.code ({ cls := "java/lang/Record", name := "<init>", desc := "()V" } : Jvm.MethodName) jdk_30_method_1_code (1 : Nat) (Option.none : Option Jvm.ClassFile.FieldType)).before args0 about1 = true := code_word (m := ⟨2, 0⟩) (meth := k2m0) (c := k2c0) (by decide +kernel) rfl rfl rfl (by decide +kernel)
set_option maxRecDepth 65536 in
theorem w_c3 : (Jvm.Cond.code ({ cls := "java/lang/Object", name := "<init>", desc := "()V" } : Jvm.MethodName) object_method_1_code (1 : Nat) (Option.none : Option Jvm.ClassFile.FieldType)).before args0 about1 = true := code_word (m := ⟨0, 0⟩) (meth := k0m0) (c := k0c0) (by decide +kernel) rfl rfl rfl (by decide +kernel)
set_option maxRecDepth 65536 in
theorem w_c4 : (Jvm.Cond.code ({ cls := "com/example/grantwright/grantwright/model/RetirementAlternative", name := "heldBy", desc := "(II)Z" } : Jvm.MethodName) prog_73_method_2_code (3 : Nat) (Option.some Jvm.ClassFile.FieldType.boolean)).before args0 about1 = true := code_word (m := ⟨3, 1⟩) (meth := k3m1) (c := k3c1) (by decide +kernel) rfl rfl rfl (by decide +kernel)
def codes1 : List Jvm.Cond := [Jvm.Cond.code x code maxLocals ret, Jvm.Cond.code ({ cls := "com/example/grantwright/grantwright/model/RetirementAlternative", name := "<init>", desc := "(II)V" } : Jvm.MethodName) prog_73_method_1_code (3 : Nat) (Option.none : Option Jvm.ClassFile.FieldType), Jvm.Cond.code ({ cls := "java/lang/Record", name := "<init>", desc := "()V" } : Jvm.MethodName) jdk_30_method_1_code (1 : Nat) (Option.none : Option Jvm.ClassFile.FieldType), Jvm.Cond.code ({ cls := "java/lang/Object", name := "<init>", desc := "()V" } : Jvm.MethodName) object_method_1_code (1 : Nat) (Option.none : Option Jvm.ClassFile.FieldType), Jvm.Cond.code ({ cls := "com/example/grantwright/grantwright/model/RetirementAlternative", name := "heldBy", desc := "(II)Z" } : Jvm.MethodName) prog_73_method_2_code (3 : Nat) (Option.some Jvm.ClassFile.FieldType.boolean)]
set_option maxRecDepth 65536 in
theorem codes_eq : words1.filter isCode = codes1 := rfl
theorem w_codes : ∀ c ∈ words1.filter isCode, c.before args0 about1 = true := by
  rw [codes_eq]
  intro c hc
  simp only [codes1, List.mem_cons, List.not_mem_nil, or_false] at hc
  rcases hc with rfl | rfl | rfl | rfl | rfl
  · exact w_c0
  · exact w_c1
  · exact w_c2
  · exact w_c3
  · exact w_c4
set_option maxRecDepth 65536 in
theorem w_t1 : words1.all (fun c => isCode c || c.before args0 about1) = true := by decide +kernel
theorem w_tables : (allAtoms (Jvm.Cond.code x code maxLocals ret :: tables_1)).before args0 about1 = true := by
  rw [allAtoms_all]
  show words1.all (fun c => c.before args0 about1) = true
  refine all_split ?_ w_codes
  rw [w_t1]
set_option maxRecDepth 65536 in
theorem w_case : (Jvm.Cond.and given_1 narrow_1).before args0 about1 = true := by decide +kernel
theorem w_applies : (headSpec (Jvm.Cond.code x code maxLocals ret :: tables_1) room_1).applies x e0.platform about1 = true :=
  (Spec.applies_iff w_frames).mpr ⟨w_running, w_runnable, w_alone, w_named, w_hears, w_ripe, w_room, w_tables⟩
theorem atStart : AtStart classFile x code maxLocals ret World_1 tables_1 room_1 Calls_1 rest_1 Pre_1 launch0 p0 e0 about1 theMethod args0 below0 :=
  ⟨lists_1, trivial, launch0.admits_env _ _ _, launch0.least_env, fairChoices_fair.cas, fairChoices_fair.clock, w_frames, w_args, w_heap, w_applies, trivial, trivial, w_case⟩
end start1
theorem witness_1 : WitnessClaimed_1 := ⟨start1.p0, start1.e0, start1.about1, start1.theMethod, start1.args0, start1.below0, start1.atStart⟩
end Jvm.Pilot.@@N@@
