import JvmDerived
import JvmDerived.Pilot.@@N@@Statement
import JvmDerived.Pilot.@@N@@Code
set_option linter.unusedVariables false
set_option linter.unusedSimpArgs false
namespace Jvm.Pilot.@@N@@
open Jvm Jvm.ClassFile Sem Op Lib Jvm.Free Jvm.Stand Jvm.LawKit Jvm.RoadKit Bundle Jvm.Pilot.@@N@@.Jvm.D
section OwnKit
abbrev oU : Slot := .unset
abbrev oS : Slot := .second
abbrev oJ (x : Int64) : Slot := .val (.long x)
variable {p : Program} {l : Launch} {e : Env} {R : Room} {s : State} {m : MethodId} {args : Array Value} {below : List Frame} {meth : Method} {c : Code} {T A B : State} {locs : List Loc} {cells slots : Nat} {G : State → Outcome → Prop} {Q : Option Value → Heap → List Loc → Prop} {C S : Nat} {pc : Nat} {Ls : Array Slot} {rest : List Value}
/-- from A the run ends, and what it leaves is G -/
def own_Go (p : Program) (e : Env) (below : List Frame) (G : State → Outcome → Prop) (A : State) : Prop := ∃ u o, Steps p.tables e below A u ∧ u.status = .running ∧ Ended u below o ∧ G u o
def own_Post (s : State) (Q : Option Value → Heap → List Loc → Prop) (C S : Nat) : State → Outcome → Prop := fun u o => ∃ v L, o = .returned v ∧ Q v u.heap L ∧ FrameEnd s o u L C S
def own_PostW (s : State) (Q : Option Value → Heap → List Loc → Prop) (C S : Nat) : State → Outcome → Prop := fun u o => ∃ v L, o = .returned v ∧ Q v u.heap L ∧ ReturnedEndW s o u L C S
theorem own_by (k : ∀ t, Steps p.tables e below B t → Steps p.tables e below A t) (h : own_Go p e below G B) : own_Go p e below G A := by
  obtain ⟨u, o, h1, h2⟩ := h
  exact ⟨u, o, k _ h1, h2⟩
theorem own_tr (k : Steps p.tables e below A B) (h : own_Go p e below G B) : own_Go p e below G A := by
  obtain ⟨u, o, h1, h2⟩ := h
  exact ⟨u, o, k.trans h1, h2⟩
theorem own_retI (X : Stand p l e R s m args below meth c T locs cells slots) (hlk : meth.locks = false) (hx : p.tables.exec = Jvm.exec) (hret : meth.sig.returnType = some .int) {z : Int32} (hd : decode c.code pc = .ok (.ireturn, 1)) (hq : Q (some (.int z)) T.heap locs) (hC : cells ≤ C) (hS : slots ≤ S) :
    own_Go p e below (own_Post s Q C S) (T.setTop (mkF m pc Ls (.int z :: rest))) := by
  obtain ⟨fs, hr, hrun, hended, hW, hsame⟩ := X.leave (v := some (.int z)) (fun h => by rw [hret] at h; cases h) hlk
  have hm' : T.vm.method? m = some meth := X.method'
  have hn : narrow .int (.int z) = .int z := rfl
  refine ⟨_, _, ?_, hrun, hended, _, _, rfl, hq, ⟨_, rfl⟩, hW, hsame.mono hC hS⟩
  show Steps p.tables e below (T.setTop { method := m, pc := pc, locals := Ls, stack := _ :: rest, locked := none }) _
  jvm_step X.here [X.here.top, hx, hd, hm', hret, hn]
  first | (intro acts; rw [hr _ acts rfl rfl rfl]) | rw [hr _ _ rfl rfl rfl]
  exact Steps.refl _
theorem own_retN (X : Stand p l e R s m args below meth c T locs cells slots) (hlk : meth.locks = false) (hx : p.tables.exec = Jvm.exec) {t : FieldType} (hret : meth.sig.returnType = some t) (ht : t = .boolean ∨ t = .byte ∨ t = .char ∨ t = .short) {z : Int32} (hd : decode c.code pc = .ok (.ireturn, 1)) (hq : Q (some (.int (nar t z))) T.heap locs) (hC : cells ≤ C) (hS : slots ≤ S) :
    own_Go p e below (own_Post s Q C S) (T.setTop (mkF m pc Ls (.int z :: rest))) := by
  obtain ⟨fs, hr, hrun, hended, hW, hsame⟩ := X.leave (v := some (.int (nar t z))) (fun h => by rw [hret] at h; cases h) hlk
  exact ⟨_, _, retN X hx hret ht hd hr, hrun, hended, _, _, rfl, hq, ⟨_, rfl⟩, hW, hsame.mono hC hS⟩
theorem own_retNW {vm₁ : Vm} (X : Stand p l e R (s.setVm vm₁) m args below meth c T locs cells slots) (hlk : meth.locks = false) (hx : p.tables.exec = Jvm.exec) {t : FieldType} (hret : meth.sig.returnType = some t) (ht : t = .boolean ∨ t = .byte ∨ t = .char ∨ t = .short) {z : Int32} (hd : decode c.code pc = .ok (.ireturn, 1)) {n : Nat} (hSi : s.Since vm₁ n) (hn : n ≤ T.heap.size) (hq : Q (some (.int (nar t z))) T.heap locs) (hC : cells ≤ C) (hS : slots ≤ S) :
    own_Go p e below (own_PostW s Q C S) (T.setTop (mkF m pc Ls (.int z :: rest))) := by
  obtain ⟨fs, hr, hrun, hended, h1, h2, h3, h4⟩ := X.leaveW hSi hn (v := some (.int (nar t z))) (fun h => by rw [hret] at h; cases h) hlk
  exact ⟨_, _, retN X hx hret ht hd hr, hrun, hended, _, _, rfl, hq, h1, h2, h3, h4.mono hC hS⟩
theorem own_retL (X : Stand p l e R s m args below meth c T locs cells slots) (hlk : meth.locks = false) (hx : p.tables.exec = Jvm.exec) (hret : meth.sig.returnType = some .long) {z : Int64} (hd : decode c.code pc = .ok (.lreturn, 1)) (hq : Q (some (.long z)) T.heap locs) (hC : cells ≤ C) (hS : slots ≤ S) :
    own_Go p e below (own_Post s Q C S) (T.setTop (mkF m pc Ls [.long z])) := by
  obtain ⟨fs, hr, hrun, hended, hW, hsame⟩ := X.leave (v := some (.long z)) (fun h => by rw [hret] at h; cases h) hlk
  exact ⟨_, _, retOut X hx (t := .long) (i := .lreturn) hret rfl (Or.inr (Or.inl ⟨rfl, rfl, _, rfl⟩)) hd hr, hrun, hended, _, _, rfl, hq, ⟨_, rfl⟩, hW, hsame.mono hC hS⟩
theorem own_retR (X : Stand p l e R s m args below meth c T locs cells slots) (hlk : meth.locks = false) (hx : p.tables.exec = Jvm.exec) {t : FieldType} (hret : meth.sig.returnType = some t) {w : Value} (ht : t.isReference = true) (hn : narrow t w = w) (hw : w.isRef = true) (hd : decode c.code pc = .ok (.areturn, 1)) (hq : Q (some w) T.heap locs) (hC : cells ≤ C) (hS : slots ≤ S) :
    own_Go p e below (own_Post s Q C S) (T.setTop (mkF m pc Ls (w :: rest))) := by
  obtain ⟨fs, hr, hrun, hended, hW, hsame⟩ := X.leave (v := some w) (fun h => by rw [hret] at h; cases h) hlk
  exact ⟨_, _, retOut X hx (t := t) (i := .areturn) hret hn (Or.inr (Or.inr (Or.inr (Or.inr ⟨rfl, ht, hw⟩)))) hd hr, hrun, hended, _, _, rfl, hq, ⟨_, rfl⟩, hW, hsame.mono hC hS⟩
theorem own_retV (X : Stand p l e R s m args below meth c T locs cells slots) (hlk : meth.locks = false) (hx : p.tables.exec = Jvm.exec) (hret : meth.sig.returnType = none) (hd : decode c.code pc = .ok (.return_, 1)) (hq : Q none T.heap locs) (hC : cells ≤ C) (hS : slots ≤ S) :
    own_Go p e below (own_Post s Q C S) (T.setTop (mkF m pc Ls [])) := by
  obtain ⟨fs, hr, hrun, hended, hW, hsame⟩ := X.leave (v := none) (fun _ => rfl) hlk
  exact ⟨_, _, X.returnOut hx hret hd hr, hrun, hended, _, _, rfl, hq, ⟨_, rfl⟩, hW, hsame.mono hC hS⟩
theorem own_nev {Z : State} {h : Heap} {a b : Addr} {C : String} {a0 : Array Value} {n : Nat} {k : ClassId} {ty : FieldType} {z : Int32} {vs : List Value} {dv : Value} (E : Exa Z h a C) (wi : (Jvm.Cond.instantiable C n).before a0 Z = true) (F : Arv Z h b k ty z vs dv) : a ≠ b := by
  obtain ⟨c, A, -⟩ := F
  exact ne_arr E wi A
theorem own_selp {args' : Array Value} {y : MethodName} {n : Nat} (hins : (Jvm.Cond.instantiable y.cls n).before args' s = true) (hpriv : (Jvm.Cond.privateMethod y).before args' s = true) (hinst : (Jvm.Cond.instanceMethod y).before args' s = true) (hy : y.cls ≠ "java/lang/invoke/MethodHandle" ∧ y.cls ≠ "java/lang/invoke/VarHandle") : (Jvm.Cond.selects y.cls y y).before args' s = true := by
  obtain ⟨c, k, hc, hk, -, hniab, -, -⟩ := Cond.instantiable_spec hins
  exact selects_self_of_private hc hk (Bool.or_eq_false_iff.mp hniab).1 (Cond.privateMethod_at hpriv) hinst hy
theorem own_callS (X : Stand p l e R s m args below meth c T locs cells slots) (hx : p.tables.exec = Jvm.exec) {Z : State} {a0 : Array Value} {h : Heap} (hZ : Z.Warmed39 s.vm) {own : String} {index : Nat} {y : MethodName} (hown : s.vm.findClass own = some m.cls) {bytes : ByteArray} {maxL : Nat} {ret : Option FieldType} {rm : Room} {as' : Array Value} {Q : Option Value → Heap → List Loc → Prop} (w1 : (Jvm.Cond.methodLink own index y).before a0 Z = true) (w2 : (Jvm.Cond.static y).before a0 Z = true) (w3 : (Jvm.Cond.initialized y.cls).before a0 Z = true) (w4 : (Jvm.Cond.code y bytes maxL ret).before a0 Z = true) (hy : y.cls ≠ "java/lang/invoke/MethodHandle" ∧ y.cls ≠ "java/lang/invoke/VarHandle")
    (hM : MetFree l y (head1 [Jvm.Cond.code y bytes maxL ret] rm) (fun a U => a = as' ∧ Z.Warmed39 U.vm ∧ U.heap = h) (fun _ _ _ _ _ => True) (fun _ U o U' => ∃ v L, o = .returned v ∧ Q v U'.heap L ∧ FrameEnd U o U' L rm.cells rm.slots)) (eT : T.heap = h) (W : Nat) (hf : rm.frames + 1 ≤ R.frames) (hl : W + (maxL + 11) + rm.locals ≤ R.locals) (hc : cells + rm.cells ≤ R.cells) (hs : slots + rm.slots ≤ R.slots) {g : JFrame} (hg : g.method = m) (hsize : g.locals.size = c.maxLocals) (argsL rest : List Value) (ha : argsL.toArray = as') (hlen : ∀ sig, parseMethodDescriptor y.desc = some sig → argsL.length = sig.parameters.length) (hstack : g.stack = argsL.reverse ++ rest) (hW : 2 * g.monitorRoom + (rest.map fun v => v.category).sum ≤ W) (hd : decode c.code g.pc = .ok (.invokestatic index, 3)) :
    ∃ (T' : State) (L : List Loc) (v : Option Value), Stand p l e R s m args below meth c T' (locs ++ L) (cells + rm.cells) (slots + rm.slots) ∧ Q v T'.heap L ∧ ∀ t, Steps p.tables e below (T'.setTop { g with pc := g.pc + 3, stack := v.toList ++ rest }) t → Steps p.tables e below (T.setTop g) t := by
  obtain ⟨v, _, ⟨T', L', k', n'⟩, -, X', ⟨L, hQ, h2, h3, h4⟩, st⟩ := Jvm.LawKit.callS X hx (y := y) hown (mvT hZ w1) (mvT hZ w2) (mvT hZ w3) (mvT hZ w4) hy (backOf (W := W) hM hZ w4 w3 hf hl) (g := g) hg hsize (argsL := argsL) (rest := rest) hlen hstack hW hd (fun _ _ => ⟨ha, eT, hc, hs⟩)
  dsimp only [Pt.U, Pt.locs, Pt.cells, Pt.slots] at X' h2 h3 h4 st hQ
  subst h2 h3 h4
  exact ⟨T', L, v, X', hQ, st⟩
theorem own_callI (X : Stand p l e R s m args below meth c T locs cells slots) (hx : p.tables.exec = Jvm.exec) {Z : State} {a0 : Array Value} {h : Heap} (hZ : Z.Warmed39 s.vm) {own : String} {index : Nat} {y : MethodName} (hy1 : y.name = "<init>") (hown : s.vm.findClass own = some m.cls) {bytes : ByteArray} {maxL : Nat} {rm : Room} {as' : Array Value} {Q : Option Value → Heap → List Loc → Prop} (w1 : (Jvm.Cond.methodLink own index y).before a0 Z = true) (w2 : (Jvm.Cond.instanceMethod y).before a0 Z = true) (w3 : (Jvm.Cond.initialized y.cls).before a0 Z = true) (w4 : (Jvm.Cond.code y bytes maxL none).before a0 Z = true) (hy : y.cls ≠ "java/lang/invoke/MethodHandle" ∧ y.cls ≠ "java/lang/invoke/VarHandle")
    (hM : MetFree l y (head1 [Jvm.Cond.code y bytes maxL none] rm) (fun a U => a = as' ∧ Z.Warmed39 U.vm ∧ U.heap = h) (fun _ _ _ _ _ => True) (fun _ U o U' => ∃ v L, o = .returned v ∧ Q v U'.heap L ∧ FrameEnd U o U' L rm.cells rm.slots)) (eT : T.heap = h) (W : Nat) (hf : rm.frames + 1 ≤ R.frames) (hl : W + (maxL + 11) + rm.locals ≤ R.locals) (hc : cells + rm.cells ≤ R.cells) (hs : slots + rm.slots ≤ R.slots) {g : JFrame} (hg : g.method = m) (hsize : g.locals.size = c.maxLocals) (a : Addr) (argsL rest : List Value) (ha : (.ref a :: argsL).toArray = as') (hlen : ∀ sig, parseMethodDescriptor y.desc = some sig → argsL.length = sig.parameters.length) (hstack : g.stack = argsL.reverse ++ .ref a :: rest) (hW : 2 * g.monitorRoom + (rest.map fun v => v.category).sum ≤ W) (hd : decode c.code g.pc = .ok (.invokespecial index, 3)) :
    ∃ (T' : State) (L : List Loc) (v : Option Value), Stand p l e R s m args below meth c T' (locs ++ L) (cells + rm.cells) (slots + rm.slots) ∧ Q v T'.heap L ∧ ∀ t, Steps p.tables e below (T'.setTop { g with pc := g.pc + 3, stack := v.toList ++ rest }) t → Steps p.tables e below (T.setTop g) t := by
  obtain ⟨v, _, ⟨T', L', k', n'⟩, -, X', ⟨L, hQ, h2, h3, h4⟩, st⟩ := X.specialBack hx (y := y) hy1 hown (mvT hZ w1) (mvT hZ w2) (mvT hZ w4) hy (backOf (W := W) hM hZ w4 w3 hf hl) (g := g) hg hsize (Steps.refl _) (a := a) (argsL := argsL) (rest := rest) hlen hstack hW hd (fun _ _ => ⟨ha, eT, hc, hs⟩)
  dsimp only [Pt.U, Pt.locs, Pt.cells, Pt.slots] at X' h2 h3 h4 st hQ
  subst h2 h3 h4
  exact ⟨T', L, v, X', hQ, fun t k => st.trans k⟩
theorem own_callP (X : Stand p l e R s m args below meth c T locs cells slots) (hx : p.tables.exec = Jvm.exec) {Z : State} {a0 : Array Value} {h : Heap} (hZ : Z.Warmed39 s.vm) {own C : String} {index n : Nat} {y : MethodName} (hown : s.vm.findClass own = some m.cls) {bytes : ByteArray} {maxL : Nat} {ret : Option FieldType} {rm : Room} {as' : Array Value} {Q : Option Value → Heap → List Loc → Prop} (w1 : (Jvm.Cond.methodLink own index y).before a0 Z = true) (w2 : (Jvm.Cond.instanceMethod y).before a0 Z = true) (w3 : (Jvm.Cond.initialized y.cls).before a0 Z = true) (w4 : (Jvm.Cond.code y bytes maxL ret).before a0 Z = true) (w5 : (Jvm.Cond.privateMethod y).before a0 Z = true) (w6 : (Jvm.Cond.instantiable y.cls n).before a0 Z = true) (hy : y.cls ≠ "java/lang/invoke/MethodHandle" ∧ y.cls ≠ "java/lang/invoke/VarHandle")
    (hM : MetFree l y (head1 [Jvm.Cond.code y bytes maxL ret] rm) (fun a U => a = as' ∧ Z.Warmed39 U.vm ∧ U.heap = h) (fun _ _ _ _ _ => True) (fun _ U o U' => ∃ v L, o = .returned v ∧ Q v U'.heap L ∧ FrameEnd U o U' L rm.cells rm.slots)) (eT : T.heap = h) (W : Nat) (hf : rm.frames + 1 ≤ R.frames) (hl : W + (maxL + 11) + rm.locals ≤ R.locals) (hc : cells + rm.cells ≤ R.cells) (hs : slots + rm.slots ≤ R.slots) {g : JFrame} (hg : g.method = m) (hsize : g.locals.size = c.maxLocals) (a : Addr) (E : Exa Z h a C) (argsL rest : List Value) (ha : (.ref a :: argsL).toArray = as') (hlen : ∀ sig, parseMethodDescriptor y.desc = some sig → argsL.length = sig.parameters.length) (hstack : g.stack = argsL.reverse ++ .ref a :: rest) (hW : 2 * g.monitorRoom + (rest.map fun v => v.category).sum ≤ W) (hd : decode c.code g.pc = .ok (.invokevirtual index, 3)) :
    ∃ (T' : State) (L : List Loc) (v : Option Value), Stand p l e R s m args below meth c T' (locs ++ L) (cells + rm.cells) (slots + rm.slots) ∧ Q v T'.heap L ∧ ∀ t, Steps p.tables e below (T'.setTop { g with pc := g.pc + 3, stack := v.toList ++ rest }) t → Steps p.tables e below (T.setTop g) t := by
  obtain ⟨cq, q1, q2⟩ := E.cell
  obtain ⟨v, _, ⟨T', L', k', n'⟩, -, X', ⟨L, hQ, h2, h3, h4⟩, st⟩ := X.privateBack hx (y := y) hown (mvT hZ w1) (mvT hZ w2) (own_selp (y := y) (mvT hZ w6) (mvP hZ w5) (mvT hZ w2) hy) (Cond.privateMethod_at (mvP hZ w5 (args := #[]))) (mvT hZ w4) hy (backOf (W := W) hM hZ w4 w3 hf hl) (g := g) hg hsize (Steps.refl _) (a := a) (by rw [eT]; exact q1) q2 (argsL := argsL) (rest := rest) hlen hstack hW hd (fun _ _ => ⟨ha, eT, hc, hs⟩)
  dsimp only [Pt.U, Pt.locs, Pt.cells, Pt.slots] at X' h2 h3 h4 st hQ
  subst h2 h3 h4
  exact ⟨T', L, v, X', hQ, fun t k => st.trans k⟩
theorem own_callV (X : Stand p l e R s m args below meth c T locs cells slots) (hx : p.tables.exec = Jvm.exec) {Z : State} {a0 : Array Value} {h : Heap} (hZ : Z.Warmed39 s.vm) {own C : String} {index : Nat} {y z : MethodName} (hown : s.vm.findClass own = some m.cls) {bytes : ByteArray} {maxL : Nat} {ret : Option FieldType} {rm : Room} {as' : Array Value} {Q : Option Value → Heap → List Loc → Prop} (w1 : (Jvm.Cond.methodLink own index y).before a0 Z = true) (w2 : (Jvm.Cond.declares y).before a0 Z = true) (hnf : NotFace s y) (w3 : (Jvm.Cond.selects C y z).before a0 Z = true) (w4 : (Jvm.Cond.instanceMethod z).before a0 Z = true) (w5 : (Jvm.Cond.initialized z.cls).before a0 Z = true) (w6 : (Jvm.Cond.code z bytes maxL ret).before a0 Z = true) (hy : y.cls ≠ "java/lang/invoke/MethodHandle" ∧ y.cls ≠ "java/lang/invoke/VarHandle")
    (hM : MetFree l z (head1 [Jvm.Cond.code z bytes maxL ret] rm) (fun a U => a = as' ∧ Z.Warmed39 U.vm ∧ U.heap = h) (fun _ _ _ _ _ => True) (fun _ U o U' => ∃ v L, o = .returned v ∧ Q v U'.heap L ∧ FrameEnd U o U' L rm.cells rm.slots)) (eT : T.heap = h) (W : Nat) (hf : rm.frames + 1 ≤ R.frames) (hl : W + (maxL + 11) + rm.locals ≤ R.locals) (hc : cells + rm.cells ≤ R.cells) (hs : slots + rm.slots ≤ R.slots) {g : JFrame} (hg : g.method = m) (hsize : g.locals.size = c.maxLocals) (a : Addr) (E : Exa Z h a C) (argsL rest : List Value) (ha : (.ref a :: argsL).toArray = as') (hlen : ∀ sig, parseMethodDescriptor y.desc = some sig → argsL.length = sig.parameters.length) (hstack : g.stack = argsL.reverse ++ .ref a :: rest) (hW : 2 * g.monitorRoom + (rest.map fun v => v.category).sum ≤ W) (hd : decode c.code g.pc = .ok (.invokevirtual index, 3)) :
    ∃ (T' : State) (L : List Loc) (v : Option Value), Stand p l e R s m args below meth c T' (locs ++ L) (cells + rm.cells) (slots + rm.slots) ∧ Q v T'.heap L ∧ ∀ t, Steps p.tables e below (T'.setTop { g with pc := g.pc + 3, stack := v.toList ++ rest }) t → Steps p.tables e below (T.setTop g) t := by
  obtain ⟨cq, kq, qa, qb, qc⟩ := isOf hZ eT E
  obtain ⟨v, _, ⟨T', L', k', n'⟩, -, X', ⟨L, hQ, h2, h3, h4⟩, st⟩ := X.virtualBack hx (y := y) (z := z) hown (mvT hZ w1) (mvT hZ w2) hnf (mvT hZ w3) (mvT hZ w4) hy (backOf (W := W) hM hZ w6 w5 hf hl) qa qc (g := g) hg hsize (Steps.refl _) (argsL := argsL) (rest := rest) hlen hstack hW hd (fun _ _ => ⟨ha, eT, hc, hs⟩)
  dsimp only [Pt.U, Pt.locs, Pt.cells, Pt.slots] at X' h2 h3 h4 st hQ
  subst h2 h3 h4
  exact ⟨T', L, v, X', hQ, fun t k => st.trans k⟩
theorem own_callF (X : Stand p l e R s m args below meth c T locs cells slots) (hx : p.tables.exec = Jvm.exec) {Z : State} {a0 : Array Value} {h : Heap} (hZ : Z.Warmed39 s.vm) {own C : String} {index count : Nat} {y z : MethodName} (hown : s.vm.findClass own = some m.cls) {bytes : ByteArray} {maxL : Nat} {ret : Option FieldType} {rm : Room} {as' : Array Value} {Q : Option Value → Heap → List Loc → Prop} (w1 : (Jvm.Cond.methodLink own index y).before a0 Z = true) (w2 : (Jvm.Cond.declares y).before a0 Z = true) (w3 : (Jvm.Cond.interfaceMethod y.cls y.cls y.name y.desc).before a0 Z = true) (w4 : (Jvm.Cond.selects C y z).before a0 Z = true) (w5 : (Jvm.Cond.instanceMethod z).before a0 Z = true) (w6 : (Jvm.Cond.publicMethod z).before a0 Z = true) (w7 : (Jvm.Cond.unhidden C y.name y.desc).before a0 Z = true) (w8 : (Jvm.Cond.castable C y.cls).before a0 Z = true) (w9 : (Jvm.Cond.initialized z.cls).before a0 Z = true) (w10 : (Jvm.Cond.code z bytes maxL ret).before a0 Z = true) (hy : y.cls ≠ "java/lang/invoke/MethodHandle" ∧ y.cls ≠ "java/lang/invoke/VarHandle")
    (hM : MetFree l z (head1 [Jvm.Cond.code z bytes maxL ret] rm) (fun a U => a = as' ∧ Z.Warmed39 U.vm ∧ U.heap = h) (fun _ _ _ _ _ => True) (fun _ U o U' => ∃ v L, o = .returned v ∧ Q v U'.heap L ∧ FrameEnd U o U' L rm.cells rm.slots)) (eT : T.heap = h) (W : Nat) (hf : rm.frames + 1 ≤ R.frames) (hl : W + (maxL + 11) + rm.locals ≤ R.locals) (hc : cells + rm.cells ≤ R.cells) (hs : slots + rm.slots ≤ R.slots) {g : JFrame} (hg : g.method = m) (hsize : g.locals.size = c.maxLocals) (a : Addr) (E : Exa Z h a C) (argsL rest : List Value) (ha : (.ref a :: argsL).toArray = as') (hlen : ∀ sig, parseMethodDescriptor y.desc = some sig → argsL.length = sig.parameters.length) (hstack : g.stack = argsL.reverse ++ .ref a :: rest) (hW : 2 * g.monitorRoom + (rest.map fun v => v.category).sum ≤ W) (hd : decode c.code g.pc = .ok (.invokeinterface index count, 5)) (hw3 : ((Jvm.Cond.interfaceMethod y.cls y.cls y.name y.desc).onTables && (Jvm.Cond.interfaceMethod y.cls y.cls y.name y.desc).keepsFace) = true := by first | rfl | simp [Cond.onTables, Cond.keepsFace, Cond.keeps, Cond.steady]) :
    ∃ (T' : State) (L : List Loc) (v : Option Value), Stand p l e R s m args below meth c T' (locs ++ L) (cells + rm.cells) (slots + rm.slots) ∧ Q v T'.heap L ∧ ∀ t, Steps p.tables e below (T'.setTop { g with pc := g.pc + 5, stack := v.toList ++ rest }) t → Steps p.tables e below (T.setTop g) t := by
  obtain ⟨cq, kq, qa, qb, qc⟩ := isOf hZ eT E
  obtain ⟨v, _, ⟨T', L', k', n'⟩, -, X', ⟨L, hQ, h2, h3, h4⟩, st⟩ := X.interfaceBack hx (xi := y) (y := z) hown (mvT hZ w1) (mvT hZ w2) (mvT hZ w3 hw3) (mvT hZ w4) (mvT hZ w5) (mvT hZ w6) (mvT hZ w7) (mvT hZ w8) hy (backOf (W := W) hM hZ w10 w9 hf hl) qa qb qc (g := g) hg hsize (Steps.refl _) (argsL := argsL) (rest := rest) hlen hstack hW hd (fun _ _ => ⟨ha, eT, hc, hs⟩)
  dsimp only [Pt.U, Pt.locs, Pt.cells, Pt.slots] at X' h2 h3 h4 st hQ
  subst h2 h3 h4
  exact ⟨T', L, v, X', hQ, fun t k => st.trans k⟩
theorem own_c1 {g g' : JFrame} {h : Heap} (h1 : ∃ T', Stand p l e R s m args below meth c T' locs cells slots ∧ T'.heap = h ∧ ∀ t, Steps p.tables e below (T'.setTop g') t → Steps p.tables e below (T.setTop g) t) (k : ∀ T', Stand p l e R s m args below meth c T' locs cells slots → T'.heap = h → own_Go p e below G (T'.setTop g')) : own_Go p e below G (T.setTop g) := by
  obtain ⟨T', X', e', st⟩ := h1
  exact own_by st (k T' X' e')
theorem own_c2 {g g' : JFrame} {h : Heap} {a : Addr} {sl : Nat} {v : Value} (h1 : ∃ T' h', Stand p l e R s m args below meth c T' (locs ++ [⟨a, sl⟩]) cells slots ∧ T'.heap = h' ∧ Wr h h' a sl v ∧ ∀ t, Steps p.tables e below (T'.setTop g') t → Steps p.tables e below (T.setTop g) t) (k : ∀ T' h', Stand p l e R s m args below meth c T' (locs ++ [⟨a, sl⟩]) cells slots → T'.heap = h' → Wr h h' a sl v → own_Go p e below G (T'.setTop g')) : own_Go p e below G (T.setTop g) := by
  obtain ⟨T', h', X', e', W, st⟩ := h1
  exact own_by st (k T' h' X' e' W)
theorem own_cc {g : JFrame} {c1 s1 : Nat} {Q : Option Value → Heap → List Loc → Prop} {f : Option Value → JFrame} (h1 : ∃ (T' : State) (L : List Loc) (v : Option Value), Stand p l e R s m args below meth c T' (locs ++ L) c1 s1 ∧ Q v T'.heap L ∧ ∀ t, Steps p.tables e below (T'.setTop (f v)) t → Steps p.tables e below (T.setTop g) t) (k : ∀ (T' : State) (L : List Loc) (v : Option Value), Stand p l e R s m args below meth c T' (locs ++ L) c1 s1 → Q v T'.heap L → own_Go p e below G (T'.setTop (f v))) : own_Go p e below G (T.setTop g) := by
  obtain ⟨T', L, v, X', hQ, st⟩ := h1
  exact own_by st (k T' L v X' hQ)
end OwnKit
theorem own_sta {C K n d : String} {args : Array Value} {s : State} (hx : (Jvm.Cond.exactly (.static C n d) K).value args s none s [] = some true) (wi : (Jvm.Cond.initialized C).before args s = true) (wl : (Jvm.Cond.laysStatic C n d).before args s = true) :
    ∃ a, (Term.static C n d).eval args s none [] s = some (.ref a) ∧ Sta s s.heap C n d (.ref a) ∧ Exa s s.heap a K := by
  have hx' : (Jvm.Cond.exactly (.static C n d) K).before args s = true := Cond.before_iff.mpr hx
  obtain ⟨a', c', cell, k, e1, e2, e3, e4, e5, e6, e7⟩ := Cond.exactly_spec hx'
  exact ⟨a', e1, Sta.start e1 (Or.inr ⟨wi, wl⟩), Exa.start e1 hx⟩
theorem own_ord {t : Term} {a : Addr} {args : Array Value} {s : State} {C n d : String} {k : Int32} (e : t.eval args s none [] s = some (.ref a)) (h : (Jvm.Cond.eq (.field t C n d) (.int k)).value args s none s [] = some true) : Fld s s.heap a C n d (.int k) := by
  have h1 : (Term.field t C n d).eval args s none [] s = some (.int k) := Jvm.Free.NT.SwA.eq_int (Cond.before_iff.mpr h)
  have h2 : s.fieldOf? a C n d = some (.int k) := by
    rw [← h1]
    show _ = (t.eval args s none [] s >>= _)
    rw [e]
    rfl
  exact Fld.start h2

theorem d1_0 : decode method_2_code 0 = .ok (.iload_n 0, 1) := by decide +kernel
theorem d1_1 : decode method_2_code 1 = .ok (.ifCond .ne 7, 3) := by decide +kernel
theorem d1_4 : decode method_2_code 4 = .ok (.getstatic 7, 3) := by decide +kernel
theorem d1_7 : decode method_2_code 7 = .ok (.areturn, 1) := by decide +kernel
theorem pn_1 : plainName "com/example/tidesheet/tidesheet/io/NetcdfTypeIsRealPinLaw" = true := by first | (simp [plainName, overriddenIn]; done) | decide +kernel
theorem ef_1 (m : MethodId) (x0 : Int32) : entryFrame m #[(.int x0)] 1 = mkF m 0 #[iv x0] [] := by first | (simp [entryFrame, mkF, argsToLocals, Value.category]; done) | rfl
def Q1_0 (Z : State) (w_BYTE : Addr) (h0 : Heap) (n0 : Nat) (v : Option Value) (h : Heap) (L : List Loc) : Prop := v = some (.ref w_BYTE) ∧ Fr n0 L ∧ h = h0
set_option maxRecDepth 65536 in
set_option maxHeartbeats 40000000 in
theorem rm1_0 (l : Launch) (Z : State) (a0 : Array Value) (hw : ∀ d ∈ tables_1, d.before a0 Z = true) (ws : List Jvm.Cond) (w_BYTE : Addr) (h0 : Heap) (n0 : Nat) (Z0 : n0 ≤ h0.size) (OZ : Old Z n0 h0) (S_BYTE : Sta Z Z.heap "com/example/tidesheet/tidesheet/io/NetcdfType" "BYTE" "Lcom/example/tidesheet/tidesheet/io/NetcdfType;" (.ref w_BYTE)) :
    MetFree l (⟨"com/example/tidesheet/tidesheet/io/NetcdfTypeIsRealPinLaw", "pick", "(I)Lcom/example/tidesheet/tidesheet/io/NetcdfType;"⟩ : MethodName) (head1 (Jvm.Cond.code (⟨"com/example/tidesheet/tidesheet/io/NetcdfTypeIsRealPinLaw", "pick", "(I)Lcom/example/tidesheet/tidesheet/io/NetcdfType;"⟩ : MethodName) method_2_code 1 (some (.object "com/example/tidesheet/tidesheet/io/NetcdfType")) :: ws) ({ frames := 0, cells := 0, slots := 0, locals := 0 } : Room)) (fun a U => a = #[(.int (0 : Int32))] ∧ Z.Warmed39 U.vm ∧ U.heap = h0) (fun _ _ _ _ _ => True) (fun _ U o U' => ∃ v L, o = .returned v ∧ Q1_0 Z w_BYTE h0 n0 v U'.heap L ∧ FrameEnd U o U' L ({ frames := 0, cells := 0, slots := 0, locals := 0 } : Room).cells ({ frames := 0, cells := 0, slots := 0, locals := 0 } : Room).slots) := by
  refine MetFree.of_bodySF (plainFor_of_name pn_1) hisR ?_
  intro p e s m args below meth c s₁ Bd hml0 hP hK
  obtain ⟨rfl, hZ, hh⟩ := hP
  have hx := Bd.exec
  have hby := Bd.bytes
  have hml : c.maxLocals = 1 := hml0
  have hown : s.vm.findClass "com/example/tidesheet/tidesheet/io/NetcdfTypeIsRealPinLaw" = some m.cls := findClass_of_methodNamed Bd.named
  have hnm := (name_of_methodNamed Bd.named Bd.method).1
  have X0 : Stand p l e ({ frames := 0, cells := 0, slots := 0, locals := 0 } : Room) s m #[(.int (0 : Int32))] below meth c s₁ [] 0 0 := Stand.of_body Bd
  have e0 : s₁.heap = h0 := by rw [← hh, Bd.state]; rfl
  have N0 := Fr.nil n0
  change own_Go p e below (own_Post s (Q1_0 Z w_BYTE h0 n0) ({ frames := 0, cells := 0, slots := 0, locals := 0 } : Room).cells ({ frames := 0, cells := 0, slots := 0, locals := 0 } : Room).slots) (s₁.setTop (entryFrame m #[(.int (0 : Int32))] 1))
  refine own_by (fun t k => castTop (ef_1 m (0 : Int32)) k) ?_
  show own_Go p e below _ (s₁.setTop (mkF m 0 #[iv (0 : Int32)] []))
  refine own_by (B := s₁.setTop (mkF m 4 #[iv (0 : Int32)] [])) (fun t k => ?_) ?_
  · show Steps p.tables e below (s₁.setTop (mkF m 0 #[iv (0 : Int32)] [])) _
    refine XS.iloadN X0.here hx rfl (hb hby d1_0) rfl ?_
    show Steps p.tables e below (s₁.setTop (mkF m 1 #[iv (0 : Int32)] [(.int (0 : Int32))])) _
    refine XS.ifNo X0.here hx rfl (hb hby d1_1) rfl ((if0 _ _).trans (teq (by decide : (0 : Int32) = (0 : Int32))).2) ?_
    show Steps p.tables e below (s₁.setTop (mkF m 4 #[iv (0 : Int32)] [])) _
    exact k
  refine own_c1 (getS2 X0 hx hZ hown (host := "") (Or.inl (hw _ (List.mem_of_getElem? (i := 5) rfl))) Via.refl e0 (S_BYTE.ext OZ.2) rfl (hb hby d1_4)) fun T1 X1 e1 => ?_
  show own_Go p e below _ (T1.setTop (mkF m 7 #[iv (0 : Int32)] [(.ref w_BYTE)]))
  exact own_retR X1 Bd.notSynchronized hx Bd.returns rfl rfl rfl (hb hby d1_7) (by
      rw [show T1.heap = h0 from e1]
      exact ⟨rfl, N0, rfl⟩) (by decide) (by decide)

theorem d1_8 : decode method_2_code 8 = .ok (.iload_n 0, 1) := by decide +kernel
theorem d1_9 : decode method_2_code 9 = .ok (.iconst 1, 1) := by decide +kernel
theorem d1_10 : decode method_2_code 10 = .ok (.if_icmp .ne 7, 3) := by decide +kernel
theorem d1_13 : decode method_2_code 13 = .ok (.getstatic 13, 3) := by decide +kernel
theorem d1_16 : decode method_2_code 16 = .ok (.areturn, 1) := by decide +kernel
def Q1_1 (Z : State) (w_CHAR : Addr) (h0 : Heap) (n0 : Nat) (v : Option Value) (h : Heap) (L : List Loc) : Prop := v = some (.ref w_CHAR) ∧ Fr n0 L ∧ h = h0
set_option maxRecDepth 65536 in
set_option maxHeartbeats 40000000 in
theorem rm1_1 (l : Launch) (Z : State) (a0 : Array Value) (hw : ∀ d ∈ tables_1, d.before a0 Z = true) (ws : List Jvm.Cond) (w_CHAR : Addr) (h0 : Heap) (n0 : Nat) (Z0 : n0 ≤ h0.size) (OZ : Old Z n0 h0) (S_CHAR : Sta Z Z.heap "com/example/tidesheet/tidesheet/io/NetcdfType" "CHAR" "Lcom/example/tidesheet/tidesheet/io/NetcdfType;" (.ref w_CHAR)) :
    MetFree l (⟨"com/example/tidesheet/tidesheet/io/NetcdfTypeIsRealPinLaw", "pick", "(I)Lcom/example/tidesheet/tidesheet/io/NetcdfType;"⟩ : MethodName) (head1 (Jvm.Cond.code (⟨"com/example/tidesheet/tidesheet/io/NetcdfTypeIsRealPinLaw", "pick", "(I)Lcom/example/tidesheet/tidesheet/io/NetcdfType;"⟩ : MethodName) method_2_code 1 (some (.object "com/example/tidesheet/tidesheet/io/NetcdfType")) :: ws) ({ frames := 0, cells := 0, slots := 0, locals := 0 } : Room)) (fun a U => a = #[(.int (1 : Int32))] ∧ Z.Warmed39 U.vm ∧ U.heap = h0) (fun _ _ _ _ _ => True) (fun _ U o U' => ∃ v L, o = .returned v ∧ Q1_1 Z w_CHAR h0 n0 v U'.heap L ∧ FrameEnd U o U' L ({ frames := 0, cells := 0, slots := 0, locals := 0 } : Room).cells ({ frames := 0, cells := 0, slots := 0, locals := 0 } : Room).slots) := by
  refine MetFree.of_bodySF (plainFor_of_name pn_1) hisR ?_
  intro p e s m args below meth c s₁ Bd hml0 hP hK
  obtain ⟨rfl, hZ, hh⟩ := hP
  have hx := Bd.exec
  have hby := Bd.bytes
  have hml : c.maxLocals = 1 := hml0
  have hown : s.vm.findClass "com/example/tidesheet/tidesheet/io/NetcdfTypeIsRealPinLaw" = some m.cls := findClass_of_methodNamed Bd.named
  have hnm := (name_of_methodNamed Bd.named Bd.method).1
  have X0 : Stand p l e ({ frames := 0, cells := 0, slots := 0, locals := 0 } : Room) s m #[(.int (1 : Int32))] below meth c s₁ [] 0 0 := Stand.of_body Bd
  have e0 : s₁.heap = h0 := by rw [← hh, Bd.state]; rfl
  have N0 := Fr.nil n0
  change own_Go p e below (own_Post s (Q1_1 Z w_CHAR h0 n0) ({ frames := 0, cells := 0, slots := 0, locals := 0 } : Room).cells ({ frames := 0, cells := 0, slots := 0, locals := 0 } : Room).slots) (s₁.setTop (entryFrame m #[(.int (1 : Int32))] 1))
  refine own_by (fun t k => castTop (ef_1 m (1 : Int32)) k) ?_
  show own_Go p e below _ (s₁.setTop (mkF m 0 #[iv (1 : Int32)] []))
  refine own_by (B := s₁.setTop (mkF m 13 #[iv (1 : Int32)] [])) (fun t k => ?_) ?_
  · show Steps p.tables e below (s₁.setTop (mkF m 0 #[iv (1 : Int32)] [])) _
    refine XS.iloadN X0.here hx rfl (hb hby d1_0) rfl ?_
    show Steps p.tables e below (s₁.setTop (mkF m 1 #[iv (1 : Int32)] [(.int (1 : Int32))])) _
    refine XS.ifYes X0.here hx rfl (pc0 := 1) (pc' := 8) rfl (hb hby d1_1) rfl ((if0 _ _).trans (feq (by decide : ¬ ((1 : Int32) = (0 : Int32)))).2) (by decide) (by decide) ?_
    show Steps p.tables e below (s₁.setTop (mkF m 8 #[iv (1 : Int32)] [])) _
    refine XS.iloadN X0.here hx rfl (hb hby d1_8) rfl ?_
    show Steps p.tables e below (s₁.setTop (mkF m 9 #[iv (1 : Int32)] [(.int (1 : Int32))])) _
    refine XS.iconst X0.here hx rfl (hb hby d1_9) ?_
    show Steps p.tables e below (s₁.setTop (mkF m 10 #[iv (1 : Int32)] [(.int (1 : Int32)), (.int (1 : Int32))])) _
    refine XS.icmpNo X0.here hx rfl (hb hby d1_10) rfl (teq (by decide : (1 : Int32) = (1 : Int32))).2 ?_
    show Steps p.tables e below (s₁.setTop (mkF m 13 #[iv (1 : Int32)] [])) _
    exact k
  refine own_c1 (getS2 X0 hx hZ hown (host := "") (Or.inl (hw _ (List.mem_of_getElem? (i := 27) rfl))) Via.refl e0 (S_CHAR.ext OZ.2) rfl (hb hby d1_13)) fun T1 X1 e1 => ?_
  show own_Go p e below _ (T1.setTop (mkF m 16 #[iv (1 : Int32)] [(.ref w_CHAR)]))
  exact own_retR X1 Bd.notSynchronized hx Bd.returns rfl rfl rfl (hb hby d1_16) (by
      rw [show T1.heap = h0 from e1]
      exact ⟨rfl, N0, rfl⟩) (by decide) (by decide)

theorem d1_17 : decode method_2_code 17 = .ok (.iload_n 0, 1) := by decide +kernel
theorem d1_18 : decode method_2_code 18 = .ok (.iconst 2, 1) := by decide +kernel
theorem d1_19 : decode method_2_code 19 = .ok (.if_icmp .ne 7, 3) := by decide +kernel
theorem d1_22 : decode method_2_code 22 = .ok (.getstatic 16, 3) := by decide +kernel
theorem d1_25 : decode method_2_code 25 = .ok (.areturn, 1) := by decide +kernel
def Q1_2 (Z : State) (w_SHORT : Addr) (h0 : Heap) (n0 : Nat) (v : Option Value) (h : Heap) (L : List Loc) : Prop := v = some (.ref w_SHORT) ∧ Fr n0 L ∧ h = h0
set_option maxRecDepth 65536 in
set_option maxHeartbeats 40000000 in
theorem rm1_2 (l : Launch) (Z : State) (a0 : Array Value) (hw : ∀ d ∈ tables_1, d.before a0 Z = true) (ws : List Jvm.Cond) (w_SHORT : Addr) (h0 : Heap) (n0 : Nat) (Z0 : n0 ≤ h0.size) (OZ : Old Z n0 h0) (S_SHORT : Sta Z Z.heap "com/example/tidesheet/tidesheet/io/NetcdfType" "SHORT" "Lcom/example/tidesheet/tidesheet/io/NetcdfType;" (.ref w_SHORT)) :
    MetFree l (⟨"com/example/tidesheet/tidesheet/io/NetcdfTypeIsRealPinLaw", "pick", "(I)Lcom/example/tidesheet/tidesheet/io/NetcdfType;"⟩ : MethodName) (head1 (Jvm.Cond.code (⟨"com/example/tidesheet/tidesheet/io/NetcdfTypeIsRealPinLaw", "pick", "(I)Lcom/example/tidesheet/tidesheet/io/NetcdfType;"⟩ : MethodName) method_2_code 1 (some (.object "com/example/tidesheet/tidesheet/io/NetcdfType")) :: ws) ({ frames := 0, cells := 0, slots := 0, locals := 0 } : Room)) (fun a U => a = #[(.int (2 : Int32))] ∧ Z.Warmed39 U.vm ∧ U.heap = h0) (fun _ _ _ _ _ => True) (fun _ U o U' => ∃ v L, o = .returned v ∧ Q1_2 Z w_SHORT h0 n0 v U'.heap L ∧ FrameEnd U o U' L ({ frames := 0, cells := 0, slots := 0, locals := 0 } : Room).cells ({ frames := 0, cells := 0, slots := 0, locals := 0 } : Room).slots) := by
  refine MetFree.of_bodySF (plainFor_of_name pn_1) hisR ?_
  intro p e s m args below meth c s₁ Bd hml0 hP hK
  obtain ⟨rfl, hZ, hh⟩ := hP
  have hx := Bd.exec
  have hby := Bd.bytes
  have hml : c.maxLocals = 1 := hml0
  have hown : s.vm.findClass "com/example/tidesheet/tidesheet/io/NetcdfTypeIsRealPinLaw" = some m.cls := findClass_of_methodNamed Bd.named
  have hnm := (name_of_methodNamed Bd.named Bd.method).1
  have X0 : Stand p l e ({ frames := 0, cells := 0, slots := 0, locals := 0 } : Room) s m #[(.int (2 : Int32))] below meth c s₁ [] 0 0 := Stand.of_body Bd
  have e0 : s₁.heap = h0 := by rw [← hh, Bd.state]; rfl
  have N0 := Fr.nil n0
  change own_Go p e below (own_Post s (Q1_2 Z w_SHORT h0 n0) ({ frames := 0, cells := 0, slots := 0, locals := 0 } : Room).cells ({ frames := 0, cells := 0, slots := 0, locals := 0 } : Room).slots) (s₁.setTop (entryFrame m #[(.int (2 : Int32))] 1))
  refine own_by (fun t k => castTop (ef_1 m (2 : Int32)) k) ?_
  show own_Go p e below _ (s₁.setTop (mkF m 0 #[iv (2 : Int32)] []))
  refine own_by (B := s₁.setTop (mkF m 22 #[iv (2 : Int32)] [])) (fun t k => ?_) ?_
  · show Steps p.tables e below (s₁.setTop (mkF m 0 #[iv (2 : Int32)] [])) _
    refine XS.iloadN X0.here hx rfl (hb hby d1_0) rfl ?_
    show Steps p.tables e below (s₁.setTop (mkF m 1 #[iv (2 : Int32)] [(.int (2 : Int32))])) _
    refine XS.ifYes X0.here hx rfl (pc0 := 1) (pc' := 8) rfl (hb hby d1_1) rfl ((if0 _ _).trans (feq (by decide : ¬ ((2 : Int32) = (0 : Int32)))).2) (by decide) (by decide) ?_
    show Steps p.tables e below (s₁.setTop (mkF m 8 #[iv (2 : Int32)] [])) _
    refine XS.iloadN X0.here hx rfl (hb hby d1_8) rfl ?_
    show Steps p.tables e below (s₁.setTop (mkF m 9 #[iv (2 : Int32)] [(.int (2 : Int32))])) _
    refine XS.iconst X0.here hx rfl (hb hby d1_9) ?_
    show Steps p.tables e below (s₁.setTop (mkF m 10 #[iv (2 : Int32)] [(.int (1 : Int32)), (.int (2 : Int32))])) _
    refine XS.icmpYes X0.here hx rfl (pc0 := 10) (pc' := 17) rfl (hb hby d1_10) rfl (feq (by decide : ¬ ((2 : Int32) = (1 : Int32)))).2 (by decide) (by decide) ?_
    show Steps p.tables e below (s₁.setTop (mkF m 17 #[iv (2 : Int32)] [])) _
    refine XS.iloadN X0.here hx rfl (hb hby d1_17) rfl ?_
    show Steps p.tables e below (s₁.setTop (mkF m 18 #[iv (2 : Int32)] [(.int (2 : Int32))])) _
    refine XS.iconst X0.here hx rfl (hb hby d1_18) ?_
    show Steps p.tables e below (s₁.setTop (mkF m 19 #[iv (2 : Int32)] [(.int (2 : Int32)), (.int (2 : Int32))])) _
    refine XS.icmpNo X0.here hx rfl (hb hby d1_19) rfl (teq (by decide : (2 : Int32) = (2 : Int32))).2 ?_
    show Steps p.tables e below (s₁.setTop (mkF m 22 #[iv (2 : Int32)] [])) _
    exact k
  refine own_c1 (getS2 X0 hx hZ hown (host := "") (Or.inl (hw _ (List.mem_of_getElem? (i := 23) rfl))) Via.refl e0 (S_SHORT.ext OZ.2) rfl (hb hby d1_22)) fun T1 X1 e1 => ?_
  show own_Go p e below _ (T1.setTop (mkF m 25 #[iv (2 : Int32)] [(.ref w_SHORT)]))
  exact own_retR X1 Bd.notSynchronized hx Bd.returns rfl rfl rfl (hb hby d1_25) (by
      rw [show T1.heap = h0 from e1]
      exact ⟨rfl, N0, rfl⟩) (by decide) (by decide)

theorem d1_26 : decode method_2_code 26 = .ok (.iload_n 0, 1) := by decide +kernel
theorem d1_27 : decode method_2_code 27 = .ok (.iconst 3, 1) := by decide +kernel
theorem d1_28 : decode method_2_code 28 = .ok (.if_icmp .ne 7, 3) := by decide +kernel
theorem d1_31 : decode method_2_code 31 = .ok (.getstatic 19, 3) := by decide +kernel
theorem d1_34 : decode method_2_code 34 = .ok (.areturn, 1) := by decide +kernel
def Q1_3 (Z : State) (w_INT : Addr) (h0 : Heap) (n0 : Nat) (v : Option Value) (h : Heap) (L : List Loc) : Prop := v = some (.ref w_INT) ∧ Fr n0 L ∧ h = h0
set_option maxRecDepth 65536 in
set_option maxHeartbeats 40000000 in
theorem rm1_3 (l : Launch) (Z : State) (a0 : Array Value) (hw : ∀ d ∈ tables_1, d.before a0 Z = true) (ws : List Jvm.Cond) (w_INT : Addr) (h0 : Heap) (n0 : Nat) (Z0 : n0 ≤ h0.size) (OZ : Old Z n0 h0) (S_INT : Sta Z Z.heap "com/example/tidesheet/tidesheet/io/NetcdfType" "INT" "Lcom/example/tidesheet/tidesheet/io/NetcdfType;" (.ref w_INT)) :
    MetFree l (⟨"com/example/tidesheet/tidesheet/io/NetcdfTypeIsRealPinLaw", "pick", "(I)Lcom/example/tidesheet/tidesheet/io/NetcdfType;"⟩ : MethodName) (head1 (Jvm.Cond.code (⟨"com/example/tidesheet/tidesheet/io/NetcdfTypeIsRealPinLaw", "pick", "(I)Lcom/example/tidesheet/tidesheet/io/NetcdfType;"⟩ : MethodName) method_2_code 1 (some (.object "com/example/tidesheet/tidesheet/io/NetcdfType")) :: ws) ({ frames := 0, cells := 0, slots := 0, locals := 0 } : Room)) (fun a U => a = #[(.int (3 : Int32))] ∧ Z.Warmed39 U.vm ∧ U.heap = h0) (fun _ _ _ _ _ => True) (fun _ U o U' => ∃ v L, o = .returned v ∧ Q1_3 Z w_INT h0 n0 v U'.heap L ∧ FrameEnd U o U' L ({ frames := 0, cells := 0, slots := 0, locals := 0 } : Room).cells ({ frames := 0, cells := 0, slots := 0, locals := 0 } : Room).slots) := by
  refine MetFree.of_bodySF (plainFor_of_name pn_1) hisR ?_
  intro p e s m args below meth c s₁ Bd hml0 hP hK
  obtain ⟨rfl, hZ, hh⟩ := hP
  have hx := Bd.exec
  have hby := Bd.bytes
  have hml : c.maxLocals = 1 := hml0
  have hown : s.vm.findClass "com/example/tidesheet/tidesheet/io/NetcdfTypeIsRealPinLaw" = some m.cls := findClass_of_methodNamed Bd.named
  have hnm := (name_of_methodNamed Bd.named Bd.method).1
  have X0 : Stand p l e ({ frames := 0, cells := 0, slots := 0, locals := 0 } : Room) s m #[(.int (3 : Int32))] below meth c s₁ [] 0 0 := Stand.of_body Bd
  have e0 : s₁.heap = h0 := by rw [← hh, Bd.state]; rfl
  have N0 := Fr.nil n0
  change own_Go p e below (own_Post s (Q1_3 Z w_INT h0 n0) ({ frames := 0, cells := 0, slots := 0, locals := 0 } : Room).cells ({ frames := 0, cells := 0, slots := 0, locals := 0 } : Room).slots) (s₁.setTop (entryFrame m #[(.int (3 : Int32))] 1))
  refine own_by (fun t k => castTop (ef_1 m (3 : Int32)) k) ?_
  show own_Go p e below _ (s₁.setTop (mkF m 0 #[iv (3 : Int32)] []))
  refine own_by (B := s₁.setTop (mkF m 31 #[iv (3 : Int32)] [])) (fun t k => ?_) ?_
  · show Steps p.tables e below (s₁.setTop (mkF m 0 #[iv (3 : Int32)] [])) _
    refine XS.iloadN X0.here hx rfl (hb hby d1_0) rfl ?_
    show Steps p.tables e below (s₁.setTop (mkF m 1 #[iv (3 : Int32)] [(.int (3 : Int32))])) _
    refine XS.ifYes X0.here hx rfl (pc0 := 1) (pc' := 8) rfl (hb hby d1_1) rfl ((if0 _ _).trans (feq (by decide : ¬ ((3 : Int32) = (0 : Int32)))).2) (by decide) (by decide) ?_
    show Steps p.tables e below (s₁.setTop (mkF m 8 #[iv (3 : Int32)] [])) _
    refine XS.iloadN X0.here hx rfl (hb hby d1_8) rfl ?_
    show Steps p.tables e below (s₁.setTop (mkF m 9 #[iv (3 : Int32)] [(.int (3 : Int32))])) _
    refine XS.iconst X0.here hx rfl (hb hby d1_9) ?_
    show Steps p.tables e below (s₁.setTop (mkF m 10 #[iv (3 : Int32)] [(.int (1 : Int32)), (.int (3 : Int32))])) _
    refine XS.icmpYes X0.here hx rfl (pc0 := 10) (pc' := 17) rfl (hb hby d1_10) rfl (feq (by decide : ¬ ((3 : Int32) = (1 : Int32)))).2 (by decide) (by decide) ?_
    show Steps p.tables e below (s₁.setTop (mkF m 17 #[iv (3 : Int32)] [])) _
    refine XS.iloadN X0.here hx rfl (hb hby d1_17) rfl ?_
    show Steps p.tables e below (s₁.setTop (mkF m 18 #[iv (3 : Int32)] [(.int (3 : Int32))])) _
    refine XS.iconst X0.here hx rfl (hb hby d1_18) ?_
    show Steps p.tables e below (s₁.setTop (mkF m 19 #[iv (3 : Int32)] [(.int (2 : Int32)), (.int (3 : Int32))])) _
    refine XS.icmpYes X0.here hx rfl (pc0 := 19) (pc' := 26) rfl (hb hby d1_19) rfl (feq (by decide : ¬ ((3 : Int32) = (2 : Int32)))).2 (by decide) (by decide) ?_
    show Steps p.tables e below (s₁.setTop (mkF m 26 #[iv (3 : Int32)] [])) _
    refine XS.iloadN X0.here hx rfl (hb hby d1_26) rfl ?_
    show Steps p.tables e below (s₁.setTop (mkF m 27 #[iv (3 : Int32)] [(.int (3 : Int32))])) _
    refine XS.iconst X0.here hx rfl (hb hby d1_27) ?_
    show Steps p.tables e below (s₁.setTop (mkF m 28 #[iv (3 : Int32)] [(.int (3 : Int32)), (.int (3 : Int32))])) _
    refine XS.icmpNo X0.here hx rfl (hb hby d1_28) rfl (teq (by decide : (3 : Int32) = (3 : Int32))).2 ?_
    show Steps p.tables e below (s₁.setTop (mkF m 31 #[iv (3 : Int32)] [])) _
    exact k
  refine own_c1 (getS2 X0 hx hZ hown (host := "") (Or.inl (hw _ (List.mem_of_getElem? (i := 17) rfl))) Via.refl e0 (S_INT.ext OZ.2) rfl (hb hby d1_31)) fun T1 X1 e1 => ?_
  show own_Go p e below _ (T1.setTop (mkF m 34 #[iv (3 : Int32)] [(.ref w_INT)]))
  exact own_retR X1 Bd.notSynchronized hx Bd.returns rfl rfl rfl (hb hby d1_34) (by
      rw [show T1.heap = h0 from e1]
      exact ⟨rfl, N0, rfl⟩) (by decide) (by decide)

theorem d1_35 : decode method_2_code 35 = .ok (.iload_n 0, 1) := by decide +kernel
theorem d1_36 : decode method_2_code 36 = .ok (.iconst 4, 1) := by decide +kernel
theorem d1_37 : decode method_2_code 37 = .ok (.if_icmp .ne 7, 3) := by decide +kernel
theorem d1_40 : decode method_2_code 40 = .ok (.getstatic 22, 3) := by decide +kernel
theorem d1_43 : decode method_2_code 43 = .ok (.areturn, 1) := by decide +kernel
def Q1_4 (Z : State) (w_FLOAT : Addr) (h0 : Heap) (n0 : Nat) (v : Option Value) (h : Heap) (L : List Loc) : Prop := v = some (.ref w_FLOAT) ∧ Fr n0 L ∧ h = h0
set_option maxRecDepth 65536 in
set_option maxHeartbeats 40000000 in
theorem rm1_4 (l : Launch) (Z : State) (a0 : Array Value) (hw : ∀ d ∈ tables_1, d.before a0 Z = true) (ws : List Jvm.Cond) (w_FLOAT : Addr) (h0 : Heap) (n0 : Nat) (Z0 : n0 ≤ h0.size) (OZ : Old Z n0 h0) (S_FLOAT : Sta Z Z.heap "com/example/tidesheet/tidesheet/io/NetcdfType" "FLOAT" "Lcom/example/tidesheet/tidesheet/io/NetcdfType;" (.ref w_FLOAT)) :
    MetFree l (⟨"com/example/tidesheet/tidesheet/io/NetcdfTypeIsRealPinLaw", "pick", "(I)Lcom/example/tidesheet/tidesheet/io/NetcdfType;"⟩ : MethodName) (head1 (Jvm.Cond.code (⟨"com/example/tidesheet/tidesheet/io/NetcdfTypeIsRealPinLaw", "pick", "(I)Lcom/example/tidesheet/tidesheet/io/NetcdfType;"⟩ : MethodName) method_2_code 1 (some (.object "com/example/tidesheet/tidesheet/io/NetcdfType")) :: ws) ({ frames := 0, cells := 0, slots := 0, locals := 0 } : Room)) (fun a U => a = #[(.int (4 : Int32))] ∧ Z.Warmed39 U.vm ∧ U.heap = h0) (fun _ _ _ _ _ => True) (fun _ U o U' => ∃ v L, o = .returned v ∧ Q1_4 Z w_FLOAT h0 n0 v U'.heap L ∧ FrameEnd U o U' L ({ frames := 0, cells := 0, slots := 0, locals := 0 } : Room).cells ({ frames := 0, cells := 0, slots := 0, locals := 0 } : Room).slots) := by
  refine MetFree.of_bodySF (plainFor_of_name pn_1) hisR ?_
  intro p e s m args below meth c s₁ Bd hml0 hP hK
  obtain ⟨rfl, hZ, hh⟩ := hP
  have hx := Bd.exec
  have hby := Bd.bytes
  have hml : c.maxLocals = 1 := hml0
  have hown : s.vm.findClass "com/example/tidesheet/tidesheet/io/NetcdfTypeIsRealPinLaw" = some m.cls := findClass_of_methodNamed Bd.named
  have hnm := (name_of_methodNamed Bd.named Bd.method).1
  have X0 : Stand p l e ({ frames := 0, cells := 0, slots := 0, locals := 0 } : Room) s m #[(.int (4 : Int32))] below meth c s₁ [] 0 0 := Stand.of_body Bd
  have e0 : s₁.heap = h0 := by rw [← hh, Bd.state]; rfl
  have N0 := Fr.nil n0
  change own_Go p e below (own_Post s (Q1_4 Z w_FLOAT h0 n0) ({ frames := 0, cells := 0, slots := 0, locals := 0 } : Room).cells ({ frames := 0, cells := 0, slots := 0, locals := 0 } : Room).slots) (s₁.setTop (entryFrame m #[(.int (4 : Int32))] 1))
  refine own_by (fun t k => castTop (ef_1 m (4 : Int32)) k) ?_
  show own_Go p e below _ (s₁.setTop (mkF m 0 #[iv (4 : Int32)] []))
  refine own_by (B := s₁.setTop (mkF m 40 #[iv (4 : Int32)] [])) (fun t k => ?_) ?_
  · show Steps p.tables e below (s₁.setTop (mkF m 0 #[iv (4 : Int32)] [])) _
    refine XS.iloadN X0.here hx rfl (hb hby d1_0) rfl ?_
    show Steps p.tables e below (s₁.setTop (mkF m 1 #[iv (4 : Int32)] [(.int (4 : Int32))])) _
    refine XS.ifYes X0.here hx rfl (pc0 := 1) (pc' := 8) rfl (hb hby d1_1) rfl ((if0 _ _).trans (feq (by decide : ¬ ((4 : Int32) = (0 : Int32)))).2) (by decide) (by decide) ?_
    show Steps p.tables e below (s₁.setTop (mkF m 8 #[iv (4 : Int32)] [])) _
    refine XS.iloadN X0.here hx rfl (hb hby d1_8) rfl ?_
    show Steps p.tables e below (s₁.setTop (mkF m 9 #[iv (4 : Int32)] [(.int (4 : Int32))])) _
    refine XS.iconst X0.here hx rfl (hb hby d1_9) ?_
    show Steps p.tables e below (s₁.setTop (mkF m 10 #[iv (4 : Int32)] [(.int (1 : Int32)), (.int (4 : Int32))])) _
    refine XS.icmpYes X0.here hx rfl (pc0 := 10) (pc' := 17) rfl (hb hby d1_10) rfl (feq (by decide : ¬ ((4 : Int32) = (1 : Int32)))).2 (by decide) (by decide) ?_
    show Steps p.tables e below (s₁.setTop (mkF m 17 #[iv (4 : Int32)] [])) _
    refine XS.iloadN X0.here hx rfl (hb hby d1_17) rfl ?_
    show Steps p.tables e below (s₁.setTop (mkF m 18 #[iv (4 : Int32)] [(.int (4 : Int32))])) _
    refine XS.iconst X0.here hx rfl (hb hby d1_18) ?_
    show Steps p.tables e below (s₁.setTop (mkF m 19 #[iv (4 : Int32)] [(.int (2 : Int32)), (.int (4 : Int32))])) _
    refine XS.icmpYes X0.here hx rfl (pc0 := 19) (pc' := 26) rfl (hb hby d1_19) rfl (feq (by decide : ¬ ((4 : Int32) = (2 : Int32)))).2 (by decide) (by decide) ?_
    show Steps p.tables e below (s₁.setTop (mkF m 26 #[iv (4 : Int32)] [])) _
    refine XS.iloadN X0.here hx rfl (hb hby d1_26) rfl ?_
    show Steps p.tables e below (s₁.setTop (mkF m 27 #[iv (4 : Int32)] [(.int (4 : Int32))])) _
    refine XS.iconst X0.here hx rfl (hb hby d1_27) ?_
    show Steps p.tables e below (s₁.setTop (mkF m 28 #[iv (4 : Int32)] [(.int (3 : Int32)), (.int (4 : Int32))])) _
    refine XS.icmpYes X0.here hx rfl (pc0 := 28) (pc' := 35) rfl (hb hby d1_28) rfl (feq (by decide : ¬ ((4 : Int32) = (3 : Int32)))).2 (by decide) (by decide) ?_
    show Steps p.tables e below (s₁.setTop (mkF m 35 #[iv (4 : Int32)] [])) _
    refine XS.iloadN X0.here hx rfl (hb hby d1_35) rfl ?_
    show Steps p.tables e below (s₁.setTop (mkF m 36 #[iv (4 : Int32)] [(.int (4 : Int32))])) _
    refine XS.iconst X0.here hx rfl (hb hby d1_36) ?_
    show Steps p.tables e below (s₁.setTop (mkF m 37 #[iv (4 : Int32)] [(.int (4 : Int32)), (.int (4 : Int32))])) _
    refine XS.icmpNo X0.here hx rfl (hb hby d1_37) rfl (teq (by decide : (4 : Int32) = (4 : Int32))).2 ?_
    show Steps p.tables e below (s₁.setTop (mkF m 40 #[iv (4 : Int32)] [])) _
    exact k
  refine own_c1 (getS2 X0 hx hZ hown (host := "") (Or.inl (hw _ (List.mem_of_getElem? (i := 34) rfl))) Via.refl e0 (S_FLOAT.ext OZ.2) rfl (hb hby d1_40)) fun T1 X1 e1 => ?_
  show own_Go p e below _ (T1.setTop (mkF m 43 #[iv (4 : Int32)] [(.ref w_FLOAT)]))
  exact own_retR X1 Bd.notSynchronized hx Bd.returns rfl rfl rfl (hb hby d1_43) (by
      rw [show T1.heap = h0 from e1]
      exact ⟨rfl, N0, rfl⟩) (by decide) (by decide)

theorem d1_44 : decode method_2_code 44 = .ok (.iload_n 0, 1) := by decide +kernel
theorem d1_45 : decode method_2_code 45 = .ok (.iconst 5, 1) := by decide +kernel
theorem d1_46 : decode method_2_code 46 = .ok (.if_icmp .ne 7, 3) := by decide +kernel
theorem d1_49 : decode method_2_code 49 = .ok (.getstatic 25, 3) := by decide +kernel
theorem d1_52 : decode method_2_code 52 = .ok (.areturn, 1) := by decide +kernel
def Q1_5 (Z : State) (w_DOUBLE : Addr) (h0 : Heap) (n0 : Nat) (v : Option Value) (h : Heap) (L : List Loc) : Prop := v = some (.ref w_DOUBLE) ∧ Fr n0 L ∧ h = h0
set_option maxRecDepth 65536 in
set_option maxHeartbeats 40000000 in
theorem rm1_5 (l : Launch) (Z : State) (a0 : Array Value) (hw : ∀ d ∈ tables_1, d.before a0 Z = true) (ws : List Jvm.Cond) (w_DOUBLE : Addr) (h0 : Heap) (n0 : Nat) (Z0 : n0 ≤ h0.size) (OZ : Old Z n0 h0) (S_DOUBLE : Sta Z Z.heap "com/example/tidesheet/tidesheet/io/NetcdfType" "DOUBLE" "Lcom/example/tidesheet/tidesheet/io/NetcdfType;" (.ref w_DOUBLE)) :
    MetFree l (⟨"com/example/tidesheet/tidesheet/io/NetcdfTypeIsRealPinLaw", "pick", "(I)Lcom/example/tidesheet/tidesheet/io/NetcdfType;"⟩ : MethodName) (head1 (Jvm.Cond.code (⟨"com/example/tidesheet/tidesheet/io/NetcdfTypeIsRealPinLaw", "pick", "(I)Lcom/example/tidesheet/tidesheet/io/NetcdfType;"⟩ : MethodName) method_2_code 1 (some (.object "com/example/tidesheet/tidesheet/io/NetcdfType")) :: ws) ({ frames := 0, cells := 0, slots := 0, locals := 0 } : Room)) (fun a U => a = #[(.int (5 : Int32))] ∧ Z.Warmed39 U.vm ∧ U.heap = h0) (fun _ _ _ _ _ => True) (fun _ U o U' => ∃ v L, o = .returned v ∧ Q1_5 Z w_DOUBLE h0 n0 v U'.heap L ∧ FrameEnd U o U' L ({ frames := 0, cells := 0, slots := 0, locals := 0 } : Room).cells ({ frames := 0, cells := 0, slots := 0, locals := 0 } : Room).slots) := by
  refine MetFree.of_bodySF (plainFor_of_name pn_1) hisR ?_
  intro p e s m args below meth c s₁ Bd hml0 hP hK
  obtain ⟨rfl, hZ, hh⟩ := hP
  have hx := Bd.exec
  have hby := Bd.bytes
  have hml : c.maxLocals = 1 := hml0
  have hown : s.vm.findClass "com/example/tidesheet/tidesheet/io/NetcdfTypeIsRealPinLaw" = some m.cls := findClass_of_methodNamed Bd.named
  have hnm := (name_of_methodNamed Bd.named Bd.method).1
  have X0 : Stand p l e ({ frames := 0, cells := 0, slots := 0, locals := 0 } : Room) s m #[(.int (5 : Int32))] below meth c s₁ [] 0 0 := Stand.of_body Bd
  have e0 : s₁.heap = h0 := by rw [← hh, Bd.state]; rfl
  have N0 := Fr.nil n0
  change own_Go p e below (own_Post s (Q1_5 Z w_DOUBLE h0 n0) ({ frames := 0, cells := 0, slots := 0, locals := 0 } : Room).cells ({ frames := 0, cells := 0, slots := 0, locals := 0 } : Room).slots) (s₁.setTop (entryFrame m #[(.int (5 : Int32))] 1))
  refine own_by (fun t k => castTop (ef_1 m (5 : Int32)) k) ?_
  show own_Go p e below _ (s₁.setTop (mkF m 0 #[iv (5 : Int32)] []))
  refine own_by (B := s₁.setTop (mkF m 49 #[iv (5 : Int32)] [])) (fun t k => ?_) ?_
  · show Steps p.tables e below (s₁.setTop (mkF m 0 #[iv (5 : Int32)] [])) _
    refine XS.iloadN X0.here hx rfl (hb hby d1_0) rfl ?_
    show Steps p.tables e below (s₁.setTop (mkF m 1 #[iv (5 : Int32)] [(.int (5 : Int32))])) _
    refine XS.ifYes X0.here hx rfl (pc0 := 1) (pc' := 8) rfl (hb hby d1_1) rfl ((if0 _ _).trans (feq (by decide : ¬ ((5 : Int32) = (0 : Int32)))).2) (by decide) (by decide) ?_
    show Steps p.tables e below (s₁.setTop (mkF m 8 #[iv (5 : Int32)] [])) _
    refine XS.iloadN X0.here hx rfl (hb hby d1_8) rfl ?_
    show Steps p.tables e below (s₁.setTop (mkF m 9 #[iv (5 : Int32)] [(.int (5 : Int32))])) _
    refine XS.iconst X0.here hx rfl (hb hby d1_9) ?_
    show Steps p.tables e below (s₁.setTop (mkF m 10 #[iv (5 : Int32)] [(.int (1 : Int32)), (.int (5 : Int32))])) _
    refine XS.icmpYes X0.here hx rfl (pc0 := 10) (pc' := 17) rfl (hb hby d1_10) rfl (feq (by decide : ¬ ((5 : Int32) = (1 : Int32)))).2 (by decide) (by decide) ?_
    show Steps p.tables e below (s₁.setTop (mkF m 17 #[iv (5 : Int32)] [])) _
    refine XS.iloadN X0.here hx rfl (hb hby d1_17) rfl ?_
    show Steps p.tables e below (s₁.setTop (mkF m 18 #[iv (5 : Int32)] [(.int (5 : Int32))])) _
    refine XS.iconst X0.here hx rfl (hb hby d1_18) ?_
    show Steps p.tables e below (s₁.setTop (mkF m 19 #[iv (5 : Int32)] [(.int (2 : Int32)), (.int (5 : Int32))])) _
    refine XS.icmpYes X0.here hx rfl (pc0 := 19) (pc' := 26) rfl (hb hby d1_19) rfl (feq (by decide : ¬ ((5 : Int32) = (2 : Int32)))).2 (by decide) (by decide) ?_
    show Steps p.tables e below (s₁.setTop (mkF m 26 #[iv (5 : Int32)] [])) _
    refine XS.iloadN X0.here hx rfl (hb hby d1_26) rfl ?_
    show Steps p.tables e below (s₁.setTop (mkF m 27 #[iv (5 : Int32)] [(.int (5 : Int32))])) _
    refine XS.iconst X0.here hx rfl (hb hby d1_27) ?_
    show Steps p.tables e below (s₁.setTop (mkF m 28 #[iv (5 : Int32)] [(.int (3 : Int32)), (.int (5 : Int32))])) _
    refine XS.icmpYes X0.here hx rfl (pc0 := 28) (pc' := 35) rfl (hb hby d1_28) rfl (feq (by decide : ¬ ((5 : Int32) = (3 : Int32)))).2 (by decide) (by decide) ?_
    show Steps p.tables e below (s₁.setTop (mkF m 35 #[iv (5 : Int32)] [])) _
    refine XS.iloadN X0.here hx rfl (hb hby d1_35) rfl ?_
    show Steps p.tables e below (s₁.setTop (mkF m 36 #[iv (5 : Int32)] [(.int (5 : Int32))])) _
    refine XS.iconst X0.here hx rfl (hb hby d1_36) ?_
    show Steps p.tables e below (s₁.setTop (mkF m 37 #[iv (5 : Int32)] [(.int (4 : Int32)), (.int (5 : Int32))])) _
    refine XS.icmpYes X0.here hx rfl (pc0 := 37) (pc' := 44) rfl (hb hby d1_37) rfl (feq (by decide : ¬ ((5 : Int32) = (4 : Int32)))).2 (by decide) (by decide) ?_
    show Steps p.tables e below (s₁.setTop (mkF m 44 #[iv (5 : Int32)] [])) _
    refine XS.iloadN X0.here hx rfl (hb hby d1_44) rfl ?_
    show Steps p.tables e below (s₁.setTop (mkF m 45 #[iv (5 : Int32)] [(.int (5 : Int32))])) _
    refine XS.iconst X0.here hx rfl (hb hby d1_45) ?_
    show Steps p.tables e below (s₁.setTop (mkF m 46 #[iv (5 : Int32)] [(.int (5 : Int32)), (.int (5 : Int32))])) _
    refine XS.icmpNo X0.here hx rfl (hb hby d1_46) rfl (teq (by decide : (5 : Int32) = (5 : Int32))).2 ?_
    show Steps p.tables e below (s₁.setTop (mkF m 49 #[iv (5 : Int32)] [])) _
    exact k
  refine own_c1 (getS2 X0 hx hZ hown (host := "") (Or.inl (hw _ (List.mem_of_getElem? (i := 31) rfl))) Via.refl e0 (S_DOUBLE.ext OZ.2) rfl (hb hby d1_49)) fun T1 X1 e1 => ?_
  show own_Go p e below _ (T1.setTop (mkF m 52 #[iv (5 : Int32)] [(.ref w_DOUBLE)]))
  exact own_retR X1 Bd.notSynchronized hx Bd.returns rfl rfl rfl (hb hby d1_52) (by
      rw [show T1.heap = h0 from e1]
      exact ⟨rfl, N0, rfl⟩) (by decide) (by decide)

theorem d1_53 : decode method_2_code 53 = .ok (.iload_n 0, 1) := by decide +kernel
theorem d1_54 : decode method_2_code 54 = .ok (.bipush 6, 2) := by decide +kernel
theorem d1_56 : decode method_2_code 56 = .ok (.if_icmp .ne 7, 3) := by decide +kernel
theorem d1_59 : decode method_2_code 59 = .ok (.getstatic 28, 3) := by decide +kernel
theorem d1_62 : decode method_2_code 62 = .ok (.areturn, 1) := by decide +kernel
def Q1_6 (Z : State) (w_UBYTE : Addr) (h0 : Heap) (n0 : Nat) (v : Option Value) (h : Heap) (L : List Loc) : Prop := v = some (.ref w_UBYTE) ∧ Fr n0 L ∧ h = h0
set_option maxRecDepth 65536 in
set_option maxHeartbeats 40000000 in
theorem rm1_6 (l : Launch) (Z : State) (a0 : Array Value) (hw : ∀ d ∈ tables_1, d.before a0 Z = true) (ws : List Jvm.Cond) (w_UBYTE : Addr) (h0 : Heap) (n0 : Nat) (Z0 : n0 ≤ h0.size) (OZ : Old Z n0 h0) (S_UBYTE : Sta Z Z.heap "com/example/tidesheet/tidesheet/io/NetcdfType" "UBYTE" "Lcom/example/tidesheet/tidesheet/io/NetcdfType;" (.ref w_UBYTE)) :
    MetFree l (⟨"com/example/tidesheet/tidesheet/io/NetcdfTypeIsRealPinLaw", "pick", "(I)Lcom/example/tidesheet/tidesheet/io/NetcdfType;"⟩ : MethodName) (head1 (Jvm.Cond.code (⟨"com/example/tidesheet/tidesheet/io/NetcdfTypeIsRealPinLaw", "pick", "(I)Lcom/example/tidesheet/tidesheet/io/NetcdfType;"⟩ : MethodName) method_2_code 1 (some (.object "com/example/tidesheet/tidesheet/io/NetcdfType")) :: ws) ({ frames := 0, cells := 0, slots := 0, locals := 0 } : Room)) (fun a U => a = #[(.int (6 : Int32))] ∧ Z.Warmed39 U.vm ∧ U.heap = h0) (fun _ _ _ _ _ => True) (fun _ U o U' => ∃ v L, o = .returned v ∧ Q1_6 Z w_UBYTE h0 n0 v U'.heap L ∧ FrameEnd U o U' L ({ frames := 0, cells := 0, slots := 0, locals := 0 } : Room).cells ({ frames := 0, cells := 0, slots := 0, locals := 0 } : Room).slots) := by
  refine MetFree.of_bodySF (plainFor_of_name pn_1) hisR ?_
  intro p e s m args below meth c s₁ Bd hml0 hP hK
  obtain ⟨rfl, hZ, hh⟩ := hP
  have hx := Bd.exec
  have hby := Bd.bytes
  have hml : c.maxLocals = 1 := hml0
  have hown : s.vm.findClass "com/example/tidesheet/tidesheet/io/NetcdfTypeIsRealPinLaw" = some m.cls := findClass_of_methodNamed Bd.named
  have hnm := (name_of_methodNamed Bd.named Bd.method).1
  have X0 : Stand p l e ({ frames := 0, cells := 0, slots := 0, locals := 0 } : Room) s m #[(.int (6 : Int32))] below meth c s₁ [] 0 0 := Stand.of_body Bd
  have e0 : s₁.heap = h0 := by rw [← hh, Bd.state]; rfl
  have N0 := Fr.nil n0
  change own_Go p e below (own_Post s (Q1_6 Z w_UBYTE h0 n0) ({ frames := 0, cells := 0, slots := 0, locals := 0 } : Room).cells ({ frames := 0, cells := 0, slots := 0, locals := 0 } : Room).slots) (s₁.setTop (entryFrame m #[(.int (6 : Int32))] 1))
  refine own_by (fun t k => castTop (ef_1 m (6 : Int32)) k) ?_
  show own_Go p e below _ (s₁.setTop (mkF m 0 #[iv (6 : Int32)] []))
  refine own_by (B := s₁.setTop (mkF m 59 #[iv (6 : Int32)] [])) (fun t k => ?_) ?_
  · show Steps p.tables e below (s₁.setTop (mkF m 0 #[iv (6 : Int32)] [])) _
    refine XS.iloadN X0.here hx rfl (hb hby d1_0) rfl ?_
    show Steps p.tables e below (s₁.setTop (mkF m 1 #[iv (6 : Int32)] [(.int (6 : Int32))])) _
    refine XS.ifYes X0.here hx rfl (pc0 := 1) (pc' := 8) rfl (hb hby d1_1) rfl ((if0 _ _).trans (feq (by decide : ¬ ((6 : Int32) = (0 : Int32)))).2) (by decide) (by decide) ?_
    show Steps p.tables e below (s₁.setTop (mkF m 8 #[iv (6 : Int32)] [])) _
    refine XS.iloadN X0.here hx rfl (hb hby d1_8) rfl ?_
    show Steps p.tables e below (s₁.setTop (mkF m 9 #[iv (6 : Int32)] [(.int (6 : Int32))])) _
    refine XS.iconst X0.here hx rfl (hb hby d1_9) ?_
    show Steps p.tables e below (s₁.setTop (mkF m 10 #[iv (6 : Int32)] [(.int (1 : Int32)), (.int (6 : Int32))])) _
    refine XS.icmpYes X0.here hx rfl (pc0 := 10) (pc' := 17) rfl (hb hby d1_10) rfl (feq (by decide : ¬ ((6 : Int32) = (1 : Int32)))).2 (by decide) (by decide) ?_
    show Steps p.tables e below (s₁.setTop (mkF m 17 #[iv (6 : Int32)] [])) _
    refine XS.iloadN X0.here hx rfl (hb hby d1_17) rfl ?_
    show Steps p.tables e below (s₁.setTop (mkF m 18 #[iv (6 : Int32)] [(.int (6 : Int32))])) _
    refine XS.iconst X0.here hx rfl (hb hby d1_18) ?_
    show Steps p.tables e below (s₁.setTop (mkF m 19 #[iv (6 : Int32)] [(.int (2 : Int32)), (.int (6 : Int32))])) _
    refine XS.icmpYes X0.here hx rfl (pc0 := 19) (pc' := 26) rfl (hb hby d1_19) rfl (feq (by decide : ¬ ((6 : Int32) = (2 : Int32)))).2 (by decide) (by decide) ?_
    show Steps p.tables e below (s₁.setTop (mkF m 26 #[iv (6 : Int32)] [])) _
    refine XS.iloadN X0.here hx rfl (hb hby d1_26) rfl ?_
    show Steps p.tables e below (s₁.setTop (mkF m 27 #[iv (6 : Int32)] [(.int (6 : Int32))])) _
    refine XS.iconst X0.here hx rfl (hb hby d1_27) ?_
    show Steps p.tables e below (s₁.setTop (mkF m 28 #[iv (6 : Int32)] [(.int (3 : Int32)), (.int (6 : Int32))])) _
    refine XS.icmpYes X0.here hx rfl (pc0 := 28) (pc' := 35) rfl (hb hby d1_28) rfl (feq (by decide : ¬ ((6 : Int32) = (3 : Int32)))).2 (by decide) (by decide) ?_
    show Steps p.tables e below (s₁.setTop (mkF m 35 #[iv (6 : Int32)] [])) _
    refine XS.iloadN X0.here hx rfl (hb hby d1_35) rfl ?_
    show Steps p.tables e below (s₁.setTop (mkF m 36 #[iv (6 : Int32)] [(.int (6 : Int32))])) _
    refine XS.iconst X0.here hx rfl (hb hby d1_36) ?_
    show Steps p.tables e below (s₁.setTop (mkF m 37 #[iv (6 : Int32)] [(.int (4 : Int32)), (.int (6 : Int32))])) _
    refine XS.icmpYes X0.here hx rfl (pc0 := 37) (pc' := 44) rfl (hb hby d1_37) rfl (feq (by decide : ¬ ((6 : Int32) = (4 : Int32)))).2 (by decide) (by decide) ?_
    show Steps p.tables e below (s₁.setTop (mkF m 44 #[iv (6 : Int32)] [])) _
    refine XS.iloadN X0.here hx rfl (hb hby d1_44) rfl ?_
    show Steps p.tables e below (s₁.setTop (mkF m 45 #[iv (6 : Int32)] [(.int (6 : Int32))])) _
    refine XS.iconst X0.here hx rfl (hb hby d1_45) ?_
    show Steps p.tables e below (s₁.setTop (mkF m 46 #[iv (6 : Int32)] [(.int (5 : Int32)), (.int (6 : Int32))])) _
    refine XS.icmpYes X0.here hx rfl (pc0 := 46) (pc' := 53) rfl (hb hby d1_46) rfl (feq (by decide : ¬ ((6 : Int32) = (5 : Int32)))).2 (by decide) (by decide) ?_
    show Steps p.tables e below (s₁.setTop (mkF m 53 #[iv (6 : Int32)] [])) _
    refine XS.iloadN X0.here hx rfl (hb hby d1_53) rfl ?_
    show Steps p.tables e below (s₁.setTop (mkF m 54 #[iv (6 : Int32)] [(.int (6 : Int32))])) _
    refine XS.bipush X0.here hx rfl (hb hby d1_54) ?_
    show Steps p.tables e below (s₁.setTop (mkF m 56 #[iv (6 : Int32)] [(.int (6 : Int32)), (.int (6 : Int32))])) _
    refine XS.icmpNo X0.here hx rfl (hb hby d1_56) rfl (teq (by decide : (6 : Int32) = (6 : Int32))).2 ?_
    show Steps p.tables e below (s₁.setTop (mkF m 59 #[iv (6 : Int32)] [])) _
    exact k
  refine own_c1 (getS2 X0 hx hZ hown (host := "") (Or.inl (hw _ (List.mem_of_getElem? (i := 32) rfl))) Via.refl e0 (S_UBYTE.ext OZ.2) rfl (hb hby d1_59)) fun T1 X1 e1 => ?_
  show own_Go p e below _ (T1.setTop (mkF m 62 #[iv (6 : Int32)] [(.ref w_UBYTE)]))
  exact own_retR X1 Bd.notSynchronized hx Bd.returns rfl rfl rfl (hb hby d1_62) (by
      rw [show T1.heap = h0 from e1]
      exact ⟨rfl, N0, rfl⟩) (by decide) (by decide)

theorem d1_63 : decode method_2_code 63 = .ok (.iload_n 0, 1) := by decide +kernel
theorem d1_64 : decode method_2_code 64 = .ok (.bipush 7, 2) := by decide +kernel
theorem d1_66 : decode method_2_code 66 = .ok (.if_icmp .ne 7, 3) := by decide +kernel
theorem d1_69 : decode method_2_code 69 = .ok (.getstatic 31, 3) := by decide +kernel
theorem d1_72 : decode method_2_code 72 = .ok (.areturn, 1) := by decide +kernel
def Q1_7 (Z : State) (w_USHORT : Addr) (h0 : Heap) (n0 : Nat) (v : Option Value) (h : Heap) (L : List Loc) : Prop := v = some (.ref w_USHORT) ∧ Fr n0 L ∧ h = h0
set_option maxRecDepth 65536 in
set_option maxHeartbeats 40000000 in
theorem rm1_7 (l : Launch) (Z : State) (a0 : Array Value) (hw : ∀ d ∈ tables_1, d.before a0 Z = true) (ws : List Jvm.Cond) (w_USHORT : Addr) (h0 : Heap) (n0 : Nat) (Z0 : n0 ≤ h0.size) (OZ : Old Z n0 h0) (S_USHORT : Sta Z Z.heap "com/example/tidesheet/tidesheet/io/NetcdfType" "USHORT" "Lcom/example/tidesheet/tidesheet/io/NetcdfType;" (.ref w_USHORT)) :
    MetFree l (⟨"com/example/tidesheet/tidesheet/io/NetcdfTypeIsRealPinLaw", "pick", "(I)Lcom/example/tidesheet/tidesheet/io/NetcdfType;"⟩ : MethodName) (head1 (Jvm.Cond.code (⟨"com/example/tidesheet/tidesheet/io/NetcdfTypeIsRealPinLaw", "pick", "(I)Lcom/example/tidesheet/tidesheet/io/NetcdfType;"⟩ : MethodName) method_2_code 1 (some (.object "com/example/tidesheet/tidesheet/io/NetcdfType")) :: ws) ({ frames := 0, cells := 0, slots := 0, locals := 0 } : Room)) (fun a U => a = #[(.int (7 : Int32))] ∧ Z.Warmed39 U.vm ∧ U.heap = h0) (fun _ _ _ _ _ => True) (fun _ U o U' => ∃ v L, o = .returned v ∧ Q1_7 Z w_USHORT h0 n0 v U'.heap L ∧ FrameEnd U o U' L ({ frames := 0, cells := 0, slots := 0, locals := 0 } : Room).cells ({ frames := 0, cells := 0, slots := 0, locals := 0 } : Room).slots) := by
  refine MetFree.of_bodySF (plainFor_of_name pn_1) hisR ?_
  intro p e s m args below meth c s₁ Bd hml0 hP hK
  obtain ⟨rfl, hZ, hh⟩ := hP
  have hx := Bd.exec
  have hby := Bd.bytes
  have hml : c.maxLocals = 1 := hml0
  have hown : s.vm.findClass "com/example/tidesheet/tidesheet/io/NetcdfTypeIsRealPinLaw" = some m.cls := findClass_of_methodNamed Bd.named
  have hnm := (name_of_methodNamed Bd.named Bd.method).1
  have X0 : Stand p l e ({ frames := 0, cells := 0, slots := 0, locals := 0 } : Room) s m #[(.int (7 : Int32))] below meth c s₁ [] 0 0 := Stand.of_body Bd
  have e0 : s₁.heap = h0 := by rw [← hh, Bd.state]; rfl
  have N0 := Fr.nil n0
  change own_Go p e below (own_Post s (Q1_7 Z w_USHORT h0 n0) ({ frames := 0, cells := 0, slots := 0, locals := 0 } : Room).cells ({ frames := 0, cells := 0, slots := 0, locals := 0 } : Room).slots) (s₁.setTop (entryFrame m #[(.int (7 : Int32))] 1))
  refine own_by (fun t k => castTop (ef_1 m (7 : Int32)) k) ?_
  show own_Go p e below _ (s₁.setTop (mkF m 0 #[iv (7 : Int32)] []))
  refine own_by (B := s₁.setTop (mkF m 69 #[iv (7 : Int32)] [])) (fun t k => ?_) ?_
  · show Steps p.tables e below (s₁.setTop (mkF m 0 #[iv (7 : Int32)] [])) _
    refine XS.iloadN X0.here hx rfl (hb hby d1_0) rfl ?_
    show Steps p.tables e below (s₁.setTop (mkF m 1 #[iv (7 : Int32)] [(.int (7 : Int32))])) _
    refine XS.ifYes X0.here hx rfl (pc0 := 1) (pc' := 8) rfl (hb hby d1_1) rfl ((if0 _ _).trans (feq (by decide : ¬ ((7 : Int32) = (0 : Int32)))).2) (by decide) (by decide) ?_
    show Steps p.tables e below (s₁.setTop (mkF m 8 #[iv (7 : Int32)] [])) _
    refine XS.iloadN X0.here hx rfl (hb hby d1_8) rfl ?_
    show Steps p.tables e below (s₁.setTop (mkF m 9 #[iv (7 : Int32)] [(.int (7 : Int32))])) _
    refine XS.iconst X0.here hx rfl (hb hby d1_9) ?_
    show Steps p.tables e below (s₁.setTop (mkF m 10 #[iv (7 : Int32)] [(.int (1 : Int32)), (.int (7 : Int32))])) _
    refine XS.icmpYes X0.here hx rfl (pc0 := 10) (pc' := 17) rfl (hb hby d1_10) rfl (feq (by decide : ¬ ((7 : Int32) = (1 : Int32)))).2 (by decide) (by decide) ?_
    show Steps p.tables e below (s₁.setTop (mkF m 17 #[iv (7 : Int32)] [])) _
    refine XS.iloadN X0.here hx rfl (hb hby d1_17) rfl ?_
    show Steps p.tables e below (s₁.setTop (mkF m 18 #[iv (7 : Int32)] [(.int (7 : Int32))])) _
    refine XS.iconst X0.here hx rfl (hb hby d1_18) ?_
    show Steps p.tables e below (s₁.setTop (mkF m 19 #[iv (7 : Int32)] [(.int (2 : Int32)), (.int (7 : Int32))])) _
    refine XS.icmpYes X0.here hx rfl (pc0 := 19) (pc' := 26) rfl (hb hby d1_19) rfl (feq (by decide : ¬ ((7 : Int32) = (2 : Int32)))).2 (by decide) (by decide) ?_
    show Steps p.tables e below (s₁.setTop (mkF m 26 #[iv (7 : Int32)] [])) _
    refine XS.iloadN X0.here hx rfl (hb hby d1_26) rfl ?_
    show Steps p.tables e below (s₁.setTop (mkF m 27 #[iv (7 : Int32)] [(.int (7 : Int32))])) _
    refine XS.iconst X0.here hx rfl (hb hby d1_27) ?_
    show Steps p.tables e below (s₁.setTop (mkF m 28 #[iv (7 : Int32)] [(.int (3 : Int32)), (.int (7 : Int32))])) _
    refine XS.icmpYes X0.here hx rfl (pc0 := 28) (pc' := 35) rfl (hb hby d1_28) rfl (feq (by decide : ¬ ((7 : Int32) = (3 : Int32)))).2 (by decide) (by decide) ?_
    show Steps p.tables e below (s₁.setTop (mkF m 35 #[iv (7 : Int32)] [])) _
    refine XS.iloadN X0.here hx rfl (hb hby d1_35) rfl ?_
    show Steps p.tables e below (s₁.setTop (mkF m 36 #[iv (7 : Int32)] [(.int (7 : Int32))])) _
    refine XS.iconst X0.here hx rfl (hb hby d1_36) ?_
    show Steps p.tables e below (s₁.setTop (mkF m 37 #[iv (7 : Int32)] [(.int (4 : Int32)), (.int (7 : Int32))])) _
    refine XS.icmpYes X0.here hx rfl (pc0 := 37) (pc' := 44) rfl (hb hby d1_37) rfl (feq (by decide : ¬ ((7 : Int32) = (4 : Int32)))).2 (by decide) (by decide) ?_
    show Steps p.tables e below (s₁.setTop (mkF m 44 #[iv (7 : Int32)] [])) _
    refine XS.iloadN X0.here hx rfl (hb hby d1_44) rfl ?_
    show Steps p.tables e below (s₁.setTop (mkF m 45 #[iv (7 : Int32)] [(.int (7 : Int32))])) _
    refine XS.iconst X0.here hx rfl (hb hby d1_45) ?_
    show Steps p.tables e below (s₁.setTop (mkF m 46 #[iv (7 : Int32)] [(.int (5 : Int32)), (.int (7 : Int32))])) _
    refine XS.icmpYes X0.here hx rfl (pc0 := 46) (pc' := 53) rfl (hb hby d1_46) rfl (feq (by decide : ¬ ((7 : Int32) = (5 : Int32)))).2 (by decide) (by decide) ?_
    show Steps p.tables e below (s₁.setTop (mkF m 53 #[iv (7 : Int32)] [])) _
    refine XS.iloadN X0.here hx rfl (hb hby d1_53) rfl ?_
    show Steps p.tables e below (s₁.setTop (mkF m 54 #[iv (7 : Int32)] [(.int (7 : Int32))])) _
    refine XS.bipush X0.here hx rfl (hb hby d1_54) ?_
    show Steps p.tables e below (s₁.setTop (mkF m 56 #[iv (7 : Int32)] [(.int (6 : Int32)), (.int (7 : Int32))])) _
    refine XS.icmpYes X0.here hx rfl (pc0 := 56) (pc' := 63) rfl (hb hby d1_56) rfl (feq (by decide : ¬ ((7 : Int32) = (6 : Int32)))).2 (by decide) (by decide) ?_
    show Steps p.tables e below (s₁.setTop (mkF m 63 #[iv (7 : Int32)] [])) _
    refine XS.iloadN X0.here hx rfl (hb hby d1_63) rfl ?_
    show Steps p.tables e below (s₁.setTop (mkF m 64 #[iv (7 : Int32)] [(.int (7 : Int32))])) _
    refine XS.bipush X0.here hx rfl (hb hby d1_64) ?_
    show Steps p.tables e below (s₁.setTop (mkF m 66 #[iv (7 : Int32)] [(.int (7 : Int32)), (.int (7 : Int32))])) _
    refine XS.icmpNo X0.here hx rfl (hb hby d1_66) rfl (teq (by decide : (7 : Int32) = (7 : Int32))).2 ?_
    show Steps p.tables e below (s₁.setTop (mkF m 69 #[iv (7 : Int32)] [])) _
    exact k
  refine own_c1 (getS2 X0 hx hZ hown (host := "") (Or.inl (hw _ (List.mem_of_getElem? (i := 19) rfl))) Via.refl e0 (S_USHORT.ext OZ.2) rfl (hb hby d1_69)) fun T1 X1 e1 => ?_
  show own_Go p e below _ (T1.setTop (mkF m 72 #[iv (7 : Int32)] [(.ref w_USHORT)]))
  exact own_retR X1 Bd.notSynchronized hx Bd.returns rfl rfl rfl (hb hby d1_72) (by
      rw [show T1.heap = h0 from e1]
      exact ⟨rfl, N0, rfl⟩) (by decide) (by decide)

theorem d1_73 : decode method_2_code 73 = .ok (.iload_n 0, 1) := by decide +kernel
theorem d1_74 : decode method_2_code 74 = .ok (.bipush 8, 2) := by decide +kernel
theorem d1_76 : decode method_2_code 76 = .ok (.if_icmp .ne 7, 3) := by decide +kernel
theorem d1_79 : decode method_2_code 79 = .ok (.getstatic 34, 3) := by decide +kernel
theorem d1_82 : decode method_2_code 82 = .ok (.areturn, 1) := by decide +kernel
def Q1_8 (Z : State) (w_UINT : Addr) (h0 : Heap) (n0 : Nat) (v : Option Value) (h : Heap) (L : List Loc) : Prop := v = some (.ref w_UINT) ∧ Fr n0 L ∧ h = h0
set_option maxRecDepth 65536 in
set_option maxHeartbeats 40000000 in
theorem rm1_8 (l : Launch) (Z : State) (a0 : Array Value) (hw : ∀ d ∈ tables_1, d.before a0 Z = true) (ws : List Jvm.Cond) (w_UINT : Addr) (h0 : Heap) (n0 : Nat) (Z0 : n0 ≤ h0.size) (OZ : Old Z n0 h0) (S_UINT : Sta Z Z.heap "com/example/tidesheet/tidesheet/io/NetcdfType" "UINT" "Lcom/example/tidesheet/tidesheet/io/NetcdfType;" (.ref w_UINT)) :
    MetFree l (⟨"com/example/tidesheet/tidesheet/io/NetcdfTypeIsRealPinLaw", "pick", "(I)Lcom/example/tidesheet/tidesheet/io/NetcdfType;"⟩ : MethodName) (head1 (Jvm.Cond.code (⟨"com/example/tidesheet/tidesheet/io/NetcdfTypeIsRealPinLaw", "pick", "(I)Lcom/example/tidesheet/tidesheet/io/NetcdfType;"⟩ : MethodName) method_2_code 1 (some (.object "com/example/tidesheet/tidesheet/io/NetcdfType")) :: ws) ({ frames := 0, cells := 0, slots := 0, locals := 0 } : Room)) (fun a U => a = #[(.int (8 : Int32))] ∧ Z.Warmed39 U.vm ∧ U.heap = h0) (fun _ _ _ _ _ => True) (fun _ U o U' => ∃ v L, o = .returned v ∧ Q1_8 Z w_UINT h0 n0 v U'.heap L ∧ FrameEnd U o U' L ({ frames := 0, cells := 0, slots := 0, locals := 0 } : Room).cells ({ frames := 0, cells := 0, slots := 0, locals := 0 } : Room).slots) := by
  refine MetFree.of_bodySF (plainFor_of_name pn_1) hisR ?_
  intro p e s m args below meth c s₁ Bd hml0 hP hK
  obtain ⟨rfl, hZ, hh⟩ := hP
  have hx := Bd.exec
  have hby := Bd.bytes
  have hml : c.maxLocals = 1 := hml0
  have hown : s.vm.findClass "com/example/tidesheet/tidesheet/io/NetcdfTypeIsRealPinLaw" = some m.cls := findClass_of_methodNamed Bd.named
  have hnm := (name_of_methodNamed Bd.named Bd.method).1
  have X0 : Stand p l e ({ frames := 0, cells := 0, slots := 0, locals := 0 } : Room) s m #[(.int (8 : Int32))] below meth c s₁ [] 0 0 := Stand.of_body Bd
  have e0 : s₁.heap = h0 := by rw [← hh, Bd.state]; rfl
  have N0 := Fr.nil n0
  change own_Go p e below (own_Post s (Q1_8 Z w_UINT h0 n0) ({ frames := 0, cells := 0, slots := 0, locals := 0 } : Room).cells ({ frames := 0, cells := 0, slots := 0, locals := 0 } : Room).slots) (s₁.setTop (entryFrame m #[(.int (8 : Int32))] 1))
  refine own_by (fun t k => castTop (ef_1 m (8 : Int32)) k) ?_
  show own_Go p e below _ (s₁.setTop (mkF m 0 #[iv (8 : Int32)] []))
  refine own_by (B := s₁.setTop (mkF m 79 #[iv (8 : Int32)] [])) (fun t k => ?_) ?_
  · show Steps p.tables e below (s₁.setTop (mkF m 0 #[iv (8 : Int32)] [])) _
    refine XS.iloadN X0.here hx rfl (hb hby d1_0) rfl ?_
    show Steps p.tables e below (s₁.setTop (mkF m 1 #[iv (8 : Int32)] [(.int (8 : Int32))])) _
    refine XS.ifYes X0.here hx rfl (pc0 := 1) (pc' := 8) rfl (hb hby d1_1) rfl ((if0 _ _).trans (feq (by decide : ¬ ((8 : Int32) = (0 : Int32)))).2) (by decide) (by decide) ?_
    show Steps p.tables e below (s₁.setTop (mkF m 8 #[iv (8 : Int32)] [])) _
    refine XS.iloadN X0.here hx rfl (hb hby d1_8) rfl ?_
    show Steps p.tables e below (s₁.setTop (mkF m 9 #[iv (8 : Int32)] [(.int (8 : Int32))])) _
    refine XS.iconst X0.here hx rfl (hb hby d1_9) ?_
    show Steps p.tables e below (s₁.setTop (mkF m 10 #[iv (8 : Int32)] [(.int (1 : Int32)), (.int (8 : Int32))])) _
    refine XS.icmpYes X0.here hx rfl (pc0 := 10) (pc' := 17) rfl (hb hby d1_10) rfl (feq (by decide : ¬ ((8 : Int32) = (1 : Int32)))).2 (by decide) (by decide) ?_
    show Steps p.tables e below (s₁.setTop (mkF m 17 #[iv (8 : Int32)] [])) _
    refine XS.iloadN X0.here hx rfl (hb hby d1_17) rfl ?_
    show Steps p.tables e below (s₁.setTop (mkF m 18 #[iv (8 : Int32)] [(.int (8 : Int32))])) _
    refine XS.iconst X0.here hx rfl (hb hby d1_18) ?_
    show Steps p.tables e below (s₁.setTop (mkF m 19 #[iv (8 : Int32)] [(.int (2 : Int32)), (.int (8 : Int32))])) _
    refine XS.icmpYes X0.here hx rfl (pc0 := 19) (pc' := 26) rfl (hb hby d1_19) rfl (feq (by decide : ¬ ((8 : Int32) = (2 : Int32)))).2 (by decide) (by decide) ?_
    show Steps p.tables e below (s₁.setTop (mkF m 26 #[iv (8 : Int32)] [])) _
    refine XS.iloadN X0.here hx rfl (hb hby d1_26) rfl ?_
    show Steps p.tables e below (s₁.setTop (mkF m 27 #[iv (8 : Int32)] [(.int (8 : Int32))])) _
    refine XS.iconst X0.here hx rfl (hb hby d1_27) ?_
    show Steps p.tables e below (s₁.setTop (mkF m 28 #[iv (8 : Int32)] [(.int (3 : Int32)), (.int (8 : Int32))])) _
    refine XS.icmpYes X0.here hx rfl (pc0 := 28) (pc' := 35) rfl (hb hby d1_28) rfl (feq (by decide : ¬ ((8 : Int32) = (3 : Int32)))).2 (by decide) (by decide) ?_
    show Steps p.tables e below (s₁.setTop (mkF m 35 #[iv (8 : Int32)] [])) _
    refine XS.iloadN X0.here hx rfl (hb hby d1_35) rfl ?_
    show Steps p.tables e below (s₁.setTop (mkF m 36 #[iv (8 : Int32)] [(.int (8 : Int32))])) _
    refine XS.iconst X0.here hx rfl (hb hby d1_36) ?_
    show Steps p.tables e below (s₁.setTop (mkF m 37 #[iv (8 : Int32)] [(.int (4 : Int32)), (.int (8 : Int32))])) _
    refine XS.icmpYes X0.here hx rfl (pc0 := 37) (pc' := 44) rfl (hb hby d1_37) rfl (feq (by decide : ¬ ((8 : Int32) = (4 : Int32)))).2 (by decide) (by decide) ?_
    show Steps p.tables e below (s₁.setTop (mkF m 44 #[iv (8 : Int32)] [])) _
    refine XS.iloadN X0.here hx rfl (hb hby d1_44) rfl ?_
    show Steps p.tables e below (s₁.setTop (mkF m 45 #[iv (8 : Int32)] [(.int (8 : Int32))])) _
    refine XS.iconst X0.here hx rfl (hb hby d1_45) ?_
    show Steps p.tables e below (s₁.setTop (mkF m 46 #[iv (8 : Int32)] [(.int (5 : Int32)), (.int (8 : Int32))])) _
    refine XS.icmpYes X0.here hx rfl (pc0 := 46) (pc' := 53) rfl (hb hby d1_46) rfl (feq (by decide : ¬ ((8 : Int32) = (5 : Int32)))).2 (by decide) (by decide) ?_
    show Steps p.tables e below (s₁.setTop (mkF m 53 #[iv (8 : Int32)] [])) _
    refine XS.iloadN X0.here hx rfl (hb hby d1_53) rfl ?_
    show Steps p.tables e below (s₁.setTop (mkF m 54 #[iv (8 : Int32)] [(.int (8 : Int32))])) _
    refine XS.bipush X0.here hx rfl (hb hby d1_54) ?_
    show Steps p.tables e below (s₁.setTop (mkF m 56 #[iv (8 : Int32)] [(.int (6 : Int32)), (.int (8 : Int32))])) _
    refine XS.icmpYes X0.here hx rfl (pc0 := 56) (pc' := 63) rfl (hb hby d1_56) rfl (feq (by decide : ¬ ((8 : Int32) = (6 : Int32)))).2 (by decide) (by decide) ?_
    show Steps p.tables e below (s₁.setTop (mkF m 63 #[iv (8 : Int32)] [])) _
    refine XS.iloadN X0.here hx rfl (hb hby d1_63) rfl ?_
    show Steps p.tables e below (s₁.setTop (mkF m 64 #[iv (8 : Int32)] [(.int (8 : Int32))])) _
    refine XS.bipush X0.here hx rfl (hb hby d1_64) ?_
    show Steps p.tables e below (s₁.setTop (mkF m 66 #[iv (8 : Int32)] [(.int (7 : Int32)), (.int (8 : Int32))])) _
    refine XS.icmpYes X0.here hx rfl (pc0 := 66) (pc' := 73) rfl (hb hby d1_66) rfl (feq (by decide : ¬ ((8 : Int32) = (7 : Int32)))).2 (by decide) (by decide) ?_
    show Steps p.tables e below (s₁.setTop (mkF m 73 #[iv (8 : Int32)] [])) _
    refine XS.iloadN X0.here hx rfl (hb hby d1_73) rfl ?_
    show Steps p.tables e below (s₁.setTop (mkF m 74 #[iv (8 : Int32)] [(.int (8 : Int32))])) _
    refine XS.bipush X0.here hx rfl (hb hby d1_74) ?_
    show Steps p.tables e below (s₁.setTop (mkF m 76 #[iv (8 : Int32)] [(.int (8 : Int32)), (.int (8 : Int32))])) _
    refine XS.icmpNo X0.here hx rfl (hb hby d1_76) rfl (teq (by decide : (8 : Int32) = (8 : Int32))).2 ?_
    show Steps p.tables e below (s₁.setTop (mkF m 79 #[iv (8 : Int32)] [])) _
    exact k
  refine own_c1 (getS2 X0 hx hZ hown (host := "") (Or.inl (hw _ (List.mem_of_getElem? (i := 21) rfl))) Via.refl e0 (S_UINT.ext OZ.2) rfl (hb hby d1_79)) fun T1 X1 e1 => ?_
  show own_Go p e below _ (T1.setTop (mkF m 82 #[iv (8 : Int32)] [(.ref w_UINT)]))
  exact own_retR X1 Bd.notSynchronized hx Bd.returns rfl rfl rfl (hb hby d1_82) (by
      rw [show T1.heap = h0 from e1]
      exact ⟨rfl, N0, rfl⟩) (by decide) (by decide)

theorem d1_83 : decode method_2_code 83 = .ok (.iload_n 0, 1) := by decide +kernel
theorem d1_84 : decode method_2_code 84 = .ok (.bipush 9, 2) := by decide +kernel
theorem d1_86 : decode method_2_code 86 = .ok (.if_icmp .ne 7, 3) := by decide +kernel
theorem d1_89 : decode method_2_code 89 = .ok (.getstatic 37, 3) := by decide +kernel
theorem d1_92 : decode method_2_code 92 = .ok (.areturn, 1) := by decide +kernel
def Q1_9 (Z : State) (w_INT64 : Addr) (h0 : Heap) (n0 : Nat) (v : Option Value) (h : Heap) (L : List Loc) : Prop := v = some (.ref w_INT64) ∧ Fr n0 L ∧ h = h0
set_option maxRecDepth 65536 in
set_option maxHeartbeats 40000000 in
theorem rm1_9 (l : Launch) (Z : State) (a0 : Array Value) (hw : ∀ d ∈ tables_1, d.before a0 Z = true) (ws : List Jvm.Cond) (w_INT64 : Addr) (h0 : Heap) (n0 : Nat) (Z0 : n0 ≤ h0.size) (OZ : Old Z n0 h0) (S_INT64 : Sta Z Z.heap "com/example/tidesheet/tidesheet/io/NetcdfType" "INT64" "Lcom/example/tidesheet/tidesheet/io/NetcdfType;" (.ref w_INT64)) :
    MetFree l (⟨"com/example/tidesheet/tidesheet/io/NetcdfTypeIsRealPinLaw", "pick", "(I)Lcom/example/tidesheet/tidesheet/io/NetcdfType;"⟩ : MethodName) (head1 (Jvm.Cond.code (⟨"com/example/tidesheet/tidesheet/io/NetcdfTypeIsRealPinLaw", "pick", "(I)Lcom/example/tidesheet/tidesheet/io/NetcdfType;"⟩ : MethodName) method_2_code 1 (some (.object "com/example/tidesheet/tidesheet/io/NetcdfType")) :: ws) ({ frames := 0, cells := 0, slots := 0, locals := 0 } : Room)) (fun a U => a = #[(.int (9 : Int32))] ∧ Z.Warmed39 U.vm ∧ U.heap = h0) (fun _ _ _ _ _ => True) (fun _ U o U' => ∃ v L, o = .returned v ∧ Q1_9 Z w_INT64 h0 n0 v U'.heap L ∧ FrameEnd U o U' L ({ frames := 0, cells := 0, slots := 0, locals := 0 } : Room).cells ({ frames := 0, cells := 0, slots := 0, locals := 0 } : Room).slots) := by
  refine MetFree.of_bodySF (plainFor_of_name pn_1) hisR ?_
  intro p e s m args below meth c s₁ Bd hml0 hP hK
  obtain ⟨rfl, hZ, hh⟩ := hP
  have hx := Bd.exec
  have hby := Bd.bytes
  have hml : c.maxLocals = 1 := hml0
  have hown : s.vm.findClass "com/example/tidesheet/tidesheet/io/NetcdfTypeIsRealPinLaw" = some m.cls := findClass_of_methodNamed Bd.named
  have hnm := (name_of_methodNamed Bd.named Bd.method).1
  have X0 : Stand p l e ({ frames := 0, cells := 0, slots := 0, locals := 0 } : Room) s m #[(.int (9 : Int32))] below meth c s₁ [] 0 0 := Stand.of_body Bd
  have e0 : s₁.heap = h0 := by rw [← hh, Bd.state]; rfl
  have N0 := Fr.nil n0
  change own_Go p e below (own_Post s (Q1_9 Z w_INT64 h0 n0) ({ frames := 0, cells := 0, slots := 0, locals := 0 } : Room).cells ({ frames := 0, cells := 0, slots := 0, locals := 0 } : Room).slots) (s₁.setTop (entryFrame m #[(.int (9 : Int32))] 1))
  refine own_by (fun t k => castTop (ef_1 m (9 : Int32)) k) ?_
  show own_Go p e below _ (s₁.setTop (mkF m 0 #[iv (9 : Int32)] []))
  refine own_by (B := s₁.setTop (mkF m 89 #[iv (9 : Int32)] [])) (fun t k => ?_) ?_
  · show Steps p.tables e below (s₁.setTop (mkF m 0 #[iv (9 : Int32)] [])) _
    refine XS.iloadN X0.here hx rfl (hb hby d1_0) rfl ?_
    show Steps p.tables e below (s₁.setTop (mkF m 1 #[iv (9 : Int32)] [(.int (9 : Int32))])) _
    refine XS.ifYes X0.here hx rfl (pc0 := 1) (pc' := 8) rfl (hb hby d1_1) rfl ((if0 _ _).trans (feq (by decide : ¬ ((9 : Int32) = (0 : Int32)))).2) (by decide) (by decide) ?_
    show Steps p.tables e below (s₁.setTop (mkF m 8 #[iv (9 : Int32)] [])) _
    refine XS.iloadN X0.here hx rfl (hb hby d1_8) rfl ?_
    show Steps p.tables e below (s₁.setTop (mkF m 9 #[iv (9 : Int32)] [(.int (9 : Int32))])) _
    refine XS.iconst X0.here hx rfl (hb hby d1_9) ?_
    show Steps p.tables e below (s₁.setTop (mkF m 10 #[iv (9 : Int32)] [(.int (1 : Int32)), (.int (9 : Int32))])) _
    refine XS.icmpYes X0.here hx rfl (pc0 := 10) (pc' := 17) rfl (hb hby d1_10) rfl (feq (by decide : ¬ ((9 : Int32) = (1 : Int32)))).2 (by decide) (by decide) ?_
    show Steps p.tables e below (s₁.setTop (mkF m 17 #[iv (9 : Int32)] [])) _
    refine XS.iloadN X0.here hx rfl (hb hby d1_17) rfl ?_
    show Steps p.tables e below (s₁.setTop (mkF m 18 #[iv (9 : Int32)] [(.int (9 : Int32))])) _
    refine XS.iconst X0.here hx rfl (hb hby d1_18) ?_
    show Steps p.tables e below (s₁.setTop (mkF m 19 #[iv (9 : Int32)] [(.int (2 : Int32)), (.int (9 : Int32))])) _
    refine XS.icmpYes X0.here hx rfl (pc0 := 19) (pc' := 26) rfl (hb hby d1_19) rfl (feq (by decide : ¬ ((9 : Int32) = (2 : Int32)))).2 (by decide) (by decide) ?_
    show Steps p.tables e below (s₁.setTop (mkF m 26 #[iv (9 : Int32)] [])) _
    refine XS.iloadN X0.here hx rfl (hb hby d1_26) rfl ?_
    show Steps p.tables e below (s₁.setTop (mkF m 27 #[iv (9 : Int32)] [(.int (9 : Int32))])) _
    refine XS.iconst X0.here hx rfl (hb hby d1_27) ?_
    show Steps p.tables e below (s₁.setTop (mkF m 28 #[iv (9 : Int32)] [(.int (3 : Int32)), (.int (9 : Int32))])) _
    refine XS.icmpYes X0.here hx rfl (pc0 := 28) (pc' := 35) rfl (hb hby d1_28) rfl (feq (by decide : ¬ ((9 : Int32) = (3 : Int32)))).2 (by decide) (by decide) ?_
    show Steps p.tables e below (s₁.setTop (mkF m 35 #[iv (9 : Int32)] [])) _
    refine XS.iloadN X0.here hx rfl (hb hby d1_35) rfl ?_
    show Steps p.tables e below (s₁.setTop (mkF m 36 #[iv (9 : Int32)] [(.int (9 : Int32))])) _
    refine XS.iconst X0.here hx rfl (hb hby d1_36) ?_
    show Steps p.tables e below (s₁.setTop (mkF m 37 #[iv (9 : Int32)] [(.int (4 : Int32)), (.int (9 : Int32))])) _
    refine XS.icmpYes X0.here hx rfl (pc0 := 37) (pc' := 44) rfl (hb hby d1_37) rfl (feq (by decide : ¬ ((9 : Int32) = (4 : Int32)))).2 (by decide) (by decide) ?_
    show Steps p.tables e below (s₁.setTop (mkF m 44 #[iv (9 : Int32)] [])) _
    refine XS.iloadN X0.here hx rfl (hb hby d1_44) rfl ?_
    show Steps p.tables e below (s₁.setTop (mkF m 45 #[iv (9 : Int32)] [(.int (9 : Int32))])) _
    refine XS.iconst X0.here hx rfl (hb hby d1_45) ?_
    show Steps p.tables e below (s₁.setTop (mkF m 46 #[iv (9 : Int32)] [(.int (5 : Int32)), (.int (9 : Int32))])) _
    refine XS.icmpYes X0.here hx rfl (pc0 := 46) (pc' := 53) rfl (hb hby d1_46) rfl (feq (by decide : ¬ ((9 : Int32) = (5 : Int32)))).2 (by decide) (by decide) ?_
    show Steps p.tables e below (s₁.setTop (mkF m 53 #[iv (9 : Int32)] [])) _
    refine XS.iloadN X0.here hx rfl (hb hby d1_53) rfl ?_
    show Steps p.tables e below (s₁.setTop (mkF m 54 #[iv (9 : Int32)] [(.int (9 : Int32))])) _
    refine XS.bipush X0.here hx rfl (hb hby d1_54) ?_
    show Steps p.tables e below (s₁.setTop (mkF m 56 #[iv (9 : Int32)] [(.int (6 : Int32)), (.int (9 : Int32))])) _
    refine XS.icmpYes X0.here hx rfl (pc0 := 56) (pc' := 63) rfl (hb hby d1_56) rfl (feq (by decide : ¬ ((9 : Int32) = (6 : Int32)))).2 (by decide) (by decide) ?_
    show Steps p.tables e below (s₁.setTop (mkF m 63 #[iv (9 : Int32)] [])) _
    refine XS.iloadN X0.here hx rfl (hb hby d1_63) rfl ?_
    show Steps p.tables e below (s₁.setTop (mkF m 64 #[iv (9 : Int32)] [(.int (9 : Int32))])) _
    refine XS.bipush X0.here hx rfl (hb hby d1_64) ?_
    show Steps p.tables e below (s₁.setTop (mkF m 66 #[iv (9 : Int32)] [(.int (7 : Int32)), (.int (9 : Int32))])) _
    refine XS.icmpYes X0.here hx rfl (pc0 := 66) (pc' := 73) rfl (hb hby d1_66) rfl (feq (by decide : ¬ ((9 : Int32) = (7 : Int32)))).2 (by decide) (by decide) ?_
    show Steps p.tables e below (s₁.setTop (mkF m 73 #[iv (9 : Int32)] [])) _
    refine XS.iloadN X0.here hx rfl (hb hby d1_73) rfl ?_
    show Steps p.tables e below (s₁.setTop (mkF m 74 #[iv (9 : Int32)] [(.int (9 : Int32))])) _
    refine XS.bipush X0.here hx rfl (hb hby d1_74) ?_
    show Steps p.tables e below (s₁.setTop (mkF m 76 #[iv (9 : Int32)] [(.int (8 : Int32)), (.int (9 : Int32))])) _
    refine XS.icmpYes X0.here hx rfl (pc0 := 76) (pc' := 83) rfl (hb hby d1_76) rfl (feq (by decide : ¬ ((9 : Int32) = (8 : Int32)))).2 (by decide) (by decide) ?_
    show Steps p.tables e below (s₁.setTop (mkF m 83 #[iv (9 : Int32)] [])) _
    refine XS.iloadN X0.here hx rfl (hb hby d1_83) rfl ?_
    show Steps p.tables e below (s₁.setTop (mkF m 84 #[iv (9 : Int32)] [(.int (9 : Int32))])) _
    refine XS.bipush X0.here hx rfl (hb hby d1_84) ?_
    show Steps p.tables e below (s₁.setTop (mkF m 86 #[iv (9 : Int32)] [(.int (9 : Int32)), (.int (9 : Int32))])) _
    refine XS.icmpNo X0.here hx rfl (hb hby d1_86) rfl (teq (by decide : (9 : Int32) = (9 : Int32))).2 ?_
    show Steps p.tables e below (s₁.setTop (mkF m 89 #[iv (9 : Int32)] [])) _
    exact k
  refine own_c1 (getS2 X0 hx hZ hown (host := "") (Or.inl (hw _ (List.mem_of_getElem? (i := 29) rfl))) Via.refl e0 (S_INT64.ext OZ.2) rfl (hb hby d1_89)) fun T1 X1 e1 => ?_
  show own_Go p e below _ (T1.setTop (mkF m 92 #[iv (9 : Int32)] [(.ref w_INT64)]))
  exact own_retR X1 Bd.notSynchronized hx Bd.returns rfl rfl rfl (hb hby d1_92) (by
      rw [show T1.heap = h0 from e1]
      exact ⟨rfl, N0, rfl⟩) (by decide) (by decide)

theorem d1_93 : decode method_2_code 93 = .ok (.getstatic 40, 3) := by decide +kernel
theorem d1_96 : decode method_2_code 96 = .ok (.areturn, 1) := by decide +kernel
def Q1_10 (Z : State) (w_UINT64 : Addr) (h0 : Heap) (n0 : Nat) (v : Option Value) (h : Heap) (L : List Loc) : Prop := v = some (.ref w_UINT64) ∧ Fr n0 L ∧ h = h0
set_option maxRecDepth 65536 in
set_option maxHeartbeats 40000000 in
theorem rm1_10 (l : Launch) (Z : State) (a0 : Array Value) (hw : ∀ d ∈ tables_1, d.before a0 Z = true) (ws : List Jvm.Cond) (w_UINT64 : Addr) (h0 : Heap) (n0 : Nat) (Z0 : n0 ≤ h0.size) (OZ : Old Z n0 h0) (S_UINT64 : Sta Z Z.heap "com/example/tidesheet/tidesheet/io/NetcdfType" "UINT64" "Lcom/example/tidesheet/tidesheet/io/NetcdfType;" (.ref w_UINT64)) :
    MetFree l (⟨"com/example/tidesheet/tidesheet/io/NetcdfTypeIsRealPinLaw", "pick", "(I)Lcom/example/tidesheet/tidesheet/io/NetcdfType;"⟩ : MethodName) (head1 (Jvm.Cond.code (⟨"com/example/tidesheet/tidesheet/io/NetcdfTypeIsRealPinLaw", "pick", "(I)Lcom/example/tidesheet/tidesheet/io/NetcdfType;"⟩ : MethodName) method_2_code 1 (some (.object "com/example/tidesheet/tidesheet/io/NetcdfType")) :: ws) ({ frames := 0, cells := 0, slots := 0, locals := 0 } : Room)) (fun a U => a = #[(.int (10 : Int32))] ∧ Z.Warmed39 U.vm ∧ U.heap = h0) (fun _ _ _ _ _ => True) (fun _ U o U' => ∃ v L, o = .returned v ∧ Q1_10 Z w_UINT64 h0 n0 v U'.heap L ∧ FrameEnd U o U' L ({ frames := 0, cells := 0, slots := 0, locals := 0 } : Room).cells ({ frames := 0, cells := 0, slots := 0, locals := 0 } : Room).slots) := by
  refine MetFree.of_bodySF (plainFor_of_name pn_1) hisR ?_
  intro p e s m args below meth c s₁ Bd hml0 hP hK
  obtain ⟨rfl, hZ, hh⟩ := hP
  have hx := Bd.exec
  have hby := Bd.bytes
  have hml : c.maxLocals = 1 := hml0
  have hown : s.vm.findClass "com/example/tidesheet/tidesheet/io/NetcdfTypeIsRealPinLaw" = some m.cls := findClass_of_methodNamed Bd.named
  have hnm := (name_of_methodNamed Bd.named Bd.method).1
  have X0 : Stand p l e ({ frames := 0, cells := 0, slots := 0, locals := 0 } : Room) s m #[(.int (10 : Int32))] below meth c s₁ [] 0 0 := Stand.of_body Bd
  have e0 : s₁.heap = h0 := by rw [← hh, Bd.state]; rfl
  have N0 := Fr.nil n0
  change own_Go p e below (own_Post s (Q1_10 Z w_UINT64 h0 n0) ({ frames := 0, cells := 0, slots := 0, locals := 0 } : Room).cells ({ frames := 0, cells := 0, slots := 0, locals := 0 } : Room).slots) (s₁.setTop (entryFrame m #[(.int (10 : Int32))] 1))
  refine own_by (fun t k => castTop (ef_1 m (10 : Int32)) k) ?_
  show own_Go p e below _ (s₁.setTop (mkF m 0 #[iv (10 : Int32)] []))
  refine own_by (B := s₁.setTop (mkF m 93 #[iv (10 : Int32)] [])) (fun t k => ?_) ?_
  · show Steps p.tables e below (s₁.setTop (mkF m 0 #[iv (10 : Int32)] [])) _
    refine XS.iloadN X0.here hx rfl (hb hby d1_0) rfl ?_
    show Steps p.tables e below (s₁.setTop (mkF m 1 #[iv (10 : Int32)] [(.int (10 : Int32))])) _
    refine XS.ifYes X0.here hx rfl (pc0 := 1) (pc' := 8) rfl (hb hby d1_1) rfl ((if0 _ _).trans (feq (by decide : ¬ ((10 : Int32) = (0 : Int32)))).2) (by decide) (by decide) ?_
    show Steps p.tables e below (s₁.setTop (mkF m 8 #[iv (10 : Int32)] [])) _
    refine XS.iloadN X0.here hx rfl (hb hby d1_8) rfl ?_
    show Steps p.tables e below (s₁.setTop (mkF m 9 #[iv (10 : Int32)] [(.int (10 : Int32))])) _
    refine XS.iconst X0.here hx rfl (hb hby d1_9) ?_
    show Steps p.tables e below (s₁.setTop (mkF m 10 #[iv (10 : Int32)] [(.int (1 : Int32)), (.int (10 : Int32))])) _
    refine XS.icmpYes X0.here hx rfl (pc0 := 10) (pc' := 17) rfl (hb hby d1_10) rfl (feq (by decide : ¬ ((10 : Int32) = (1 : Int32)))).2 (by decide) (by decide) ?_
    show Steps p.tables e below (s₁.setTop (mkF m 17 #[iv (10 : Int32)] [])) _
    refine XS.iloadN X0.here hx rfl (hb hby d1_17) rfl ?_
    show Steps p.tables e below (s₁.setTop (mkF m 18 #[iv (10 : Int32)] [(.int (10 : Int32))])) _
    refine XS.iconst X0.here hx rfl (hb hby d1_18) ?_
    show Steps p.tables e below (s₁.setTop (mkF m 19 #[iv (10 : Int32)] [(.int (2 : Int32)), (.int (10 : Int32))])) _
    refine XS.icmpYes X0.here hx rfl (pc0 := 19) (pc' := 26) rfl (hb hby d1_19) rfl (feq (by decide : ¬ ((10 : Int32) = (2 : Int32)))).2 (by decide) (by decide) ?_
    show Steps p.tables e below (s₁.setTop (mkF m 26 #[iv (10 : Int32)] [])) _
    refine XS.iloadN X0.here hx rfl (hb hby d1_26) rfl ?_
    show Steps p.tables e below (s₁.setTop (mkF m 27 #[iv (10 : Int32)] [(.int (10 : Int32))])) _
    refine XS.iconst X0.here hx rfl (hb hby d1_27) ?_
    show Steps p.tables e below (s₁.setTop (mkF m 28 #[iv (10 : Int32)] [(.int (3 : Int32)), (.int (10 : Int32))])) _
    refine XS.icmpYes X0.here hx rfl (pc0 := 28) (pc' := 35) rfl (hb hby d1_28) rfl (feq (by decide : ¬ ((10 : Int32) = (3 : Int32)))).2 (by decide) (by decide) ?_
    show Steps p.tables e below (s₁.setTop (mkF m 35 #[iv (10 : Int32)] [])) _
    refine XS.iloadN X0.here hx rfl (hb hby d1_35) rfl ?_
    show Steps p.tables e below (s₁.setTop (mkF m 36 #[iv (10 : Int32)] [(.int (10 : Int32))])) _
    refine XS.iconst X0.here hx rfl (hb hby d1_36) ?_
    show Steps p.tables e below (s₁.setTop (mkF m 37 #[iv (10 : Int32)] [(.int (4 : Int32)), (.int (10 : Int32))])) _
    refine XS.icmpYes X0.here hx rfl (pc0 := 37) (pc' := 44) rfl (hb hby d1_37) rfl (feq (by decide : ¬ ((10 : Int32) = (4 : Int32)))).2 (by decide) (by decide) ?_
    show Steps p.tables e below (s₁.setTop (mkF m 44 #[iv (10 : Int32)] [])) _
    refine XS.iloadN X0.here hx rfl (hb hby d1_44) rfl ?_
    show Steps p.tables e below (s₁.setTop (mkF m 45 #[iv (10 : Int32)] [(.int (10 : Int32))])) _
    refine XS.iconst X0.here hx rfl (hb hby d1_45) ?_
    show Steps p.tables e below (s₁.setTop (mkF m 46 #[iv (10 : Int32)] [(.int (5 : Int32)), (.int (10 : Int32))])) _
    refine XS.icmpYes X0.here hx rfl (pc0 := 46) (pc' := 53) rfl (hb hby d1_46) rfl (feq (by decide : ¬ ((10 : Int32) = (5 : Int32)))).2 (by decide) (by decide) ?_
    show Steps p.tables e below (s₁.setTop (mkF m 53 #[iv (10 : Int32)] [])) _
    refine XS.iloadN X0.here hx rfl (hb hby d1_53) rfl ?_
    show Steps p.tables e below (s₁.setTop (mkF m 54 #[iv (10 : Int32)] [(.int (10 : Int32))])) _
    refine XS.bipush X0.here hx rfl (hb hby d1_54) ?_
    show Steps p.tables e below (s₁.setTop (mkF m 56 #[iv (10 : Int32)] [(.int (6 : Int32)), (.int (10 : Int32))])) _
    refine XS.icmpYes X0.here hx rfl (pc0 := 56) (pc' := 63) rfl (hb hby d1_56) rfl (feq (by decide : ¬ ((10 : Int32) = (6 : Int32)))).2 (by decide) (by decide) ?_
    show Steps p.tables e below (s₁.setTop (mkF m 63 #[iv (10 : Int32)] [])) _
    refine XS.iloadN X0.here hx rfl (hb hby d1_63) rfl ?_
    show Steps p.tables e below (s₁.setTop (mkF m 64 #[iv (10 : Int32)] [(.int (10 : Int32))])) _
    refine XS.bipush X0.here hx rfl (hb hby d1_64) ?_
    show Steps p.tables e below (s₁.setTop (mkF m 66 #[iv (10 : Int32)] [(.int (7 : Int32)), (.int (10 : Int32))])) _
    refine XS.icmpYes X0.here hx rfl (pc0 := 66) (pc' := 73) rfl (hb hby d1_66) rfl (feq (by decide : ¬ ((10 : Int32) = (7 : Int32)))).2 (by decide) (by decide) ?_
    show Steps p.tables e below (s₁.setTop (mkF m 73 #[iv (10 : Int32)] [])) _
    refine XS.iloadN X0.here hx rfl (hb hby d1_73) rfl ?_
    show Steps p.tables e below (s₁.setTop (mkF m 74 #[iv (10 : Int32)] [(.int (10 : Int32))])) _
    refine XS.bipush X0.here hx rfl (hb hby d1_74) ?_
    show Steps p.tables e below (s₁.setTop (mkF m 76 #[iv (10 : Int32)] [(.int (8 : Int32)), (.int (10 : Int32))])) _
    refine XS.icmpYes X0.here hx rfl (pc0 := 76) (pc' := 83) rfl (hb hby d1_76) rfl (feq (by decide : ¬ ((10 : Int32) = (8 : Int32)))).2 (by decide) (by decide) ?_
    show Steps p.tables e below (s₁.setTop (mkF m 83 #[iv (10 : Int32)] [])) _
    refine XS.iloadN X0.here hx rfl (hb hby d1_83) rfl ?_
    show Steps p.tables e below (s₁.setTop (mkF m 84 #[iv (10 : Int32)] [(.int (10 : Int32))])) _
    refine XS.bipush X0.here hx rfl (hb hby d1_84) ?_
    show Steps p.tables e below (s₁.setTop (mkF m 86 #[iv (10 : Int32)] [(.int (9 : Int32)), (.int (10 : Int32))])) _
    refine XS.icmpYes X0.here hx rfl (pc0 := 86) (pc' := 93) rfl (hb hby d1_86) rfl (feq (by decide : ¬ ((10 : Int32) = (9 : Int32)))).2 (by decide) (by decide) ?_
    show Steps p.tables e below (s₁.setTop (mkF m 93 #[iv (10 : Int32)] [])) _
    exact k
  refine own_c1 (getS2 X0 hx hZ hown (host := "") (Or.inl (hw _ (List.mem_of_getElem? (i := 25) rfl))) Via.refl e0 (S_UINT64.ext OZ.2) rfl (hb hby d1_93)) fun T1 X1 e1 => ?_
  show own_Go p e below _ (T1.setTop (mkF m 96 #[iv (10 : Int32)] [(.ref w_UINT64)]))
  exact own_retR X1 Bd.notSynchronized hx Bd.returns rfl rfl rfl (hb hby d1_96) (by
      rw [show T1.heap = h0 from e1]
      exact ⟨rfl, N0, rfl⟩) (by decide) (by decide)

theorem d2_0 : decode prog_44_method_9_code 0 = .ok (.aload_n 0, 1) := by decide +kernel
theorem d2_1 : decode prog_44_method_9_code 1 = .ok (.getstatic 16, 3) := by decide +kernel
theorem d2_4 : decode prog_44_method_9_code 4 = .ok (.if_acmp .eq 10, 3) := by decide +kernel
theorem d2_14 : decode prog_44_method_9_code 14 = .ok (.iconst 1, 1) := by decide +kernel
theorem d2_15 : decode prog_44_method_9_code 15 = .ok (.goto 4, 3) := by decide +kernel
theorem d2_19 : decode prog_44_method_9_code 19 = .ok (.ireturn, 1) := by decide +kernel
theorem pn_2 : plainName "com/example/tidesheet/tidesheet/io/NetcdfType" = true := by first | (simp [plainName, overriddenIn]; done) | decide +kernel
theorem ef_2 (m : MethodId) (x0 : Addr) : entryFrame m #[(.ref x0)] 1 = mkF m 0 #[rv x0] [] := by first | (simp [entryFrame, mkF, argsToLocals, Value.category]; done) | rfl
def Q2_1 (Z : State) (w_FLOAT : Addr) (w_DOUBLE : Addr) (h0 : Heap) (n0 : Nat) (v : Option Value) (h : Heap) (L : List Loc) : Prop := v = some (.int (1 : Int32)) ∧ Fr n0 L ∧ h = h0
set_option maxRecDepth 65536 in
set_option maxHeartbeats 40000000 in
theorem rm2_1 (l : Launch) (Z : State) (a0 : Array Value) (hw : ∀ d ∈ tables_1, d.before a0 Z = true) (ws : List Jvm.Cond) (w_FLOAT : Addr) (w_DOUBLE : Addr) (h0 : Heap) (n0 : Nat) (Z0 : n0 ≤ h0.size) (OZ : Old Z n0 h0) (S_FLOAT : Sta Z Z.heap "com/example/tidesheet/tidesheet/io/NetcdfType" "FLOAT" "Lcom/example/tidesheet/tidesheet/io/NetcdfType;" (.ref w_FLOAT)) (S_DOUBLE : Sta Z Z.heap "com/example/tidesheet/tidesheet/io/NetcdfType" "DOUBLE" "Lcom/example/tidesheet/tidesheet/io/NetcdfType;" (.ref w_DOUBLE)) :
    MetFree l (⟨"com/example/tidesheet/tidesheet/io/NetcdfType", "isReal", "()Z"⟩ : MethodName) (head1 (Jvm.Cond.code (⟨"com/example/tidesheet/tidesheet/io/NetcdfType", "isReal", "()Z"⟩ : MethodName) prog_44_method_9_code 1 (some .boolean) :: ws) ({ frames := 0, cells := 0, slots := 0, locals := 0 } : Room)) (fun a U => a = #[(.ref w_FLOAT)] ∧ Z.Warmed39 U.vm ∧ U.heap = h0) (fun _ _ _ _ _ => True) (fun _ U o U' => ∃ v L, o = .returned v ∧ Q2_1 Z w_FLOAT w_DOUBLE h0 n0 v U'.heap L ∧ FrameEnd U o U' L ({ frames := 0, cells := 0, slots := 0, locals := 0 } : Room).cells ({ frames := 0, cells := 0, slots := 0, locals := 0 } : Room).slots) := by
  refine MetFree.of_bodySF (plainFor_of_name pn_2) hisR ?_
  intro p e s m args below meth c s₁ Bd hml0 hP hK
  obtain ⟨rfl, hZ, hh⟩ := hP
  have hx := Bd.exec
  have hby := Bd.bytes
  have hml : c.maxLocals = 1 := hml0
  have hown : s.vm.findClass "com/example/tidesheet/tidesheet/io/NetcdfType" = some m.cls := findClass_of_methodNamed Bd.named
  have hnm := (name_of_methodNamed Bd.named Bd.method).1
  have X0 : Stand p l e ({ frames := 0, cells := 0, slots := 0, locals := 0 } : Room) s m #[(.ref w_FLOAT)] below meth c s₁ [] 0 0 := Stand.of_body Bd
  have e0 : s₁.heap = h0 := by rw [← hh, Bd.state]; rfl
  have N0 := Fr.nil n0
  change own_Go p e below (own_Post s (Q2_1 Z w_FLOAT w_DOUBLE h0 n0) ({ frames := 0, cells := 0, slots := 0, locals := 0 } : Room).cells ({ frames := 0, cells := 0, slots := 0, locals := 0 } : Room).slots) (s₁.setTop (entryFrame m #[(.ref w_FLOAT)] 1))
  refine own_by (fun t k => castTop (ef_2 m w_FLOAT) k) ?_
  show own_Go p e below _ (s₁.setTop (mkF m 0 #[rv w_FLOAT] []))
  refine own_by (B := s₁.setTop (mkF m 1 #[rv w_FLOAT] [(.ref w_FLOAT)])) (fun t k => ?_) ?_
  · show Steps p.tables e below (s₁.setTop (mkF m 0 #[rv w_FLOAT] [])) _
    refine XS.aloadN X0.here hx rfl (hb hby d2_0) rfl rfl ?_
    show Steps p.tables e below (s₁.setTop (mkF m 1 #[rv w_FLOAT] [(.ref w_FLOAT)])) _
    exact k
  refine own_c1 (getS2 X0 hx hZ hown (host := "") (Or.inl (hw _ (List.mem_of_getElem? (i := 13) rfl))) Via.refl e0 (S_FLOAT.ext OZ.2) rfl (hb hby d2_1)) fun T1 X1 e1 => ?_
  show own_Go p e below _ (T1.setTop (mkF m 4 #[rv w_FLOAT] [(.ref w_FLOAT), (.ref w_FLOAT)]))
  refine own_by (fun t k => Jvm.RoadKit.acmp (g := (mkF m 4 #[rv w_FLOAT] [(.ref w_FLOAT), (.ref w_FLOAT)])) X1 hx rfl rfl rfl (pc0 := 4) (pc' := 14) (same := true) rfl (hb hby d2_4) rfl (decide_eq_true rfl) (by decide) (by decide) k) ?_
  show own_Go p e below _ (T1.setTop (mkF m 14 #[rv w_FLOAT] []))
  refine own_by (B := T1.setTop (mkF m 19 #[rv w_FLOAT] [(.int (1 : Int32))])) (fun t k => ?_) ?_
  · show Steps p.tables e below (T1.setTop (mkF m 14 #[rv w_FLOAT] [])) _
    refine XS.iconst X1.here hx rfl (hb hby d2_14) ?_
    show Steps p.tables e below (T1.setTop (mkF m 15 #[rv w_FLOAT] [(.int (1 : Int32))])) _
    refine XS.goto X1.here hx rfl (pc0 := 15) (pc' := 19) rfl (hb hby d2_15) (by decide) (by decide) ?_
    show Steps p.tables e below (T1.setTop (mkF m 19 #[rv w_FLOAT] [(.int (1 : Int32))])) _
    exact k
  exact own_retN X1 Bd.notSynchronized hx (t := .boolean) Bd.returns (by simp) (hb hby d2_19) (by
      rw [show T1.heap = h0 from e1]
      exact ⟨rfl, N0, rfl⟩) (by decide) (by decide)

theorem d2_7 : decode prog_44_method_9_code 7 = .ok (.aload_n 0, 1) := by decide +kernel
theorem d2_8 : decode prog_44_method_9_code 8 = .ok (.getstatic 19, 3) := by decide +kernel
theorem d2_11 : decode prog_44_method_9_code 11 = .ok (.if_acmp .ne 7, 3) := by decide +kernel
def Q2_2 (Z : State) (w_FLOAT : Addr) (w_DOUBLE : Addr) (h0 : Heap) (n0 : Nat) (v : Option Value) (h : Heap) (L : List Loc) : Prop := v = some (.int (1 : Int32)) ∧ Fr n0 L ∧ h = h0
set_option maxRecDepth 65536 in
set_option maxHeartbeats 40000000 in
theorem rm2_2 (l : Launch) (Z : State) (a0 : Array Value) (hw : ∀ d ∈ tables_1, d.before a0 Z = true) (ws : List Jvm.Cond) (w_FLOAT : Addr) (w_DOUBLE : Addr) (h0 : Heap) (n0 : Nat) (Z0 : n0 ≤ h0.size) (OZ : Old Z n0 h0) (S_FLOAT : Sta Z Z.heap "com/example/tidesheet/tidesheet/io/NetcdfType" "FLOAT" "Lcom/example/tidesheet/tidesheet/io/NetcdfType;" (.ref w_FLOAT)) (S_DOUBLE : Sta Z Z.heap "com/example/tidesheet/tidesheet/io/NetcdfType" "DOUBLE" "Lcom/example/tidesheet/tidesheet/io/NetcdfType;" (.ref w_DOUBLE)) (ne_w_DOUBLE_w_FLOAT : w_DOUBLE ≠ w_FLOAT) :
    MetFree l (⟨"com/example/tidesheet/tidesheet/io/NetcdfType", "isReal", "()Z"⟩ : MethodName) (head1 (Jvm.Cond.code (⟨"com/example/tidesheet/tidesheet/io/NetcdfType", "isReal", "()Z"⟩ : MethodName) prog_44_method_9_code 1 (some .boolean) :: ws) ({ frames := 0, cells := 0, slots := 0, locals := 0 } : Room)) (fun a U => a = #[(.ref w_DOUBLE)] ∧ Z.Warmed39 U.vm ∧ U.heap = h0) (fun _ _ _ _ _ => True) (fun _ U o U' => ∃ v L, o = .returned v ∧ Q2_2 Z w_FLOAT w_DOUBLE h0 n0 v U'.heap L ∧ FrameEnd U o U' L ({ frames := 0, cells := 0, slots := 0, locals := 0 } : Room).cells ({ frames := 0, cells := 0, slots := 0, locals := 0 } : Room).slots) := by
  refine MetFree.of_bodySF (plainFor_of_name pn_2) hisR ?_
  intro p e s m args below meth c s₁ Bd hml0 hP hK
  obtain ⟨rfl, hZ, hh⟩ := hP
  have hx := Bd.exec
  have hby := Bd.bytes
  have hml : c.maxLocals = 1 := hml0
  have hown : s.vm.findClass "com/example/tidesheet/tidesheet/io/NetcdfType" = some m.cls := findClass_of_methodNamed Bd.named
  have hnm := (name_of_methodNamed Bd.named Bd.method).1
  have X0 : Stand p l e ({ frames := 0, cells := 0, slots := 0, locals := 0 } : Room) s m #[(.ref w_DOUBLE)] below meth c s₁ [] 0 0 := Stand.of_body Bd
  have e0 : s₁.heap = h0 := by rw [← hh, Bd.state]; rfl
  have N0 := Fr.nil n0
  change own_Go p e below (own_Post s (Q2_2 Z w_FLOAT w_DOUBLE h0 n0) ({ frames := 0, cells := 0, slots := 0, locals := 0 } : Room).cells ({ frames := 0, cells := 0, slots := 0, locals := 0 } : Room).slots) (s₁.setTop (entryFrame m #[(.ref w_DOUBLE)] 1))
  refine own_by (fun t k => castTop (ef_2 m w_DOUBLE) k) ?_
  show own_Go p e below _ (s₁.setTop (mkF m 0 #[rv w_DOUBLE] []))
  refine own_by (B := s₁.setTop (mkF m 1 #[rv w_DOUBLE] [(.ref w_DOUBLE)])) (fun t k => ?_) ?_
  · show Steps p.tables e below (s₁.setTop (mkF m 0 #[rv w_DOUBLE] [])) _
    refine XS.aloadN X0.here hx rfl (hb hby d2_0) rfl rfl ?_
    show Steps p.tables e below (s₁.setTop (mkF m 1 #[rv w_DOUBLE] [(.ref w_DOUBLE)])) _
    exact k
  refine own_c1 (getS2 X0 hx hZ hown (host := "") (Or.inl (hw _ (List.mem_of_getElem? (i := 13) rfl))) Via.refl e0 (S_FLOAT.ext OZ.2) rfl (hb hby d2_1)) fun T1 X1 e1 => ?_
  show own_Go p e below _ (T1.setTop (mkF m 4 #[rv w_DOUBLE] [(.ref w_FLOAT), (.ref w_DOUBLE)]))
  refine own_by (fun t k => Jvm.RoadKit.acmp (g := (mkF m 4 #[rv w_DOUBLE] [(.ref w_FLOAT), (.ref w_DOUBLE)])) X1 hx rfl rfl rfl (pc0 := 4) (pc' := 7) (same := false) rfl (hb hby d2_4) rfl (decide_eq_false fun q => ne_w_DOUBLE_w_FLOAT (Value.ref.inj q)) (by decide) (by decide) k) ?_
  show own_Go p e below _ (T1.setTop (mkF m 7 #[rv w_DOUBLE] []))
  refine own_by (B := T1.setTop (mkF m 8 #[rv w_DOUBLE] [(.ref w_DOUBLE)])) (fun t k => ?_) ?_
  · show Steps p.tables e below (T1.setTop (mkF m 7 #[rv w_DOUBLE] [])) _
    refine XS.aloadN X1.here hx rfl (hb hby d2_7) rfl rfl ?_
    show Steps p.tables e below (T1.setTop (mkF m 8 #[rv w_DOUBLE] [(.ref w_DOUBLE)])) _
    exact k
  refine own_c1 (getS2 X1 hx hZ hown (host := "") (Or.inl (hw _ (List.mem_of_getElem? (i := 15) rfl))) Via.refl e1 (S_DOUBLE.ext OZ.2) rfl (hb hby d2_8)) fun T2 X2 e2 => ?_
  show own_Go p e below _ (T2.setTop (mkF m 11 #[rv w_DOUBLE] [(.ref w_DOUBLE), (.ref w_DOUBLE)]))
  refine own_by (fun t k => Jvm.RoadKit.acmp (g := (mkF m 11 #[rv w_DOUBLE] [(.ref w_DOUBLE), (.ref w_DOUBLE)])) X2 hx rfl rfl rfl (pc0 := 11) (pc' := 14) (same := true) rfl (hb hby d2_11) rfl (decide_eq_true rfl) (by decide) (by decide) k) ?_
  show own_Go p e below _ (T2.setTop (mkF m 14 #[rv w_DOUBLE] []))
  refine own_by (B := T2.setTop (mkF m 19 #[rv w_DOUBLE] [(.int (1 : Int32))])) (fun t k => ?_) ?_
  · show Steps p.tables e below (T2.setTop (mkF m 14 #[rv w_DOUBLE] [])) _
    refine XS.iconst X2.here hx rfl (hb hby d2_14) ?_
    show Steps p.tables e below (T2.setTop (mkF m 15 #[rv w_DOUBLE] [(.int (1 : Int32))])) _
    refine XS.goto X2.here hx rfl (pc0 := 15) (pc' := 19) rfl (hb hby d2_15) (by decide) (by decide) ?_
    show Steps p.tables e below (T2.setTop (mkF m 19 #[rv w_DOUBLE] [(.int (1 : Int32))])) _
    exact k
  exact own_retN X2 Bd.notSynchronized hx (t := .boolean) Bd.returns (by simp) (hb hby d2_19) (by
      rw [show T2.heap = h0 from e2]
      exact ⟨rfl, N0, rfl⟩) (by decide) (by decide)

theorem d2_18 : decode prog_44_method_9_code 18 = .ok (.iconst 0, 1) := by decide +kernel
def Q2_3 (Z : State) (o0 : Addr) (w_FLOAT : Addr) (w_DOUBLE : Addr) (h0 : Heap) (n0 : Nat) (v : Option Value) (h : Heap) (L : List Loc) : Prop := v = some (.int (0 : Int32)) ∧ Fr n0 L ∧ h = h0
set_option maxRecDepth 65536 in
set_option maxHeartbeats 40000000 in
theorem rm2_3 (l : Launch) (Z : State) (a0 : Array Value) (hw : ∀ d ∈ tables_1, d.before a0 Z = true) (ws : List Jvm.Cond) (o0 : Addr) (w_FLOAT : Addr) (w_DOUBLE : Addr) (h0 : Heap) (n0 : Nat) (Z0 : n0 ≤ h0.size) (OZ : Old Z n0 h0) (S_FLOAT : Sta Z Z.heap "com/example/tidesheet/tidesheet/io/NetcdfType" "FLOAT" "Lcom/example/tidesheet/tidesheet/io/NetcdfType;" (.ref w_FLOAT)) (S_DOUBLE : Sta Z Z.heap "com/example/tidesheet/tidesheet/io/NetcdfType" "DOUBLE" "Lcom/example/tidesheet/tidesheet/io/NetcdfType;" (.ref w_DOUBLE)) (ne_o0_w_FLOAT : o0 ≠ w_FLOAT) (ne_o0_w_DOUBLE : o0 ≠ w_DOUBLE) :
    MetFree l (⟨"com/example/tidesheet/tidesheet/io/NetcdfType", "isReal", "()Z"⟩ : MethodName) (head1 (Jvm.Cond.code (⟨"com/example/tidesheet/tidesheet/io/NetcdfType", "isReal", "()Z"⟩ : MethodName) prog_44_method_9_code 1 (some .boolean) :: ws) ({ frames := 0, cells := 0, slots := 0, locals := 0 } : Room)) (fun a U => a = #[(.ref o0)] ∧ Z.Warmed39 U.vm ∧ U.heap = h0) (fun _ _ _ _ _ => True) (fun _ U o U' => ∃ v L, o = .returned v ∧ Q2_3 Z o0 w_FLOAT w_DOUBLE h0 n0 v U'.heap L ∧ FrameEnd U o U' L ({ frames := 0, cells := 0, slots := 0, locals := 0 } : Room).cells ({ frames := 0, cells := 0, slots := 0, locals := 0 } : Room).slots) := by
  refine MetFree.of_bodySF (plainFor_of_name pn_2) hisR ?_
  intro p e s m args below meth c s₁ Bd hml0 hP hK
  obtain ⟨rfl, hZ, hh⟩ := hP
  have hx := Bd.exec
  have hby := Bd.bytes
  have hml : c.maxLocals = 1 := hml0
  have hown : s.vm.findClass "com/example/tidesheet/tidesheet/io/NetcdfType" = some m.cls := findClass_of_methodNamed Bd.named
  have hnm := (name_of_methodNamed Bd.named Bd.method).1
  have X0 : Stand p l e ({ frames := 0, cells := 0, slots := 0, locals := 0 } : Room) s m #[(.ref o0)] below meth c s₁ [] 0 0 := Stand.of_body Bd
  have e0 : s₁.heap = h0 := by rw [← hh, Bd.state]; rfl
  have N0 := Fr.nil n0
  change own_Go p e below (own_Post s (Q2_3 Z o0 w_FLOAT w_DOUBLE h0 n0) ({ frames := 0, cells := 0, slots := 0, locals := 0 } : Room).cells ({ frames := 0, cells := 0, slots := 0, locals := 0 } : Room).slots) (s₁.setTop (entryFrame m #[(.ref o0)] 1))
  refine own_by (fun t k => castTop (ef_2 m o0) k) ?_
  show own_Go p e below _ (s₁.setTop (mkF m 0 #[rv o0] []))
  refine own_by (B := s₁.setTop (mkF m 1 #[rv o0] [(.ref o0)])) (fun t k => ?_) ?_
  · show Steps p.tables e below (s₁.setTop (mkF m 0 #[rv o0] [])) _
    refine XS.aloadN X0.here hx rfl (hb hby d2_0) rfl rfl ?_
    show Steps p.tables e below (s₁.setTop (mkF m 1 #[rv o0] [(.ref o0)])) _
    exact k
  refine own_c1 (getS2 X0 hx hZ hown (host := "") (Or.inl (hw _ (List.mem_of_getElem? (i := 13) rfl))) Via.refl e0 (S_FLOAT.ext OZ.2) rfl (hb hby d2_1)) fun T1 X1 e1 => ?_
  show own_Go p e below _ (T1.setTop (mkF m 4 #[rv o0] [(.ref w_FLOAT), (.ref o0)]))
  refine own_by (fun t k => Jvm.RoadKit.acmp (g := (mkF m 4 #[rv o0] [(.ref w_FLOAT), (.ref o0)])) X1 hx rfl rfl rfl (pc0 := 4) (pc' := 7) (same := false) rfl (hb hby d2_4) rfl (decide_eq_false fun q => ne_o0_w_FLOAT (Value.ref.inj q)) (by decide) (by decide) k) ?_
  show own_Go p e below _ (T1.setTop (mkF m 7 #[rv o0] []))
  refine own_by (B := T1.setTop (mkF m 8 #[rv o0] [(.ref o0)])) (fun t k => ?_) ?_
  · show Steps p.tables e below (T1.setTop (mkF m 7 #[rv o0] [])) _
    refine XS.aloadN X1.here hx rfl (hb hby d2_7) rfl rfl ?_
    show Steps p.tables e below (T1.setTop (mkF m 8 #[rv o0] [(.ref o0)])) _
    exact k
  refine own_c1 (getS2 X1 hx hZ hown (host := "") (Or.inl (hw _ (List.mem_of_getElem? (i := 15) rfl))) Via.refl e1 (S_DOUBLE.ext OZ.2) rfl (hb hby d2_8)) fun T2 X2 e2 => ?_
  show own_Go p e below _ (T2.setTop (mkF m 11 #[rv o0] [(.ref w_DOUBLE), (.ref o0)]))
  refine own_by (fun t k => Jvm.RoadKit.acmp (g := (mkF m 11 #[rv o0] [(.ref w_DOUBLE), (.ref o0)])) X2 hx rfl rfl rfl (pc0 := 11) (pc' := 18) (same := false) rfl (hb hby d2_11) rfl (decide_eq_false fun q => ne_o0_w_DOUBLE (Value.ref.inj q)) (by decide) (by decide) k) ?_
  show own_Go p e below _ (T2.setTop (mkF m 18 #[rv o0] []))
  refine own_by (B := T2.setTop (mkF m 19 #[rv o0] [(.int (0 : Int32))])) (fun t k => ?_) ?_
  · show Steps p.tables e below (T2.setTop (mkF m 18 #[rv o0] [])) _
    refine XS.iconst X2.here hx rfl (hb hby d2_18) ?_
    show Steps p.tables e below (T2.setTop (mkF m 19 #[rv o0] [(.int (0 : Int32))])) _
    exact k
  exact own_retN X2 Bd.notSynchronized hx (t := .boolean) Bd.returns (by simp) (hb hby d2_19) (by
      rw [show T2.heap = h0 from e2]
      exact ⟨rfl, N0, rfl⟩) (by decide) (by decide)

theorem own_cases (p0 : Int32) : ((p0 &&& (2147483647 : Int32)) % (11 : Int32)) = (0 : Int32) ∨ ((p0 &&& (2147483647 : Int32)) % (11 : Int32)) = (1 : Int32) ∨ ((p0 &&& (2147483647 : Int32)) % (11 : Int32)) = (2 : Int32) ∨ ((p0 &&& (2147483647 : Int32)) % (11 : Int32)) = (3 : Int32) ∨ ((p0 &&& (2147483647 : Int32)) % (11 : Int32)) = (4 : Int32) ∨ ((p0 &&& (2147483647 : Int32)) % (11 : Int32)) = (5 : Int32) ∨ ((p0 &&& (2147483647 : Int32)) % (11 : Int32)) = (6 : Int32) ∨ ((p0 &&& (2147483647 : Int32)) % (11 : Int32)) = (7 : Int32) ∨ ((p0 &&& (2147483647 : Int32)) % (11 : Int32)) = (8 : Int32) ∨ ((p0 &&& (2147483647 : Int32)) % (11 : Int32)) = (9 : Int32) ∨ ((p0 &&& (2147483647 : Int32)) % (11 : Int32)) = (10 : Int32) := by
  have a1 := c_mask p0 (2147483647 : Int32) 31 (by decide) (by decide)
  have a0 : 0 ≤ (p0 &&& (2147483647 : Int32)).toInt := by rw [a1]; exact Int.emod_nonneg _ (by decide)
  clear a1
  generalize p0 &&& (2147483647 : Int32) = u at *
  have b := (c_irem u (11 : Int32) 11 (by decide)).1 a0
  have e0 : (0 : Int32).toInt = 0 := by decide
  have e1 : (1 : Int32).toInt = 1 := by decide
  have e2 : (2 : Int32).toInt = 2 := by decide
  have e3 : (3 : Int32).toInt = 3 := by decide
  have e4 : (4 : Int32).toInt = 4 := by decide
  have e5 : (5 : Int32).toInt = 5 := by decide
  have e6 : (6 : Int32).toInt = 6 := by decide
  have e7 : (7 : Int32).toInt = 7 := by decide
  have e8 : (8 : Int32).toInt = 8 := by decide
  have e9 : (9 : Int32).toInt = 9 := by decide
  have e10 : (10 : Int32).toInt = 10 := by decide
  simp only [← Int32.toInt_inj, e0, e1, e2, e3, e4, e5, e6, e7, e8, e9, e10]
  omega

theorem pn_0 : plainName "com/example/tidesheet/tidesheet/io/NetcdfTypeIsRealPinLaw" = true := by first | (simp [plainName, overriddenIn]; done) | decide +kernel
theorem pd_0 : parseMethodDescriptor "(I)Lcom/example/tidesheet/tidesheet/io/NetcdfType;" = some ⟨[.int], some (.object "com/example/tidesheet/tidesheet/io/NetcdfType")⟩ := by decide +kernel
theorem pd_1 : parseMethodDescriptor "()Z" = some ⟨[], some .boolean⟩ := by decide +kernel
theorem ef_0 (m : MethodId) (x0 : Int32) : entryFrame m #[(.int x0)] maxLocals = mkF m 0 #[iv x0, oU, oU, oU] [] := by first | (simp [entryFrame, mkF, argsToLocals, Value.category, maxLocals]; done) | rfl
def Q0 (Z : State) (p0 : Int32) (w_BYTE : Addr) (w_CHAR : Addr) (w_SHORT : Addr) (w_INT : Addr) (w_FLOAT : Addr) (w_DOUBLE : Addr) (w_UBYTE : Addr) (w_USHORT : Addr) (w_UINT : Addr) (w_INT64 : Addr) (w_UINT64 : Addr) (h0 : Heap) (n0 : Nat) (v : Option Value) (h : Heap) (L : List Loc) : Prop := v = some (.int (1 : Int32)) ∧ Fr n0 L
set_option maxRecDepth 65536 in
set_option maxHeartbeats 40000000 in
theorem rm0 (l : Launch) (Z : State) (a0 : Array Value) (hw : ∀ d ∈ tables_1, d.before a0 Z = true) (ws : List Jvm.Cond) (p0 : Int32) (w_BYTE : Addr) (w_CHAR : Addr) (w_SHORT : Addr) (w_INT : Addr) (w_FLOAT : Addr) (w_DOUBLE : Addr) (w_UBYTE : Addr) (w_USHORT : Addr) (w_UINT : Addr) (w_INT64 : Addr) (w_UINT64 : Addr) (h0 : Heap) (n0 : Nat) (Z0 : n0 ≤ h0.size) (OZ : Old Z n0 h0) (S_BYTE : Sta Z Z.heap "com/example/tidesheet/tidesheet/io/NetcdfType" "BYTE" "Lcom/example/tidesheet/tidesheet/io/NetcdfType;" (.ref w_BYTE)) (S_CHAR : Sta Z Z.heap "com/example/tidesheet/tidesheet/io/NetcdfType" "CHAR" "Lcom/example/tidesheet/tidesheet/io/NetcdfType;" (.ref w_CHAR)) (S_SHORT : Sta Z Z.heap "com/example/tidesheet/tidesheet/io/NetcdfType" "SHORT" "Lcom/example/tidesheet/tidesheet/io/NetcdfType;" (.ref w_SHORT)) (S_INT : Sta Z Z.heap "com/example/tidesheet/tidesheet/io/NetcdfType" "INT" "Lcom/example/tidesheet/tidesheet/io/NetcdfType;" (.ref w_INT)) (S_FLOAT : Sta Z Z.heap "com/example/tidesheet/tidesheet/io/NetcdfType" "FLOAT" "Lcom/example/tidesheet/tidesheet/io/NetcdfType;" (.ref w_FLOAT)) (S_DOUBLE : Sta Z Z.heap "com/example/tidesheet/tidesheet/io/NetcdfType" "DOUBLE" "Lcom/example/tidesheet/tidesheet/io/NetcdfType;" (.ref w_DOUBLE)) (S_UBYTE : Sta Z Z.heap "com/example/tidesheet/tidesheet/io/NetcdfType" "UBYTE" "Lcom/example/tidesheet/tidesheet/io/NetcdfType;" (.ref w_UBYTE)) (S_USHORT : Sta Z Z.heap "com/example/tidesheet/tidesheet/io/NetcdfType" "USHORT" "Lcom/example/tidesheet/tidesheet/io/NetcdfType;" (.ref w_USHORT)) (S_UINT : Sta Z Z.heap "com/example/tidesheet/tidesheet/io/NetcdfType" "UINT" "Lcom/example/tidesheet/tidesheet/io/NetcdfType;" (.ref w_UINT)) (S_INT64 : Sta Z Z.heap "com/example/tidesheet/tidesheet/io/NetcdfType" "INT64" "Lcom/example/tidesheet/tidesheet/io/NetcdfType;" (.ref w_INT64)) (S_UINT64 : Sta Z Z.heap "com/example/tidesheet/tidesheet/io/NetcdfType" "UINT64" "Lcom/example/tidesheet/tidesheet/io/NetcdfType;" (.ref w_UINT64)) (E_w_BYTE : Exa Z h0 w_BYTE "com/example/tidesheet/tidesheet/io/NetcdfType") (E_w_CHAR : Exa Z h0 w_CHAR "com/example/tidesheet/tidesheet/io/NetcdfType") (E_w_SHORT : Exa Z h0 w_SHORT "com/example/tidesheet/tidesheet/io/NetcdfType") (E_w_INT : Exa Z h0 w_INT "com/example/tidesheet/tidesheet/io/NetcdfType") (E_w_FLOAT : Exa Z h0 w_FLOAT "com/example/tidesheet/tidesheet/io/NetcdfType") (E_w_DOUBLE : Exa Z h0 w_DOUBLE "com/example/tidesheet/tidesheet/io/NetcdfType") (E_w_UBYTE : Exa Z h0 w_UBYTE "com/example/tidesheet/tidesheet/io/NetcdfType") (E_w_USHORT : Exa Z h0 w_USHORT "com/example/tidesheet/tidesheet/io/NetcdfType") (E_w_UINT : Exa Z h0 w_UINT "com/example/tidesheet/tidesheet/io/NetcdfType") (E_w_INT64 : Exa Z h0 w_INT64 "com/example/tidesheet/tidesheet/io/NetcdfType") (E_w_UINT64 : Exa Z h0 w_UINT64 "com/example/tidesheet/tidesheet/io/NetcdfType") (ne_w_BYTE_w_FLOAT : w_BYTE ≠ w_FLOAT) (ne_w_CHAR_w_FLOAT : w_CHAR ≠ w_FLOAT) (ne_w_SHORT_w_FLOAT : w_SHORT ≠ w_FLOAT) (ne_w_INT_w_FLOAT : w_INT ≠ w_FLOAT) (ne_w_DOUBLE_w_FLOAT : w_DOUBLE ≠ w_FLOAT) (ne_w_UBYTE_w_FLOAT : w_UBYTE ≠ w_FLOAT) (ne_w_USHORT_w_FLOAT : w_USHORT ≠ w_FLOAT) (ne_w_UINT_w_FLOAT : w_UINT ≠ w_FLOAT) (ne_w_INT64_w_FLOAT : w_INT64 ≠ w_FLOAT) (ne_w_UINT64_w_FLOAT : w_UINT64 ≠ w_FLOAT) (ne_w_BYTE_w_DOUBLE : w_BYTE ≠ w_DOUBLE) (ne_w_CHAR_w_DOUBLE : w_CHAR ≠ w_DOUBLE) (ne_w_SHORT_w_DOUBLE : w_SHORT ≠ w_DOUBLE) (ne_w_INT_w_DOUBLE : w_INT ≠ w_DOUBLE) (ne_w_UBYTE_w_DOUBLE : w_UBYTE ≠ w_DOUBLE) (ne_w_USHORT_w_DOUBLE : w_USHORT ≠ w_DOUBLE) (ne_w_UINT_w_DOUBLE : w_UINT ≠ w_DOUBLE) (ne_w_INT64_w_DOUBLE : w_INT64 ≠ w_DOUBLE) (ne_w_UINT64_w_DOUBLE : w_UINT64 ≠ w_DOUBLE) :
    MetFree l x (head1 (Jvm.Cond.code x code maxLocals ret :: ws) room_1) (fun a U => a = #[(.int p0)] ∧ Z.Warmed39 U.vm ∧ U.heap = h0) (fun _ _ _ _ _ => True) (fun _ U o U' => ∃ v L, o = .returned v ∧ Q0 Z p0 w_BYTE w_CHAR w_SHORT w_INT w_FLOAT w_DOUBLE w_UBYTE w_USHORT w_UINT w_INT64 w_UINT64 h0 n0 v U'.heap L ∧ FrameEnd U o U' L room_1.cells room_1.slots) := by
  refine MetFree.of_bodySF (plainFor_of_name pn_0) hisR ?_
  intro p e s m args below meth c s₁ Bd hml0 hP hK
  obtain ⟨rfl, hZ, hh⟩ := hP
  have hx := Bd.exec
  have hby := Bd.bytes
  have hml : c.maxLocals = 4 := hml0
  have hown : s.vm.findClass "com/example/tidesheet/tidesheet/io/NetcdfTypeIsRealPinLaw" = some m.cls := findClass_of_methodNamed Bd.named
  have hnm := (name_of_methodNamed Bd.named Bd.method).1
  have X0 : Stand p l e room_1 s m #[(.int p0)] below meth c s₁ [] 0 0 := Stand.of_body Bd
  have e0 : s₁.heap = h0 := by rw [← hh, Bd.state]; rfl
  have N0 := Fr.nil n0
  change own_Go p e below (own_Post s (Q0 Z p0 w_BYTE w_CHAR w_SHORT w_INT w_FLOAT w_DOUBLE w_UBYTE w_USHORT w_UINT w_INT64 w_UINT64 h0 n0) room_1.cells room_1.slots) (s₁.setTop (entryFrame m #[(.int p0)] maxLocals))
  refine own_by (fun t k => castTop (ef_0 m p0) k) ?_
  show own_Go p e below _ (s₁.setTop (mkF m 0 #[iv p0, oU, oU, oU] []))
  refine own_by (B := s₁.setTop (mkF m 9 #[iv p0, iv ((p0 &&& (2147483647 : Int32)) % (11 : Int32)), oU, oU] [(.int ((p0 &&& (2147483647 : Int32)) % (11 : Int32)))])) (fun t k => ?_) ?_
  · show Steps p.tables e below (s₁.setTop (mkF m 0 #[iv p0, oU, oU, oU] [])) _
    refine XS.iloadN X0.here hx rfl (hb hby at_0) rfl ?_
    show Steps p.tables e below (s₁.setTop (mkF m 1 #[iv p0, oU, oU, oU] [(.int p0)])) _
    refine X0.ldcInt hx hown (mvT hZ (hw _ (List.mem_of_getElem? (i := 0) rfl))) (g := (mkF m 1 #[iv p0, oU, oU, oU] [(.int p0)])) rfl (hb hby at_1) _ ?_
    show Steps p.tables e below (s₁.setTop (mkF m 3 #[iv p0, oU, oU, oU] [(.int (2147483647 : Int32)), (.int p0)])) _
    refine XS.iand X0.here hx rfl (hb hby at_3) rfl ?_
    show Steps p.tables e below (s₁.setTop (mkF m 4 #[iv p0, oU, oU, oU] [(.int (p0 &&& (2147483647 : Int32)))])) _
    refine XS.bipush X0.here hx rfl (hb hby at_4) ?_
    show Steps p.tables e below (s₁.setTop (mkF m 6 #[iv p0, oU, oU, oU] [(.int (11 : Int32)), (.int (p0 &&& (2147483647 : Int32)))])) _
    refine iremM X0 hx rfl (hb hby at_6) rfl (by decide) ?_
    show Steps p.tables e below (s₁.setTop (mkF m 7 #[iv p0, oU, oU, oU] [(.int ((p0 &&& (2147483647 : Int32)) % (11 : Int32)))])) _
    refine XS.istoreN X0.here hx rfl (hb hby at_7) rfl (l' := #[iv p0, iv ((p0 &&& (2147483647 : Int32)) % (11 : Int32)), oU, oU]) rfl ?_
    show Steps p.tables e below (s₁.setTop (mkF m 8 #[iv p0, iv ((p0 &&& (2147483647 : Int32)) % (11 : Int32)), oU, oU] [])) _
    refine XS.iloadN X0.here hx rfl (hb hby at_8) rfl ?_
    show Steps p.tables e below (s₁.setTop (mkF m 9 #[iv p0, iv ((p0 &&& (2147483647 : Int32)) % (11 : Int32)), oU, oU] [(.int ((p0 &&& (2147483647 : Int32)) % (11 : Int32)))])) _
    exact k
  rcases own_cases p0 with hk | hk | hk | hk | hk | hk | hk | hk | hk | hk | hk
  · simp only [hk]
    show own_Go p e below _ (s₁.setTop (mkF m 9 #[iv p0, iv (0 : Int32), oU, oU] [(.int (0 : Int32))]))
    refine own_cc (own_callS X0 hx hZ (y := (⟨"com/example/tidesheet/tidesheet/io/NetcdfTypeIsRealPinLaw", "pick", "(I)Lcom/example/tidesheet/tidesheet/io/NetcdfType;"⟩ : MethodName)) hown (hw _ (List.mem_of_getElem? (i := 1) rfl)) (hw _ (List.mem_of_getElem? (i := 2) rfl)) (hw _ (List.mem_of_getElem? (i := 3) rfl)) (hw _ (List.mem_of_getElem? (i := 4) rfl)) (by decide) (rm1_0 l Z a0 hw [] w_BYTE h0 n0 Z0 OZ S_BYTE) e0 0 (by decide) (by decide) (by decide) (by decide) rfl (by rw [hml]; rfl) [(.int (0 : Int32))] [] rfl (lenOf pd_0 rfl) rfl (by show 2 * 0 + _ ≤ _; exact Nat.le_of_eq rfl) (hb hby at_9)) fun T2 L2 v2 X2 hQ2 => ?_
    obtain ⟨rfl, N2, e2⟩ := hQ2
    replace N0 := Fr.app N0 N2
    show own_Go p e below _ (T2.setTop (mkF m 12 #[iv p0, iv (0 : Int32), oU, oU] [(.ref w_BYTE)]))
    refine own_by (B := T2.setTop (mkF m 30 #[iv p0, iv (0 : Int32), rv w_BYTE, iv (0 : Int32)] [(.ref w_BYTE)])) (fun t k => ?_) ?_
    · show Steps p.tables e below (T2.setTop (mkF m 12 #[iv p0, iv (0 : Int32), oU, oU] [(.ref w_BYTE)])) _
      refine XS.astoreN X2.here hx rfl (hb hby at_12) rfl rfl (l' := #[iv p0, iv (0 : Int32), rv w_BYTE, oU]) rfl ?_
      show Steps p.tables e below (T2.setTop (mkF m 13 #[iv p0, iv (0 : Int32), rv w_BYTE, oU] [])) _
      refine XS.iloadN X2.here hx rfl (hb hby at_13) rfl ?_
      show Steps p.tables e below (T2.setTop (mkF m 14 #[iv p0, iv (0 : Int32), rv w_BYTE, oU] [(.int (0 : Int32))])) _
      refine XS.iconst X2.here hx rfl (hb hby at_14) ?_
      show Steps p.tables e below (T2.setTop (mkF m 15 #[iv p0, iv (0 : Int32), rv w_BYTE, oU] [(.int (4 : Int32)), (.int (0 : Int32))])) _
      refine XS.icmpNo X2.here hx rfl (hb hby at_15) rfl (feq (by decide : ¬ ((0 : Int32) = (4 : Int32)))).1 ?_
      show Steps p.tables e below (T2.setTop (mkF m 18 #[iv p0, iv (0 : Int32), rv w_BYTE, oU] [])) _
      refine XS.iloadN X2.here hx rfl (hb hby at_18) rfl ?_
      show Steps p.tables e below (T2.setTop (mkF m 19 #[iv p0, iv (0 : Int32), rv w_BYTE, oU] [(.int (0 : Int32))])) _
      refine XS.iconst X2.here hx rfl (hb hby at_19) ?_
      show Steps p.tables e below (T2.setTop (mkF m 20 #[iv p0, iv (0 : Int32), rv w_BYTE, oU] [(.int (5 : Int32)), (.int (0 : Int32))])) _
      refine XS.icmpYes X2.here hx rfl (pc0 := 20) (pc' := 27) rfl (hb hby at_20) rfl (feq (by decide : ¬ ((0 : Int32) = (5 : Int32)))).2 (by decide) (by decide) ?_
      show Steps p.tables e below (T2.setTop (mkF m 27 #[iv p0, iv (0 : Int32), rv w_BYTE, oU] [])) _
      refine XS.iconst X2.here hx rfl (hb hby at_27) ?_
      show Steps p.tables e below (T2.setTop (mkF m 28 #[iv p0, iv (0 : Int32), rv w_BYTE, oU] [(.int (0 : Int32))])) _
      refine XS.istoreN X2.here hx rfl (hb hby at_28) rfl (l' := #[iv p0, iv (0 : Int32), rv w_BYTE, iv (0 : Int32)]) rfl ?_
      show Steps p.tables e below (T2.setTop (mkF m 29 #[iv p0, iv (0 : Int32), rv w_BYTE, iv (0 : Int32)] [])) _
      refine XS.aloadN X2.here hx rfl (hb hby at_29) rfl rfl ?_
      show Steps p.tables e below (T2.setTop (mkF m 30 #[iv p0, iv (0 : Int32), rv w_BYTE, iv (0 : Int32)] [(.ref w_BYTE)])) _
      exact k
    refine own_cc (own_callV X2 hx hZ (y := (⟨"com/example/tidesheet/tidesheet/io/NetcdfType", "isReal", "()Z"⟩ : MethodName)) (z := (⟨"com/example/tidesheet/tidesheet/io/NetcdfType", "isReal", "()Z"⟩ : MethodName)) hown (hw _ (List.mem_of_getElem? (i := 8) rfl)) (hw _ (List.mem_of_getElem? (i := 9) rfl)) (notFace_of_selects (args := #[]) (mvT hZ (hw _ (List.mem_of_getElem? (i := 11) rfl)))) (hw _ (List.mem_of_getElem? (i := 11) rfl)) (hw _ (List.mem_of_getElem? (i := 10) rfl)) (hw _ (List.mem_of_getElem? (i := 6) rfl)) (hw _ (List.mem_of_getElem? (i := 12) rfl)) (by decide) (rm2_3 l Z a0 hw [] w_BYTE w_FLOAT w_DOUBLE h0 n0 Z0 OZ S_FLOAT S_DOUBLE ne_w_BYTE_w_FLOAT ne_w_BYTE_w_DOUBLE) e2 0 (by decide) (by decide) (by decide) (by decide) rfl (by rw [hml]; rfl) w_BYTE E_w_BYTE [] [] rfl (lenOf pd_1 rfl) rfl (by show 2 * 0 + _ ≤ _; exact Nat.le_of_eq rfl) (hb hby at_30)) fun T4 L4 v4 X4 hQ4 => ?_
    obtain ⟨rfl, N4, e4⟩ := hQ4
    replace N0 := Fr.app N0 N4
    show own_Go p e below _ (T4.setTop (mkF m 33 #[iv p0, iv (0 : Int32), rv w_BYTE, iv (0 : Int32)] [(.int (0 : Int32))]))
    refine own_by (B := T4.setTop (mkF m 42 #[iv p0, iv (0 : Int32), rv w_BYTE, iv (0 : Int32)] [(.int (1 : Int32))])) (fun t k => ?_) ?_
    · show Steps p.tables e below (T4.setTop (mkF m 33 #[iv p0, iv (0 : Int32), rv w_BYTE, iv (0 : Int32)] [(.int (0 : Int32))])) _
      refine XS.iloadN X4.here hx rfl (hb hby at_33) rfl ?_
      show Steps p.tables e below (T4.setTop (mkF m 34 #[iv p0, iv (0 : Int32), rv w_BYTE, iv (0 : Int32)] [(.int (0 : Int32)), (.int (0 : Int32))])) _
      refine XS.icmpNo X4.here hx rfl (hb hby at_34) rfl (teq (by decide : (0 : Int32) = (0 : Int32))).2 ?_
      show Steps p.tables e below (T4.setTop (mkF m 37 #[iv p0, iv (0 : Int32), rv w_BYTE, iv (0 : Int32)] [])) _
      refine XS.iconst X4.here hx rfl (hb hby at_37) ?_
      show Steps p.tables e below (T4.setTop (mkF m 38 #[iv p0, iv (0 : Int32), rv w_BYTE, iv (0 : Int32)] [(.int (1 : Int32))])) _
      refine XS.goto X4.here hx rfl (pc0 := 38) (pc' := 42) rfl (hb hby at_38) (by decide) (by decide) ?_
      show Steps p.tables e below (T4.setTop (mkF m 42 #[iv p0, iv (0 : Int32), rv w_BYTE, iv (0 : Int32)] [(.int (1 : Int32))])) _
      exact k
    exact own_retN X4 Bd.notSynchronized hx (t := .boolean) Bd.returns (by simp) (hb hby at_42) (by
        rw [show T4.heap = h0 from e4]
        exact ⟨rfl, N0⟩) (by decide) (by decide)
  · simp only [hk]
    show own_Go p e below _ (s₁.setTop (mkF m 9 #[iv p0, iv (1 : Int32), oU, oU] [(.int (1 : Int32))]))
    refine own_cc (own_callS X0 hx hZ (y := (⟨"com/example/tidesheet/tidesheet/io/NetcdfTypeIsRealPinLaw", "pick", "(I)Lcom/example/tidesheet/tidesheet/io/NetcdfType;"⟩ : MethodName)) hown (hw _ (List.mem_of_getElem? (i := 1) rfl)) (hw _ (List.mem_of_getElem? (i := 2) rfl)) (hw _ (List.mem_of_getElem? (i := 3) rfl)) (hw _ (List.mem_of_getElem? (i := 4) rfl)) (by decide) (rm1_1 l Z a0 hw [] w_CHAR h0 n0 Z0 OZ S_CHAR) e0 0 (by decide) (by decide) (by decide) (by decide) rfl (by rw [hml]; rfl) [(.int (1 : Int32))] [] rfl (lenOf pd_0 rfl) rfl (by show 2 * 0 + _ ≤ _; exact Nat.le_of_eq rfl) (hb hby at_9)) fun T6 L6 v6 X6 hQ6 => ?_
    obtain ⟨rfl, N6, e6⟩ := hQ6
    replace N0 := Fr.app N0 N6
    show own_Go p e below _ (T6.setTop (mkF m 12 #[iv p0, iv (1 : Int32), oU, oU] [(.ref w_CHAR)]))
    refine own_by (B := T6.setTop (mkF m 30 #[iv p0, iv (1 : Int32), rv w_CHAR, iv (0 : Int32)] [(.ref w_CHAR)])) (fun t k => ?_) ?_
    · show Steps p.tables e below (T6.setTop (mkF m 12 #[iv p0, iv (1 : Int32), oU, oU] [(.ref w_CHAR)])) _
      refine XS.astoreN X6.here hx rfl (hb hby at_12) rfl rfl (l' := #[iv p0, iv (1 : Int32), rv w_CHAR, oU]) rfl ?_
      show Steps p.tables e below (T6.setTop (mkF m 13 #[iv p0, iv (1 : Int32), rv w_CHAR, oU] [])) _
      refine XS.iloadN X6.here hx rfl (hb hby at_13) rfl ?_
      show Steps p.tables e below (T6.setTop (mkF m 14 #[iv p0, iv (1 : Int32), rv w_CHAR, oU] [(.int (1 : Int32))])) _
      refine XS.iconst X6.here hx rfl (hb hby at_14) ?_
      show Steps p.tables e below (T6.setTop (mkF m 15 #[iv p0, iv (1 : Int32), rv w_CHAR, oU] [(.int (4 : Int32)), (.int (1 : Int32))])) _
      refine XS.icmpNo X6.here hx rfl (hb hby at_15) rfl (feq (by decide : ¬ ((1 : Int32) = (4 : Int32)))).1 ?_
      show Steps p.tables e below (T6.setTop (mkF m 18 #[iv p0, iv (1 : Int32), rv w_CHAR, oU] [])) _
      refine XS.iloadN X6.here hx rfl (hb hby at_18) rfl ?_
      show Steps p.tables e below (T6.setTop (mkF m 19 #[iv p0, iv (1 : Int32), rv w_CHAR, oU] [(.int (1 : Int32))])) _
      refine XS.iconst X6.here hx rfl (hb hby at_19) ?_
      show Steps p.tables e below (T6.setTop (mkF m 20 #[iv p0, iv (1 : Int32), rv w_CHAR, oU] [(.int (5 : Int32)), (.int (1 : Int32))])) _
      refine XS.icmpYes X6.here hx rfl (pc0 := 20) (pc' := 27) rfl (hb hby at_20) rfl (feq (by decide : ¬ ((1 : Int32) = (5 : Int32)))).2 (by decide) (by decide) ?_
      show Steps p.tables e below (T6.setTop (mkF m 27 #[iv p0, iv (1 : Int32), rv w_CHAR, oU] [])) _
      refine XS.iconst X6.here hx rfl (hb hby at_27) ?_
      show Steps p.tables e below (T6.setTop (mkF m 28 #[iv p0, iv (1 : Int32), rv w_CHAR, oU] [(.int (0 : Int32))])) _
      refine XS.istoreN X6.here hx rfl (hb hby at_28) rfl (l' := #[iv p0, iv (1 : Int32), rv w_CHAR, iv (0 : Int32)]) rfl ?_
      show Steps p.tables e below (T6.setTop (mkF m 29 #[iv p0, iv (1 : Int32), rv w_CHAR, iv (0 : Int32)] [])) _
      refine XS.aloadN X6.here hx rfl (hb hby at_29) rfl rfl ?_
      show Steps p.tables e below (T6.setTop (mkF m 30 #[iv p0, iv (1 : Int32), rv w_CHAR, iv (0 : Int32)] [(.ref w_CHAR)])) _
      exact k
    refine own_cc (own_callV X6 hx hZ (y := (⟨"com/example/tidesheet/tidesheet/io/NetcdfType", "isReal", "()Z"⟩ : MethodName)) (z := (⟨"com/example/tidesheet/tidesheet/io/NetcdfType", "isReal", "()Z"⟩ : MethodName)) hown (hw _ (List.mem_of_getElem? (i := 8) rfl)) (hw _ (List.mem_of_getElem? (i := 9) rfl)) (notFace_of_selects (args := #[]) (mvT hZ (hw _ (List.mem_of_getElem? (i := 11) rfl)))) (hw _ (List.mem_of_getElem? (i := 11) rfl)) (hw _ (List.mem_of_getElem? (i := 10) rfl)) (hw _ (List.mem_of_getElem? (i := 6) rfl)) (hw _ (List.mem_of_getElem? (i := 12) rfl)) (by decide) (rm2_3 l Z a0 hw [] w_CHAR w_FLOAT w_DOUBLE h0 n0 Z0 OZ S_FLOAT S_DOUBLE ne_w_CHAR_w_FLOAT ne_w_CHAR_w_DOUBLE) e6 0 (by decide) (by decide) (by decide) (by decide) rfl (by rw [hml]; rfl) w_CHAR E_w_CHAR [] [] rfl (lenOf pd_1 rfl) rfl (by show 2 * 0 + _ ≤ _; exact Nat.le_of_eq rfl) (hb hby at_30)) fun T8 L8 v8 X8 hQ8 => ?_
    obtain ⟨rfl, N8, e8⟩ := hQ8
    replace N0 := Fr.app N0 N8
    show own_Go p e below _ (T8.setTop (mkF m 33 #[iv p0, iv (1 : Int32), rv w_CHAR, iv (0 : Int32)] [(.int (0 : Int32))]))
    refine own_by (B := T8.setTop (mkF m 42 #[iv p0, iv (1 : Int32), rv w_CHAR, iv (0 : Int32)] [(.int (1 : Int32))])) (fun t k => ?_) ?_
    · show Steps p.tables e below (T8.setTop (mkF m 33 #[iv p0, iv (1 : Int32), rv w_CHAR, iv (0 : Int32)] [(.int (0 : Int32))])) _
      refine XS.iloadN X8.here hx rfl (hb hby at_33) rfl ?_
      show Steps p.tables e below (T8.setTop (mkF m 34 #[iv p0, iv (1 : Int32), rv w_CHAR, iv (0 : Int32)] [(.int (0 : Int32)), (.int (0 : Int32))])) _
      refine XS.icmpNo X8.here hx rfl (hb hby at_34) rfl (teq (by decide : (0 : Int32) = (0 : Int32))).2 ?_
      show Steps p.tables e below (T8.setTop (mkF m 37 #[iv p0, iv (1 : Int32), rv w_CHAR, iv (0 : Int32)] [])) _
      refine XS.iconst X8.here hx rfl (hb hby at_37) ?_
      show Steps p.tables e below (T8.setTop (mkF m 38 #[iv p0, iv (1 : Int32), rv w_CHAR, iv (0 : Int32)] [(.int (1 : Int32))])) _
      refine XS.goto X8.here hx rfl (pc0 := 38) (pc' := 42) rfl (hb hby at_38) (by decide) (by decide) ?_
      show Steps p.tables e below (T8.setTop (mkF m 42 #[iv p0, iv (1 : Int32), rv w_CHAR, iv (0 : Int32)] [(.int (1 : Int32))])) _
      exact k
    exact own_retN X8 Bd.notSynchronized hx (t := .boolean) Bd.returns (by simp) (hb hby at_42) (by
        rw [show T8.heap = h0 from e8]
        exact ⟨rfl, N0⟩) (by decide) (by decide)
  · simp only [hk]
    show own_Go p e below _ (s₁.setTop (mkF m 9 #[iv p0, iv (2 : Int32), oU, oU] [(.int (2 : Int32))]))
    refine own_cc (own_callS X0 hx hZ (y := (⟨"com/example/tidesheet/tidesheet/io/NetcdfTypeIsRealPinLaw", "pick", "(I)Lcom/example/tidesheet/tidesheet/io/NetcdfType;"⟩ : MethodName)) hown (hw _ (List.mem_of_getElem? (i := 1) rfl)) (hw _ (List.mem_of_getElem? (i := 2) rfl)) (hw _ (List.mem_of_getElem? (i := 3) rfl)) (hw _ (List.mem_of_getElem? (i := 4) rfl)) (by decide) (rm1_2 l Z a0 hw [] w_SHORT h0 n0 Z0 OZ S_SHORT) e0 0 (by decide) (by decide) (by decide) (by decide) rfl (by rw [hml]; rfl) [(.int (2 : Int32))] [] rfl (lenOf pd_0 rfl) rfl (by show 2 * 0 + _ ≤ _; exact Nat.le_of_eq rfl) (hb hby at_9)) fun T10 L10 v10 X10 hQ10 => ?_
    obtain ⟨rfl, N10, e10⟩ := hQ10
    replace N0 := Fr.app N0 N10
    show own_Go p e below _ (T10.setTop (mkF m 12 #[iv p0, iv (2 : Int32), oU, oU] [(.ref w_SHORT)]))
    refine own_by (B := T10.setTop (mkF m 30 #[iv p0, iv (2 : Int32), rv w_SHORT, iv (0 : Int32)] [(.ref w_SHORT)])) (fun t k => ?_) ?_
    · show Steps p.tables e below (T10.setTop (mkF m 12 #[iv p0, iv (2 : Int32), oU, oU] [(.ref w_SHORT)])) _
      refine XS.astoreN X10.here hx rfl (hb hby at_12) rfl rfl (l' := #[iv p0, iv (2 : Int32), rv w_SHORT, oU]) rfl ?_
      show Steps p.tables e below (T10.setTop (mkF m 13 #[iv p0, iv (2 : Int32), rv w_SHORT, oU] [])) _
      refine XS.iloadN X10.here hx rfl (hb hby at_13) rfl ?_
      show Steps p.tables e below (T10.setTop (mkF m 14 #[iv p0, iv (2 : Int32), rv w_SHORT, oU] [(.int (2 : Int32))])) _
      refine XS.iconst X10.here hx rfl (hb hby at_14) ?_
      show Steps p.tables e below (T10.setTop (mkF m 15 #[iv p0, iv (2 : Int32), rv w_SHORT, oU] [(.int (4 : Int32)), (.int (2 : Int32))])) _
      refine XS.icmpNo X10.here hx rfl (hb hby at_15) rfl (feq (by decide : ¬ ((2 : Int32) = (4 : Int32)))).1 ?_
      show Steps p.tables e below (T10.setTop (mkF m 18 #[iv p0, iv (2 : Int32), rv w_SHORT, oU] [])) _
      refine XS.iloadN X10.here hx rfl (hb hby at_18) rfl ?_
      show Steps p.tables e below (T10.setTop (mkF m 19 #[iv p0, iv (2 : Int32), rv w_SHORT, oU] [(.int (2 : Int32))])) _
      refine XS.iconst X10.here hx rfl (hb hby at_19) ?_
      show Steps p.tables e below (T10.setTop (mkF m 20 #[iv p0, iv (2 : Int32), rv w_SHORT, oU] [(.int (5 : Int32)), (.int (2 : Int32))])) _
      refine XS.icmpYes X10.here hx rfl (pc0 := 20) (pc' := 27) rfl (hb hby at_20) rfl (feq (by decide : ¬ ((2 : Int32) = (5 : Int32)))).2 (by decide) (by decide) ?_
      show Steps p.tables e below (T10.setTop (mkF m 27 #[iv p0, iv (2 : Int32), rv w_SHORT, oU] [])) _
      refine XS.iconst X10.here hx rfl (hb hby at_27) ?_
      show Steps p.tables e below (T10.setTop (mkF m 28 #[iv p0, iv (2 : Int32), rv w_SHORT, oU] [(.int (0 : Int32))])) _
      refine XS.istoreN X10.here hx rfl (hb hby at_28) rfl (l' := #[iv p0, iv (2 : Int32), rv w_SHORT, iv (0 : Int32)]) rfl ?_
      show Steps p.tables e below (T10.setTop (mkF m 29 #[iv p0, iv (2 : Int32), rv w_SHORT, iv (0 : Int32)] [])) _
      refine XS.aloadN X10.here hx rfl (hb hby at_29) rfl rfl ?_
      show Steps p.tables e below (T10.setTop (mkF m 30 #[iv p0, iv (2 : Int32), rv w_SHORT, iv (0 : Int32)] [(.ref w_SHORT)])) _
      exact k
    refine own_cc (own_callV X10 hx hZ (y := (⟨"com/example/tidesheet/tidesheet/io/NetcdfType", "isReal", "()Z"⟩ : MethodName)) (z := (⟨"com/example/tidesheet/tidesheet/io/NetcdfType", "isReal", "()Z"⟩ : MethodName)) hown (hw _ (List.mem_of_getElem? (i := 8) rfl)) (hw _ (List.mem_of_getElem? (i := 9) rfl)) (notFace_of_selects (args := #[]) (mvT hZ (hw _ (List.mem_of_getElem? (i := 11) rfl)))) (hw _ (List.mem_of_getElem? (i := 11) rfl)) (hw _ (List.mem_of_getElem? (i := 10) rfl)) (hw _ (List.mem_of_getElem? (i := 6) rfl)) (hw _ (List.mem_of_getElem? (i := 12) rfl)) (by decide) (rm2_3 l Z a0 hw [] w_SHORT w_FLOAT w_DOUBLE h0 n0 Z0 OZ S_FLOAT S_DOUBLE ne_w_SHORT_w_FLOAT ne_w_SHORT_w_DOUBLE) e10 0 (by decide) (by decide) (by decide) (by decide) rfl (by rw [hml]; rfl) w_SHORT E_w_SHORT [] [] rfl (lenOf pd_1 rfl) rfl (by show 2 * 0 + _ ≤ _; exact Nat.le_of_eq rfl) (hb hby at_30)) fun T12 L12 v12 X12 hQ12 => ?_
    obtain ⟨rfl, N12, e12⟩ := hQ12
    replace N0 := Fr.app N0 N12
    show own_Go p e below _ (T12.setTop (mkF m 33 #[iv p0, iv (2 : Int32), rv w_SHORT, iv (0 : Int32)] [(.int (0 : Int32))]))
    refine own_by (B := T12.setTop (mkF m 42 #[iv p0, iv (2 : Int32), rv w_SHORT, iv (0 : Int32)] [(.int (1 : Int32))])) (fun t k => ?_) ?_
    · show Steps p.tables e below (T12.setTop (mkF m 33 #[iv p0, iv (2 : Int32), rv w_SHORT, iv (0 : Int32)] [(.int (0 : Int32))])) _
      refine XS.iloadN X12.here hx rfl (hb hby at_33) rfl ?_
      show Steps p.tables e below (T12.setTop (mkF m 34 #[iv p0, iv (2 : Int32), rv w_SHORT, iv (0 : Int32)] [(.int (0 : Int32)), (.int (0 : Int32))])) _
      refine XS.icmpNo X12.here hx rfl (hb hby at_34) rfl (teq (by decide : (0 : Int32) = (0 : Int32))).2 ?_
      show Steps p.tables e below (T12.setTop (mkF m 37 #[iv p0, iv (2 : Int32), rv w_SHORT, iv (0 : Int32)] [])) _
      refine XS.iconst X12.here hx rfl (hb hby at_37) ?_
      show Steps p.tables e below (T12.setTop (mkF m 38 #[iv p0, iv (2 : Int32), rv w_SHORT, iv (0 : Int32)] [(.int (1 : Int32))])) _
      refine XS.goto X12.here hx rfl (pc0 := 38) (pc' := 42) rfl (hb hby at_38) (by decide) (by decide) ?_
      show Steps p.tables e below (T12.setTop (mkF m 42 #[iv p0, iv (2 : Int32), rv w_SHORT, iv (0 : Int32)] [(.int (1 : Int32))])) _
      exact k
    exact own_retN X12 Bd.notSynchronized hx (t := .boolean) Bd.returns (by simp) (hb hby at_42) (by
        rw [show T12.heap = h0 from e12]
        exact ⟨rfl, N0⟩) (by decide) (by decide)
  · simp only [hk]
    show own_Go p e below _ (s₁.setTop (mkF m 9 #[iv p0, iv (3 : Int32), oU, oU] [(.int (3 : Int32))]))
    refine own_cc (own_callS X0 hx hZ (y := (⟨"com/example/tidesheet/tidesheet/io/NetcdfTypeIsRealPinLaw", "pick", "(I)Lcom/example/tidesheet/tidesheet/io/NetcdfType;"⟩ : MethodName)) hown (hw _ (List.mem_of_getElem? (i := 1) rfl)) (hw _ (List.mem_of_getElem? (i := 2) rfl)) (hw _ (List.mem_of_getElem? (i := 3) rfl)) (hw _ (List.mem_of_getElem? (i := 4) rfl)) (by decide) (rm1_3 l Z a0 hw [] w_INT h0 n0 Z0 OZ S_INT) e0 0 (by decide) (by decide) (by decide) (by decide) rfl (by rw [hml]; rfl) [(.int (3 : Int32))] [] rfl (lenOf pd_0 rfl) rfl (by show 2 * 0 + _ ≤ _; exact Nat.le_of_eq rfl) (hb hby at_9)) fun T14 L14 v14 X14 hQ14 => ?_
    obtain ⟨rfl, N14, e14⟩ := hQ14
    replace N0 := Fr.app N0 N14
    show own_Go p e below _ (T14.setTop (mkF m 12 #[iv p0, iv (3 : Int32), oU, oU] [(.ref w_INT)]))
    refine own_by (B := T14.setTop (mkF m 30 #[iv p0, iv (3 : Int32), rv w_INT, iv (0 : Int32)] [(.ref w_INT)])) (fun t k => ?_) ?_
    · show Steps p.tables e below (T14.setTop (mkF m 12 #[iv p0, iv (3 : Int32), oU, oU] [(.ref w_INT)])) _
      refine XS.astoreN X14.here hx rfl (hb hby at_12) rfl rfl (l' := #[iv p0, iv (3 : Int32), rv w_INT, oU]) rfl ?_
      show Steps p.tables e below (T14.setTop (mkF m 13 #[iv p0, iv (3 : Int32), rv w_INT, oU] [])) _
      refine XS.iloadN X14.here hx rfl (hb hby at_13) rfl ?_
      show Steps p.tables e below (T14.setTop (mkF m 14 #[iv p0, iv (3 : Int32), rv w_INT, oU] [(.int (3 : Int32))])) _
      refine XS.iconst X14.here hx rfl (hb hby at_14) ?_
      show Steps p.tables e below (T14.setTop (mkF m 15 #[iv p0, iv (3 : Int32), rv w_INT, oU] [(.int (4 : Int32)), (.int (3 : Int32))])) _
      refine XS.icmpNo X14.here hx rfl (hb hby at_15) rfl (feq (by decide : ¬ ((3 : Int32) = (4 : Int32)))).1 ?_
      show Steps p.tables e below (T14.setTop (mkF m 18 #[iv p0, iv (3 : Int32), rv w_INT, oU] [])) _
      refine XS.iloadN X14.here hx rfl (hb hby at_18) rfl ?_
      show Steps p.tables e below (T14.setTop (mkF m 19 #[iv p0, iv (3 : Int32), rv w_INT, oU] [(.int (3 : Int32))])) _
      refine XS.iconst X14.here hx rfl (hb hby at_19) ?_
      show Steps p.tables e below (T14.setTop (mkF m 20 #[iv p0, iv (3 : Int32), rv w_INT, oU] [(.int (5 : Int32)), (.int (3 : Int32))])) _
      refine XS.icmpYes X14.here hx rfl (pc0 := 20) (pc' := 27) rfl (hb hby at_20) rfl (feq (by decide : ¬ ((3 : Int32) = (5 : Int32)))).2 (by decide) (by decide) ?_
      show Steps p.tables e below (T14.setTop (mkF m 27 #[iv p0, iv (3 : Int32), rv w_INT, oU] [])) _
      refine XS.iconst X14.here hx rfl (hb hby at_27) ?_
      show Steps p.tables e below (T14.setTop (mkF m 28 #[iv p0, iv (3 : Int32), rv w_INT, oU] [(.int (0 : Int32))])) _
      refine XS.istoreN X14.here hx rfl (hb hby at_28) rfl (l' := #[iv p0, iv (3 : Int32), rv w_INT, iv (0 : Int32)]) rfl ?_
      show Steps p.tables e below (T14.setTop (mkF m 29 #[iv p0, iv (3 : Int32), rv w_INT, iv (0 : Int32)] [])) _
      refine XS.aloadN X14.here hx rfl (hb hby at_29) rfl rfl ?_
      show Steps p.tables e below (T14.setTop (mkF m 30 #[iv p0, iv (3 : Int32), rv w_INT, iv (0 : Int32)] [(.ref w_INT)])) _
      exact k
    refine own_cc (own_callV X14 hx hZ (y := (⟨"com/example/tidesheet/tidesheet/io/NetcdfType", "isReal", "()Z"⟩ : MethodName)) (z := (⟨"com/example/tidesheet/tidesheet/io/NetcdfType", "isReal", "()Z"⟩ : MethodName)) hown (hw _ (List.mem_of_getElem? (i := 8) rfl)) (hw _ (List.mem_of_getElem? (i := 9) rfl)) (notFace_of_selects (args := #[]) (mvT hZ (hw _ (List.mem_of_getElem? (i := 11) rfl)))) (hw _ (List.mem_of_getElem? (i := 11) rfl)) (hw _ (List.mem_of_getElem? (i := 10) rfl)) (hw _ (List.mem_of_getElem? (i := 6) rfl)) (hw _ (List.mem_of_getElem? (i := 12) rfl)) (by decide) (rm2_3 l Z a0 hw [] w_INT w_FLOAT w_DOUBLE h0 n0 Z0 OZ S_FLOAT S_DOUBLE ne_w_INT_w_FLOAT ne_w_INT_w_DOUBLE) e14 0 (by decide) (by decide) (by decide) (by decide) rfl (by rw [hml]; rfl) w_INT E_w_INT [] [] rfl (lenOf pd_1 rfl) rfl (by show 2 * 0 + _ ≤ _; exact Nat.le_of_eq rfl) (hb hby at_30)) fun T16 L16 v16 X16 hQ16 => ?_
    obtain ⟨rfl, N16, e16⟩ := hQ16
    replace N0 := Fr.app N0 N16
    show own_Go p e below _ (T16.setTop (mkF m 33 #[iv p0, iv (3 : Int32), rv w_INT, iv (0 : Int32)] [(.int (0 : Int32))]))
    refine own_by (B := T16.setTop (mkF m 42 #[iv p0, iv (3 : Int32), rv w_INT, iv (0 : Int32)] [(.int (1 : Int32))])) (fun t k => ?_) ?_
    · show Steps p.tables e below (T16.setTop (mkF m 33 #[iv p0, iv (3 : Int32), rv w_INT, iv (0 : Int32)] [(.int (0 : Int32))])) _
      refine XS.iloadN X16.here hx rfl (hb hby at_33) rfl ?_
      show Steps p.tables e below (T16.setTop (mkF m 34 #[iv p0, iv (3 : Int32), rv w_INT, iv (0 : Int32)] [(.int (0 : Int32)), (.int (0 : Int32))])) _
      refine XS.icmpNo X16.here hx rfl (hb hby at_34) rfl (teq (by decide : (0 : Int32) = (0 : Int32))).2 ?_
      show Steps p.tables e below (T16.setTop (mkF m 37 #[iv p0, iv (3 : Int32), rv w_INT, iv (0 : Int32)] [])) _
      refine XS.iconst X16.here hx rfl (hb hby at_37) ?_
      show Steps p.tables e below (T16.setTop (mkF m 38 #[iv p0, iv (3 : Int32), rv w_INT, iv (0 : Int32)] [(.int (1 : Int32))])) _
      refine XS.goto X16.here hx rfl (pc0 := 38) (pc' := 42) rfl (hb hby at_38) (by decide) (by decide) ?_
      show Steps p.tables e below (T16.setTop (mkF m 42 #[iv p0, iv (3 : Int32), rv w_INT, iv (0 : Int32)] [(.int (1 : Int32))])) _
      exact k
    exact own_retN X16 Bd.notSynchronized hx (t := .boolean) Bd.returns (by simp) (hb hby at_42) (by
        rw [show T16.heap = h0 from e16]
        exact ⟨rfl, N0⟩) (by decide) (by decide)
  · simp only [hk]
    show own_Go p e below _ (s₁.setTop (mkF m 9 #[iv p0, iv (4 : Int32), oU, oU] [(.int (4 : Int32))]))
    refine own_cc (own_callS X0 hx hZ (y := (⟨"com/example/tidesheet/tidesheet/io/NetcdfTypeIsRealPinLaw", "pick", "(I)Lcom/example/tidesheet/tidesheet/io/NetcdfType;"⟩ : MethodName)) hown (hw _ (List.mem_of_getElem? (i := 1) rfl)) (hw _ (List.mem_of_getElem? (i := 2) rfl)) (hw _ (List.mem_of_getElem? (i := 3) rfl)) (hw _ (List.mem_of_getElem? (i := 4) rfl)) (by decide) (rm1_4 l Z a0 hw [] w_FLOAT h0 n0 Z0 OZ S_FLOAT) e0 0 (by decide) (by decide) (by decide) (by decide) rfl (by rw [hml]; rfl) [(.int (4 : Int32))] [] rfl (lenOf pd_0 rfl) rfl (by show 2 * 0 + _ ≤ _; exact Nat.le_of_eq rfl) (hb hby at_9)) fun T18 L18 v18 X18 hQ18 => ?_
    obtain ⟨rfl, N18, e18⟩ := hQ18
    replace N0 := Fr.app N0 N18
    show own_Go p e below _ (T18.setTop (mkF m 12 #[iv p0, iv (4 : Int32), oU, oU] [(.ref w_FLOAT)]))
    refine own_by (B := T18.setTop (mkF m 30 #[iv p0, iv (4 : Int32), rv w_FLOAT, iv (1 : Int32)] [(.ref w_FLOAT)])) (fun t k => ?_) ?_
    · show Steps p.tables e below (T18.setTop (mkF m 12 #[iv p0, iv (4 : Int32), oU, oU] [(.ref w_FLOAT)])) _
      refine XS.astoreN X18.here hx rfl (hb hby at_12) rfl rfl (l' := #[iv p0, iv (4 : Int32), rv w_FLOAT, oU]) rfl ?_
      show Steps p.tables e below (T18.setTop (mkF m 13 #[iv p0, iv (4 : Int32), rv w_FLOAT, oU] [])) _
      refine XS.iloadN X18.here hx rfl (hb hby at_13) rfl ?_
      show Steps p.tables e below (T18.setTop (mkF m 14 #[iv p0, iv (4 : Int32), rv w_FLOAT, oU] [(.int (4 : Int32))])) _
      refine XS.iconst X18.here hx rfl (hb hby at_14) ?_
      show Steps p.tables e below (T18.setTop (mkF m 15 #[iv p0, iv (4 : Int32), rv w_FLOAT, oU] [(.int (4 : Int32)), (.int (4 : Int32))])) _
      refine XS.icmpYes X18.here hx rfl (pc0 := 15) (pc' := 23) rfl (hb hby at_15) rfl (teq (by decide : (4 : Int32) = (4 : Int32))).1 (by decide) (by decide) ?_
      show Steps p.tables e below (T18.setTop (mkF m 23 #[iv p0, iv (4 : Int32), rv w_FLOAT, oU] [])) _
      refine XS.iconst X18.here hx rfl (hb hby at_23) ?_
      show Steps p.tables e below (T18.setTop (mkF m 24 #[iv p0, iv (4 : Int32), rv w_FLOAT, oU] [(.int (1 : Int32))])) _
      refine XS.goto X18.here hx rfl (pc0 := 24) (pc' := 28) rfl (hb hby at_24) (by decide) (by decide) ?_
      show Steps p.tables e below (T18.setTop (mkF m 28 #[iv p0, iv (4 : Int32), rv w_FLOAT, oU] [(.int (1 : Int32))])) _
      refine XS.istoreN X18.here hx rfl (hb hby at_28) rfl (l' := #[iv p0, iv (4 : Int32), rv w_FLOAT, iv (1 : Int32)]) rfl ?_
      show Steps p.tables e below (T18.setTop (mkF m 29 #[iv p0, iv (4 : Int32), rv w_FLOAT, iv (1 : Int32)] [])) _
      refine XS.aloadN X18.here hx rfl (hb hby at_29) rfl rfl ?_
      show Steps p.tables e below (T18.setTop (mkF m 30 #[iv p0, iv (4 : Int32), rv w_FLOAT, iv (1 : Int32)] [(.ref w_FLOAT)])) _
      exact k
    refine own_cc (own_callV X18 hx hZ (y := (⟨"com/example/tidesheet/tidesheet/io/NetcdfType", "isReal", "()Z"⟩ : MethodName)) (z := (⟨"com/example/tidesheet/tidesheet/io/NetcdfType", "isReal", "()Z"⟩ : MethodName)) hown (hw _ (List.mem_of_getElem? (i := 8) rfl)) (hw _ (List.mem_of_getElem? (i := 9) rfl)) (notFace_of_selects (args := #[]) (mvT hZ (hw _ (List.mem_of_getElem? (i := 11) rfl)))) (hw _ (List.mem_of_getElem? (i := 11) rfl)) (hw _ (List.mem_of_getElem? (i := 10) rfl)) (hw _ (List.mem_of_getElem? (i := 6) rfl)) (hw _ (List.mem_of_getElem? (i := 12) rfl)) (by decide) (rm2_1 l Z a0 hw [] w_FLOAT w_DOUBLE h0 n0 Z0 OZ S_FLOAT S_DOUBLE) e18 0 (by decide) (by decide) (by decide) (by decide) rfl (by rw [hml]; rfl) w_FLOAT E_w_FLOAT [] [] rfl (lenOf pd_1 rfl) rfl (by show 2 * 0 + _ ≤ _; exact Nat.le_of_eq rfl) (hb hby at_30)) fun T20 L20 v20 X20 hQ20 => ?_
    obtain ⟨rfl, N20, e20⟩ := hQ20
    replace N0 := Fr.app N0 N20
    show own_Go p e below _ (T20.setTop (mkF m 33 #[iv p0, iv (4 : Int32), rv w_FLOAT, iv (1 : Int32)] [(.int (1 : Int32))]))
    refine own_by (B := T20.setTop (mkF m 42 #[iv p0, iv (4 : Int32), rv w_FLOAT, iv (1 : Int32)] [(.int (1 : Int32))])) (fun t k => ?_) ?_
    · show Steps p.tables e below (T20.setTop (mkF m 33 #[iv p0, iv (4 : Int32), rv w_FLOAT, iv (1 : Int32)] [(.int (1 : Int32))])) _
      refine XS.iloadN X20.here hx rfl (hb hby at_33) rfl ?_
      show Steps p.tables e below (T20.setTop (mkF m 34 #[iv p0, iv (4 : Int32), rv w_FLOAT, iv (1 : Int32)] [(.int (1 : Int32)), (.int (1 : Int32))])) _
      refine XS.icmpNo X20.here hx rfl (hb hby at_34) rfl (teq (by decide : (1 : Int32) = (1 : Int32))).2 ?_
      show Steps p.tables e below (T20.setTop (mkF m 37 #[iv p0, iv (4 : Int32), rv w_FLOAT, iv (1 : Int32)] [])) _
      refine XS.iconst X20.here hx rfl (hb hby at_37) ?_
      show Steps p.tables e below (T20.setTop (mkF m 38 #[iv p0, iv (4 : Int32), rv w_FLOAT, iv (1 : Int32)] [(.int (1 : Int32))])) _
      refine XS.goto X20.here hx rfl (pc0 := 38) (pc' := 42) rfl (hb hby at_38) (by decide) (by decide) ?_
      show Steps p.tables e below (T20.setTop (mkF m 42 #[iv p0, iv (4 : Int32), rv w_FLOAT, iv (1 : Int32)] [(.int (1 : Int32))])) _
      exact k
    exact own_retN X20 Bd.notSynchronized hx (t := .boolean) Bd.returns (by simp) (hb hby at_42) (by
        rw [show T20.heap = h0 from e20]
        exact ⟨rfl, N0⟩) (by decide) (by decide)
  · simp only [hk]
    show own_Go p e below _ (s₁.setTop (mkF m 9 #[iv p0, iv (5 : Int32), oU, oU] [(.int (5 : Int32))]))
    refine own_cc (own_callS X0 hx hZ (y := (⟨"com/example/tidesheet/tidesheet/io/NetcdfTypeIsRealPinLaw", "pick", "(I)Lcom/example/tidesheet/tidesheet/io/NetcdfType;"⟩ : MethodName)) hown (hw _ (List.mem_of_getElem? (i := 1) rfl)) (hw _ (List.mem_of_getElem? (i := 2) rfl)) (hw _ (List.mem_of_getElem? (i := 3) rfl)) (hw _ (List.mem_of_getElem? (i := 4) rfl)) (by decide) (rm1_5 l Z a0 hw [] w_DOUBLE h0 n0 Z0 OZ S_DOUBLE) e0 0 (by decide) (by decide) (by decide) (by decide) rfl (by rw [hml]; rfl) [(.int (5 : Int32))] [] rfl (lenOf pd_0 rfl) rfl (by show 2 * 0 + _ ≤ _; exact Nat.le_of_eq rfl) (hb hby at_9)) fun T22 L22 v22 X22 hQ22 => ?_
    obtain ⟨rfl, N22, e22⟩ := hQ22
    replace N0 := Fr.app N0 N22
    show own_Go p e below _ (T22.setTop (mkF m 12 #[iv p0, iv (5 : Int32), oU, oU] [(.ref w_DOUBLE)]))
    refine own_by (B := T22.setTop (mkF m 30 #[iv p0, iv (5 : Int32), rv w_DOUBLE, iv (1 : Int32)] [(.ref w_DOUBLE)])) (fun t k => ?_) ?_
    · show Steps p.tables e below (T22.setTop (mkF m 12 #[iv p0, iv (5 : Int32), oU, oU] [(.ref w_DOUBLE)])) _
      refine XS.astoreN X22.here hx rfl (hb hby at_12) rfl rfl (l' := #[iv p0, iv (5 : Int32), rv w_DOUBLE, oU]) rfl ?_
      show Steps p.tables e below (T22.setTop (mkF m 13 #[iv p0, iv (5 : Int32), rv w_DOUBLE, oU] [])) _
      refine XS.iloadN X22.here hx rfl (hb hby at_13) rfl ?_
      show Steps p.tables e below (T22.setTop (mkF m 14 #[iv p0, iv (5 : Int32), rv w_DOUBLE, oU] [(.int (5 : Int32))])) _
      refine XS.iconst X22.here hx rfl (hb hby at_14) ?_
      show Steps p.tables e below (T22.setTop (mkF m 15 #[iv p0, iv (5 : Int32), rv w_DOUBLE, oU] [(.int (4 : Int32)), (.int (5 : Int32))])) _
      refine XS.icmpNo X22.here hx rfl (hb hby at_15) rfl (feq (by decide : ¬ ((5 : Int32) = (4 : Int32)))).1 ?_
      show Steps p.tables e below (T22.setTop (mkF m 18 #[iv p0, iv (5 : Int32), rv w_DOUBLE, oU] [])) _
      refine XS.iloadN X22.here hx rfl (hb hby at_18) rfl ?_
      show Steps p.tables e below (T22.setTop (mkF m 19 #[iv p0, iv (5 : Int32), rv w_DOUBLE, oU] [(.int (5 : Int32))])) _
      refine XS.iconst X22.here hx rfl (hb hby at_19) ?_
      show Steps p.tables e below (T22.setTop (mkF m 20 #[iv p0, iv (5 : Int32), rv w_DOUBLE, oU] [(.int (5 : Int32)), (.int (5 : Int32))])) _
      refine XS.icmpNo X22.here hx rfl (hb hby at_20) rfl (teq (by decide : (5 : Int32) = (5 : Int32))).2 ?_
      show Steps p.tables e below (T22.setTop (mkF m 23 #[iv p0, iv (5 : Int32), rv w_DOUBLE, oU] [])) _
      refine XS.iconst X22.here hx rfl (hb hby at_23) ?_
      show Steps p.tables e below (T22.setTop (mkF m 24 #[iv p0, iv (5 : Int32), rv w_DOUBLE, oU] [(.int (1 : Int32))])) _
      refine XS.goto X22.here hx rfl (pc0 := 24) (pc' := 28) rfl (hb hby at_24) (by decide) (by decide) ?_
      show Steps p.tables e below (T22.setTop (mkF m 28 #[iv p0, iv (5 : Int32), rv w_DOUBLE, oU] [(.int (1 : Int32))])) _
      refine XS.istoreN X22.here hx rfl (hb hby at_28) rfl (l' := #[iv p0, iv (5 : Int32), rv w_DOUBLE, iv (1 : Int32)]) rfl ?_
      show Steps p.tables e below (T22.setTop (mkF m 29 #[iv p0, iv (5 : Int32), rv w_DOUBLE, iv (1 : Int32)] [])) _
      refine XS.aloadN X22.here hx rfl (hb hby at_29) rfl rfl ?_
      show Steps p.tables e below (T22.setTop (mkF m 30 #[iv p0, iv (5 : Int32), rv w_DOUBLE, iv (1 : Int32)] [(.ref w_DOUBLE)])) _
      exact k
    refine own_cc (own_callV X22 hx hZ (y := (⟨"com/example/tidesheet/tidesheet/io/NetcdfType", "isReal", "()Z"⟩ : MethodName)) (z := (⟨"com/example/tidesheet/tidesheet/io/NetcdfType", "isReal", "()Z"⟩ : MethodName)) hown (hw _ (List.mem_of_getElem? (i := 8) rfl)) (hw _ (List.mem_of_getElem? (i := 9) rfl)) (notFace_of_selects (args := #[]) (mvT hZ (hw _ (List.mem_of_getElem? (i := 11) rfl)))) (hw _ (List.mem_of_getElem? (i := 11) rfl)) (hw _ (List.mem_of_getElem? (i := 10) rfl)) (hw _ (List.mem_of_getElem? (i := 6) rfl)) (hw _ (List.mem_of_getElem? (i := 12) rfl)) (by decide) (rm2_2 l Z a0 hw [] w_FLOAT w_DOUBLE h0 n0 Z0 OZ S_FLOAT S_DOUBLE ne_w_DOUBLE_w_FLOAT) e22 0 (by decide) (by decide) (by decide) (by decide) rfl (by rw [hml]; rfl) w_DOUBLE E_w_DOUBLE [] [] rfl (lenOf pd_1 rfl) rfl (by show 2 * 0 + _ ≤ _; exact Nat.le_of_eq rfl) (hb hby at_30)) fun T24 L24 v24 X24 hQ24 => ?_
    obtain ⟨rfl, N24, e24⟩ := hQ24
    replace N0 := Fr.app N0 N24
    show own_Go p e below _ (T24.setTop (mkF m 33 #[iv p0, iv (5 : Int32), rv w_DOUBLE, iv (1 : Int32)] [(.int (1 : Int32))]))
    refine own_by (B := T24.setTop (mkF m 42 #[iv p0, iv (5 : Int32), rv w_DOUBLE, iv (1 : Int32)] [(.int (1 : Int32))])) (fun t k => ?_) ?_
    · show Steps p.tables e below (T24.setTop (mkF m 33 #[iv p0, iv (5 : Int32), rv w_DOUBLE, iv (1 : Int32)] [(.int (1 : Int32))])) _
      refine XS.iloadN X24.here hx rfl (hb hby at_33) rfl ?_
      show Steps p.tables e below (T24.setTop (mkF m 34 #[iv p0, iv (5 : Int32), rv w_DOUBLE, iv (1 : Int32)] [(.int (1 : Int32)), (.int (1 : Int32))])) _
      refine XS.icmpNo X24.here hx rfl (hb hby at_34) rfl (teq (by decide : (1 : Int32) = (1 : Int32))).2 ?_
      show Steps p.tables e below (T24.setTop (mkF m 37 #[iv p0, iv (5 : Int32), rv w_DOUBLE, iv (1 : Int32)] [])) _
      refine XS.iconst X24.here hx rfl (hb hby at_37) ?_
      show Steps p.tables e below (T24.setTop (mkF m 38 #[iv p0, iv (5 : Int32), rv w_DOUBLE, iv (1 : Int32)] [(.int (1 : Int32))])) _
      refine XS.goto X24.here hx rfl (pc0 := 38) (pc' := 42) rfl (hb hby at_38) (by decide) (by decide) ?_
      show Steps p.tables e below (T24.setTop (mkF m 42 #[iv p0, iv (5 : Int32), rv w_DOUBLE, iv (1 : Int32)] [(.int (1 : Int32))])) _
      exact k
    exact own_retN X24 Bd.notSynchronized hx (t := .boolean) Bd.returns (by simp) (hb hby at_42) (by
        rw [show T24.heap = h0 from e24]
        exact ⟨rfl, N0⟩) (by decide) (by decide)
  · simp only [hk]
    show own_Go p e below _ (s₁.setTop (mkF m 9 #[iv p0, iv (6 : Int32), oU, oU] [(.int (6 : Int32))]))
    refine own_cc (own_callS X0 hx hZ (y := (⟨"com/example/tidesheet/tidesheet/io/NetcdfTypeIsRealPinLaw", "pick", "(I)Lcom/example/tidesheet/tidesheet/io/NetcdfType;"⟩ : MethodName)) hown (hw _ (List.mem_of_getElem? (i := 1) rfl)) (hw _ (List.mem_of_getElem? (i := 2) rfl)) (hw _ (List.mem_of_getElem? (i := 3) rfl)) (hw _ (List.mem_of_getElem? (i := 4) rfl)) (by decide) (rm1_6 l Z a0 hw [] w_UBYTE h0 n0 Z0 OZ S_UBYTE) e0 0 (by decide) (by decide) (by decide) (by decide) rfl (by rw [hml]; rfl) [(.int (6 : Int32))] [] rfl (lenOf pd_0 rfl) rfl (by show 2 * 0 + _ ≤ _; exact Nat.le_of_eq rfl) (hb hby at_9)) fun T26 L26 v26 X26 hQ26 => ?_
    obtain ⟨rfl, N26, e26⟩ := hQ26
    replace N0 := Fr.app N0 N26
    show own_Go p e below _ (T26.setTop (mkF m 12 #[iv p0, iv (6 : Int32), oU, oU] [(.ref w_UBYTE)]))
    refine own_by (B := T26.setTop (mkF m 30 #[iv p0, iv (6 : Int32), rv w_UBYTE, iv (0 : Int32)] [(.ref w_UBYTE)])) (fun t k => ?_) ?_
    · show Steps p.tables e below (T26.setTop (mkF m 12 #[iv p0, iv (6 : Int32), oU, oU] [(.ref w_UBYTE)])) _
      refine XS.astoreN X26.here hx rfl (hb hby at_12) rfl rfl (l' := #[iv p0, iv (6 : Int32), rv w_UBYTE, oU]) rfl ?_
      show Steps p.tables e below (T26.setTop (mkF m 13 #[iv p0, iv (6 : Int32), rv w_UBYTE, oU] [])) _
      refine XS.iloadN X26.here hx rfl (hb hby at_13) rfl ?_
      show Steps p.tables e below (T26.setTop (mkF m 14 #[iv p0, iv (6 : Int32), rv w_UBYTE, oU] [(.int (6 : Int32))])) _
      refine XS.iconst X26.here hx rfl (hb hby at_14) ?_
      show Steps p.tables e below (T26.setTop (mkF m 15 #[iv p0, iv (6 : Int32), rv w_UBYTE, oU] [(.int (4 : Int32)), (.int (6 : Int32))])) _
      refine XS.icmpNo X26.here hx rfl (hb hby at_15) rfl (feq (by decide : ¬ ((6 : Int32) = (4 : Int32)))).1 ?_
      show Steps p.tables e below (T26.setTop (mkF m 18 #[iv p0, iv (6 : Int32), rv w_UBYTE, oU] [])) _
      refine XS.iloadN X26.here hx rfl (hb hby at_18) rfl ?_
      show Steps p.tables e below (T26.setTop (mkF m 19 #[iv p0, iv (6 : Int32), rv w_UBYTE, oU] [(.int (6 : Int32))])) _
      refine XS.iconst X26.here hx rfl (hb hby at_19) ?_
      show Steps p.tables e below (T26.setTop (mkF m 20 #[iv p0, iv (6 : Int32), rv w_UBYTE, oU] [(.int (5 : Int32)), (.int (6 : Int32))])) _
      refine XS.icmpYes X26.here hx rfl (pc0 := 20) (pc' := 27) rfl (hb hby at_20) rfl (feq (by decide : ¬ ((6 : Int32) = (5 : Int32)))).2 (by decide) (by decide) ?_
      show Steps p.tables e below (T26.setTop (mkF m 27 #[iv p0, iv (6 : Int32), rv w_UBYTE, oU] [])) _
      refine XS.iconst X26.here hx rfl (hb hby at_27) ?_
      show Steps p.tables e below (T26.setTop (mkF m 28 #[iv p0, iv (6 : Int32), rv w_UBYTE, oU] [(.int (0 : Int32))])) _
      refine XS.istoreN X26.here hx rfl (hb hby at_28) rfl (l' := #[iv p0, iv (6 : Int32), rv w_UBYTE, iv (0 : Int32)]) rfl ?_
      show Steps p.tables e below (T26.setTop (mkF m 29 #[iv p0, iv (6 : Int32), rv w_UBYTE, iv (0 : Int32)] [])) _
      refine XS.aloadN X26.here hx rfl (hb hby at_29) rfl rfl ?_
      show Steps p.tables e below (T26.setTop (mkF m 30 #[iv p0, iv (6 : Int32), rv w_UBYTE, iv (0 : Int32)] [(.ref w_UBYTE)])) _
      exact k
    refine own_cc (own_callV X26 hx hZ (y := (⟨"com/example/tidesheet/tidesheet/io/NetcdfType", "isReal", "()Z"⟩ : MethodName)) (z := (⟨"com/example/tidesheet/tidesheet/io/NetcdfType", "isReal", "()Z"⟩ : MethodName)) hown (hw _ (List.mem_of_getElem? (i := 8) rfl)) (hw _ (List.mem_of_getElem? (i := 9) rfl)) (notFace_of_selects (args := #[]) (mvT hZ (hw _ (List.mem_of_getElem? (i := 11) rfl)))) (hw _ (List.mem_of_getElem? (i := 11) rfl)) (hw _ (List.mem_of_getElem? (i := 10) rfl)) (hw _ (List.mem_of_getElem? (i := 6) rfl)) (hw _ (List.mem_of_getElem? (i := 12) rfl)) (by decide) (rm2_3 l Z a0 hw [] w_UBYTE w_FLOAT w_DOUBLE h0 n0 Z0 OZ S_FLOAT S_DOUBLE ne_w_UBYTE_w_FLOAT ne_w_UBYTE_w_DOUBLE) e26 0 (by decide) (by decide) (by decide) (by decide) rfl (by rw [hml]; rfl) w_UBYTE E_w_UBYTE [] [] rfl (lenOf pd_1 rfl) rfl (by show 2 * 0 + _ ≤ _; exact Nat.le_of_eq rfl) (hb hby at_30)) fun T28 L28 v28 X28 hQ28 => ?_
    obtain ⟨rfl, N28, e28⟩ := hQ28
    replace N0 := Fr.app N0 N28
    show own_Go p e below _ (T28.setTop (mkF m 33 #[iv p0, iv (6 : Int32), rv w_UBYTE, iv (0 : Int32)] [(.int (0 : Int32))]))
    refine own_by (B := T28.setTop (mkF m 42 #[iv p0, iv (6 : Int32), rv w_UBYTE, iv (0 : Int32)] [(.int (1 : Int32))])) (fun t k => ?_) ?_
    · show Steps p.tables e below (T28.setTop (mkF m 33 #[iv p0, iv (6 : Int32), rv w_UBYTE, iv (0 : Int32)] [(.int (0 : Int32))])) _
      refine XS.iloadN X28.here hx rfl (hb hby at_33) rfl ?_
      show Steps p.tables e below (T28.setTop (mkF m 34 #[iv p0, iv (6 : Int32), rv w_UBYTE, iv (0 : Int32)] [(.int (0 : Int32)), (.int (0 : Int32))])) _
      refine XS.icmpNo X28.here hx rfl (hb hby at_34) rfl (teq (by decide : (0 : Int32) = (0 : Int32))).2 ?_
      show Steps p.tables e below (T28.setTop (mkF m 37 #[iv p0, iv (6 : Int32), rv w_UBYTE, iv (0 : Int32)] [])) _
      refine XS.iconst X28.here hx rfl (hb hby at_37) ?_
      show Steps p.tables e below (T28.setTop (mkF m 38 #[iv p0, iv (6 : Int32), rv w_UBYTE, iv (0 : Int32)] [(.int (1 : Int32))])) _
      refine XS.goto X28.here hx rfl (pc0 := 38) (pc' := 42) rfl (hb hby at_38) (by decide) (by decide) ?_
      show Steps p.tables e below (T28.setTop (mkF m 42 #[iv p0, iv (6 : Int32), rv w_UBYTE, iv (0 : Int32)] [(.int (1 : Int32))])) _
      exact k
    exact own_retN X28 Bd.notSynchronized hx (t := .boolean) Bd.returns (by simp) (hb hby at_42) (by
        rw [show T28.heap = h0 from e28]
        exact ⟨rfl, N0⟩) (by decide) (by decide)
  · simp only [hk]
    show own_Go p e below _ (s₁.setTop (mkF m 9 #[iv p0, iv (7 : Int32), oU, oU] [(.int (7 : Int32))]))
    refine own_cc (own_callS X0 hx hZ (y := (⟨"com/example/tidesheet/tidesheet/io/NetcdfTypeIsRealPinLaw", "pick", "(I)Lcom/example/tidesheet/tidesheet/io/NetcdfType;"⟩ : MethodName)) hown (hw _ (List.mem_of_getElem? (i := 1) rfl)) (hw _ (List.mem_of_getElem? (i := 2) rfl)) (hw _ (List.mem_of_getElem? (i := 3) rfl)) (hw _ (List.mem_of_getElem? (i := 4) rfl)) (by decide) (rm1_7 l Z a0 hw [] w_USHORT h0 n0 Z0 OZ S_USHORT) e0 0 (by decide) (by decide) (by decide) (by decide) rfl (by rw [hml]; rfl) [(.int (7 : Int32))] [] rfl (lenOf pd_0 rfl) rfl (by show 2 * 0 + _ ≤ _; exact Nat.le_of_eq rfl) (hb hby at_9)) fun T30 L30 v30 X30 hQ30 => ?_
    obtain ⟨rfl, N30, e30⟩ := hQ30
    replace N0 := Fr.app N0 N30
    show own_Go p e below _ (T30.setTop (mkF m 12 #[iv p0, iv (7 : Int32), oU, oU] [(.ref w_USHORT)]))
    refine own_by (B := T30.setTop (mkF m 30 #[iv p0, iv (7 : Int32), rv w_USHORT, iv (0 : Int32)] [(.ref w_USHORT)])) (fun t k => ?_) ?_
    · show Steps p.tables e below (T30.setTop (mkF m 12 #[iv p0, iv (7 : Int32), oU, oU] [(.ref w_USHORT)])) _
      refine XS.astoreN X30.here hx rfl (hb hby at_12) rfl rfl (l' := #[iv p0, iv (7 : Int32), rv w_USHORT, oU]) rfl ?_
      show Steps p.tables e below (T30.setTop (mkF m 13 #[iv p0, iv (7 : Int32), rv w_USHORT, oU] [])) _
      refine XS.iloadN X30.here hx rfl (hb hby at_13) rfl ?_
      show Steps p.tables e below (T30.setTop (mkF m 14 #[iv p0, iv (7 : Int32), rv w_USHORT, oU] [(.int (7 : Int32))])) _
      refine XS.iconst X30.here hx rfl (hb hby at_14) ?_
      show Steps p.tables e below (T30.setTop (mkF m 15 #[iv p0, iv (7 : Int32), rv w_USHORT, oU] [(.int (4 : Int32)), (.int (7 : Int32))])) _
      refine XS.icmpNo X30.here hx rfl (hb hby at_15) rfl (feq (by decide : ¬ ((7 : Int32) = (4 : Int32)))).1 ?_
      show Steps p.tables e below (T30.setTop (mkF m 18 #[iv p0, iv (7 : Int32), rv w_USHORT, oU] [])) _
      refine XS.iloadN X30.here hx rfl (hb hby at_18) rfl ?_
      show Steps p.tables e below (T30.setTop (mkF m 19 #[iv p0, iv (7 : Int32), rv w_USHORT, oU] [(.int (7 : Int32))])) _
      refine XS.iconst X30.here hx rfl (hb hby at_19) ?_
      show Steps p.tables e below (T30.setTop (mkF m 20 #[iv p0, iv (7 : Int32), rv w_USHORT, oU] [(.int (5 : Int32)), (.int (7 : Int32))])) _
      refine XS.icmpYes X30.here hx rfl (pc0 := 20) (pc' := 27) rfl (hb hby at_20) rfl (feq (by decide : ¬ ((7 : Int32) = (5 : Int32)))).2 (by decide) (by decide) ?_
      show Steps p.tables e below (T30.setTop (mkF m 27 #[iv p0, iv (7 : Int32), rv w_USHORT, oU] [])) _
      refine XS.iconst X30.here hx rfl (hb hby at_27) ?_
      show Steps p.tables e below (T30.setTop (mkF m 28 #[iv p0, iv (7 : Int32), rv w_USHORT, oU] [(.int (0 : Int32))])) _
      refine XS.istoreN X30.here hx rfl (hb hby at_28) rfl (l' := #[iv p0, iv (7 : Int32), rv w_USHORT, iv (0 : Int32)]) rfl ?_
      show Steps p.tables e below (T30.setTop (mkF m 29 #[iv p0, iv (7 : Int32), rv w_USHORT, iv (0 : Int32)] [])) _
      refine XS.aloadN X30.here hx rfl (hb hby at_29) rfl rfl ?_
      show Steps p.tables e below (T30.setTop (mkF m 30 #[iv p0, iv (7 : Int32), rv w_USHORT, iv (0 : Int32)] [(.ref w_USHORT)])) _
      exact k
    refine own_cc (own_callV X30 hx hZ (y := (⟨"com/example/tidesheet/tidesheet/io/NetcdfType", "isReal", "()Z"⟩ : MethodName)) (z := (⟨"com/example/tidesheet/tidesheet/io/NetcdfType", "isReal", "()Z"⟩ : MethodName)) hown (hw _ (List.mem_of_getElem? (i := 8) rfl)) (hw _ (List.mem_of_getElem? (i := 9) rfl)) (notFace_of_selects (args := #[]) (mvT hZ (hw _ (List.mem_of_getElem? (i := 11) rfl)))) (hw _ (List.mem_of_getElem? (i := 11) rfl)) (hw _ (List.mem_of_getElem? (i := 10) rfl)) (hw _ (List.mem_of_getElem? (i := 6) rfl)) (hw _ (List.mem_of_getElem? (i := 12) rfl)) (by decide) (rm2_3 l Z a0 hw [] w_USHORT w_FLOAT w_DOUBLE h0 n0 Z0 OZ S_FLOAT S_DOUBLE ne_w_USHORT_w_FLOAT ne_w_USHORT_w_DOUBLE) e30 0 (by decide) (by decide) (by decide) (by decide) rfl (by rw [hml]; rfl) w_USHORT E_w_USHORT [] [] rfl (lenOf pd_1 rfl) rfl (by show 2 * 0 + _ ≤ _; exact Nat.le_of_eq rfl) (hb hby at_30)) fun T32 L32 v32 X32 hQ32 => ?_
    obtain ⟨rfl, N32, e32⟩ := hQ32
    replace N0 := Fr.app N0 N32
    show own_Go p e below _ (T32.setTop (mkF m 33 #[iv p0, iv (7 : Int32), rv w_USHORT, iv (0 : Int32)] [(.int (0 : Int32))]))
    refine own_by (B := T32.setTop (mkF m 42 #[iv p0, iv (7 : Int32), rv w_USHORT, iv (0 : Int32)] [(.int (1 : Int32))])) (fun t k => ?_) ?_
    · show Steps p.tables e below (T32.setTop (mkF m 33 #[iv p0, iv (7 : Int32), rv w_USHORT, iv (0 : Int32)] [(.int (0 : Int32))])) _
      refine XS.iloadN X32.here hx rfl (hb hby at_33) rfl ?_
      show Steps p.tables e below (T32.setTop (mkF m 34 #[iv p0, iv (7 : Int32), rv w_USHORT, iv (0 : Int32)] [(.int (0 : Int32)), (.int (0 : Int32))])) _
      refine XS.icmpNo X32.here hx rfl (hb hby at_34) rfl (teq (by decide : (0 : Int32) = (0 : Int32))).2 ?_
      show Steps p.tables e below (T32.setTop (mkF m 37 #[iv p0, iv (7 : Int32), rv w_USHORT, iv (0 : Int32)] [])) _
      refine XS.iconst X32.here hx rfl (hb hby at_37) ?_
      show Steps p.tables e below (T32.setTop (mkF m 38 #[iv p0, iv (7 : Int32), rv w_USHORT, iv (0 : Int32)] [(.int (1 : Int32))])) _
      refine XS.goto X32.here hx rfl (pc0 := 38) (pc' := 42) rfl (hb hby at_38) (by decide) (by decide) ?_
      show Steps p.tables e below (T32.setTop (mkF m 42 #[iv p0, iv (7 : Int32), rv w_USHORT, iv (0 : Int32)] [(.int (1 : Int32))])) _
      exact k
    exact own_retN X32 Bd.notSynchronized hx (t := .boolean) Bd.returns (by simp) (hb hby at_42) (by
        rw [show T32.heap = h0 from e32]
        exact ⟨rfl, N0⟩) (by decide) (by decide)
  · simp only [hk]
    show own_Go p e below _ (s₁.setTop (mkF m 9 #[iv p0, iv (8 : Int32), oU, oU] [(.int (8 : Int32))]))
    refine own_cc (own_callS X0 hx hZ (y := (⟨"com/example/tidesheet/tidesheet/io/NetcdfTypeIsRealPinLaw", "pick", "(I)Lcom/example/tidesheet/tidesheet/io/NetcdfType;"⟩ : MethodName)) hown (hw _ (List.mem_of_getElem? (i := 1) rfl)) (hw _ (List.mem_of_getElem? (i := 2) rfl)) (hw _ (List.mem_of_getElem? (i := 3) rfl)) (hw _ (List.mem_of_getElem? (i := 4) rfl)) (by decide) (rm1_8 l Z a0 hw [] w_UINT h0 n0 Z0 OZ S_UINT) e0 0 (by decide) (by decide) (by decide) (by decide) rfl (by rw [hml]; rfl) [(.int (8 : Int32))] [] rfl (lenOf pd_0 rfl) rfl (by show 2 * 0 + _ ≤ _; exact Nat.le_of_eq rfl) (hb hby at_9)) fun T34 L34 v34 X34 hQ34 => ?_
    obtain ⟨rfl, N34, e34⟩ := hQ34
    replace N0 := Fr.app N0 N34
    show own_Go p e below _ (T34.setTop (mkF m 12 #[iv p0, iv (8 : Int32), oU, oU] [(.ref w_UINT)]))
    refine own_by (B := T34.setTop (mkF m 30 #[iv p0, iv (8 : Int32), rv w_UINT, iv (0 : Int32)] [(.ref w_UINT)])) (fun t k => ?_) ?_
    · show Steps p.tables e below (T34.setTop (mkF m 12 #[iv p0, iv (8 : Int32), oU, oU] [(.ref w_UINT)])) _
      refine XS.astoreN X34.here hx rfl (hb hby at_12) rfl rfl (l' := #[iv p0, iv (8 : Int32), rv w_UINT, oU]) rfl ?_
      show Steps p.tables e below (T34.setTop (mkF m 13 #[iv p0, iv (8 : Int32), rv w_UINT, oU] [])) _
      refine XS.iloadN X34.here hx rfl (hb hby at_13) rfl ?_
      show Steps p.tables e below (T34.setTop (mkF m 14 #[iv p0, iv (8 : Int32), rv w_UINT, oU] [(.int (8 : Int32))])) _
      refine XS.iconst X34.here hx rfl (hb hby at_14) ?_
      show Steps p.tables e below (T34.setTop (mkF m 15 #[iv p0, iv (8 : Int32), rv w_UINT, oU] [(.int (4 : Int32)), (.int (8 : Int32))])) _
      refine XS.icmpNo X34.here hx rfl (hb hby at_15) rfl (feq (by decide : ¬ ((8 : Int32) = (4 : Int32)))).1 ?_
      show Steps p.tables e below (T34.setTop (mkF m 18 #[iv p0, iv (8 : Int32), rv w_UINT, oU] [])) _
      refine XS.iloadN X34.here hx rfl (hb hby at_18) rfl ?_
      show Steps p.tables e below (T34.setTop (mkF m 19 #[iv p0, iv (8 : Int32), rv w_UINT, oU] [(.int (8 : Int32))])) _
      refine XS.iconst X34.here hx rfl (hb hby at_19) ?_
      show Steps p.tables e below (T34.setTop (mkF m 20 #[iv p0, iv (8 : Int32), rv w_UINT, oU] [(.int (5 : Int32)), (.int (8 : Int32))])) _
      refine XS.icmpYes X34.here hx rfl (pc0 := 20) (pc' := 27) rfl (hb hby at_20) rfl (feq (by decide : ¬ ((8 : Int32) = (5 : Int32)))).2 (by decide) (by decide) ?_
      show Steps p.tables e below (T34.setTop (mkF m 27 #[iv p0, iv (8 : Int32), rv w_UINT, oU] [])) _
      refine XS.iconst X34.here hx rfl (hb hby at_27) ?_
      show Steps p.tables e below (T34.setTop (mkF m 28 #[iv p0, iv (8 : Int32), rv w_UINT, oU] [(.int (0 : Int32))])) _
      refine XS.istoreN X34.here hx rfl (hb hby at_28) rfl (l' := #[iv p0, iv (8 : Int32), rv w_UINT, iv (0 : Int32)]) rfl ?_
      show Steps p.tables e below (T34.setTop (mkF m 29 #[iv p0, iv (8 : Int32), rv w_UINT, iv (0 : Int32)] [])) _
      refine XS.aloadN X34.here hx rfl (hb hby at_29) rfl rfl ?_
      show Steps p.tables e below (T34.setTop (mkF m 30 #[iv p0, iv (8 : Int32), rv w_UINT, iv (0 : Int32)] [(.ref w_UINT)])) _
      exact k
    refine own_cc (own_callV X34 hx hZ (y := (⟨"com/example/tidesheet/tidesheet/io/NetcdfType", "isReal", "()Z"⟩ : MethodName)) (z := (⟨"com/example/tidesheet/tidesheet/io/NetcdfType", "isReal", "()Z"⟩ : MethodName)) hown (hw _ (List.mem_of_getElem? (i := 8) rfl)) (hw _ (List.mem_of_getElem? (i := 9) rfl)) (notFace_of_selects (args := #[]) (mvT hZ (hw _ (List.mem_of_getElem? (i := 11) rfl)))) (hw _ (List.mem_of_getElem? (i := 11) rfl)) (hw _ (List.mem_of_getElem? (i := 10) rfl)) (hw _ (List.mem_of_getElem? (i := 6) rfl)) (hw _ (List.mem_of_getElem? (i := 12) rfl)) (by decide) (rm2_3 l Z a0 hw [] w_UINT w_FLOAT w_DOUBLE h0 n0 Z0 OZ S_FLOAT S_DOUBLE ne_w_UINT_w_FLOAT ne_w_UINT_w_DOUBLE) e34 0 (by decide) (by decide) (by decide) (by decide) rfl (by rw [hml]; rfl) w_UINT E_w_UINT [] [] rfl (lenOf pd_1 rfl) rfl (by show 2 * 0 + _ ≤ _; exact Nat.le_of_eq rfl) (hb hby at_30)) fun T36 L36 v36 X36 hQ36 => ?_
    obtain ⟨rfl, N36, e36⟩ := hQ36
    replace N0 := Fr.app N0 N36
    show own_Go p e below _ (T36.setTop (mkF m 33 #[iv p0, iv (8 : Int32), rv w_UINT, iv (0 : Int32)] [(.int (0 : Int32))]))
    refine own_by (B := T36.setTop (mkF m 42 #[iv p0, iv (8 : Int32), rv w_UINT, iv (0 : Int32)] [(.int (1 : Int32))])) (fun t k => ?_) ?_
    · show Steps p.tables e below (T36.setTop (mkF m 33 #[iv p0, iv (8 : Int32), rv w_UINT, iv (0 : Int32)] [(.int (0 : Int32))])) _
      refine XS.iloadN X36.here hx rfl (hb hby at_33) rfl ?_
      show Steps p.tables e below (T36.setTop (mkF m 34 #[iv p0, iv (8 : Int32), rv w_UINT, iv (0 : Int32)] [(.int (0 : Int32)), (.int (0 : Int32))])) _
      refine XS.icmpNo X36.here hx rfl (hb hby at_34) rfl (teq (by decide : (0 : Int32) = (0 : Int32))).2 ?_
      show Steps p.tables e below (T36.setTop (mkF m 37 #[iv p0, iv (8 : Int32), rv w_UINT, iv (0 : Int32)] [])) _
      refine XS.iconst X36.here hx rfl (hb hby at_37) ?_
      show Steps p.tables e below (T36.setTop (mkF m 38 #[iv p0, iv (8 : Int32), rv w_UINT, iv (0 : Int32)] [(.int (1 : Int32))])) _
      refine XS.goto X36.here hx rfl (pc0 := 38) (pc' := 42) rfl (hb hby at_38) (by decide) (by decide) ?_
      show Steps p.tables e below (T36.setTop (mkF m 42 #[iv p0, iv (8 : Int32), rv w_UINT, iv (0 : Int32)] [(.int (1 : Int32))])) _
      exact k
    exact own_retN X36 Bd.notSynchronized hx (t := .boolean) Bd.returns (by simp) (hb hby at_42) (by
        rw [show T36.heap = h0 from e36]
        exact ⟨rfl, N0⟩) (by decide) (by decide)
  · simp only [hk]
    show own_Go p e below _ (s₁.setTop (mkF m 9 #[iv p0, iv (9 : Int32), oU, oU] [(.int (9 : Int32))]))
    refine own_cc (own_callS X0 hx hZ (y := (⟨"com/example/tidesheet/tidesheet/io/NetcdfTypeIsRealPinLaw", "pick", "(I)Lcom/example/tidesheet/tidesheet/io/NetcdfType;"⟩ : MethodName)) hown (hw _ (List.mem_of_getElem? (i := 1) rfl)) (hw _ (List.mem_of_getElem? (i := 2) rfl)) (hw _ (List.mem_of_getElem? (i := 3) rfl)) (hw _ (List.mem_of_getElem? (i := 4) rfl)) (by decide) (rm1_9 l Z a0 hw [] w_INT64 h0 n0 Z0 OZ S_INT64) e0 0 (by decide) (by decide) (by decide) (by decide) rfl (by rw [hml]; rfl) [(.int (9 : Int32))] [] rfl (lenOf pd_0 rfl) rfl (by show 2 * 0 + _ ≤ _; exact Nat.le_of_eq rfl) (hb hby at_9)) fun T38 L38 v38 X38 hQ38 => ?_
    obtain ⟨rfl, N38, e38⟩ := hQ38
    replace N0 := Fr.app N0 N38
    show own_Go p e below _ (T38.setTop (mkF m 12 #[iv p0, iv (9 : Int32), oU, oU] [(.ref w_INT64)]))
    refine own_by (B := T38.setTop (mkF m 30 #[iv p0, iv (9 : Int32), rv w_INT64, iv (0 : Int32)] [(.ref w_INT64)])) (fun t k => ?_) ?_
    · show Steps p.tables e below (T38.setTop (mkF m 12 #[iv p0, iv (9 : Int32), oU, oU] [(.ref w_INT64)])) _
      refine XS.astoreN X38.here hx rfl (hb hby at_12) rfl rfl (l' := #[iv p0, iv (9 : Int32), rv w_INT64, oU]) rfl ?_
      show Steps p.tables e below (T38.setTop (mkF m 13 #[iv p0, iv (9 : Int32), rv w_INT64, oU] [])) _
      refine XS.iloadN X38.here hx rfl (hb hby at_13) rfl ?_
      show Steps p.tables e below (T38.setTop (mkF m 14 #[iv p0, iv (9 : Int32), rv w_INT64, oU] [(.int (9 : Int32))])) _
      refine XS.iconst X38.here hx rfl (hb hby at_14) ?_
      show Steps p.tables e below (T38.setTop (mkF m 15 #[iv p0, iv (9 : Int32), rv w_INT64, oU] [(.int (4 : Int32)), (.int (9 : Int32))])) _
      refine XS.icmpNo X38.here hx rfl (hb hby at_15) rfl (feq (by decide : ¬ ((9 : Int32) = (4 : Int32)))).1 ?_
      show Steps p.tables e below (T38.setTop (mkF m 18 #[iv p0, iv (9 : Int32), rv w_INT64, oU] [])) _
      refine XS.iloadN X38.here hx rfl (hb hby at_18) rfl ?_
      show Steps p.tables e below (T38.setTop (mkF m 19 #[iv p0, iv (9 : Int32), rv w_INT64, oU] [(.int (9 : Int32))])) _
      refine XS.iconst X38.here hx rfl (hb hby at_19) ?_
      show Steps p.tables e below (T38.setTop (mkF m 20 #[iv p0, iv (9 : Int32), rv w_INT64, oU] [(.int (5 : Int32)), (.int (9 : Int32))])) _
      refine XS.icmpYes X38.here hx rfl (pc0 := 20) (pc' := 27) rfl (hb hby at_20) rfl (feq (by decide : ¬ ((9 : Int32) = (5 : Int32)))).2 (by decide) (by decide) ?_
      show Steps p.tables e below (T38.setTop (mkF m 27 #[iv p0, iv (9 : Int32), rv w_INT64, oU] [])) _
      refine XS.iconst X38.here hx rfl (hb hby at_27) ?_
      show Steps p.tables e below (T38.setTop (mkF m 28 #[iv p0, iv (9 : Int32), rv w_INT64, oU] [(.int (0 : Int32))])) _
      refine XS.istoreN X38.here hx rfl (hb hby at_28) rfl (l' := #[iv p0, iv (9 : Int32), rv w_INT64, iv (0 : Int32)]) rfl ?_
      show Steps p.tables e below (T38.setTop (mkF m 29 #[iv p0, iv (9 : Int32), rv w_INT64, iv (0 : Int32)] [])) _
      refine XS.aloadN X38.here hx rfl (hb hby at_29) rfl rfl ?_
      show Steps p.tables e below (T38.setTop (mkF m 30 #[iv p0, iv (9 : Int32), rv w_INT64, iv (0 : Int32)] [(.ref w_INT64)])) _
      exact k
    refine own_cc (own_callV X38 hx hZ (y := (⟨"com/example/tidesheet/tidesheet/io/NetcdfType", "isReal", "()Z"⟩ : MethodName)) (z := (⟨"com/example/tidesheet/tidesheet/io/NetcdfType", "isReal", "()Z"⟩ : MethodName)) hown (hw _ (List.mem_of_getElem? (i := 8) rfl)) (hw _ (List.mem_of_getElem? (i := 9) rfl)) (notFace_of_selects (args := #[]) (mvT hZ (hw _ (List.mem_of_getElem? (i := 11) rfl)))) (hw _ (List.mem_of_getElem? (i := 11) rfl)) (hw _ (List.mem_of_getElem? (i := 10) rfl)) (hw _ (List.mem_of_getElem? (i := 6) rfl)) (hw _ (List.mem_of_getElem? (i := 12) rfl)) (by decide) (rm2_3 l Z a0 hw [] w_INT64 w_FLOAT w_DOUBLE h0 n0 Z0 OZ S_FLOAT S_DOUBLE ne_w_INT64_w_FLOAT ne_w_INT64_w_DOUBLE) e38 0 (by decide) (by decide) (by decide) (by decide) rfl (by rw [hml]; rfl) w_INT64 E_w_INT64 [] [] rfl (lenOf pd_1 rfl) rfl (by show 2 * 0 + _ ≤ _; exact Nat.le_of_eq rfl) (hb hby at_30)) fun T40 L40 v40 X40 hQ40 => ?_
    obtain ⟨rfl, N40, e40⟩ := hQ40
    replace N0 := Fr.app N0 N40
    show own_Go p e below _ (T40.setTop (mkF m 33 #[iv p0, iv (9 : Int32), rv w_INT64, iv (0 : Int32)] [(.int (0 : Int32))]))
    refine own_by (B := T40.setTop (mkF m 42 #[iv p0, iv (9 : Int32), rv w_INT64, iv (0 : Int32)] [(.int (1 : Int32))])) (fun t k => ?_) ?_
    · show Steps p.tables e below (T40.setTop (mkF m 33 #[iv p0, iv (9 : Int32), rv w_INT64, iv (0 : Int32)] [(.int (0 : Int32))])) _
      refine XS.iloadN X40.here hx rfl (hb hby at_33) rfl ?_
      show Steps p.tables e below (T40.setTop (mkF m 34 #[iv p0, iv (9 : Int32), rv w_INT64, iv (0 : Int32)] [(.int (0 : Int32)), (.int (0 : Int32))])) _
      refine XS.icmpNo X40.here hx rfl (hb hby at_34) rfl (teq (by decide : (0 : Int32) = (0 : Int32))).2 ?_
      show Steps p.tables e below (T40.setTop (mkF m 37 #[iv p0, iv (9 : Int32), rv w_INT64, iv (0 : Int32)] [])) _
      refine XS.iconst X40.here hx rfl (hb hby at_37) ?_
      show Steps p.tables e below (T40.setTop (mkF m 38 #[iv p0, iv (9 : Int32), rv w_INT64, iv (0 : Int32)] [(.int (1 : Int32))])) _
      refine XS.goto X40.here hx rfl (pc0 := 38) (pc' := 42) rfl (hb hby at_38) (by decide) (by decide) ?_
      show Steps p.tables e below (T40.setTop (mkF m 42 #[iv p0, iv (9 : Int32), rv w_INT64, iv (0 : Int32)] [(.int (1 : Int32))])) _
      exact k
    exact own_retN X40 Bd.notSynchronized hx (t := .boolean) Bd.returns (by simp) (hb hby at_42) (by
        rw [show T40.heap = h0 from e40]
        exact ⟨rfl, N0⟩) (by decide) (by decide)
  · simp only [hk]
    show own_Go p e below _ (s₁.setTop (mkF m 9 #[iv p0, iv (10 : Int32), oU, oU] [(.int (10 : Int32))]))
    refine own_cc (own_callS X0 hx hZ (y := (⟨"com/example/tidesheet/tidesheet/io/NetcdfTypeIsRealPinLaw", "pick", "(I)Lcom/example/tidesheet/tidesheet/io/NetcdfType;"⟩ : MethodName)) hown (hw _ (List.mem_of_getElem? (i := 1) rfl)) (hw _ (List.mem_of_getElem? (i := 2) rfl)) (hw _ (List.mem_of_getElem? (i := 3) rfl)) (hw _ (List.mem_of_getElem? (i := 4) rfl)) (by decide) (rm1_10 l Z a0 hw [] w_UINT64 h0 n0 Z0 OZ S_UINT64) e0 0 (by decide) (by decide) (by decide) (by decide) rfl (by rw [hml]; rfl) [(.int (10 : Int32))] [] rfl (lenOf pd_0 rfl) rfl (by show 2 * 0 + _ ≤ _; exact Nat.le_of_eq rfl) (hb hby at_9)) fun T42 L42 v42 X42 hQ42 => ?_
    obtain ⟨rfl, N42, e42⟩ := hQ42
    replace N0 := Fr.app N0 N42
    show own_Go p e below _ (T42.setTop (mkF m 12 #[iv p0, iv (10 : Int32), oU, oU] [(.ref w_UINT64)]))
    refine own_by (B := T42.setTop (mkF m 30 #[iv p0, iv (10 : Int32), rv w_UINT64, iv (0 : Int32)] [(.ref w_UINT64)])) (fun t k => ?_) ?_
    · show Steps p.tables e below (T42.setTop (mkF m 12 #[iv p0, iv (10 : Int32), oU, oU] [(.ref w_UINT64)])) _
      refine XS.astoreN X42.here hx rfl (hb hby at_12) rfl rfl (l' := #[iv p0, iv (10 : Int32), rv w_UINT64, oU]) rfl ?_
      show Steps p.tables e below (T42.setTop (mkF m 13 #[iv p0, iv (10 : Int32), rv w_UINT64, oU] [])) _
      refine XS.iloadN X42.here hx rfl (hb hby at_13) rfl ?_
      show Steps p.tables e below (T42.setTop (mkF m 14 #[iv p0, iv (10 : Int32), rv w_UINT64, oU] [(.int (10 : Int32))])) _
      refine XS.iconst X42.here hx rfl (hb hby at_14) ?_
      show Steps p.tables e below (T42.setTop (mkF m 15 #[iv p0, iv (10 : Int32), rv w_UINT64, oU] [(.int (4 : Int32)), (.int (10 : Int32))])) _
      refine XS.icmpNo X42.here hx rfl (hb hby at_15) rfl (feq (by decide : ¬ ((10 : Int32) = (4 : Int32)))).1 ?_
      show Steps p.tables e below (T42.setTop (mkF m 18 #[iv p0, iv (10 : Int32), rv w_UINT64, oU] [])) _
      refine XS.iloadN X42.here hx rfl (hb hby at_18) rfl ?_
      show Steps p.tables e below (T42.setTop (mkF m 19 #[iv p0, iv (10 : Int32), rv w_UINT64, oU] [(.int (10 : Int32))])) _
      refine XS.iconst X42.here hx rfl (hb hby at_19) ?_
      show Steps p.tables e below (T42.setTop (mkF m 20 #[iv p0, iv (10 : Int32), rv w_UINT64, oU] [(.int (5 : Int32)), (.int (10 : Int32))])) _
      refine XS.icmpYes X42.here hx rfl (pc0 := 20) (pc' := 27) rfl (hb hby at_20) rfl (feq (by decide : ¬ ((10 : Int32) = (5 : Int32)))).2 (by decide) (by decide) ?_
      show Steps p.tables e below (T42.setTop (mkF m 27 #[iv p0, iv (10 : Int32), rv w_UINT64, oU] [])) _
      refine XS.iconst X42.here hx rfl (hb hby at_27) ?_
      show Steps p.tables e below (T42.setTop (mkF m 28 #[iv p0, iv (10 : Int32), rv w_UINT64, oU] [(.int (0 : Int32))])) _
      refine XS.istoreN X42.here hx rfl (hb hby at_28) rfl (l' := #[iv p0, iv (10 : Int32), rv w_UINT64, iv (0 : Int32)]) rfl ?_
      show Steps p.tables e below (T42.setTop (mkF m 29 #[iv p0, iv (10 : Int32), rv w_UINT64, iv (0 : Int32)] [])) _
      refine XS.aloadN X42.here hx rfl (hb hby at_29) rfl rfl ?_
      show Steps p.tables e below (T42.setTop (mkF m 30 #[iv p0, iv (10 : Int32), rv w_UINT64, iv (0 : Int32)] [(.ref w_UINT64)])) _
      exact k
    refine own_cc (own_callV X42 hx hZ (y := (⟨"com/example/tidesheet/tidesheet/io/NetcdfType", "isReal", "()Z"⟩ : MethodName)) (z := (⟨"com/example/tidesheet/tidesheet/io/NetcdfType", "isReal", "()Z"⟩ : MethodName)) hown (hw _ (List.mem_of_getElem? (i := 8) rfl)) (hw _ (List.mem_of_getElem? (i := 9) rfl)) (notFace_of_selects (args := #[]) (mvT hZ (hw _ (List.mem_of_getElem? (i := 11) rfl)))) (hw _ (List.mem_of_getElem? (i := 11) rfl)) (hw _ (List.mem_of_getElem? (i := 10) rfl)) (hw _ (List.mem_of_getElem? (i := 6) rfl)) (hw _ (List.mem_of_getElem? (i := 12) rfl)) (by decide) (rm2_3 l Z a0 hw [] w_UINT64 w_FLOAT w_DOUBLE h0 n0 Z0 OZ S_FLOAT S_DOUBLE ne_w_UINT64_w_FLOAT ne_w_UINT64_w_DOUBLE) e42 0 (by decide) (by decide) (by decide) (by decide) rfl (by rw [hml]; rfl) w_UINT64 E_w_UINT64 [] [] rfl (lenOf pd_1 rfl) rfl (by show 2 * 0 + _ ≤ _; exact Nat.le_of_eq rfl) (hb hby at_30)) fun T44 L44 v44 X44 hQ44 => ?_
    obtain ⟨rfl, N44, e44⟩ := hQ44
    replace N0 := Fr.app N0 N44
    show own_Go p e below _ (T44.setTop (mkF m 33 #[iv p0, iv (10 : Int32), rv w_UINT64, iv (0 : Int32)] [(.int (0 : Int32))]))
    refine own_by (B := T44.setTop (mkF m 42 #[iv p0, iv (10 : Int32), rv w_UINT64, iv (0 : Int32)] [(.int (1 : Int32))])) (fun t k => ?_) ?_
    · show Steps p.tables e below (T44.setTop (mkF m 33 #[iv p0, iv (10 : Int32), rv w_UINT64, iv (0 : Int32)] [(.int (0 : Int32))])) _
      refine XS.iloadN X44.here hx rfl (hb hby at_33) rfl ?_
      show Steps p.tables e below (T44.setTop (mkF m 34 #[iv p0, iv (10 : Int32), rv w_UINT64, iv (0 : Int32)] [(.int (0 : Int32)), (.int (0 : Int32))])) _
      refine XS.icmpNo X44.here hx rfl (hb hby at_34) rfl (teq (by decide : (0 : Int32) = (0 : Int32))).2 ?_
      show Steps p.tables e below (T44.setTop (mkF m 37 #[iv p0, iv (10 : Int32), rv w_UINT64, iv (0 : Int32)] [])) _
      refine XS.iconst X44.here hx rfl (hb hby at_37) ?_
      show Steps p.tables e below (T44.setTop (mkF m 38 #[iv p0, iv (10 : Int32), rv w_UINT64, iv (0 : Int32)] [(.int (1 : Int32))])) _
      refine XS.goto X44.here hx rfl (pc0 := 38) (pc' := 42) rfl (hb hby at_38) (by decide) (by decide) ?_
      show Steps p.tables e below (T44.setTop (mkF m 42 #[iv p0, iv (10 : Int32), rv w_UINT64, iv (0 : Int32)] [(.int (1 : Int32))])) _
      exact k
    exact own_retN X44 Bd.notSynchronized hx (t := .boolean) Bd.returns (by simp) (hb hby at_42) (by
        rw [show T44.heap = h0 from e44]
        exact ⟨rfl, N0⟩) (by decide) (by decide)

set_option maxRecDepth 65536 in
set_option maxHeartbeats 40000000 in
theorem comes_1 {Post : Tables → Env → Array Value → State → Outcome → State → Prop} (hpost : ∀ tb e args s v u, (limb_1_1.after args s (.returned v) u = true ∧ limb_1_2.after args s (.returned v) u = true ∧ True) → FrameEnd s (.returned v) u (Jvm.fieldLocs frame_1_writes args s ++ Jvm.arrayLocs frame_1_arrays args s ++ Jvm.staticLocs frame_1_statics s) 0 0 → Post tb e args s (.returned v) u) :
    ArmFor flags0 classFile x code maxLocals ret World_1 tables_1 room_1 Calls_1 rest_1 Pre_1 Post := by
  intro l hfl _ _ p e ha hc hk s m args below hf hA hF happ hP
  obtain ⟨hcalls, hrest, hpre⟩ := hP
  obtain ⟨-, -, -, hnamed, -, -, -, hat⟩ := (Spec.applies_iff hf).mp happ
  obtain ⟨hg, hn⟩ := and_e (Cond.before_iff.mp (show (Jvm.Cond.and given_1 narrow_1).before args s = true from hpre))
  obtain ⟨g0, g0'⟩ := and_e hg
  obtain ⟨w0, rfl⟩ : ∃ w0 : Value, args = #[w0] := by
    have hs : args.size = 1 := by simpa [Cond.value, given_1] using g0
    obtain ⟨L⟩ := args
    match L, hs with
    | [w0], _ => exact ⟨w0, rfl⟩
  have hw := fun d (hd : d ∈ tables_1) => atoms_spec (ws := Jvm.Cond.code x code maxLocals ret :: tables_1) hat d (List.mem_cons_of_mem _ hd)
  have hfit : Fit s := fun {y c} hc i hi => by
    obtain ⟨ha, rfl⟩ := Array.getElem?_eq_some_iff.mp hc
    have q := List.all_eq_true.mp ((Array.all_eq_true_iff_forall_mem.mp hF) _ (Array.getElem_mem ha)) i (List.mem_range.mpr hi)
    simpa [Array.getElem?_eq_getElem hi] using q
  obtain ⟨i0, ei0⟩ := is_v g0'
  obtain rfl : w0 = (.int i0) := Option.some.inj ei0
  obtain ⟨m0, m0'⟩ := and_e hn
  obtain ⟨m1, m1'⟩ := and_e m0'
  obtain ⟨m2, m2'⟩ := and_e m1'
  obtain ⟨m3, m3'⟩ := and_e m2'
  obtain ⟨m4, m4'⟩ := and_e m3'
  obtain ⟨m5, m5'⟩ := and_e m4'
  obtain ⟨m6, m6'⟩ := and_e m5'
  obtain ⟨m7, m7'⟩ := and_e m6'
  obtain ⟨m8, m8'⟩ := and_e m7'
  obtain ⟨m9, m9'⟩ := and_e m8'
  obtain ⟨m10, m10'⟩ := and_e m9'
  obtain ⟨m11, m11'⟩ := and_e m10'
  obtain ⟨m12, m12'⟩ := and_e m11'
  obtain ⟨m13, m13'⟩ := and_e m12'
  obtain ⟨m14, m14'⟩ := and_e m13'
  obtain ⟨m15, m15'⟩ := and_e m14'
  obtain ⟨m16, m16'⟩ := and_e m15'
  obtain ⟨m17, m17'⟩ := and_e m16'
  obtain ⟨m18, m18'⟩ := and_e m17'
  obtain ⟨m19, m19'⟩ := and_e m18'
  obtain ⟨m20, m20'⟩ := and_e m19'
  have m21 := m20'
  obtain ⟨w_BYTE, v_BYTE, S_BYTE, E_BYTE⟩ := own_sta m0 (hw _ (List.mem_of_getElem? (i := 6) rfl)) (hw _ (List.mem_of_getElem? (i := 7) rfl))
  have O_BYTE := own_ord v_BYTE m2
  obtain ⟨w_FLOAT, v_FLOAT, S_FLOAT, E_FLOAT⟩ := own_sta m1 (hw _ (List.mem_of_getElem? (i := 6) rfl)) (hw _ (List.mem_of_getElem? (i := 14) rfl))
  have O_FLOAT := own_ord v_FLOAT m3
  obtain ⟨w_DOUBLE, v_DOUBLE, S_DOUBLE, E_DOUBLE⟩ := own_sta m4 (hw _ (List.mem_of_getElem? (i := 6) rfl)) (hw _ (List.mem_of_getElem? (i := 16) rfl))
  have O_DOUBLE := own_ord v_DOUBLE m5
  obtain ⟨w_INT, v_INT, S_INT, E_INT⟩ := own_sta m6 (hw _ (List.mem_of_getElem? (i := 6) rfl)) (hw _ (List.mem_of_getElem? (i := 18) rfl))
  have O_INT := own_ord v_INT m7
  obtain ⟨w_USHORT, v_USHORT, S_USHORT, E_USHORT⟩ := own_sta m8 (hw _ (List.mem_of_getElem? (i := 6) rfl)) (hw _ (List.mem_of_getElem? (i := 20) rfl))
  have O_USHORT := own_ord v_USHORT m9
  obtain ⟨w_UINT, v_UINT, S_UINT, E_UINT⟩ := own_sta m10 (hw _ (List.mem_of_getElem? (i := 6) rfl)) (hw _ (List.mem_of_getElem? (i := 22) rfl))
  have O_UINT := own_ord v_UINT m11
  obtain ⟨w_SHORT, v_SHORT, S_SHORT, E_SHORT⟩ := own_sta m12 (hw _ (List.mem_of_getElem? (i := 6) rfl)) (hw _ (List.mem_of_getElem? (i := 24) rfl))
  have O_SHORT := own_ord v_SHORT m13
  obtain ⟨w_UINT64, v_UINT64, S_UINT64, E_UINT64⟩ := own_sta m14 (hw _ (List.mem_of_getElem? (i := 6) rfl)) (hw _ (List.mem_of_getElem? (i := 26) rfl))
  have O_UINT64 := own_ord v_UINT64 m15
  obtain ⟨w_CHAR, v_CHAR, S_CHAR, E_CHAR⟩ := own_sta m16 (hw _ (List.mem_of_getElem? (i := 6) rfl)) (hw _ (List.mem_of_getElem? (i := 28) rfl))
  have O_CHAR := own_ord v_CHAR m17
  obtain ⟨w_INT64, v_INT64, S_INT64, E_INT64⟩ := own_sta m18 (hw _ (List.mem_of_getElem? (i := 6) rfl)) (hw _ (List.mem_of_getElem? (i := 30) rfl))
  have O_INT64 := own_ord v_INT64 m19
  obtain ⟨w_UBYTE, v_UBYTE, S_UBYTE, E_UBYTE⟩ := own_sta m20 (hw _ (List.mem_of_getElem? (i := 6) rfl)) (hw _ (List.mem_of_getElem? (i := 33) rfl))
  have O_UBYTE := own_ord v_UBYTE m21
  obtain ⟨n, o, h1, h2, h3, _, L, rfl, ⟨rfl, N⟩, hq⟩ := rm0 l s _ hw tables_1 i0 w_BYTE w_CHAR w_SHORT w_INT w_FLOAT w_DOUBLE w_UBYTE w_USHORT w_UINT w_INT64 w_UINT64 s.heap s.heap.size (Nat.le_refl _) (Old.start s) S_BYTE S_CHAR S_SHORT S_INT S_FLOAT S_DOUBLE S_UBYTE S_USHORT S_UINT S_INT64 S_UINT64 E_BYTE E_CHAR E_SHORT E_INT E_FLOAT E_DOUBLE E_UBYTE E_USHORT E_UINT E_INT64 E_UINT64 (Fld.ne O_BYTE O_FLOAT (by decide)) (Fld.ne O_CHAR O_FLOAT (by decide)) (Fld.ne O_SHORT O_FLOAT (by decide)) (Fld.ne O_INT O_FLOAT (by decide)) (Fld.ne O_DOUBLE O_FLOAT (by decide)) (Fld.ne O_UBYTE O_FLOAT (by decide)) (Fld.ne O_USHORT O_FLOAT (by decide)) (Fld.ne O_UINT O_FLOAT (by decide)) (Fld.ne O_INT64 O_FLOAT (by decide)) (Fld.ne O_UINT64 O_FLOAT (by decide)) (Fld.ne O_BYTE O_DOUBLE (by decide)) (Fld.ne O_CHAR O_DOUBLE (by decide)) (Fld.ne O_SHORT O_DOUBLE (by decide)) (Fld.ne O_INT O_DOUBLE (by decide)) (Fld.ne O_UBYTE O_DOUBLE (by decide)) (Fld.ne O_USHORT O_DOUBLE (by decide)) (Fld.ne O_UINT O_DOUBLE (by decide)) (Fld.ne O_INT64 O_DOUBLE (by decide)) (Fld.ne O_UINT64 O_DOUBLE (by decide)) p e ha hc hk s m _ below hf ((Spec.applies_iff_loose hf).mp happ).1 ⟨rfl, State.Warmed39.refl s, rfl⟩ trivial
  refine ⟨n, _, h1, h2, h3, hpost _ _ _ _ _ _ ⟨Cond.after_iff.mpr rfl, Cond.after_iff.mpr (eq_i res_at (Term.int_eval (1)) rfl), trivial⟩ ⟨hq.1, hq.2.1, (hq.2.2.sift fun y hy => Or.inr (N y hy)).mono (by decide) (by decide)⟩⟩
theorem main_1_1 : Claimed_1_1 := comes_1 fun _ _ _ _ _ _ h hF => ⟨h.1, hF⟩
theorem main_1_2 : Claimed_1_2 := comes_1 fun _ _ _ _ _ _ h hF => ⟨h.2.1, hF⟩
end Jvm.Pilot.@@N@@
namespace Jvm.Pilot.@@N@@
open Jvm Jvm.ClassFile Sem Op Lib Jvm.Free Jvm.Stand Jvm.Pilot.@@N@@.Jvm.D
/-! MADE BY PROGRAM (witnessworld.py) out of the Statement's table words and the real class files: 12 classes; the members and pool entries that the words name. The judged class is class 1, her method 2. -/
namespace start1
open Jvm.ClassFile
def u (s : String) : CpInfo := .utf8 (stringToUtf16 s)
/-- a pool by its gaps: so many unusable entries, then the entry; so many at the end -/
def gap : Nat → List CpInfo → List CpInfo
  | 0, r => r
  | n + 1, r => .unusable :: gap n r
def poolList (es : List (Nat × CpInfo)) (last : Nat) : List CpInfo := es.foldr (fun e r => gap e.1 (e.2 :: r)) (gap last [])
def pool (es : List (Nat × CpInfo)) (last : Nat) : Array CpInfo := ⟨poolList es last⟩
def fileOf (pool : Array CpInfo) (this : Nat) (attrs : Array Attribute := #[]) (ms : Array MethodInfo := #[]) (fl : Nat := 33) (sup : Nat := 0) (ifs : Array Nat := #[]) (fds : Array FieldInfo := #[]) : ClassFile where
  minorVersion := 0
  majorVersion := 65
  constantPool := pool
  accessFlags := fl
  thisClass := this
  superClass := sup
  interfaces := ifs
  fields := fds
  methods := ms
  attributes := attrs
def plain (name : String) (sup : Option ClassId) : Class where
  name := name
  kind := .ordinary
  loader := none
  accessFlags := 33
  super := sup
  interfaces := #[]
  cf := none
  fields := #[]
  methods := #[]
  instanceTypes := #[]
  staticTypes := #[]
  resolved := #[]
  callSites := []
  init := .initialized
  statics := none
  mirror := none

def pool0 : Array CpInfo := pool [(5, u "<init>"), (0, u "()V"), (1, .class_ 10), (1, u "java/lang/Object")] 113

def k0m0 : Method := { name := "<init>", desc := "()V", sig := { parameters := [], returnType := none }, accessFlags := 1, code := none }
/-- java/lang/Object -/
def k0 : Class := { plain "java/lang/Object" none with
  accessFlags := 33
  interfaces := #[]
  cf := some (fileOf pool0 8 #[] #[{ accessFlags := 1, nameIndex := 5, descriptorIndex := 6, attributes := #[] }] 33 0 #[] #[])
  fields := #[]
  methods := #[k0m0]
  instanceTypes := #[]
  staticTypes := #[]
  resolved := Array.replicate 124 none
  statics := none }

def pool1 : Array CpInfo := pool [(2, .class_ 4), (1, u "java/lang/Object"), (0, u "<init>"), (0, u "()V"), (0, .fieldref 8 9), (0, .class_ 10), (0, .nameAndType 11 12), (0, u "com/example/tidesheet/tidesheet/io/NetcdfType"), (0, u "BYTE"), (0, u "Lcom/example/tidesheet/tidesheet/io/NetcdfType;"), (0, .fieldref 8 14), (0, .nameAndType 15 12), (0, u "CHAR"), (0, .fieldref 8 17), (0, .nameAndType 18 12), (0, u "SHORT"), (0, .fieldref 8 20), (0, .nameAndType 21 12), (0, u "INT"), (0, .fieldref 8 23), (0, .nameAndType 24 12), (0, u "FLOAT"), (0, .fieldref 8 26), (0, .nameAndType 27 12), (0, u "DOUBLE"), (0, .fieldref 8 29), (0, .nameAndType 30 12), (0, u "UBYTE"), (0, .fieldref 8 32), (0, .nameAndType 33 12), (0, u "USHORT"), (0, .fieldref 8 35), (0, .nameAndType 36 12), (0, u "UINT"), (0, .fieldref 8 38), (0, .nameAndType 39 12), (0, u "INT64"), (0, .fieldref 8 41), (0, .nameAndType 42 12), (0, u "UINT64"), (0, .integer 2147483647), (0, .methodref 45 46), (0, .class_ 47), (0, .nameAndType 48 49), (0, u "com/example/tidesheet/tidesheet/io/NetcdfTypeIsRealPinLaw"), (0, u "pick"), (0, u "(I)Lcom/example/tidesheet/tidesheet/io/NetcdfType;"), (0, .methodref 8 51), (0, .nameAndType 52 53), (0, u "isReal"), (0, u "()Z"), (3, u "law"), (0, u "(I)Z")] 2

def k1m0 : Method := { name := "<init>", desc := "()V", sig := { parameters := [], returnType := none }, accessFlags := 2, code := none }
def k1c1 : Code := { maxStack := 2, maxLocals := 1, code := method_2_code, exceptionTable := #[], attributes := #[] }
def k1m1 : Method := { name := "pick", desc := "(I)Lcom/example/tidesheet/tidesheet/io/NetcdfType;", sig := { parameters := [.int], returnType := some (.object "com/example/tidesheet/tidesheet/io/NetcdfType") }, accessFlags := 10, code := some k1c1 }
def k1c2 : Code := { maxStack := 2, maxLocals := 4, code := code, exceptionTable := #[], attributes := #[] }
def k1m2 : Method := { name := "law", desc := "(I)Z", sig := { parameters := [.int], returnType := some .boolean }, accessFlags := 9, code := some k1c2 }
/-- com/example/tidesheet/tidesheet/io/NetcdfTypeIsRealPinLaw -/
def k1 : Class := { plain "com/example/tidesheet/tidesheet/io/NetcdfTypeIsRealPinLaw" (some 0) with
  accessFlags := 49
  interfaces := #[]
  cf := some (fileOf pool1 45 #[] #[{ accessFlags := 2, nameIndex := 5, descriptorIndex := 6, attributes := #[] }, { accessFlags := 10, nameIndex := 48, descriptorIndex := 49, attributes := #[] }, { accessFlags := 9, nameIndex := 57, descriptorIndex := 58, attributes := #[] }] 49 2 #[] #[])
  fields := #[]
  methods := #[k1m0, k1m1, k1m2]
  instanceTypes := #[]
  staticTypes := #[]
  resolved := Array.replicate 61 none
  statics := none }

def pool2 : Array CpInfo := pool [(1, .class_ 2), (0, u "java/lang/constant/Constable"), (0, .class_ 4), (0, u "java/lang/Object")] 6

/-- java/lang/constant/Constable -/
def k2 : Class := { plain "java/lang/constant/Constable" (some 0) with
  accessFlags := 1537
  interfaces := #[]
  cf := some (fileOf pool2 1 #[] #[] 1537 3 #[] #[])
  fields := #[]
  methods := #[]
  instanceTypes := #[]
  staticTypes := #[]
  resolved := Array.replicate 11 none
  statics := none }

def pool3 : Array CpInfo := pool [(1, .class_ 2), (0, u "java/lang/Comparable"), (0, .class_ 4), (0, u "java/lang/Object")] 7

/-- java/lang/Comparable -/
def k3 : Class := { plain "java/lang/Comparable" (some 0) with
  accessFlags := 1537
  interfaces := #[]
  cf := some (fileOf pool3 1 #[] #[] 1537 3 #[] #[])
  fields := #[]
  methods := #[]
  instanceTypes := #[]
  staticTypes := #[]
  resolved := Array.replicate 12 none
  statics := none }

def pool4 : Array CpInfo := pool [(1, .class_ 2), (0, u "java/io/Serializable"), (0, .class_ 4), (0, u "java/lang/Object")] 2

/-- java/io/Serializable -/
def k4 : Class := { plain "java/io/Serializable" (some 0) with
  accessFlags := 1537
  interfaces := #[]
  cf := some (fileOf pool4 1 #[] #[] 1537 3 #[] #[])
  fields := #[]
  methods := #[]
  instanceTypes := #[]
  staticTypes := #[]
  resolved := Array.replicate 7 none
  statics := none }

def pool5 : Array CpInfo := pool [(2, .class_ 4), (1, u "java/lang/Enum"), (0, u "name"), (0, u "Ljava/lang/String;"), (2, u "ordinal"), (0, u "I"), (1, .class_ 14), (1, u "java/lang/Object"), (4, u "hash"), (86, .class_ 108), (1, u "java/lang/Enum$EnumDesc"), (2, .class_ 112), (0, u "java/lang/constant/Constable"), (0, .class_ 114), (0, u "java/lang/Comparable"), (0, .class_ 116), (0, u "java/io/Serializable")] 87

/-- java/lang/Enum -/
def k5 : Class := { plain "java/lang/Enum" (some 0) with
  accessFlags := 1057
  interfaces := #[2, 3, 4]
  cf := some (fileOf pool5 2 #[.nestMembers #[106]] #[] 1057 12 #[111, 113, 115] #[{ accessFlags := 18, nameIndex := 5, descriptorIndex := 6, attributes := #[] }, { accessFlags := 18, nameIndex := 9, descriptorIndex := 10, attributes := #[] }, { accessFlags := 2, nameIndex := 19, descriptorIndex := 10, attributes := #[] }])
  fields := #[{ name := "name", type := (.object "java/lang/String"), accessFlags := 18, slot := 0, constantValue := 0 }, { name := "ordinal", type := .int, accessFlags := 18, slot := 1, constantValue := 0 }, { name := "hash", type := .int, accessFlags := 2, slot := 2, constantValue := 0 }]
  methods := #[]
  instanceTypes := #[(.object "java/lang/String"), .int, .int]
  staticTypes := #[]
  resolved := Array.replicate 204 none
  statics := none }

def pool6 : Array CpInfo := pool [(1, .class_ 2), (0, u "com/example/tidesheet/tidesheet/io/NetcdfType"), (2, u "BYTE"), (0, u "Lcom/example/tidesheet/tidesheet/io/NetcdfType;"), (2, u "CHAR"), (2, u "SHORT"), (2, u "INT"), (0, .fieldref 1 17), (0, .nameAndType 18 6), (0, u "FLOAT"), (0, .fieldref 1 20), (0, .nameAndType 21 6), (0, u "DOUBLE"), (2, u "UBYTE"), (2, u "USHORT"), (2, u "UINT"), (2, u "INT64"), (2, u "UINT64"), (2, u "$VALUES"), (0, u "[Lcom/example/tidesheet/tidesheet/io/NetcdfType;"), (6, .class_ 49), (1, u "java/lang/Enum"), (8, u "code"), (0, u "I"), (2, u "size"), (2, u "range"), (0, u "Lcom/example/tidesheet/tidesheet/model/DataType;"), (45, u "()Z"), (109, u "isReal")] 30

def k6c0 : Code := { maxStack := 2, maxLocals := 1, code := prog_44_method_9_code, exceptionTable := #[], attributes := #[] }
def k6m0 : Method := { name := "isReal", desc := "()Z", sig := { parameters := [], returnType := some .boolean }, accessFlags := 1, code := some k6c0 }
/-- com/example/tidesheet/tidesheet/io/NetcdfType -/
def k6 : Class := { plain "com/example/tidesheet/tidesheet/io/NetcdfType" (some 5) with
  accessFlags := 16433
  interfaces := #[]
  cf := some (fileOf pool6 1 #[] #[{ accessFlags := 1, nameIndex := 222, descriptorIndex := 112, attributes := #[] }] 16433 47 #[] #[{ accessFlags := 16409, nameIndex := 5, descriptorIndex := 6, attributes := #[] }, { accessFlags := 16409, nameIndex := 9, descriptorIndex := 6, attributes := #[] }, { accessFlags := 16409, nameIndex := 12, descriptorIndex := 6, attributes := #[] }, { accessFlags := 16409, nameIndex := 15, descriptorIndex := 6, attributes := #[] }, { accessFlags := 16409, nameIndex := 18, descriptorIndex := 6, attributes := #[] }, { accessFlags := 16409, nameIndex := 21, descriptorIndex := 6, attributes := #[] }, { accessFlags := 16409, nameIndex := 24, descriptorIndex := 6, attributes := #[] }, { accessFlags := 16409, nameIndex := 27, descriptorIndex := 6, attributes := #[] }, { accessFlags := 16409, nameIndex := 30, descriptorIndex := 6, attributes := #[] }, { accessFlags := 16409, nameIndex := 33, descriptorIndex := 6, attributes := #[] }, { accessFlags := 16409, nameIndex := 36, descriptorIndex := 6, attributes := #[] }, { accessFlags := 18, nameIndex := 58, descriptorIndex := 59, attributes := #[] }, { accessFlags := 18, nameIndex := 62, descriptorIndex := 59, attributes := #[] }, { accessFlags := 18, nameIndex := 65, descriptorIndex := 66, attributes := #[] }, { accessFlags := 4122, nameIndex := 39, descriptorIndex := 40, attributes := #[] }])
  fields := #[{ name := "BYTE", type := (.object "com/example/tidesheet/tidesheet/io/NetcdfType"), accessFlags := 16409, slot := 0, constantValue := 0 }, { name := "CHAR", type := (.object "com/example/tidesheet/tidesheet/io/NetcdfType"), accessFlags := 16409, slot := 1, constantValue := 0 }, { name := "SHORT", type := (.object "com/example/tidesheet/tidesheet/io/NetcdfType"), accessFlags := 16409, slot := 2, constantValue := 0 }, { name := "INT", type := (.object "com/example/tidesheet/tidesheet/io/NetcdfType"), accessFlags := 16409, slot := 3, constantValue := 0 }, { name := "FLOAT", type := (.object "com/example/tidesheet/tidesheet/io/NetcdfType"), accessFlags := 16409, slot := 4, constantValue := 0 }, { name := "DOUBLE", type := (.object "com/example/tidesheet/tidesheet/io/NetcdfType"), accessFlags := 16409, slot := 5, constantValue := 0 }, { name := "UBYTE", type := (.object "com/example/tidesheet/tidesheet/io/NetcdfType"), accessFlags := 16409, slot := 6, constantValue := 0 }, { name := "USHORT", type := (.object "com/example/tidesheet/tidesheet/io/NetcdfType"), accessFlags := 16409, slot := 7, constantValue := 0 }, { name := "UINT", type := (.object "com/example/tidesheet/tidesheet/io/NetcdfType"), accessFlags := 16409, slot := 8, constantValue := 0 }, { name := "INT64", type := (.object "com/example/tidesheet/tidesheet/io/NetcdfType"), accessFlags := 16409, slot := 9, constantValue := 0 }, { name := "UINT64", type := (.object "com/example/tidesheet/tidesheet/io/NetcdfType"), accessFlags := 16409, slot := 10, constantValue := 0 }, { name := "code", type := .int, accessFlags := 18, slot := 3, constantValue := 0 }, { name := "size", type := .int, accessFlags := 18, slot := 4, constantValue := 0 }, { name := "range", type := (.object "com/example/tidesheet/tidesheet/model/DataType"), accessFlags := 18, slot := 5, constantValue := 0 }, { name := "$VALUES", type := (.array (.object "com/example/tidesheet/tidesheet/io/NetcdfType")), accessFlags := 4122, slot := 11, constantValue := 0 }]
  methods := #[k6m0]
  instanceTypes := #[(.object "java/lang/String"), .int, .int, .int, .int, (.object "com/example/tidesheet/tidesheet/model/DataType")]
  staticTypes := #[(.object "com/example/tidesheet/tidesheet/io/NetcdfType"), (.object "com/example/tidesheet/tidesheet/io/NetcdfType"), (.object "com/example/tidesheet/tidesheet/io/NetcdfType"), (.object "com/example/tidesheet/tidesheet/io/NetcdfType"), (.object "com/example/tidesheet/tidesheet/io/NetcdfType"), (.object "com/example/tidesheet/tidesheet/io/NetcdfType"), (.object "com/example/tidesheet/tidesheet/io/NetcdfType"), (.object "com/example/tidesheet/tidesheet/io/NetcdfType"), (.object "com/example/tidesheet/tidesheet/io/NetcdfType"), (.object "com/example/tidesheet/tidesheet/io/NetcdfType"), (.object "com/example/tidesheet/tidesheet/io/NetcdfType"), (.array (.object "com/example/tidesheet/tidesheet/io/NetcdfType"))]
  resolved := Array.replicate 253 none
  statics := some 0 }

def pool7 : Array CpInfo := pool [(1, u "java/lang/Cloneable"), (0, .class_ 1), (0, u "java/lang/Object"), (0, .class_ 3)] 3

/-- java/lang/Cloneable -/
def k7 : Class := { plain "java/lang/Cloneable" (some 0) with
  accessFlags := 1537
  interfaces := #[]
  cf := some (fileOf pool7 2 #[] #[] 1537 4 #[] #[])
  fields := #[]
  methods := #[]
  instanceTypes := #[]
  staticTypes := #[]
  resolved := Array.replicate 8 none
  statics := none }

/-- the primitive byte -/
def k8 : Class := { plain "byte" none with kind := .primitive 'B', accessFlags := 0x411 }
/-- [B -/
def k9 : Class := { plain "[B" (some 0) with kind := .array 8 .byte, interfaces := #[7, 4], accessFlags := 1041 }

/-- the primitive int -/
def k10 : Class := { plain "int" none with kind := .primitive 'I', accessFlags := 0x411 }
/-- [I -/
def k11 : Class := { plain "[I" (some 0) with kind := .array 10 .int, interfaces := #[7, 4], accessFlags := 1041 }

def heap : Heap := #[{ cls := 6, slots := #[.ref 1, .ref 2, .ref 3, .ref 4, .ref 5, .ref 6, .ref 7, .ref 8, .ref 9, .ref 10, .ref 11, .null], vm := .statics 6 },
  { cls := 6, slots := #[.null, .int 0, .int 0, .int 0, .int 0, .null], vm := .none },
  { cls := 6, slots := #[.null, .int 1, .int 0, .int 0, .int 0, .null], vm := .none },
  { cls := 6, slots := #[.null, .int 2, .int 0, .int 0, .int 0, .null], vm := .none },
  { cls := 6, slots := #[.null, .int 3, .int 0, .int 0, .int 0, .null], vm := .none },
  { cls := 6, slots := #[.null, .int 4, .int 0, .int 0, .int 0, .null], vm := .none },
  { cls := 6, slots := #[.null, .int 5, .int 0, .int 0, .int 0, .null], vm := .none },
  { cls := 6, slots := #[.null, .int 6, .int 0, .int 0, .int 0, .null], vm := .none },
  { cls := 6, slots := #[.null, .int 7, .int 0, .int 0, .int 0, .null], vm := .none },
  { cls := 6, slots := #[.null, .int 8, .int 0, .int 0, .int 0, .null], vm := .none },
  { cls := 6, slots := #[.null, .int 9, .int 0, .int 0, .int 0, .null], vm := .none },
  { cls := 6, slots := #[.null, .int 10, .int 0, .int 0, .int 0, .null], vm := .none }]
def classes : Array Class := #[k0, k1, k2, k3, k4, k5, k6, k7, k8, k9, k10, k11]
def interned : List (Array UInt16 × Addr) := []
def slotsUsed : Nat := 78
def theMethod : MethodId := ⟨1, 2⟩
def args0 : Array Value := #[.int 5]
def aboutOver (below : List Frame) : State where
  vm := { classes := classes, interned := interned.toArray }
  heap := heap
  slotsUsed := slotsUsed
  threads := #[{ frames := .invoking theMethod args0 :: below }]
def below0 : List Frame := [.native { method := ⟨0, 0⟩, args := #[] }]
def about1 : State := aboutOver below0
def p0 : Program := .bare "" "" ""
def e0 : Env := launch0.env 0 0 0
theorem w_frames : about1.frames = Frame.invoking theMethod args0 :: below0 := rfl
set_option maxRecDepth 65536 in
theorem w_args : argsFit about1.vm theMethod args0 = true := by decide +kernel
set_option maxRecDepth 65536 in
theorem w_heap : heapFits about1 = true := by decide +kernel
set_option maxRecDepth 65536 in
theorem w_runnable : about1.curStatus? = some .runnable := by decide +kernel
set_option maxRecDepth 65536 in
theorem w_alone : about1.alone = true := by decide +kernel
set_option maxRecDepth 65536 in
theorem w_named : about1.methodNamed? x = some theMethod := by decide +kernel
set_option maxRecDepth 65536 in
theorem w_hears : about1.hears theMethod below0 = true := by decide +kernel
set_option maxRecDepth 65536 in
theorem w_ripe : about1.ripe theMethod args0 below0 = true := by decide +kernel
theorem w_running : about1.status = .running := rfl
set_option maxRecDepth 65536 in
theorem w_room : about1.hasRoom e0.platform room_1 = true :=
  launch0.hasRoom_least _ room_1 (by decide +kernel) (by decide +kernel) (by decide +kernel) (by decide +kernel) (by decide +kernel) (by decide +kernel)
theorem allAtoms_all (ts : List Jvm.Cond) (a : Array Jvm.Value) (st : Jvm.State) : (allAtoms ts).before a st = ts.all (fun c => c.before a st) := by
  induction ts with
  | nil => rfl
  | cons c t ih =>
    show (Jvm.Cond.and c (allAtoms t)).before a st = _
    rw [Jvm.Cond.before_and, ih, List.all_cons]
def words1 : List Jvm.Cond := Jvm.Cond.code x code maxLocals ret :: tables_1
/-- a 'code' word, met by the world's own term for the bytes: nothing is compared byte by byte -/
theorem code_word {y : MethodName} {bytes : ByteArray} {mx : Nat} {rt : Option FieldType} {a : Array Value} {s : State} {m : MethodId} {meth : Method} {c : Code} (h1 : s.methodNamed? y = some m) (h2 : s.vm.method? m = some meth) (h3 : meth.code = some c) (h4 : c.code = bytes)
    (h5 : (c.maxLocals == mx && c.exceptionTable.isEmpty && decide (c.maxStack ≤ mostOperands) && decide (meth.sig.returnType = rt) && !meth.locks && decide (parseMethodDescriptor y.desc = some meth.sig)) = true) : (Jvm.Cond.code y bytes mx rt).before a s = true := by
  simp only [Bool.and_eq_true, beq_iff_eq, Bool.not_eq_true', decide_eq_true_eq] at h5
  obtain ⟨⟨⟨⟨⟨g1, g2⟩, g3⟩, g4⟩, g5⟩, g6⟩ := h5
  simp [Cond.before, Cond.holds, Cond.value, h1, h2, h3, h4, g1, g2, g3, g4, g5, g6]
def isCode : Jvm.Cond → Bool
  | .code _ _ _ _ => true
  | _ => false
theorem all_split {L : List Jvm.Cond} {P : Jvm.Cond → Bool} (h1 : L.all (fun c => isCode c || P c) = true) (h2 : ∀ c ∈ L.filter isCode, P c = true) : L.all P = true := by
  refine List.all_eq_true.mpr fun c hc => ?_
  have h := List.all_eq_true.mp h1 c hc
  rcases Bool.eq_false_or_eq_true (isCode c) with hi | hi
  · exact h2 c (List.mem_filter.mpr ⟨hc, hi⟩)
  · simpa [hi] using h
set_option maxRecDepth 65536 in
theorem w_c0 : (Jvm.Cond.code x code maxLocals ret).before args0 about1 = true := code_word (m := ⟨1, 2⟩) (meth := k1m2) (c := k1c2) (by decide +kernel) rfl rfl rfl (by decide +kernel)
set_option maxRecDepth 65536 in
theorem w_c1 : (Jvm.Cond.code ({ cls := "com/example/tidesheet/tidesheet/io/NetcdfTypeIsRealPinLaw", name := "pick", desc := "(I)Lcom/example/tidesheet/tidesheet/io/NetcdfType;" } : Jvm.MethodName) method_2_code (1 : Nat) (Option.some (Jvm.ClassFile.FieldType.object "com/example/tidesheet/tidesheet/io/NetcdfType"))).before args0 about1 = true := code_word (m := ⟨1, 1⟩) (meth := k1m1) (c := k1c1) (by decide +kernel) rfl rfl rfl (by decide +kernel)
set_option maxRecDepth 65536 in
theorem w_c2 : (Jvm.Cond.code ({ cls := "com/example/tidesheet/tidesheet/io/NetcdfType", name := "isReal", desc := "()Z" } : Jvm.MethodName) prog_44_method_9_code (1 : Nat) (Option.some Jvm.ClassFile.FieldType.boolean)).before args0 about1 = true := code_word (m := ⟨6, 0⟩) (meth := k6m0) (c := k6c0) (by decide +kernel) rfl rfl rfl (by decide +kernel)
def codes1 : List Jvm.Cond := [Jvm.Cond.code x code maxLocals ret, Jvm.Cond.code ({ cls := "com/example/tidesheet/tidesheet/io/NetcdfTypeIsRealPinLaw", name := "pick", desc := "(I)Lcom/example/tidesheet/tidesheet/io/NetcdfType;" } : Jvm.MethodName) method_2_code (1 : Nat) (Option.some (Jvm.ClassFile.FieldType.object "com/example/tidesheet/tidesheet/io/NetcdfType")), Jvm.Cond.code ({ cls := "com/example/tidesheet/tidesheet/io/NetcdfType", name := "isReal", desc := "()Z" } : Jvm.MethodName) prog_44_method_9_code (1 : Nat) (Option.some Jvm.ClassFile.FieldType.boolean)]
set_option maxRecDepth 65536 in
theorem codes_eq : words1.filter isCode = codes1 := rfl
theorem w_codes : ∀ c ∈ words1.filter isCode, c.before args0 about1 = true := by
  rw [codes_eq]
  intro c hc
  simp only [codes1, List.mem_cons, List.not_mem_nil, or_false] at hc
  rcases hc with rfl | rfl | rfl
  · exact w_c0
  · exact w_c1
  · exact w_c2
set_option maxRecDepth 65536 in
theorem w_t1 : (words1.take 24).all (fun c => isCode c || c.before args0 about1) = true := by decide +kernel
set_option maxRecDepth 65536 in
theorem w_t2 : (words1.drop 24).all (fun c => isCode c || c.before args0 about1) = true := by decide +kernel
theorem w_tables : (allAtoms (Jvm.Cond.code x code maxLocals ret :: tables_1)).before args0 about1 = true := by
  rw [allAtoms_all]
  show words1.all (fun c => c.before args0 about1) = true
  refine all_split ?_ w_codes
  rw [← List.take_append_drop 24 words1, List.all_append, w_t1, w_t2]
  rfl
set_option maxRecDepth 65536 in
theorem w_case : (Jvm.Cond.and given_1 narrow_1).before args0 about1 = true := by decide +kernel
theorem w_applies : (headSpec (Jvm.Cond.code x code maxLocals ret :: tables_1) room_1).applies x e0.platform about1 = true :=
  (Spec.applies_iff w_frames).mpr ⟨w_running, w_runnable, w_alone, w_named, w_hears, w_ripe, w_room, w_tables⟩
theorem atStart : AtStart classFile x code maxLocals ret World_1 tables_1 room_1 Calls_1 rest_1 Pre_1 launch0 p0 e0 about1 theMethod args0 below0 :=
  ⟨lists_1, trivial, launch0.admits_env _ _ _, launch0.least_env, fairChoices_fair.cas, fairChoices_fair.clock, w_frames, w_args, w_heap, w_applies, trivial, trivial, w_case⟩
end start1
theorem witness_1 : WitnessClaimed_1 := ⟨start1.p0, start1.e0, start1.about1, start1.theMethod, start1.args0, start1.below0, start1.atStart⟩
end Jvm.Pilot.@@N@@
