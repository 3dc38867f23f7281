import JvmDerived
import JvmDerived.Pilot.@@N@@Statement
import JvmDerived.Pilot.@@N@@Code
set_option linter.unusedVariables false
set_option linter.unusedSimpArgs false
namespace Jvm.Pilot.@@N@@
open Jvm Jvm.ClassFile Sem Op Lib Jvm.Free Jvm.Stand Jvm.LawKit Jvm.RoadKit Bundle Jvm.Pilot.@@N@@.Jvm.D
section OwnKit
abbrev oU : Slot := .unset
abbrev oS : Slot := .second
abbrev oJ (x : Int64) : Slot := .val (.long x)
variable {p : Program} {l : Launch} {e : Env} {R : Room} {s : State} {m : MethodId} {args : Array Value} {below : List Frame} {meth : Method} {c : Code} {T A B : State} {locs : List Loc} {cells slots : Nat} {G : State → Outcome → Prop} {Q : Option Value → Heap → List Loc → Prop} {C S : Nat} {pc : Nat} {Ls : Array Slot} {rest : List Value}
/-- from A the run ends, and what it leaves is G -/
def own_Go (p : Program) (e : Env) (below : List Frame) (G : State → Outcome → Prop) (A : State) : Prop := ∃ u o, Steps p.tables e below A u ∧ u.status = .running ∧ Ended u below o ∧ G u o
def own_Post (s : State) (Q : Option Value → Heap → List Loc → Prop) (C S : Nat) : State → Outcome → Prop := fun u o => ∃ v L, o = .returned v ∧ Q v u.heap L ∧ FrameEnd s o u L C S
def own_PostW (s : State) (Q : Option Value → Heap → List Loc → Prop) (C S : Nat) : State → Outcome → Prop := fun u o => ∃ v L, o = .returned v ∧ Q v u.heap L ∧ ReturnedEndW s o u L C S
theorem own_by (k : ∀ t, Steps p.tables e below B t → Steps p.tables e below A t) (h : own_Go p e below G B) : own_Go p e below G A := by
  obtain ⟨u, o, h1, h2⟩ := h
  exact ⟨u, o, k _ h1, h2⟩
theorem own_tr (k : Steps p.tables e below A B) (h : own_Go p e below G B) : own_Go p e below G A := by
  obtain ⟨u, o, h1, h2⟩ := h
  exact ⟨u, o, k.trans h1, h2⟩
theorem own_retI (X : Stand p l e R s m args below meth c T locs cells slots) (hlk : meth.locks = false) (hx : p.tables.exec = Jvm.exec) (hret : meth.sig.returnType = some .int) {z : Int32} (hd : decode c.code pc = .ok (.ireturn, 1)) (hq : Q (some (.int z)) T.heap locs) (hC : cells ≤ C) (hS : slots ≤ S) :
    own_Go p e below (own_Post s Q C S) (T.setTop (mkF m pc Ls (.int z :: rest))) := by
  obtain ⟨fs, hr, hrun, hended, hW, hsame⟩ := X.leave (v := some (.int z)) (fun h => by rw [hret] at h; cases h) hlk
  have hm' : T.vm.method? m = some meth := X.method'
  have hn : narrow .int (.int z) = .int z := rfl
  refine ⟨_, _, ?_, hrun, hended, _, _, rfl, hq, ⟨_, rfl⟩, hW, hsame.mono hC hS⟩
  show Steps p.tables e below (T.setTop { method := m, pc := pc, locals := Ls, stack := _ :: rest, locked := none }) _
  jvm_step X.here [X.here.top, hx, hd, hm', hret, hn]
  first | (intro acts; rw [hr _ acts rfl rfl rfl]) | rw [hr _ _ rfl rfl rfl]
  exact Steps.refl _
theorem own_retN (X : Stand p l e R s m args below meth c T locs cells slots) (hlk : meth.locks = false) (hx : p.tables.exec = Jvm.exec) {t : FieldType} (hret : meth.sig.returnType = some t) (ht : t = .boolean ∨ t = .byte ∨ t = .char ∨ t = .short) {z : Int32} (hd : decode c.code pc = .ok (.ireturn, 1)) (hq : Q (some (.int (nar t z))) T.heap locs) (hC : cells ≤ C) (hS : slots ≤ S) :
    own_Go p e below (own_Post s Q C S) (T.setTop (mkF m pc Ls (.int z :: rest))) := by
  obtain ⟨fs, hr, hrun, hended, hW, hsame⟩ := X.leave (v := some (.int (nar t z))) (fun h => by rw [hret] at h; cases h) hlk
  exact ⟨_, _, retN X hx hret ht hd hr, hrun, hended, _, _, rfl, hq, ⟨_, rfl⟩, hW, hsame.mono hC hS⟩
theorem own_retNW {vm₁ : Vm} (X : Stand p l e R (s.setVm vm₁) m args below meth c T locs cells slots) (hlk : meth.locks = false) (hx : p.tables.exec = Jvm.exec) {t : FieldType} (hret : meth.sig.returnType = some t) (ht : t = .boolean ∨ t = .byte ∨ t = .char ∨ t = .short) {z : Int32} (hd : decode c.code pc = .ok (.ireturn, 1)) {n : Nat} (hSi : s.Since vm₁ n) (hn : n ≤ T.heap.size) (hq : Q (some (.int (nar t z))) T.heap locs) (hC : cells ≤ C) (hS : slots ≤ S) :
    own_Go p e below (own_PostW s Q C S) (T.setTop (mkF m pc Ls (.int z :: rest))) := by
  obtain ⟨fs, hr, hrun, hended, h1, h2, h3, h4⟩ := X.leaveW hSi hn (v := some (.int (nar t z))) (fun h => by rw [hret] at h; cases h) hlk
  exact ⟨_, _, retN X hx hret ht hd hr, hrun, hended, _, _, rfl, hq, h1, h2, h3, h4.mono hC hS⟩
theorem own_retL (X : Stand p l e R s m args below meth c T locs cells slots) (hlk : meth.locks = false) (hx : p.tables.exec = Jvm.exec) (hret : meth.sig.returnType = some .long) {z : Int64} (hd : decode c.code pc = .ok (.lreturn, 1)) (hq : Q (some (.long z)) T.heap locs) (hC : cells ≤ C) (hS : slots ≤ S) :
    own_Go p e below (own_Post s Q C S) (T.setTop (mkF m pc Ls [.long z])) := by
  obtain ⟨fs, hr, hrun, hended, hW, hsame⟩ := X.leave (v := some (.long z)) (fun h => by rw [hret] at h; cases h) hlk
  exact ⟨_, _, retOut X hx (t := .long) (i := .lreturn) hret rfl (Or.inr (Or.inl ⟨rfl, rfl, _, rfl⟩)) hd hr, hrun, hended, _, _, rfl, hq, ⟨_, rfl⟩, hW, hsame.mono hC hS⟩
theorem own_retR (X : Stand p l e R s m args below meth c T locs cells slots) (hlk : meth.locks = false) (hx : p.tables.exec = Jvm.exec) {t : FieldType} (hret : meth.sig.returnType = some t) {w : Value} (ht : t.isReference = true) (hn : narrow t w = w) (hw : w.isRef = true) (hd : decode c.code pc = .ok (.areturn, 1)) (hq : Q (some w) T.heap locs) (hC : cells ≤ C) (hS : slots ≤ S) :
    own_Go p e below (own_Post s Q C S) (T.setTop (mkF m pc Ls (w :: rest))) := by
  obtain ⟨fs, hr, hrun, hended, hW, hsame⟩ := X.leave (v := some w) (fun h => by rw [hret] at h; cases h) hlk
  exact ⟨_, _, retOut X hx (t := t) (i := .areturn) hret hn (Or.inr (Or.inr (Or.inr (Or.inr ⟨rfl, ht, hw⟩)))) hd hr, hrun, hended, _, _, rfl, hq, ⟨_, rfl⟩, hW, hsame.mono hC hS⟩
theorem own_retV (X : Stand p l e R s m args below meth c T locs cells slots) (hlk : meth.locks = false) (hx : p.tables.exec = Jvm.exec) (hret : meth.sig.returnType = none) (hd : decode c.code pc = .ok (.return_, 1)) (hq : Q none T.heap locs) (hC : cells ≤ C) (hS : slots ≤ S) :
    own_Go p e below (own_Post s Q C S) (T.setTop (mkF m pc Ls [])) := by
  obtain ⟨fs, hr, hrun, hended, hW, hsame⟩ := X.leave (v := none) (fun _ => rfl) hlk
  exact ⟨_, _, X.returnOut hx hret hd hr, hrun, hended, _, _, rfl, hq, ⟨_, rfl⟩, hW, hsame.mono hC hS⟩
theorem own_nev {Z : State} {h : Heap} {a b : Addr} {C : String} {a0 : Array Value} {n : Nat} {k : ClassId} {ty : FieldType} {z : Int32} {vs : List Value} {dv : Value} (E : Exa Z h a C) (wi : (Jvm.Cond.instantiable C n).before a0 Z = true) (F : Arv Z h b k ty z vs dv) : a ≠ b := by
  obtain ⟨c, A, -⟩ := F
  exact ne_arr E wi A
theorem own_selp {args' : Array Value} {y : MethodName} {n : Nat} (hins : (Jvm.Cond.instantiable y.cls n).before args' s = true) (hpriv : (Jvm.Cond.privateMethod y).before args' s = true) (hinst : (Jvm.Cond.instanceMethod y).before args' s = true) (hy : y.cls ≠ "java/lang/invoke/MethodHandle" ∧ y.cls ≠ "java/lang/invoke/VarHandle") : (Jvm.Cond.selects y.cls y y).before args' s = true := by
  obtain ⟨c, k, hc, hk, -, hniab, -, -⟩ := Cond.instantiable_spec hins
  exact selects_self_of_private hc hk (Bool.or_eq_false_iff.mp hniab).1 (Cond.privateMethod_at hpriv) hinst hy
theorem own_callS (X : Stand p l e R s m args below meth c T locs cells slots) (hx : p.tables.exec = Jvm.exec) {Z : State} {a0 : Array Value} {h : Heap} (hZ : Z.Warmed39 s.vm) {own : String} {index : Nat} {y : MethodName} (hown : s.vm.findClass own = some m.cls) {bytes : ByteArray} {maxL : Nat} {ret : Option FieldType} {rm : Room} {as' : Array Value} {Q : Option Value → Heap → List Loc → Prop} (w1 : (Jvm.Cond.methodLink own index y).before a0 Z = true) (w2 : (Jvm.Cond.static y).before a0 Z = true) (w3 : (Jvm.Cond.initialized y.cls).before a0 Z = true) (w4 : (Jvm.Cond.code y bytes maxL ret).before a0 Z = true) (hy : y.cls ≠ "java/lang/invoke/MethodHandle" ∧ y.cls ≠ "java/lang/invoke/VarHandle")
    (hM : MetFree l y (head1 [Jvm.Cond.code y bytes maxL ret] rm) (fun a U => a = as' ∧ Z.Warmed39 U.vm ∧ U.heap = h) (fun _ _ _ _ _ => True) (fun _ U o U' => ∃ v L, o = .returned v ∧ Q v U'.heap L ∧ FrameEnd U o U' L rm.cells rm.slots)) (eT : T.heap = h) (W : Nat) (hf : rm.frames + 1 ≤ R.frames) (hl : W + (maxL + 11) + rm.locals ≤ R.locals) (hc : cells + rm.cells ≤ R.cells) (hs : slots + rm.slots ≤ R.slots) {g : JFrame} (hg : g.method = m) (hsize : g.locals.size = c.maxLocals) (argsL rest : List Value) (ha : argsL.toArray = as') (hlen : ∀ sig, parseMethodDescriptor y.desc = some sig → argsL.length = sig.parameters.length) (hstack : g.stack = argsL.reverse ++ rest) (hW : 2 * g.monitorRoom + (rest.map fun v => v.category).sum ≤ W) (hd : decode c.code g.pc = .ok (.invokestatic index, 3)) :
    ∃ (T' : State) (L : List Loc) (v : Option Value), Stand p l e R s m args below meth c T' (locs ++ L) (cells + rm.cells) (slots + rm.slots) ∧ Q v T'.heap L ∧ ∀ t, Steps p.tables e below (T'.setTop { g with pc := g.pc + 3, stack := v.toList ++ rest }) t → Steps p.tables e below (T.setTop g) t := by
  obtain ⟨v, _, ⟨T', L', k', n'⟩, -, X', ⟨L, hQ, h2, h3, h4⟩, st⟩ := Jvm.LawKit.callS X hx (y := y) hown (mvT hZ w1) (mvT hZ w2) (mvT hZ w3) (mvT hZ w4) hy (backOf (W := W) hM hZ w4 w3 hf hl) (g := g) hg hsize (argsL := argsL) (rest := rest) hlen hstack hW hd (fun _ _ => ⟨ha, eT, hc, hs⟩)
  dsimp only [Pt.U, Pt.locs, Pt.cells, Pt.slots] at X' h2 h3 h4 st hQ
  subst h2 h3 h4
  exact ⟨T', L, v, X', hQ, st⟩
theorem own_callI (X : Stand p l e R s m args below meth c T locs cells slots) (hx : p.tables.exec = Jvm.exec) {Z : State} {a0 : Array Value} {h : Heap} (hZ : Z.Warmed39 s.vm) {own : String} {index : Nat} {y : MethodName} (hy1 : y.name = "<init>") (hown : s.vm.findClass own = some m.cls) {bytes : ByteArray} {maxL : Nat} {rm : Room} {as' : Array Value} {Q : Option Value → Heap → List Loc → Prop} (w1 : (Jvm.Cond.methodLink own index y).before a0 Z = true) (w2 : (Jvm.Cond.instanceMethod y).before a0 Z = true) (w3 : (Jvm.Cond.initialized y.cls).before a0 Z = true) (w4 : (Jvm.Cond.code y bytes maxL none).before a0 Z = true) (hy : y.cls ≠ "java/lang/invoke/MethodHandle" ∧ y.cls ≠ "java/lang/invoke/VarHandle")
    (hM : MetFree l y (head1 [Jvm.Cond.code y bytes maxL none] rm) (fun a U => a = as' ∧ Z.Warmed39 U.vm ∧ U.heap = h) (fun _ _ _ _ _ => True) (fun _ U o U' => ∃ v L, o = .returned v ∧ Q v U'.heap L ∧ FrameEnd U o U' L rm.cells rm.slots)) (eT : T.heap = h) (W : Nat) (hf : rm.frames + 1 ≤ R.frames) (hl : W + (maxL + 11) + rm.locals ≤ R.locals) (hc : cells + rm.cells ≤ R.cells) (hs : slots + rm.slots ≤ R.slots) {g : JFrame} (hg : g.method = m) (hsize : g.locals.size = c.maxLocals) (a : Addr) (argsL rest : List Value) (ha : (.ref a :: argsL).toArray = as') (hlen : ∀ sig, parseMethodDescriptor y.desc = some sig → argsL.length = sig.parameters.length) (hstack : g.stack = argsL.reverse ++ .ref a :: rest) (hW : 2 * g.monitorRoom + (rest.map fun v => v.category).sum ≤ W) (hd : decode c.code g.pc = .ok (.invokespecial index, 3)) :
    ∃ (T' : State) (L : List Loc) (v : Option Value), Stand p l e R s m args below meth c T' (locs ++ L) (cells + rm.cells) (slots + rm.slots) ∧ Q v T'.heap L ∧ ∀ t, Steps p.tables e below (T'.setTop { g with pc := g.pc + 3, stack := v.toList ++ rest }) t → Steps p.tables e below (T.setTop g) t := by
  obtain ⟨v, _, ⟨T', L', k', n'⟩, -, X', ⟨L, hQ, h2, h3, h4⟩, st⟩ := X.specialBack hx (y := y) hy1 hown (mvT hZ w1) (mvT hZ w2) (mvT hZ w4) hy (backOf (W := W) hM hZ w4 w3 hf hl) (g := g) hg hsize (Steps.refl _) (a := a) (argsL := argsL) (rest := rest) hlen hstack hW hd (fun _ _ => ⟨ha, eT, hc, hs⟩)
  dsimp only [Pt.U, Pt.locs, Pt.cells, Pt.slots] at X' h2 h3 h4 st hQ
  subst h2 h3 h4
  exact ⟨T', L, v, X', hQ, fun t k => st.trans k⟩
theorem own_callP (X : Stand p l e R s m args below meth c T locs cells slots) (hx : p.tables.exec = Jvm.exec) {Z : State} {a0 : Array Value} {h : Heap} (hZ : Z.Warmed39 s.vm) {own C : String} {index n : Nat} {y : MethodName} (hown : s.vm.findClass own = some m.cls) {bytes : ByteArray} {maxL : Nat} {ret : Option FieldType} {rm : Room} {as' : Array Value} {Q : Option Value → Heap → List Loc → Prop} (w1 : (Jvm.Cond.methodLink own index y).before a0 Z = true) (w2 : (Jvm.Cond.instanceMethod y).before a0 Z = true) (w3 : (Jvm.Cond.initialized y.cls).before a0 Z = true) (w4 : (Jvm.Cond.code y bytes maxL ret).before a0 Z = true) (w5 : (Jvm.Cond.privateMethod y).before a0 Z = true) (w6 : (Jvm.Cond.instantiable y.cls n).before a0 Z = true) (hy : y.cls ≠ "java/lang/invoke/MethodHandle" ∧ y.cls ≠ "java/lang/invoke/VarHandle")
    (hM : MetFree l y (head1 [Jvm.Cond.code y bytes maxL ret] rm) (fun a U => a = as' ∧ Z.Warmed39 U.vm ∧ U.heap = h) (fun _ _ _ _ _ => True) (fun _ U o U' => ∃ v L, o = .returned v ∧ Q v U'.heap L ∧ FrameEnd U o U' L rm.cells rm.slots)) (eT : T.heap = h) (W : Nat) (hf : rm.frames + 1 ≤ R.frames) (hl : W + (maxL + 11) + rm.locals ≤ R.locals) (hc : cells + rm.cells ≤ R.cells) (hs : slots + rm.slots ≤ R.slots) {g : JFrame} (hg : g.method = m) (hsize : g.locals.size = c.maxLocals) (a : Addr) (E : Exa Z h a C) (argsL rest : List Value) (ha : (.ref a :: argsL).toArray = as') (hlen : ∀ sig, parseMethodDescriptor y.desc = some sig → argsL.length = sig.parameters.length) (hstack : g.stack = argsL.reverse ++ .ref a :: rest) (hW : 2 * g.monitorRoom + (rest.map fun v => v.category).sum ≤ W) (hd : decode c.code g.pc = .ok (.invokevirtual index, 3)) :
    ∃ (T' : State) (L : List Loc) (v : Option Value), Stand p l e R s m args below meth c T' (locs ++ L) (cells + rm.cells) (slots + rm.slots) ∧ Q v T'.heap L ∧ ∀ t, Steps p.tables e below (T'.setTop { g with pc := g.pc + 3, stack := v.toList ++ rest }) t → Steps p.tables e below (T.setTop g) t := by
  obtain ⟨cq, q1, q2⟩ := E.cell
  obtain ⟨v, _, ⟨T', L', k', n'⟩, -, X', ⟨L, hQ, h2, h3, h4⟩, st⟩ := X.privateBack hx (y := y) hown (mvT hZ w1) (mvT hZ w2) (own_selp (y := y) (mvT hZ w6) (mvP hZ w5) (mvT hZ w2) hy) (Cond.privateMethod_at (mvP hZ w5 (args := #[]))) (mvT hZ w4) hy (backOf (W := W) hM hZ w4 w3 hf hl) (g := g) hg hsize (Steps.refl _) (a := a) (by rw [eT]; exact q1) q2 (argsL := argsL) (rest := rest) hlen hstack hW hd (fun _ _ => ⟨ha, eT, hc, hs⟩)
  dsimp only [Pt.U, Pt.locs, Pt.cells, Pt.slots] at X' h2 h3 h4 st hQ
  subst h2 h3 h4
  exact ⟨T', L, v, X', hQ, fun t k => st.trans k⟩
theorem own_callV (X : Stand p l e R s m args below meth c T locs cells slots) (hx : p.tables.exec = Jvm.exec) {Z : State} {a0 : Array Value} {h : Heap} (hZ : Z.Warmed39 s.vm) {own C : String} {index : Nat} {y z : MethodName} (hown : s.vm.findClass own = some m.cls) {bytes : ByteArray} {maxL : Nat} {ret : Option FieldType} {rm : Room} {as' : Array Value} {Q : Option Value → Heap → List Loc → Prop} (w1 : (Jvm.Cond.methodLink own index y).before a0 Z = true) (w2 : (Jvm.Cond.declares y).before a0 Z = true) (hnf : NotFace s y) (w3 : (Jvm.Cond.selects C y z).before a0 Z = true) (w4 : (Jvm.Cond.instanceMethod z).before a0 Z = true) (w5 : (Jvm.Cond.initialized z.cls).before a0 Z = true) (w6 : (Jvm.Cond.code z bytes maxL ret).before a0 Z = true) (hy : y.cls ≠ "java/lang/invoke/MethodHandle" ∧ y.cls ≠ "java/lang/invoke/VarHandle")
    (hM : MetFree l z (head1 [Jvm.Cond.code z bytes maxL ret] rm) (fun a U => a = as' ∧ Z.Warmed39 U.vm ∧ U.heap = h) (fun _ _ _ _ _ => True) (fun _ U o U' => ∃ v L, o = .returned v ∧ Q v U'.heap L ∧ FrameEnd U o U' L rm.cells rm.slots)) (eT : T.heap = h) (W : Nat) (hf : rm.frames + 1 ≤ R.frames) (hl : W + (maxL + 11) + rm.locals ≤ R.locals) (hc : cells + rm.cells ≤ R.cells) (hs : slots + rm.slots ≤ R.slots) {g : JFrame} (hg : g.method = m) (hsize : g.locals.size = c.maxLocals) (a : Addr) (E : Exa Z h a C) (argsL rest : List Value) (ha : (.ref a :: argsL).toArray = as') (hlen : ∀ sig, parseMethodDescriptor y.desc = some sig → argsL.length = sig.parameters.length) (hstack : g.stack = argsL.reverse ++ .ref a :: rest) (hW : 2 * g.monitorRoom + (rest.map fun v => v.category).sum ≤ W) (hd : decode c.code g.pc = .ok (.invokevirtual index, 3)) :
    ∃ (T' : State) (L : List Loc) (v : Option Value), Stand p l e R s m args below meth c T' (locs ++ L) (cells + rm.cells) (slots + rm.slots) ∧ Q v T'.heap L ∧ ∀ t, Steps p.tables e below (T'.setTop { g with pc := g.pc + 3, stack := v.toList ++ rest }) t → Steps p.tables e below (T.setTop g) t := by
  obtain ⟨cq, kq, qa, qb, qc⟩ := isOf hZ eT E
  obtain ⟨v, _, ⟨T', L', k', n'⟩, -, X', ⟨L, hQ, h2, h3, h4⟩, st⟩ := X.virtualBack hx (y := y) (z := z) hown (mvT hZ w1) (mvT hZ w2) hnf (mvT hZ w3) (mvT hZ w4) hy (backOf (W := W) hM hZ w6 w5 hf hl) qa qc (g := g) hg hsize (Steps.refl _) (argsL := argsL) (rest := rest) hlen hstack hW hd (fun _ _ => ⟨ha, eT, hc, hs⟩)
  dsimp only [Pt.U, Pt.locs, Pt.cells, Pt.slots] at X' h2 h3 h4 st hQ
  subst h2 h3 h4
  exact ⟨T', L, v, X', hQ, fun t k => st.trans k⟩
theorem own_callF (X : Stand p l e R s m args below meth c T locs cells slots) (hx : p.tables.exec = Jvm.exec) {Z : State} {a0 : Array Value} {h : Heap} (hZ : Z.Warmed39 s.vm) {own C : String} {index count : Nat} {y z : MethodName} (hown : s.vm.findClass own = some m.cls) {bytes : ByteArray} {maxL : Nat} {ret : Option FieldType} {rm : Room} {as' : Array Value} {Q : Option Value → Heap → List Loc → Prop} (w1 : (Jvm.Cond.methodLink own index y).before a0 Z = true) (w2 : (Jvm.Cond.declares y).before a0 Z = true) (w3 : (Jvm.Cond.interfaceMethod y.cls y.cls y.name y.desc).before a0 Z = true) (w4 : (Jvm.Cond.selects C y z).before a0 Z = true) (w5 : (Jvm.Cond.instanceMethod z).before a0 Z = true) (w6 : (Jvm.Cond.publicMethod z).before a0 Z = true) (w7 : (Jvm.Cond.unhidden C y.name y.desc).before a0 Z = true) (w8 : (Jvm.Cond.castable C y.cls).before a0 Z = true) (w9 : (Jvm.Cond.initialized z.cls).before a0 Z = true) (w10 : (Jvm.Cond.code z bytes maxL ret).before a0 Z = true) (hy : y.cls ≠ "java/lang/invoke/MethodHandle" ∧ y.cls ≠ "java/lang/invoke/VarHandle")
    (hM : MetFree l z (head1 [Jvm.Cond.code z bytes maxL ret] rm) (fun a U => a = as' ∧ Z.Warmed39 U.vm ∧ U.heap = h) (fun _ _ _ _ _ => True) (fun _ U o U' => ∃ v L, o = .returned v ∧ Q v U'.heap L ∧ FrameEnd U o U' L rm.cells rm.slots)) (eT : T.heap = h) (W : Nat) (hf : rm.frames + 1 ≤ R.frames) (hl : W + (maxL + 11) + rm.locals ≤ R.locals) (hc : cells + rm.cells ≤ R.cells) (hs : slots + rm.slots ≤ R.slots) {g : JFrame} (hg : g.method = m) (hsize : g.locals.size = c.maxLocals) (a : Addr) (E : Exa Z h a C) (argsL rest : List Value) (ha : (.ref a :: argsL).toArray = as') (hlen : ∀ sig, parseMethodDescriptor y.desc = some sig → argsL.length = sig.parameters.length) (hstack : g.stack = argsL.reverse ++ .ref a :: rest) (hW : 2 * g.monitorRoom + (rest.map fun v => v.category).sum ≤ W) (hd : decode c.code g.pc = .ok (.invokeinterface index count, 5)) (hw3 : ((Jvm.Cond.interfaceMethod y.cls y.cls y.name y.desc).onTables && (Jvm.Cond.interfaceMethod y.cls y.cls y.name y.desc).keepsFace) = true := by first | rfl | simp [Cond.onTables, Cond.keepsFace, Cond.keeps, Cond.steady]) :
    ∃ (T' : State) (L : List Loc) (v : Option Value), Stand p l e R s m args below meth c T' (locs ++ L) (cells + rm.cells) (slots + rm.slots) ∧ Q v T'.heap L ∧ ∀ t, Steps p.tables e below (T'.setTop { g with pc := g.pc + 5, stack := v.toList ++ rest }) t → Steps p.tables e below (T.setTop g) t := by
  obtain ⟨cq, kq, qa, qb, qc⟩ := isOf hZ eT E
  obtain ⟨v, _, ⟨T', L', k', n'⟩, -, X', ⟨L, hQ, h2, h3, h4⟩, st⟩ := X.interfaceBack hx (xi := y) (y := z) hown (mvT hZ w1) (mvT hZ w2) (mvT hZ w3 hw3) (mvT hZ w4) (mvT hZ w5) (mvT hZ w6) (mvT hZ w7) (mvT hZ w8) hy (backOf (W := W) hM hZ w10 w9 hf hl) qa qb qc (g := g) hg hsize (Steps.refl _) (argsL := argsL) (rest := rest) hlen hstack hW hd (fun _ _ => ⟨ha, eT, hc, hs⟩)
  dsimp only [Pt.U, Pt.locs, Pt.cells, Pt.slots] at X' h2 h3 h4 st hQ
  subst h2 h3 h4
  exact ⟨T', L, v, X', hQ, fun t k => st.trans k⟩
theorem own_c1 {g g' : JFrame} {h : Heap} (h1 : ∃ T', Stand p l e R s m args below meth c T' locs cells slots ∧ T'.heap = h ∧ ∀ t, Steps p.tables e below (T'.setTop g') t → Steps p.tables e below (T.setTop g) t) (k : ∀ T', Stand p l e R s m args below meth c T' locs cells slots → T'.heap = h → own_Go p e below G (T'.setTop g')) : own_Go p e below G (T.setTop g) := by
  obtain ⟨T', X', e', st⟩ := h1
  exact own_by st (k T' X' e')
theorem own_c2 {g g' : JFrame} {h : Heap} {a : Addr} {sl : Nat} {v : Value} (h1 : ∃ T' h', Stand p l e R s m args below meth c T' (locs ++ [⟨a, sl⟩]) cells slots ∧ T'.heap = h' ∧ Wr h h' a sl v ∧ ∀ t, Steps p.tables e below (T'.setTop g') t → Steps p.tables e below (T.setTop g) t) (k : ∀ T' h', Stand p l e R s m args below meth c T' (locs ++ [⟨a, sl⟩]) cells slots → T'.heap = h' → Wr h h' a sl v → own_Go p e below G (T'.setTop g')) : own_Go p e below G (T.setTop g) := by
  obtain ⟨T', h', X', e', W, st⟩ := h1
  exact own_by st (k T' h' X' e' W)
theorem own_cc {g : JFrame} {c1 s1 : Nat} {Q : Option Value → Heap → List Loc → Prop} {f : Option Value → JFrame} (h1 : ∃ (T' : State) (L : List Loc) (v : Option Value), Stand p l e R s m args below meth c T' (locs ++ L) c1 s1 ∧ Q v T'.heap L ∧ ∀ t, Steps p.tables e below (T'.setTop (f v)) t → Steps p.tables e below (T.setTop g) t) (k : ∀ (T' : State) (L : List Loc) (v : Option Value), Stand p l e R s m args below meth c T' (locs ++ L) c1 s1 → Q v T'.heap L → own_Go p e below G (T'.setTop (f v))) : own_Go p e below G (T.setTop g) := by
  obtain ⟨T', L, v, X', hQ, st⟩ := h1
  exact own_by st (k T' L v X' hQ)
end OwnKit
def fv1 (p0 : Int32) : Int32 := (nar .boolean (if p0 < (48 : Int32) then (0 : Int32) else (if (57 : Int32) < p0 then (0 : Int32) else (1 : Int32))))
theorem d1_0 : decode prog_30_method_15_code 0 = .ok (.iload_n 0, 1) := by decide +kernel
theorem d1_1 : decode prog_30_method_15_code 1 = .ok (.bipush 48, 2) := by decide +kernel
theorem d1_3 : decode prog_30_method_15_code 3 = .ok (.if_icmp .lt 13, 3) := by decide +kernel
theorem d1_6 : decode prog_30_method_15_code 6 = .ok (.iload_n 0, 1) := by decide +kernel
theorem d1_7 : decode prog_30_method_15_code 7 = .ok (.bipush 57, 2) := by decide +kernel
theorem d1_9 : decode prog_30_method_15_code 9 = .ok (.if_icmp .gt 7, 3) := by decide +kernel
theorem d1_12 : decode prog_30_method_15_code 12 = .ok (.iconst 1, 1) := by decide +kernel
theorem d1_13 : decode prog_30_method_15_code 13 = .ok (.goto 4, 3) := by decide +kernel
theorem d1_16 : decode prog_30_method_15_code 16 = .ok (.iconst 0, 1) := by decide +kernel
theorem d1_17 : decode prog_30_method_15_code 17 = .ok (.ireturn, 1) := by decide +kernel
theorem pn_1 : plainName "com/example/tidesheet/tidesheet/io/NccsvSyntax" = true := by first | (simp [plainName, overriddenIn]; done) | decide +kernel
theorem ef_1 (m : MethodId) (x0 : Int32) : entryFrame m #[(.int x0)] 1 = mkF m 0 #[iv x0] [] := by first | (simp [entryFrame, mkF, argsToLocals, Value.category]; done) | rfl
def Q1 (Z : State) (p0 : Int32) (h0 : Heap) (n0 : Nat) (v : Option Value) (h : Heap) (L : List Loc) : Prop := v = some (.int (fv1 p0)) ∧ Fr n0 L ∧ h = h0
set_option maxRecDepth 65536 in
set_option maxHeartbeats 40000000 in
theorem rm1 (l : Launch) (Z : State) (a0 : Array Value) (hw : ∀ d ∈ tables_1, d.before a0 Z = true) (ws : List Jvm.Cond) (p0 : Int32) (h0 : Heap) (n0 : Nat) (Z0 : n0 ≤ h0.size) :
    MetFree l (⟨"com/example/tidesheet/tidesheet/io/NccsvSyntax", "isDigit", "(I)Z"⟩ : MethodName) (head1 (Jvm.Cond.code (⟨"com/example/tidesheet/tidesheet/io/NccsvSyntax", "isDigit", "(I)Z"⟩ : MethodName) prog_30_method_15_code 1 (some .boolean) :: ws) ({ frames := 0, cells := 0, slots := 0, locals := 0 } : Room)) (fun a U => a = #[(.int p0)] ∧ Z.Warmed39 U.vm ∧ U.heap = h0) (fun _ _ _ _ _ => True) (fun _ U o U' => ∃ v L, o = .returned v ∧ Q1 Z p0 h0 n0 v U'.heap L ∧ FrameEnd U o U' L ({ frames := 0, cells := 0, slots := 0, locals := 0 } : Room).cells ({ frames := 0, cells := 0, slots := 0, locals := 0 } : Room).slots) := by
  refine MetFree.of_bodySF (plainFor_of_name pn_1) hisR ?_
  intro p e s m args below meth c s₁ Bd hml0 hP hK
  obtain ⟨rfl, hZ, hh⟩ := hP
  have hx := Bd.exec
  have hby := Bd.bytes
  have hml : c.maxLocals = 1 := hml0
  have hown : s.vm.findClass "com/example/tidesheet/tidesheet/io/NccsvSyntax" = some m.cls := findClass_of_methodNamed Bd.named
  have hnm := (name_of_methodNamed Bd.named Bd.method).1
  have X0 : Stand p l e ({ frames := 0, cells := 0, slots := 0, locals := 0 } : Room) s m #[(.int p0)] below meth c s₁ [] 0 0 := Stand.of_body Bd
  have e0 : s₁.heap = h0 := by rw [← hh, Bd.state]; rfl
  have N0 := Fr.nil n0
  change own_Go p e below (own_Post s (Q1 Z p0 h0 n0) ({ frames := 0, cells := 0, slots := 0, locals := 0 } : Room).cells ({ frames := 0, cells := 0, slots := 0, locals := 0 } : Room).slots) (s₁.setTop (entryFrame m #[(.int p0)] 1))
  refine own_by (fun t k => castTop (ef_1 m p0) k) ?_
  show own_Go p e below _ (s₁.setTop (mkF m 0 #[iv p0] []))
  refine own_by (B := s₁.setTop (mkF m 17 #[iv p0] [(.int (if p0 < (48 : Int32) then (0 : Int32) else (if (57 : Int32) < p0 then (0 : Int32) else (1 : Int32))))])) (fun t k => ?_) ?_
  · show Steps p.tables e below (s₁.setTop (mkF m 0 #[iv p0] [])) _
    refine XS.iloadN X0.here hx rfl (hb hby d1_0) rfl ?_
    show Steps p.tables e below (s₁.setTop (mkF m 1 #[iv p0] [(.int p0)])) _
    refine XS.bipush X0.here hx rfl (hb hby d1_1) ?_
    show Steps p.tables e below (s₁.setTop (mkF m 3 #[iv p0] [(.int (48 : Int32)), (.int p0)])) _
    refine (fun t (k : Steps p.tables e below (s₁.setTop (mkF m 17 #[iv p0] [(.int (if p0 < (48 : Int32) then (0 : Int32) else (if (57 : Int32) < p0 then (0 : Int32) else (1 : Int32))))])) t) => (?_ : Steps p.tables e below _ t)) _ ?_
    · by_cases hc1 : p0 < (48 : Int32)
      · simp only [if_pos hc1] at k
        refine XS.icmpYes X0.here hx rfl (pc0 := 3) (pc' := 16) rfl (hb hby d1_3) rfl (tlt hc1).1 (by decide) (by decide) ?_
        show Steps p.tables e below (s₁.setTop (mkF m 16 #[iv p0] [])) _
        refine XS.iconst X0.here hx rfl (hb hby d1_16) ?_
        show Steps p.tables e below (s₁.setTop (mkF m 17 #[iv p0] [(.int (0 : Int32))])) _
        exact k
      · simp only [if_neg hc1] at k
        refine XS.icmpNo X0.here hx rfl (hb hby d1_3) rfl (flt hc1).1 ?_
        show Steps p.tables e below (s₁.setTop (mkF m 6 #[iv p0] [])) _
        refine XS.iloadN X0.here hx rfl (hb hby d1_6) rfl ?_
        show Steps p.tables e below (s₁.setTop (mkF m 7 #[iv p0] [(.int p0)])) _
        refine XS.bipush X0.here hx rfl (hb hby d1_7) ?_
        show Steps p.tables e below (s₁.setTop (mkF m 9 #[iv p0] [(.int (57 : Int32)), (.int p0)])) _
        refine (fun t (k : Steps p.tables e below (s₁.setTop (mkF m 17 #[iv p0] [(.int (if (57 : Int32) < p0 then (0 : Int32) else (1 : Int32)))])) t) => (?_ : Steps p.tables e below _ t)) _ ?_
        · by_cases hc2 : (57 : Int32) < p0
          · simp only [if_pos hc2] at k
            refine XS.icmpYes X0.here hx rfl (pc0 := 9) (pc' := 16) rfl (hb hby d1_9) rfl (tlt hc2).2.2.1 (by decide) (by decide) ?_
            show Steps p.tables e below (s₁.setTop (mkF m 16 #[iv p0] [])) _
            refine XS.iconst X0.here hx rfl (hb hby d1_16) ?_
            show Steps p.tables e below (s₁.setTop (mkF m 17 #[iv p0] [(.int (0 : Int32))])) _
            exact k
          · simp only [if_neg hc2] at k
            refine XS.icmpNo X0.here hx rfl (hb hby d1_9) rfl (flt hc2).2.2.1 ?_
            show Steps p.tables e below (s₁.setTop (mkF m 12 #[iv p0] [])) _
            refine XS.iconst X0.here hx rfl (hb hby d1_12) ?_
            show Steps p.tables e below (s₁.setTop (mkF m 13 #[iv p0] [(.int (1 : Int32))])) _
            refine XS.goto X0.here hx rfl (pc0 := 13) (pc' := 17) rfl (hb hby d1_13) (by decide) (by decide) ?_
            show Steps p.tables e below (s₁.setTop (mkF m 17 #[iv p0] [(.int (1 : Int32))])) _
            exact k
        show Steps p.tables e below (s₁.setTop (mkF m 17 #[iv p0] [(.int (if (57 : Int32) < p0 then (0 : Int32) else (1 : Int32)))])) _
        exact k
    show Steps p.tables e below (s₁.setTop (mkF m 17 #[iv p0] [(.int (if p0 < (48 : Int32) then (0 : Int32) else (if (57 : Int32) < p0 then (0 : Int32) else (1 : Int32))))])) _
    exact k
  exact own_retN X0 Bd.notSynchronized hx (t := .boolean) Bd.returns (by simp) (hb hby d1_17) (by
      rw [show s₁.heap = h0 from e0]
      exact ⟨congrArg (fun z => some (Value.int z)) (show nar .boolean (if p0 < (48 : Int32) then (0 : Int32) else (if (57 : Int32) < p0 then (0 : Int32) else (1 : Int32))) = (fv1 p0) from rfl), N0, rfl⟩) (by decide) (by decide)

def fv2 (p0 : Int32) : Int32 := (nar .boolean (if p0 = (48 : Int32) then (1 : Int32) else (if p0 = (49 : Int32) then (1 : Int32) else (if p0 = (50 : Int32) then (1 : Int32) else (if p0 = (51 : Int32) then (1 : Int32) else (if p0 = (52 : Int32) then (1 : Int32) else (if p0 = (53 : Int32) then (1 : Int32) else (if p0 = (54 : Int32) then (1 : Int32) else (if p0 = (55 : Int32) then (1 : Int32) else (if p0 = (56 : Int32) then (1 : Int32) else (if p0 = (57 : Int32) then (1 : Int32) else (0 : Int32))))))))))))
theorem d2_0 : decode method_2_code 0 = .ok (.iload_n 0, 1) := by decide +kernel
theorem d2_1 : decode method_2_code 1 = .ok (.bipush 48, 2) := by decide +kernel
theorem d2_3 : decode method_2_code 3 = .ok (.if_icmp .eq 57, 3) := by decide +kernel
theorem d2_6 : decode method_2_code 6 = .ok (.iload_n 0, 1) := by decide +kernel
theorem d2_7 : decode method_2_code 7 = .ok (.bipush 49, 2) := by decide +kernel
theorem d2_9 : decode method_2_code 9 = .ok (.if_icmp .eq 51, 3) := by decide +kernel
theorem d2_12 : decode method_2_code 12 = .ok (.iload_n 0, 1) := by decide +kernel
theorem d2_13 : decode method_2_code 13 = .ok (.bipush 50, 2) := by decide +kernel
theorem d2_15 : decode method_2_code 15 = .ok (.if_icmp .eq 45, 3) := by decide +kernel
theorem d2_18 : decode method_2_code 18 = .ok (.iload_n 0, 1) := by decide +kernel
theorem d2_19 : decode method_2_code 19 = .ok (.bipush 51, 2) := by decide +kernel
theorem d2_21 : decode method_2_code 21 = .ok (.if_icmp .eq 39, 3) := by decide +kernel
theorem d2_24 : decode method_2_code 24 = .ok (.iload_n 0, 1) := by decide +kernel
theorem d2_25 : decode method_2_code 25 = .ok (.bipush 52, 2) := by decide +kernel
theorem d2_27 : decode method_2_code 27 = .ok (.if_icmp .eq 33, 3) := by decide +kernel
theorem d2_30 : decode method_2_code 30 = .ok (.iload_n 0, 1) := by decide +kernel
theorem d2_31 : decode method_2_code 31 = .ok (.bipush 53, 2) := by decide +kernel
theorem d2_33 : decode method_2_code 33 = .ok (.if_icmp .eq 27, 3) := by decide +kernel
theorem d2_36 : decode method_2_code 36 = .ok (.iload_n 0, 1) := by decide +kernel
theorem d2_37 : decode method_2_code 37 = .ok (.bipush 54, 2) := by decide +kernel
theorem d2_39 : decode method_2_code 39 = .ok (.if_icmp .eq 21, 3) := by decide +kernel
theorem d2_42 : decode method_2_code 42 = .ok (.iload_n 0, 1) := by decide +kernel
theorem d2_43 : decode method_2_code 43 = .ok (.bipush 55, 2) := by decide +kernel
theorem d2_45 : decode method_2_code 45 = .ok (.if_icmp .eq 15, 3) := by decide +kernel
theorem d2_48 : decode method_2_code 48 = .ok (.iload_n 0, 1) := by decide +kernel
theorem d2_49 : decode method_2_code 49 = .ok (.bipush 56, 2) := by decide +kernel
theorem d2_51 : decode method_2_code 51 = .ok (.if_icmp .eq 9, 3) := by decide +kernel
theorem d2_54 : decode method_2_code 54 = .ok (.iload_n 0, 1) := by decide +kernel
theorem d2_55 : decode method_2_code 55 = .ok (.bipush 57, 2) := by decide +kernel
theorem d2_57 : decode method_2_code 57 = .ok (.if_icmp .ne 7, 3) := by decide +kernel
theorem d2_60 : decode method_2_code 60 = .ok (.iconst 1, 1) := by decide +kernel
theorem d2_61 : decode method_2_code 61 = .ok (.goto 4, 3) := by decide +kernel
theorem d2_64 : decode method_2_code 64 = .ok (.iconst 0, 1) := by decide +kernel
theorem d2_65 : decode method_2_code 65 = .ok (.ireturn, 1) := by decide +kernel
theorem pn_2 : plainName "com/example/tidesheet/tidesheet/io/NccsvSyntaxIsDigitPinLaw" = true := by first | (simp [plainName, overriddenIn]; done) | decide +kernel
theorem ef_2 (m : MethodId) (x0 : Int32) : entryFrame m #[(.int x0)] 1 = mkF m 0 #[iv x0] [] := by first | (simp [entryFrame, mkF, argsToLocals, Value.category]; done) | rfl
def Q2 (Z : State) (p0 : Int32) (h0 : Heap) (n0 : Nat) (v : Option Value) (h : Heap) (L : List Loc) : Prop := v = some (.int (fv2 p0)) ∧ Fr n0 L ∧ h = h0
set_option maxRecDepth 65536 in
set_option maxHeartbeats 40000000 in
theorem rm2 (l : Launch) (Z : State) (a0 : Array Value) (hw : ∀ d ∈ tables_1, d.before a0 Z = true) (ws : List Jvm.Cond) (p0 : Int32) (h0 : Heap) (n0 : Nat) (Z0 : n0 ≤ h0.size) :
    MetFree l (⟨"com/example/tidesheet/tidesheet/io/NccsvSyntaxIsDigitPinLaw", "isOneOfTenDigits", "(I)Z"⟩ : MethodName) (head1 (Jvm.Cond.code (⟨"com/example/tidesheet/tidesheet/io/NccsvSyntaxIsDigitPinLaw", "isOneOfTenDigits", "(I)Z"⟩ : MethodName) method_2_code 1 (some .boolean) :: ws) ({ frames := 0, cells := 0, slots := 0, locals := 0 } : Room)) (fun a U => a = #[(.int p0)] ∧ Z.Warmed39 U.vm ∧ U.heap = h0) (fun _ _ _ _ _ => True) (fun _ U o U' => ∃ v L, o = .returned v ∧ Q2 Z p0 h0 n0 v U'.heap L ∧ FrameEnd U o U' L ({ frames := 0, cells := 0, slots := 0, locals := 0 } : Room).cells ({ frames := 0, cells := 0, slots := 0, locals := 0 } : Room).slots) := by
  refine MetFree.of_bodySF (plainFor_of_name pn_2) hisR ?_
  intro p e s m args below meth c s₁ Bd hml0 hP hK
  obtain ⟨rfl, hZ, hh⟩ := hP
  have hx := Bd.exec
  have hby := Bd.bytes
  have hml : c.maxLocals = 1 := hml0
  have hown : s.vm.findClass "com/example/tidesheet/tidesheet/io/NccsvSyntaxIsDigitPinLaw" = some m.cls := findClass_of_methodNamed Bd.named
  have hnm := (name_of_methodNamed Bd.named Bd.method).1
  have X0 : Stand p l e ({ frames := 0, cells := 0, slots := 0, locals := 0 } : Room) s m #[(.int p0)] below meth c s₁ [] 0 0 := Stand.of_body Bd
  have e0 : s₁.heap = h0 := by rw [← hh, Bd.state]; rfl
  have N0 := Fr.nil n0
  change own_Go p e below (own_Post s (Q2 Z p0 h0 n0) ({ frames := 0, cells := 0, slots := 0, locals := 0 } : Room).cells ({ frames := 0, cells := 0, slots := 0, locals := 0 } : Room).slots) (s₁.setTop (entryFrame m #[(.int p0)] 1))
  refine own_by (fun t k => castTop (ef_2 m p0) k) ?_
  show own_Go p e below _ (s₁.setTop (mkF m 0 #[iv p0] []))
  refine own_by (B := s₁.setTop (mkF m 65 #[iv p0] [(.int (if p0 = (48 : Int32) then (1 : Int32) else (if p0 = (49 : Int32) then (1 : Int32) else (if p0 = (50 : Int32) then (1 : Int32) else (if p0 = (51 : Int32) then (1 : Int32) else (if p0 = (52 : Int32) then (1 : Int32) else (if p0 = (53 : Int32) then (1 : Int32) else (if p0 = (54 : Int32) then (1 : Int32) else (if p0 = (55 : Int32) then (1 : Int32) else (if p0 = (56 : Int32) then (1 : Int32) else (if p0 = (57 : Int32) then (1 : Int32) else (0 : Int32))))))))))))])) (fun t k => ?_) ?_
  · show Steps p.tables e below (s₁.setTop (mkF m 0 #[iv p0] [])) _
    refine XS.iloadN X0.here hx rfl (hb hby d2_0) rfl ?_
    show Steps p.tables e below (s₁.setTop (mkF m 1 #[iv p0] [(.int p0)])) _
    refine XS.bipush X0.here hx rfl (hb hby d2_1) ?_
    show Steps p.tables e below (s₁.setTop (mkF m 3 #[iv p0] [(.int (48 : Int32)), (.int p0)])) _
    refine (fun t (k : Steps p.tables e below (s₁.setTop (mkF m 65 #[iv p0] [(.int (if p0 = (48 : Int32) then (1 : Int32) else (if p0 = (49 : Int32) then (1 : Int32) else (if p0 = (50 : Int32) then (1 : Int32) else (if p0 = (51 : Int32) then (1 : Int32) else (if p0 = (52 : Int32) then (1 : Int32) else (if p0 = (53 : Int32) then (1 : Int32) else (if p0 = (54 : Int32) then (1 : Int32) else (if p0 = (55 : Int32) then (1 : Int32) else (if p0 = (56 : Int32) then (1 : Int32) else (if p0 = (57 : Int32) then (1 : Int32) else (0 : Int32))))))))))))])) t) => (?_ : Steps p.tables e below _ t)) _ ?_
    · by_cases hc1 : p0 = (48 : Int32)
      · simp only [if_pos hc1] at k
        refine XS.icmpYes X0.here hx rfl (pc0 := 3) (pc' := 60) rfl (hb hby d2_3) rfl (teq hc1).1 (by decide) (by decide) ?_
        show Steps p.tables e below (s₁.setTop (mkF m 60 #[iv p0] [])) _
        refine XS.iconst X0.here hx rfl (hb hby d2_60) ?_
        show Steps p.tables e below (s₁.setTop (mkF m 61 #[iv p0] [(.int (1 : Int32))])) _
        refine XS.goto X0.here hx rfl (pc0 := 61) (pc' := 65) rfl (hb hby d2_61) (by decide) (by decide) ?_
        show Steps p.tables e below (s₁.setTop (mkF m 65 #[iv p0] [(.int (1 : Int32))])) _
        exact k
      · simp only [if_neg hc1] at k
        refine XS.icmpNo X0.here hx rfl (hb hby d2_3) rfl (feq hc1).1 ?_
        show Steps p.tables e below (s₁.setTop (mkF m 6 #[iv p0] [])) _
        refine XS.iloadN X0.here hx rfl (hb hby d2_6) rfl ?_
        show Steps p.tables e below (s₁.setTop (mkF m 7 #[iv p0] [(.int p0)])) _
        refine XS.bipush X0.here hx rfl (hb hby d2_7) ?_
        show Steps p.tables e below (s₁.setTop (mkF m 9 #[iv p0] [(.int (49 : Int32)), (.int p0)])) _
        refine (fun t (k : Steps p.tables e below (s₁.setTop (mkF m 65 #[iv p0] [(.int (if p0 = (49 : Int32) then (1 : Int32) else (if p0 = (50 : Int32) then (1 : Int32) else (if p0 = (51 : Int32) then (1 : Int32) else (if p0 = (52 : Int32) then (1 : Int32) else (if p0 = (53 : Int32) then (1 : Int32) else (if p0 = (54 : Int32) then (1 : Int32) else (if p0 = (55 : Int32) then (1 : Int32) else (if p0 = (56 : Int32) then (1 : Int32) else (if p0 = (57 : Int32) then (1 : Int32) else (0 : Int32)))))))))))])) t) => (?_ : Steps p.tables e below _ t)) _ ?_
        · by_cases hc2 : p0 = (49 : Int32)
          · simp only [if_pos hc2] at k
            refine XS.icmpYes X0.here hx rfl (pc0 := 9) (pc' := 60) rfl (hb hby d2_9) rfl (teq hc2).1 (by decide) (by decide) ?_
            show Steps p.tables e below (s₁.setTop (mkF m 60 #[iv p0] [])) _
            refine XS.iconst X0.here hx rfl (hb hby d2_60) ?_
            show Steps p.tables e below (s₁.setTop (mkF m 61 #[iv p0] [(.int (1 : Int32))])) _
            refine XS.goto X0.here hx rfl (pc0 := 61) (pc' := 65) rfl (hb hby d2_61) (by decide) (by decide) ?_
            show Steps p.tables e below (s₁.setTop (mkF m 65 #[iv p0] [(.int (1 : Int32))])) _
            exact k
          · simp only [if_neg hc2] at k
            refine XS.icmpNo X0.here hx rfl (hb hby d2_9) rfl (feq hc2).1 ?_
            show Steps p.tables e below (s₁.setTop (mkF m 12 #[iv p0] [])) _
            refine XS.iloadN X0.here hx rfl (hb hby d2_12) rfl ?_
            show Steps p.tables e below (s₁.setTop (mkF m 13 #[iv p0] [(.int p0)])) _
            refine XS.bipush X0.here hx rfl (hb hby d2_13) ?_
            show Steps p.tables e below (s₁.setTop (mkF m 15 #[iv p0] [(.int (50 : Int32)), (.int p0)])) _
            refine (fun t (k : Steps p.tables e below (s₁.setTop (mkF m 65 #[iv p0] [(.int (if p0 = (50 : Int32) then (1 : Int32) else (if p0 = (51 : Int32) then (1 : Int32) else (if p0 = (52 : Int32) then (1 : Int32) else (if p0 = (53 : Int32) then (1 : Int32) else (if p0 = (54 : Int32) then (1 : Int32) else (if p0 = (55 : Int32) then (1 : Int32) else (if p0 = (56 : Int32) then (1 : Int32) else (if p0 = (57 : Int32) then (1 : Int32) else (0 : Int32))))))))))])) t) => (?_ : Steps p.tables e below _ t)) _ ?_
            · by_cases hc3 : p0 = (50 : Int32)
              · simp only [if_pos hc3] at k
                refine XS.icmpYes X0.here hx rfl (pc0 := 15) (pc' := 60) rfl (hb hby d2_15) rfl (teq hc3).1 (by decide) (by decide) ?_
                show Steps p.tables e below (s₁.setTop (mkF m 60 #[iv p0] [])) _
                refine XS.iconst X0.here hx rfl (hb hby d2_60) ?_
                show Steps p.tables e below (s₁.setTop (mkF m 61 #[iv p0] [(.int (1 : Int32))])) _
                refine XS.goto X0.here hx rfl (pc0 := 61) (pc' := 65) rfl (hb hby d2_61) (by decide) (by decide) ?_
                show Steps p.tables e below (s₁.setTop (mkF m 65 #[iv p0] [(.int (1 : Int32))])) _
                exact k
              · simp only [if_neg hc3] at k
                refine XS.icmpNo X0.here hx rfl (hb hby d2_15) rfl (feq hc3).1 ?_
                show Steps p.tables e below (s₁.setTop (mkF m 18 #[iv p0] [])) _
                refine XS.iloadN X0.here hx rfl (hb hby d2_18) rfl ?_
                show Steps p.tables e below (s₁.setTop (mkF m 19 #[iv p0] [(.int p0)])) _
                refine XS.bipush X0.here hx rfl (hb hby d2_19) ?_
                show Steps p.tables e below (s₁.setTop (mkF m 21 #[iv p0] [(.int (51 : Int32)), (.int p0)])) _
                refine (fun t (k : Steps p.tables e below (s₁.setTop (mkF m 65 #[iv p0] [(.int (if p0 = (51 : Int32) then (1 : Int32) else (if p0 = (52 : Int32) then (1 : Int32) else (if p0 = (53 : Int32) then (1 : Int32) else (if p0 = (54 : Int32) then (1 : Int32) else (if p0 = (55 : Int32) then (1 : Int32) else (if p0 = (56 : Int32) then (1 : Int32) else (if p0 = (57 : Int32) then (1 : Int32) else (0 : Int32)))))))))])) t) => (?_ : Steps p.tables e below _ t)) _ ?_
                · by_cases hc4 : p0 = (51 : Int32)
                  · simp only [if_pos hc4] at k
                    refine XS.icmpYes X0.here hx rfl (pc0 := 21) (pc' := 60) rfl (hb hby d2_21) rfl (teq hc4).1 (by decide) (by decide) ?_
                    show Steps p.tables e below (s₁.setTop (mkF m 60 #[iv p0] [])) _
                    refine XS.iconst X0.here hx rfl (hb hby d2_60) ?_
                    show Steps p.tables e below (s₁.setTop (mkF m 61 #[iv p0] [(.int (1 : Int32))])) _
                    refine XS.goto X0.here hx rfl (pc0 := 61) (pc' := 65) rfl (hb hby d2_61) (by decide) (by decide) ?_
                    show Steps p.tables e below (s₁.setTop (mkF m 65 #[iv p0] [(.int (1 : Int32))])) _
                    exact k
                  · simp only [if_neg hc4] at k
                    refine XS.icmpNo X0.here hx rfl (hb hby d2_21) rfl (feq hc4).1 ?_
                    show Steps p.tables e below (s₁.setTop (mkF m 24 #[iv p0] [])) _
                    refine XS.iloadN X0.here hx rfl (hb hby d2_24) rfl ?_
                    show Steps p.tables e below (s₁.setTop (mkF m 25 #[iv p0] [(.int p0)])) _
                    refine XS.bipush X0.here hx rfl (hb hby d2_25) ?_
                    show Steps p.tables e below (s₁.setTop (mkF m 27 #[iv p0] [(.int (52 : Int32)), (.int p0)])) _
                    refine (fun t (k : Steps p.tables e below (s₁.setTop (mkF m 65 #[iv p0] [(.int (if p0 = (52 : Int32) then (1 : Int32) else (if p0 = (53 : Int32) then (1 : Int32) else (if p0 = (54 : Int32) then (1 : Int32) else (if p0 = (55 : Int32) then (1 : Int32) else (if p0 = (56 : Int32) then (1 : Int32) else (if p0 = (57 : Int32) then (1 : Int32) else (0 : Int32))))))))])) t) => (?_ : Steps p.tables e below _ t)) _ ?_
                    · by_cases hc5 : p0 = (52 : Int32)
                      · simp only [if_pos hc5] at k
                        refine XS.icmpYes X0.here hx rfl (pc0 := 27) (pc' := 60) rfl (hb hby d2_27) rfl (teq hc5).1 (by decide) (by decide) ?_
                        show Steps p.tables e below (s₁.setTop (mkF m 60 #[iv p0] [])) _
                        refine XS.iconst X0.here hx rfl (hb hby d2_60) ?_
                        show Steps p.tables e below (s₁.setTop (mkF m 61 #[iv p0] [(.int (1 : Int32))])) _
                        refine XS.goto X0.here hx rfl (pc0 := 61) (pc' := 65) rfl (hb hby d2_61) (by decide) (by decide) ?_
                        show Steps p.tables e below (s₁.setTop (mkF m 65 #[iv p0] [(.int (1 : Int32))])) _
                        exact k
                      · simp only [if_neg hc5] at k
                        refine XS.icmpNo X0.here hx rfl (hb hby d2_27) rfl (feq hc5).1 ?_
                        show Steps p.tables e below (s₁.setTop (mkF m 30 #[iv p0] [])) _
                        refine XS.iloadN X0.here hx rfl (hb hby d2_30) rfl ?_
                        show Steps p.tables e below (s₁.setTop (mkF m 31 #[iv p0] [(.int p0)])) _
                        refine XS.bipush X0.here hx rfl (hb hby d2_31) ?_
                        show Steps p.tables e below (s₁.setTop (mkF m 33 #[iv p0] [(.int (53 : Int32)), (.int p0)])) _
                        refine (fun t (k : Steps p.tables e below (s₁.setTop (mkF m 65 #[iv p0] [(.int (if p0 = (53 : Int32) then (1 : Int32) else (if p0 = (54 : Int32) then (1 : Int32) else (if p0 = (55 : Int32) then (1 : Int32) else (if p0 = (56 : Int32) then (1 : Int32) else (if p0 = (57 : Int32) then (1 : Int32) else (0 : Int32)))))))])) t) => (?_ : Steps p.tables e below _ t)) _ ?_
                        · by_cases hc6 : p0 = (53 : Int32)
                          · simp only [if_pos hc6] at k
                            refine XS.icmpYes X0.here hx rfl (pc0 := 33) (pc' := 60) rfl (hb hby d2_33) rfl (teq hc6).1 (by decide) (by decide) ?_
                            show Steps p.tables e below (s₁.setTop (mkF m 60 #[iv p0] [])) _
                            refine XS.iconst X0.here hx rfl (hb hby d2_60) ?_
                            show Steps p.tables e below (s₁.setTop (mkF m 61 #[iv p0] [(.int (1 : Int32))])) _
                            refine XS.goto X0.here hx rfl (pc0 := 61) (pc' := 65) rfl (hb hby d2_61) (by decide) (by decide) ?_
                            show Steps p.tables e below (s₁.setTop (mkF m 65 #[iv p0] [(.int (1 : Int32))])) _
                            exact k
                          · simp only [if_neg hc6] at k
                            refine XS.icmpNo X0.here hx rfl (hb hby d2_33) rfl (feq hc6).1 ?_
                            show Steps p.tables e below (s₁.setTop (mkF m 36 #[iv p0] [])) _
                            refine XS.iloadN X0.here hx rfl (hb hby d2_36) rfl ?_
                            show Steps p.tables e below (s₁.setTop (mkF m 37 #[iv p0] [(.int p0)])) _
                            refine XS.bipush X0.here hx rfl (hb hby d2_37) ?_
                            show Steps p.tables e below (s₁.setTop (mkF m 39 #[iv p0] [(.int (54 : Int32)), (.int p0)])) _
                            refine (fun t (k : Steps p.tables e below (s₁.setTop (mkF m 65 #[iv p0] [(.int (if p0 = (54 : Int32) then (1 : Int32) else (if p0 = (55 : Int32) then (1 : Int32) else (if p0 = (56 : Int32) then (1 : Int32) else (if p0 = (57 : Int32) then (1 : Int32) else (0 : Int32))))))])) t) => (?_ : Steps p.tables e below _ t)) _ ?_
                            · by_cases hc7 : p0 = (54 : Int32)
                              · simp only [if_pos hc7] at k
                                refine XS.icmpYes X0.here hx rfl (pc0 := 39) (pc' := 60) rfl (hb hby d2_39) rfl (teq hc7).1 (by decide) (by decide) ?_
                                show Steps p.tables e below (s₁.setTop (mkF m 60 #[iv p0] [])) _
                                refine XS.iconst X0.here hx rfl (hb hby d2_60) ?_
                                show Steps p.tables e below (s₁.setTop (mkF m 61 #[iv p0] [(.int (1 : Int32))])) _
                                refine XS.goto X0.here hx rfl (pc0 := 61) (pc' := 65) rfl (hb hby d2_61) (by decide) (by decide) ?_
                                show Steps p.tables e below (s₁.setTop (mkF m 65 #[iv p0] [(.int (1 : Int32))])) _
                                exact k
                              · simp only [if_neg hc7] at k
                                refine XS.icmpNo X0.here hx rfl (hb hby d2_39) rfl (feq hc7).1 ?_
                                show Steps p.tables e below (s₁.setTop (mkF m 42 #[iv p0] [])) _
                                refine XS.iloadN X0.here hx rfl (hb hby d2_42) rfl ?_
                                show Steps p.tables e below (s₁.setTop (mkF m 43 #[iv p0] [(.int p0)])) _
                                refine XS.bipush X0.here hx rfl (hb hby d2_43) ?_
                                show Steps p.tables e below (s₁.setTop (mkF m 45 #[iv p0] [(.int (55 : Int32)), (.int p0)])) _
                                refine (fun t (k : Steps p.tables e below (s₁.setTop (mkF m 65 #[iv p0] [(.int (if p0 = (55 : Int32) then (1 : Int32) else (if p0 = (56 : Int32) then (1 : Int32) else (if p0 = (57 : Int32) then (1 : Int32) else (0 : Int32)))))])) t) => (?_ : Steps p.tables e below _ t)) _ ?_
                                · by_cases hc8 : p0 = (55 : Int32)
                                  · simp only [if_pos hc8] at k
                                    refine XS.icmpYes X0.here hx rfl (pc0 := 45) (pc' := 60) rfl (hb hby d2_45) rfl (teq hc8).1 (by decide) (by decide) ?_
                                    show Steps p.tables e below (s₁.setTop (mkF m 60 #[iv p0] [])) _
                                    refine XS.iconst X0.here hx rfl (hb hby d2_60) ?_
                                    show Steps p.tables e below (s₁.setTop (mkF m 61 #[iv p0] [(.int (1 : Int32))])) _
                                    refine XS.goto X0.here hx rfl (pc0 := 61) (pc' := 65) rfl (hb hby d2_61) (by decide) (by decide) ?_
                                    show Steps p.tables e below (s₁.setTop (mkF m 65 #[iv p0] [(.int (1 : Int32))])) _
                                    exact k
                                  · simp only [if_neg hc8] at k
                                    refine XS.icmpNo X0.here hx rfl (hb hby d2_45) rfl (feq hc8).1 ?_
                                    show Steps p.tables e below (s₁.setTop (mkF m 48 #[iv p0] [])) _
                                    refine XS.iloadN X0.here hx rfl (hb hby d2_48) rfl ?_
                                    show Steps p.tables e below (s₁.setTop (mkF m 49 #[iv p0] [(.int p0)])) _
                                    refine XS.bipush X0.here hx rfl (hb hby d2_49) ?_
                                    show Steps p.tables e below (s₁.setTop (mkF m 51 #[iv p0] [(.int (56 : Int32)), (.int p0)])) _
                                    refine (fun t (k : Steps p.tables e below (s₁.setTop (mkF m 65 #[iv p0] [(.int (if p0 = (56 : Int32) then (1 : Int32) else (if p0 = (57 : Int32) then (1 : Int32) else (0 : Int32))))])) t) => (?_ : Steps p.tables e below _ t)) _ ?_
                                    · by_cases hc9 : p0 = (56 : Int32)
                                      · simp only [if_pos hc9] at k
                                        refine XS.icmpYes X0.here hx rfl (pc0 := 51) (pc' := 60) rfl (hb hby d2_51) rfl (teq hc9).1 (by decide) (by decide) ?_
                                        show Steps p.tables e below (s₁.setTop (mkF m 60 #[iv p0] [])) _
                                        refine XS.iconst X0.here hx rfl (hb hby d2_60) ?_
                                        show Steps p.tables e below (s₁.setTop (mkF m 61 #[iv p0] [(.int (1 : Int32))])) _
                                        refine XS.goto X0.here hx rfl (pc0 := 61) (pc' := 65) rfl (hb hby d2_61) (by decide) (by decide) ?_
                                        show Steps p.tables e below (s₁.setTop (mkF m 65 #[iv p0] [(.int (1 : Int32))])) _
                                        exact k
                                      · simp only [if_neg hc9] at k
                                        refine XS.icmpNo X0.here hx rfl (hb hby d2_51) rfl (feq hc9).1 ?_
                                        show Steps p.tables e below (s₁.setTop (mkF m 54 #[iv p0] [])) _
                                        refine XS.iloadN X0.here hx rfl (hb hby d2_54) rfl ?_
                                        show Steps p.tables e below (s₁.setTop (mkF m 55 #[iv p0] [(.int p0)])) _
                                        refine XS.bipush X0.here hx rfl (hb hby d2_55) ?_
                                        show Steps p.tables e below (s₁.setTop (mkF m 57 #[iv p0] [(.int (57 : Int32)), (.int p0)])) _
                                        refine (fun t (k : Steps p.tables e below (s₁.setTop (mkF m 65 #[iv p0] [(.int (if p0 = (57 : Int32) then (1 : Int32) else (0 : Int32)))])) t) => (?_ : Steps p.tables e below _ t)) _ ?_
                                        · by_cases hc10 : p0 = (57 : Int32)
                                          · simp only [if_pos hc10] at k
                                            refine XS.icmpNo X0.here hx rfl (hb hby d2_57) rfl (teq hc10).2 ?_
                                            show Steps p.tables e below (s₁.setTop (mkF m 60 #[iv p0] [])) _
                                            refine XS.iconst X0.here hx rfl (hb hby d2_60) ?_
                                            show Steps p.tables e below (s₁.setTop (mkF m 61 #[iv p0] [(.int (1 : Int32))])) _
                                            refine XS.goto X0.here hx rfl (pc0 := 61) (pc' := 65) rfl (hb hby d2_61) (by decide) (by decide) ?_
                                            show Steps p.tables e below (s₁.setTop (mkF m 65 #[iv p0] [(.int (1 : Int32))])) _
                                            exact k
                                          · simp only [if_neg hc10] at k
                                            refine XS.icmpYes X0.here hx rfl (pc0 := 57) (pc' := 64) rfl (hb hby d2_57) rfl (feq hc10).2 (by decide) (by decide) ?_
                                            show Steps p.tables e below (s₁.setTop (mkF m 64 #[iv p0] [])) _
                                            refine XS.iconst X0.here hx rfl (hb hby d2_64) ?_
                                            show Steps p.tables e below (s₁.setTop (mkF m 65 #[iv p0] [(.int (0 : Int32))])) _
                                            exact k
                                        show Steps p.tables e below (s₁.setTop (mkF m 65 #[iv p0] [(.int (if p0 = (57 : Int32) then (1 : Int32) else (0 : Int32)))])) _
                                        exact k
                                    show Steps p.tables e below (s₁.setTop (mkF m 65 #[iv p0] [(.int (if p0 = (56 : Int32) then (1 : Int32) else (if p0 = (57 : Int32) then (1 : Int32) else (0 : Int32))))])) _
                                    exact k
                                show Steps p.tables e below (s₁.setTop (mkF m 65 #[iv p0] [(.int (if p0 = (55 : Int32) then (1 : Int32) else (if p0 = (56 : Int32) then (1 : Int32) else (if p0 = (57 : Int32) then (1 : Int32) else (0 : Int32)))))])) _
                                exact k
                            show Steps p.tables e below (s₁.setTop (mkF m 65 #[iv p0] [(.int (if p0 = (54 : Int32) then (1 : Int32) else (if p0 = (55 : Int32) then (1 : Int32) else (if p0 = (56 : Int32) then (1 : Int32) else (if p0 = (57 : Int32) then (1 : Int32) else (0 : Int32))))))])) _
                            exact k
                        show Steps p.tables e below (s₁.setTop (mkF m 65 #[iv p0] [(.int (if p0 = (53 : Int32) then (1 : Int32) else (if p0 = (54 : Int32) then (1 : Int32) else (if p0 = (55 : Int32) then (1 : Int32) else (if p0 = (56 : Int32) then (1 : Int32) else (if p0 = (57 : Int32) then (1 : Int32) else (0 : Int32)))))))])) _
                        exact k
                    show Steps p.tables e below (s₁.setTop (mkF m 65 #[iv p0] [(.int (if p0 = (52 : Int32) then (1 : Int32) else (if p0 = (53 : Int32) then (1 : Int32) else (if p0 = (54 : Int32) then (1 : Int32) else (if p0 = (55 : Int32) then (1 : Int32) else (if p0 = (56 : Int32) then (1 : Int32) else (if p0 = (57 : Int32) then (1 : Int32) else (0 : Int32))))))))])) _
                    exact k
                show Steps p.tables e below (s₁.setTop (mkF m 65 #[iv p0] [(.int (if p0 = (51 : Int32) then (1 : Int32) else (if p0 = (52 : Int32) then (1 : Int32) else (if p0 = (53 : Int32) then (1 : Int32) else (if p0 = (54 : Int32) then (1 : Int32) else (if p0 = (55 : Int32) then (1 : Int32) else (if p0 = (56 : Int32) then (1 : Int32) else (if p0 = (57 : Int32) then (1 : Int32) else (0 : Int32)))))))))])) _
                exact k
            show Steps p.tables e below (s₁.setTop (mkF m 65 #[iv p0] [(.int (if p0 = (50 : Int32) then (1 : Int32) else (if p0 = (51 : Int32) then (1 : Int32) else (if p0 = (52 : Int32) then (1 : Int32) else (if p0 = (53 : Int32) then (1 : Int32) else (if p0 = (54 : Int32) then (1 : Int32) else (if p0 = (55 : Int32) then (1 : Int32) else (if p0 = (56 : Int32) then (1 : Int32) else (if p0 = (57 : Int32) then (1 : Int32) else (0 : Int32))))))))))])) _
            exact k
        show Steps p.tables e below (s₁.setTop (mkF m 65 #[iv p0] [(.int (if p0 = (49 : Int32) then (1 : Int32) else (if p0 = (50 : Int32) then (1 : Int32) else (if p0 = (51 : Int32) then (1 : Int32) else (if p0 = (52 : Int32) then (1 : Int32) else (if p0 = (53 : Int32) then (1 : Int32) else (if p0 = (54 : Int32) then (1 : Int32) else (if p0 = (55 : Int32) then (1 : Int32) else (if p0 = (56 : Int32) then (1 : Int32) else (if p0 = (57 : Int32) then (1 : Int32) else (0 : Int32)))))))))))])) _
        exact k
    show Steps p.tables e below (s₁.setTop (mkF m 65 #[iv p0] [(.int (if p0 = (48 : Int32) then (1 : Int32) else (if p0 = (49 : Int32) then (1 : Int32) else (if p0 = (50 : Int32) then (1 : Int32) else (if p0 = (51 : Int32) then (1 : Int32) else (if p0 = (52 : Int32) then (1 : Int32) else (if p0 = (53 : Int32) then (1 : Int32) else (if p0 = (54 : Int32) then (1 : Int32) else (if p0 = (55 : Int32) then (1 : Int32) else (if p0 = (56 : Int32) then (1 : Int32) else (if p0 = (57 : Int32) then (1 : Int32) else (0 : Int32))))))))))))])) _
    exact k
  exact own_retN X0 Bd.notSynchronized hx (t := .boolean) Bd.returns (by simp) (hb hby d2_65) (by
      rw [show s₁.heap = h0 from e0]
      exact ⟨congrArg (fun z => some (Value.int z)) (show nar .boolean (if p0 = (48 : Int32) then (1 : Int32) else (if p0 = (49 : Int32) then (1 : Int32) else (if p0 = (50 : Int32) then (1 : Int32) else (if p0 = (51 : Int32) then (1 : Int32) else (if p0 = (52 : Int32) then (1 : Int32) else (if p0 = (53 : Int32) then (1 : Int32) else (if p0 = (54 : Int32) then (1 : Int32) else (if p0 = (55 : Int32) then (1 : Int32) else (if p0 = (56 : Int32) then (1 : Int32) else (if p0 = (57 : Int32) then (1 : Int32) else (0 : Int32))))))))))) = (fv2 p0) from rfl), N0, rfl⟩) (by decide) (by decide)

theorem own_ten (x : Int32) (h1 : ¬ (x < (48 : Int32))) (h2 : ¬ ((57 : Int32) < x)) : x = (48 : Int32) ∨ x = (49 : Int32) ∨ x = (50 : Int32) ∨ x = (51 : Int32) ∨ x = (52 : Int32) ∨ x = (53 : Int32) ∨ x = (54 : Int32) ∨ x = (55 : Int32) ∨ x = (56 : Int32) ∨ x = (57 : Int32) := by
  have e48 : (48 : Int32).toInt = 48 := by decide
  have e49 : (49 : Int32).toInt = 49 := by decide
  have e50 : (50 : Int32).toInt = 50 := by decide
  have e51 : (51 : Int32).toInt = 51 := by decide
  have e52 : (52 : Int32).toInt = 52 := by decide
  have e53 : (53 : Int32).toInt = 53 := by decide
  have e54 : (54 : Int32).toInt = 54 := by decide
  have e55 : (55 : Int32).toInt = 55 := by decide
  have e56 : (56 : Int32).toInt = 56 := by decide
  have e57 : (57 : Int32).toInt = 57 := by decide
  rw [Int32.lt_iff_toInt_lt] at h1 h2
  simp only [← Int32.toInt_inj, e48, e49, e50, e51, e52, e53, e54, e55, e56, e57]
  omega
theorem own_law (x : Int32) : fv1 x = fv2 x := by
  by_cases a : x < (48 : Int32)
  · unfold fv1 fv2
    have n48 : ¬ (x = (48 : Int32)) := fun q => by subst q; revert a; decide
    have n49 : ¬ (x = (49 : Int32)) := fun q => by subst q; revert a; decide
    have n50 : ¬ (x = (50 : Int32)) := fun q => by subst q; revert a; decide
    have n51 : ¬ (x = (51 : Int32)) := fun q => by subst q; revert a; decide
    have n52 : ¬ (x = (52 : Int32)) := fun q => by subst q; revert a; decide
    have n53 : ¬ (x = (53 : Int32)) := fun q => by subst q; revert a; decide
    have n54 : ¬ (x = (54 : Int32)) := fun q => by subst q; revert a; decide
    have n55 : ¬ (x = (55 : Int32)) := fun q => by subst q; revert a; decide
    have n56 : ¬ (x = (56 : Int32)) := fun q => by subst q; revert a; decide
    have n57 : ¬ (x = (57 : Int32)) := fun q => by subst q; revert a; decide
    simp only [if_pos a, if_neg n48, if_neg n49, if_neg n50, if_neg n51, if_neg n52, if_neg n53, if_neg n54, if_neg n55, if_neg n56, if_neg n57]
  · by_cases b : (57 : Int32) < x
    · unfold fv1 fv2
      have n48 : ¬ (x = (48 : Int32)) := fun q => by subst q; revert b; decide
      have n49 : ¬ (x = (49 : Int32)) := fun q => by subst q; revert b; decide
      have n50 : ¬ (x = (50 : Int32)) := fun q => by subst q; revert b; decide
      have n51 : ¬ (x = (51 : Int32)) := fun q => by subst q; revert b; decide
      have n52 : ¬ (x = (52 : Int32)) := fun q => by subst q; revert b; decide
      have n53 : ¬ (x = (53 : Int32)) := fun q => by subst q; revert b; decide
      have n54 : ¬ (x = (54 : Int32)) := fun q => by subst q; revert b; decide
      have n55 : ¬ (x = (55 : Int32)) := fun q => by subst q; revert b; decide
      have n56 : ¬ (x = (56 : Int32)) := fun q => by subst q; revert b; decide
      have n57 : ¬ (x = (57 : Int32)) := fun q => by subst q; revert b; decide
      simp only [if_neg a, if_pos b, if_neg n48, if_neg n49, if_neg n50, if_neg n51, if_neg n52, if_neg n53, if_neg n54, if_neg n55, if_neg n56, if_neg n57]
    · rcases own_ten x a b with rfl | rfl | rfl | rfl | rfl | rfl | rfl | rfl | rfl | rfl <;> decide

theorem pn_0 : plainName "com/example/tidesheet/tidesheet/io/NccsvSyntaxIsDigitPinLaw" = true := by first | (simp [plainName, overriddenIn]; done) | decide +kernel
theorem pd_0 : parseMethodDescriptor "(I)Z" = some ⟨[.int], some .boolean⟩ := by decide +kernel
theorem ef_0 (m : MethodId) (x0 : Int32) (x1 : Int32) : entryFrame m #[(.int x0), (.int x1)] maxLocals = mkF m 0 #[iv x0, iv x1, oU, oU, oU] [] := by first | (simp [entryFrame, mkF, argsToLocals, Value.category, maxLocals]; done) | rfl
def Q0 (Z : State) (p0 : Int32) (p1 : Int32) (h0 : Heap) (n0 : Nat) (v : Option Value) (h : Heap) (L : List Loc) : Prop := v = some (.int (1 : Int32)) ∧ Fr n0 L
set_option maxRecDepth 65536 in
set_option maxHeartbeats 40000000 in
theorem rm0 (l : Launch) (Z : State) (a0 : Array Value) (hw : ∀ d ∈ tables_1, d.before a0 Z = true) (ws : List Jvm.Cond) (p0 : Int32) (p1 : Int32) (h0 : Heap) (n0 : Nat) (Z0 : n0 ≤ h0.size) :
    MetFree l x (head1 (Jvm.Cond.code x code maxLocals ret :: ws) room_1) (fun a U => a = #[(.int p0), (.int p1)] ∧ Z.Warmed39 U.vm ∧ U.heap = h0) (fun _ _ _ _ _ => True) (fun _ U o U' => ∃ v L, o = .returned v ∧ Q0 Z p0 p1 h0 n0 v U'.heap L ∧ FrameEnd U o U' L room_1.cells room_1.slots) := by
  refine MetFree.of_bodySF (plainFor_of_name pn_0) hisR ?_
  intro p e s m args below meth c s₁ Bd hml0 hP hK
  obtain ⟨rfl, hZ, hh⟩ := hP
  have hx := Bd.exec
  have hby := Bd.bytes
  have hml : c.maxLocals = 5 := hml0
  have hown : s.vm.findClass "com/example/tidesheet/tidesheet/io/NccsvSyntaxIsDigitPinLaw" = some m.cls := findClass_of_methodNamed Bd.named
  have hnm := (name_of_methodNamed Bd.named Bd.method).1
  have X0 : Stand p l e room_1 s m #[(.int p0), (.int p1)] below meth c s₁ [] 0 0 := Stand.of_body Bd
  have e0 : s₁.heap = h0 := by rw [← hh, Bd.state]; rfl
  have N0 := Fr.nil n0
  change own_Go p e below (own_Post s (Q0 Z p0 p1 h0 n0) room_1.cells room_1.slots) (s₁.setTop (entryFrame m #[(.int p0), (.int p1)] maxLocals))
  refine own_by (fun t k => castTop (ef_0 m p0 p1) k) ?_
  show own_Go p e below _ (s₁.setTop (mkF m 0 #[iv p0, iv p1, oU, oU, oU] []))
  refine own_by (B := s₁.setTop (mkF m 9 #[iv p0, iv p1, iv ((40 : Int32) + (p1 &&& (31 : Int32))), oU, oU] [(.int p0)])) (fun t k => ?_) ?_
  · show Steps p.tables e below (s₁.setTop (mkF m 0 #[iv p0, iv p1, oU, oU, oU] [])) _
    refine XS.bipush X0.here hx rfl (hb hby at_0) ?_
    show Steps p.tables e below (s₁.setTop (mkF m 2 #[iv p0, iv p1, oU, oU, oU] [(.int (40 : Int32))])) _
    refine XS.iloadN X0.here hx rfl (hb hby at_2) rfl ?_
    show Steps p.tables e below (s₁.setTop (mkF m 3 #[iv p0, iv p1, oU, oU, oU] [(.int p1), (.int (40 : Int32))])) _
    refine XS.bipush X0.here hx rfl (hb hby at_3) ?_
    show Steps p.tables e below (s₁.setTop (mkF m 5 #[iv p0, iv p1, oU, oU, oU] [(.int (31 : Int32)), (.int p1), (.int (40 : Int32))])) _
    refine XS.iand X0.here hx rfl (hb hby at_5) rfl ?_
    show Steps p.tables e below (s₁.setTop (mkF m 6 #[iv p0, iv p1, oU, oU, oU] [(.int (p1 &&& (31 : Int32))), (.int (40 : Int32))])) _
    refine XS.iadd X0.here hx rfl (hb hby at_6) rfl ?_
    show Steps p.tables e below (s₁.setTop (mkF m 7 #[iv p0, iv p1, oU, oU, oU] [(.int ((40 : Int32) + (p1 &&& (31 : Int32))))])) _
    refine XS.istoreN X0.here hx rfl (hb hby at_7) rfl (l' := #[iv p0, iv p1, iv ((40 : Int32) + (p1 &&& (31 : Int32))), oU, oU]) rfl ?_
    show Steps p.tables e below (s₁.setTop (mkF m 8 #[iv p0, iv p1, iv ((40 : Int32) + (p1 &&& (31 : Int32))), oU, oU] [])) _
    refine XS.iloadN X0.here hx rfl (hb hby at_8) rfl ?_
    show Steps p.tables e below (s₁.setTop (mkF m 9 #[iv p0, iv p1, iv ((40 : Int32) + (p1 &&& (31 : Int32))), oU, oU] [(.int p0)])) _
    exact k
  refine own_cc (own_callS X0 hx hZ (y := (⟨"com/example/tidesheet/tidesheet/io/NccsvSyntax", "isDigit", "(I)Z"⟩ : MethodName)) hown (hw _ (List.mem_of_getElem? (i := 0) rfl)) (hw _ (List.mem_of_getElem? (i := 1) rfl)) (hw _ (List.mem_of_getElem? (i := 2) rfl)) (hw _ (List.mem_of_getElem? (i := 3) rfl)) (by decide) (rm1 l Z a0 hw [] p0 h0 n0 Z0 ) e0 0 (by decide) (by decide) (by decide) (by decide) rfl (by rw [hml]; rfl) [(.int p0)] [] rfl (lenOf pd_0 rfl) rfl (by show 2 * 0 + _ ≤ _; exact Nat.le_of_eq rfl) (hb hby at_9)) fun T2 L2 v2 X2 hQ2 => ?_
  obtain ⟨rfl, N2, e2⟩ := hQ2
  replace N0 := Fr.app N0 N2
  show own_Go p e below _ (T2.setTop (mkF m 12 #[iv p0, iv p1, iv ((40 : Int32) + (p1 &&& (31 : Int32))), oU, oU] [(.int (fv1 p0))]))
  refine own_by (B := T2.setTop (mkF m 13 #[iv p0, iv p1, iv ((40 : Int32) + (p1 &&& (31 : Int32))), oU, oU] [(.int p0), (.int (fv1 p0))])) (fun t k => ?_) ?_
  · show Steps p.tables e below (T2.setTop (mkF m 12 #[iv p0, iv p1, iv ((40 : Int32) + (p1 &&& (31 : Int32))), oU, oU] [(.int (fv1 p0))])) _
    refine XS.iloadN X2.here hx rfl (hb hby at_12) rfl ?_
    show Steps p.tables e below (T2.setTop (mkF m 13 #[iv p0, iv p1, iv ((40 : Int32) + (p1 &&& (31 : Int32))), oU, oU] [(.int p0), (.int (fv1 p0))])) _
    exact k
  refine own_cc (own_callS X2 hx hZ (y := (⟨"com/example/tidesheet/tidesheet/io/NccsvSyntaxIsDigitPinLaw", "isOneOfTenDigits", "(I)Z"⟩ : MethodName)) hown (hw _ (List.mem_of_getElem? (i := 4) rfl)) (hw _ (List.mem_of_getElem? (i := 5) rfl)) (hw _ (List.mem_of_getElem? (i := 6) rfl)) (hw _ (List.mem_of_getElem? (i := 7) rfl)) (by decide) (rm2 l Z a0 hw [] p0 h0 n0 Z0 ) e2 1 (by decide) (by decide) (by decide) (by decide) rfl (by rw [hml]; rfl) [(.int p0)] [(.int (fv1 p0))] rfl (lenOf pd_0 rfl) rfl (by show 2 * 0 + _ ≤ _; exact Nat.le_of_eq rfl) (hb hby at_13)) fun T4 L4 v4 X4 hQ4 => ?_
  obtain ⟨rfl, N4, e4⟩ := hQ4
  replace N0 := Fr.app N0 N4
  show own_Go p e below _ (T4.setTop (mkF m 16 #[iv p0, iv p1, iv ((40 : Int32) + (p1 &&& (31 : Int32))), oU, oU] [(.int (fv2 p0)), (.int (fv1 p0))]))
  refine own_by (B := T4.setTop (mkF m 26 #[iv p0, iv p1, iv ((40 : Int32) + (p1 &&& (31 : Int32))), iv (1 : Int32), oU] [(.int ((40 : Int32) + (p1 &&& (31 : Int32))))])) (fun t k => ?_) ?_
  · show Steps p.tables e below (T4.setTop (mkF m 16 #[iv p0, iv p1, iv ((40 : Int32) + (p1 &&& (31 : Int32))), oU, oU] [(.int (fv2 p0)), (.int (fv1 p0))])) _
    refine XS.icmpNo X4.here hx rfl (hb hby at_16) rfl (teq (own_law _)).2 ?_
    show Steps p.tables e below (T4.setTop (mkF m 19 #[iv p0, iv p1, iv ((40 : Int32) + (p1 &&& (31 : Int32))), oU, oU] [])) _
    refine XS.iconst X4.here hx rfl (hb hby at_19) ?_
    show Steps p.tables e below (T4.setTop (mkF m 20 #[iv p0, iv p1, iv ((40 : Int32) + (p1 &&& (31 : Int32))), oU, oU] [(.int (1 : Int32))])) _
    refine XS.goto X4.here hx rfl (pc0 := 20) (pc' := 24) rfl (hb hby at_20) (by decide) (by decide) ?_
    show Steps p.tables e below (T4.setTop (mkF m 24 #[iv p0, iv p1, iv ((40 : Int32) + (p1 &&& (31 : Int32))), oU, oU] [(.int (1 : Int32))])) _
    refine XS.istoreN X4.here hx rfl (hb hby at_24) rfl (l' := #[iv p0, iv p1, iv ((40 : Int32) + (p1 &&& (31 : Int32))), iv (1 : Int32), oU]) rfl ?_
    show Steps p.tables e below (T4.setTop (mkF m 25 #[iv p0, iv p1, iv ((40 : Int32) + (p1 &&& (31 : Int32))), iv (1 : Int32), oU] [])) _
    refine XS.iloadN X4.here hx rfl (hb hby at_25) rfl ?_
    show Steps p.tables e below (T4.setTop (mkF m 26 #[iv p0, iv p1, iv ((40 : Int32) + (p1 &&& (31 : Int32))), iv (1 : Int32), oU] [(.int ((40 : Int32) + (p1 &&& (31 : Int32))))])) _
    exact k
  refine own_cc (own_callS X4 hx hZ (y := (⟨"com/example/tidesheet/tidesheet/io/NccsvSyntax", "isDigit", "(I)Z"⟩ : MethodName)) hown (hw _ (List.mem_of_getElem? (i := 0) rfl)) (hw _ (List.mem_of_getElem? (i := 1) rfl)) (hw _ (List.mem_of_getElem? (i := 2) rfl)) (hw _ (List.mem_of_getElem? (i := 3) rfl)) (by decide) (rm1 l Z a0 hw [] ((40 : Int32) + (p1 &&& (31 : Int32))) h0 n0 Z0 ) e4 0 (by decide) (by decide) (by decide) (by decide) rfl (by rw [hml]; rfl) [(.int ((40 : Int32) + (p1 &&& (31 : Int32))))] [] rfl (lenOf pd_0 rfl) rfl (by show 2 * 0 + _ ≤ _; exact Nat.le_of_eq rfl) (hb hby at_26)) fun T6 L6 v6 X6 hQ6 => ?_
  obtain ⟨rfl, N6, e6⟩ := hQ6
  replace N0 := Fr.app N0 N6
  show own_Go p e below _ (T6.setTop (mkF m 29 #[iv p0, iv p1, iv ((40 : Int32) + (p1 &&& (31 : Int32))), iv (1 : Int32), oU] [(.int (fv1 ((40 : Int32) + (p1 &&& (31 : Int32)))))]))
  refine own_by (B := T6.setTop (mkF m 30 #[iv p0, iv p1, iv ((40 : Int32) + (p1 &&& (31 : Int32))), iv (1 : Int32), oU] [(.int ((40 : Int32) + (p1 &&& (31 : Int32)))), (.int (fv1 ((40 : Int32) + (p1 &&& (31 : Int32)))))])) (fun t k => ?_) ?_
  · show Steps p.tables e below (T6.setTop (mkF m 29 #[iv p0, iv p1, iv ((40 : Int32) + (p1 &&& (31 : Int32))), iv (1 : Int32), oU] [(.int (fv1 ((40 : Int32) + (p1 &&& (31 : Int32)))))])) _
    refine XS.iloadN X6.here hx rfl (hb hby at_29) rfl ?_
    show Steps p.tables e below (T6.setTop (mkF m 30 #[iv p0, iv p1, iv ((40 : Int32) + (p1 &&& (31 : Int32))), iv (1 : Int32), oU] [(.int ((40 : Int32) + (p1 &&& (31 : Int32)))), (.int (fv1 ((40 : Int32) + (p1 &&& (31 : Int32)))))])) _
    exact k
  refine own_cc (own_callS X6 hx hZ (y := (⟨"com/example/tidesheet/tidesheet/io/NccsvSyntaxIsDigitPinLaw", "isOneOfTenDigits", "(I)Z"⟩ : MethodName)) hown (hw _ (List.mem_of_getElem? (i := 4) rfl)) (hw _ (List.mem_of_getElem? (i := 5) rfl)) (hw _ (List.mem_of_getElem? (i := 6) rfl)) (hw _ (List.mem_of_getElem? (i := 7) rfl)) (by decide) (rm2 l Z a0 hw [] ((40 : Int32) + (p1 &&& (31 : Int32))) h0 n0 Z0 ) e6 1 (by decide) (by decide) (by decide) (by decide) rfl (by rw [hml]; rfl) [(.int ((40 : Int32) + (p1 &&& (31 : Int32))))] [(.int (fv1 ((40 : Int32) + (p1 &&& (31 : Int32)))))] rfl (lenOf pd_0 rfl) rfl (by show 2 * 0 + _ ≤ _; exact Nat.le_of_eq rfl) (hb hby at_30)) fun T8 L8 v8 X8 hQ8 => ?_
  obtain ⟨rfl, N8, e8⟩ := hQ8
  replace N0 := Fr.app N0 N8
  show own_Go p e below _ (T8.setTop (mkF m 33 #[iv p0, iv p1, iv ((40 : Int32) + (p1 &&& (31 : Int32))), iv (1 : Int32), oU] [(.int (fv2 ((40 : Int32) + (p1 &&& (31 : Int32))))), (.int (fv1 ((40 : Int32) + (p1 &&& (31 : Int32)))))]))
  refine own_by (B := T8.setTop (mkF m 57 #[iv p0, iv p1, iv ((40 : Int32) + (p1 &&& (31 : Int32))), iv (1 : Int32), iv (1 : Int32)] [(.int (1 : Int32))])) (fun t k => ?_) ?_
  · show Steps p.tables e below (T8.setTop (mkF m 33 #[iv p0, iv p1, iv ((40 : Int32) + (p1 &&& (31 : Int32))), iv (1 : Int32), oU] [(.int (fv2 ((40 : Int32) + (p1 &&& (31 : Int32))))), (.int (fv1 ((40 : Int32) + (p1 &&& (31 : Int32)))))])) _
    refine XS.icmpNo X8.here hx rfl (hb hby at_33) rfl (teq (own_law _)).2 ?_
    show Steps p.tables e below (T8.setTop (mkF m 36 #[iv p0, iv p1, iv ((40 : Int32) + (p1 &&& (31 : Int32))), iv (1 : Int32), oU] [])) _
    refine XS.iconst X8.here hx rfl (hb hby at_36) ?_
    show Steps p.tables e below (T8.setTop (mkF m 37 #[iv p0, iv p1, iv ((40 : Int32) + (p1 &&& (31 : Int32))), iv (1 : Int32), oU] [(.int (1 : Int32))])) _
    refine XS.goto X8.here hx rfl (pc0 := 37) (pc' := 41) rfl (hb hby at_37) (by decide) (by decide) ?_
    show Steps p.tables e below (T8.setTop (mkF m 41 #[iv p0, iv p1, iv ((40 : Int32) + (p1 &&& (31 : Int32))), iv (1 : Int32), oU] [(.int (1 : Int32))])) _
    refine XS.istore X8.here hx rfl (hb hby at_41) rfl (l' := #[iv p0, iv p1, iv ((40 : Int32) + (p1 &&& (31 : Int32))), iv (1 : Int32), iv (1 : Int32)]) rfl ?_
    show Steps p.tables e below (T8.setTop (mkF m 43 #[iv p0, iv p1, iv ((40 : Int32) + (p1 &&& (31 : Int32))), iv (1 : Int32), iv (1 : Int32)] [])) _
    refine XS.iloadN X8.here hx rfl (hb hby at_43) rfl ?_
    show Steps p.tables e below (T8.setTop (mkF m 44 #[iv p0, iv p1, iv ((40 : Int32) + (p1 &&& (31 : Int32))), iv (1 : Int32), iv (1 : Int32)] [(.int (1 : Int32))])) _
    refine XS.ifNo X8.here hx rfl (hb hby at_44) rfl ((if0 _ _).trans (feq (by decide : ¬ ((1 : Int32) = (0 : Int32)))).1) ?_
    show Steps p.tables e below (T8.setTop (mkF m 47 #[iv p0, iv p1, iv ((40 : Int32) + (p1 &&& (31 : Int32))), iv (1 : Int32), iv (1 : Int32)] [])) _
    refine XS.iload X8.here hx rfl (hb hby at_47) rfl ?_
    show Steps p.tables e below (T8.setTop (mkF m 49 #[iv p0, iv p1, iv ((40 : Int32) + (p1 &&& (31 : Int32))), iv (1 : Int32), iv (1 : Int32)] [(.int (1 : Int32))])) _
    refine XS.ifNo X8.here hx rfl (hb hby at_49) rfl ((if0 _ _).trans (feq (by decide : ¬ ((1 : Int32) = (0 : Int32)))).1) ?_
    show Steps p.tables e below (T8.setTop (mkF m 52 #[iv p0, iv p1, iv ((40 : Int32) + (p1 &&& (31 : Int32))), iv (1 : Int32), iv (1 : Int32)] [])) _
    refine XS.iconst X8.here hx rfl (hb hby at_52) ?_
    show Steps p.tables e below (T8.setTop (mkF m 53 #[iv p0, iv p1, iv ((40 : Int32) + (p1 &&& (31 : Int32))), iv (1 : Int32), iv (1 : Int32)] [(.int (1 : Int32))])) _
    refine XS.goto X8.here hx rfl (pc0 := 53) (pc' := 57) rfl (hb hby at_53) (by decide) (by decide) ?_
    show Steps p.tables e below (T8.setTop (mkF m 57 #[iv p0, iv p1, iv ((40 : Int32) + (p1 &&& (31 : Int32))), iv (1 : Int32), iv (1 : Int32)] [(.int (1 : Int32))])) _
    exact k
  exact own_retN X8 Bd.notSynchronized hx (t := .boolean) Bd.returns (by simp) (hb hby at_57) (by
      rw [show T8.heap = h0 from e8]
      exact ⟨rfl, N0⟩) (by decide) (by decide)

set_option maxRecDepth 65536 in
set_option maxHeartbeats 40000000 in
theorem comes_1 {Post : Tables → Env → Array Value → State → Outcome → State → Prop} (hpost : ∀ tb e args s v u, (limb_1_1.after args s (.returned v) u = true ∧ limb_1_2.after args s (.returned v) u = true ∧ True) → FrameEnd s (.returned v) u (Jvm.fieldLocs frame_1_writes args s ++ Jvm.arrayLocs frame_1_arrays args s ++ Jvm.staticLocs frame_1_statics s) 0 0 → Post tb e args s (.returned v) u) :
    ArmFor flags0 classFile x code maxLocals ret World_1 tables_1 room_1 Calls_1 rest_1 Pre_1 Post := by
  intro l hfl _ _ p e ha hc hk s m args below hf hA hF happ hP
  obtain ⟨hcalls, hrest, hpre⟩ := hP
  obtain ⟨-, -, -, hnamed, -, -, -, hat⟩ := (Spec.applies_iff hf).mp happ
  obtain ⟨hg, hn⟩ := and_e (Cond.before_iff.mp (show (Jvm.Cond.and given_1 narrow_1).before args s = true from hpre))
  obtain ⟨g0, g0'⟩ := and_e hg
  obtain ⟨g1, g1'⟩ := and_e g0'
  obtain ⟨w0, w1, rfl⟩ : ∃ w0 w1 : Value, args = #[w0, w1] := by
    have hs : args.size = 2 := by simpa [Cond.value, given_1] using g0
    obtain ⟨L⟩ := args
    match L, hs with
    | [w0, w1], _ => exact ⟨w0, w1, rfl⟩
  have hw := fun d (hd : d ∈ tables_1) => atoms_spec (ws := Jvm.Cond.code x code maxLocals ret :: tables_1) hat d (List.mem_cons_of_mem _ hd)
  have hfit : Fit s := fun {y c} hc i hi => by
    obtain ⟨ha, rfl⟩ := Array.getElem?_eq_some_iff.mp hc
    have q := List.all_eq_true.mp ((Array.all_eq_true_iff_forall_mem.mp hF) _ (Array.getElem_mem ha)) i (List.mem_range.mpr hi)
    simpa [Array.getElem?_eq_getElem hi] using q
  obtain ⟨i0, ei0⟩ := is_v g1
  obtain rfl : w0 = (.int i0) := Option.some.inj ei0
  obtain ⟨i1, ei1⟩ := is_v g1'
  obtain rfl : w1 = (.int i1) := Option.some.inj ei1
  obtain ⟨n, o, h1, h2, h3, _, L, rfl, ⟨rfl, N⟩, hq⟩ := rm0 l s _ hw tables_1 i0 i1 s.heap s.heap.size (Nat.le_refl _) p e ha hc hk s m _ below hf ((Spec.applies_iff_loose hf).mp happ).1 ⟨rfl, State.Warmed39.refl s, rfl⟩ trivial
  refine ⟨n, _, h1, h2, h3, hpost _ _ _ _ _ _ ⟨Cond.after_iff.mpr rfl, Cond.after_iff.mpr (eq_i res_at (Term.int_eval (1)) rfl), trivial⟩ ⟨hq.1, hq.2.1, (hq.2.2.sift fun y hy => Or.inr (N y hy)).mono (by decide) (by decide)⟩⟩
theorem main_1_1 : Claimed_1_1 := comes_1 fun _ _ _ _ _ _ h hF => ⟨h.1, hF⟩
theorem main_1_2 : Claimed_1_2 := comes_1 fun _ _ _ _ _ _ h hF => ⟨h.2.1, hF⟩
end Jvm.Pilot.@@N@@
namespace Jvm.Pilot.@@N@@
open Jvm Jvm.ClassFile Sem Op Lib Jvm.Free Jvm.Stand Jvm.Pilot.@@N@@.Jvm.D
/-! MADE BY PROGRAM (witnessworld.py) out of the Statement's table words and the real class files: 9 classes; the members and pool entries that the words name. The judged class is class 1, her method 2. -/
namespace start1
open Jvm.ClassFile
def u (s : String) : CpInfo := .utf8 (stringToUtf16 s)
/-- a pool by its gaps: so many unusable entries, then the entry; so many at the end -/
def gap : Nat → List CpInfo → List CpInfo
  | 0, r => r
  | n + 1, r => .unusable :: gap n r
def poolList (es : List (Nat × CpInfo)) (last : Nat) : List CpInfo := es.foldr (fun e r => gap e.1 (e.2 :: r)) (gap last [])
def pool (es : List (Nat × CpInfo)) (last : Nat) : Array CpInfo := ⟨poolList es last⟩
def fileOf (pool : Array CpInfo) (this : Nat) (attrs : Array Attribute := #[]) (ms : Array MethodInfo := #[]) (fl : Nat := 33) (sup : Nat := 0) (ifs : Array Nat := #[]) (fds : Array FieldInfo := #[]) : ClassFile where
  minorVersion := 0
  majorVersion := 65
  constantPool := pool
  accessFlags := fl
  thisClass := this
  superClass := sup
  interfaces := ifs
  fields := fds
  methods := ms
  attributes := attrs
def plain (name : String) (sup : Option ClassId) : Class where
  name := name
  kind := .ordinary
  loader := none
  accessFlags := 33
  super := sup
  interfaces := #[]
  cf := none
  fields := #[]
  methods := #[]
  instanceTypes := #[]
  staticTypes := #[]
  resolved := #[]
  callSites := []
  init := .initialized
  statics := none
  mirror := none

def pool0 : Array CpInfo := pool [(5, u "<init>"), (0, u "()V"), (1, .class_ 10), (1, u "java/lang/Object")] 113

def k0m0 : Method := { name := "<init>", desc := "()V", sig := { parameters := [], returnType := none }, accessFlags := 1, code := none }
/-- java/lang/Object -/
def k0 : Class := { plain "java/lang/Object" none with
  accessFlags := 33
  interfaces := #[]
  cf := some (fileOf pool0 8 #[] #[{ accessFlags := 1, nameIndex := 5, descriptorIndex := 6, attributes := #[] }] 33 0 #[] #[])
  fields := #[]
  methods := #[k0m0]
  instanceTypes := #[]
  staticTypes := #[]
  resolved := Array.replicate 124 none
  statics := none }

def pool1 : Array CpInfo := pool [(2, .class_ 4), (1, u "java/lang/Object"), (0, u "<init>"), (0, u "()V"), (0, .methodref 8 9), (0, .class_ 10), (0, .nameAndType 11 12), (0, u "com/example/tidesheet/tidesheet/io/NccsvSyntax"), (0, u "isDigit"), (0, u "(I)Z"), (0, .methodref 14 15), (0, .class_ 16), (0, .nameAndType 17 12), (0, u "com/example/tidesheet/tidesheet/io/NccsvSyntaxIsDigitPinLaw"), (0, u "isOneOfTenDigits"), (3, u "law"), (0, u "(II)Z")] 2

def k1m0 : Method := { name := "<init>", desc := "()V", sig := { parameters := [], returnType := none }, accessFlags := 2, code := none }
def k1c1 : Code := { maxStack := 2, maxLocals := 1, code := method_2_code, exceptionTable := #[], attributes := #[] }
def k1m1 : Method := { name := "isOneOfTenDigits", desc := "(I)Z", sig := { parameters := [.int], returnType := some .boolean }, accessFlags := 10, code := some k1c1 }
def k1c2 : Code := { maxStack := 3, maxLocals := 5, code := code, exceptionTable := #[], attributes := #[] }
def k1m2 : Method := { name := "law", desc := "(II)Z", sig := { parameters := [.int, .int], returnType := some .boolean }, accessFlags := 9, code := some k1c2 }
/-- com/example/tidesheet/tidesheet/io/NccsvSyntaxIsDigitPinLaw -/
def k1 : Class := { plain "com/example/tidesheet/tidesheet/io/NccsvSyntaxIsDigitPinLaw" (some 0) with
  accessFlags := 49
  interfaces := #[]
  cf := some (fileOf pool1 14 #[] #[{ accessFlags := 2, nameIndex := 5, descriptorIndex := 6, attributes := #[] }, { accessFlags := 10, nameIndex := 17, descriptorIndex := 12, attributes := #[] }, { accessFlags := 9, nameIndex := 21, descriptorIndex := 22, attributes := #[] }] 49 2 #[] #[])
  fields := #[]
  methods := #[k1m0, k1m1, k1m2]
  instanceTypes := #[]
  staticTypes := #[]
  resolved := Array.replicate 25 none
  statics := none }

def pool2 : Array CpInfo := pool [(2, .class_ 4), (1, u "java/lang/Object"), (0, u "<init>"), (0, u "()V"), (11, .class_ 20), (1, u "com/example/tidesheet/tidesheet/io/NccsvSyntax"), (8, u "isDigit"), (0, u "(I)Z")] 161

def k2m0 : Method := { name := "<init>", desc := "()V", sig := { parameters := [], returnType := none }, accessFlags := 2, code := none }
def k2c1 : Code := { maxStack := 2, maxLocals := 1, code := prog_30_method_15_code, exceptionTable := #[], attributes := #[] }
def k2m1 : Method := { name := "isDigit", desc := "(I)Z", sig := { parameters := [.int], returnType := some .boolean }, accessFlags := 8, code := some k2c1 }
/-- com/example/tidesheet/tidesheet/io/NccsvSyntax -/
def k2 : Class := { plain "com/example/tidesheet/tidesheet/io/NccsvSyntax" (some 0) with
  accessFlags := 48
  interfaces := #[]
  cf := some (fileOf pool2 18 #[] #[{ accessFlags := 2, nameIndex := 5, descriptorIndex := 6, attributes := #[] }, { accessFlags := 8, nameIndex := 29, descriptorIndex := 30, attributes := #[] }] 48 2 #[] #[])
  fields := #[]
  methods := #[k2m0, k2m1]
  instanceTypes := #[]
  staticTypes := #[]
  resolved := Array.replicate 192 none
  statics := none }

def pool3 : Array CpInfo := pool [(1, u "java/lang/Cloneable"), (0, .class_ 1), (0, u "java/lang/Object"), (0, .class_ 3)] 3

/-- java/lang/Cloneable -/
def k3 : Class := { plain "java/lang/Cloneable" (some 0) with
  accessFlags := 1537
  interfaces := #[]
  cf := some (fileOf pool3 2 #[] #[] 1537 4 #[] #[])
  fields := #[]
  methods := #[]
  instanceTypes := #[]
  staticTypes := #[]
  resolved := Array.replicate 8 none
  statics := none }

def pool4 : Array CpInfo := pool [(1, u "java/io/Serializable"), (0, .class_ 1), (0, u "java/lang/Object"), (0, .class_ 3)] 3

/-- java/io/Serializable -/
def k4 : Class := { plain "java/io/Serializable" (some 0) with
  accessFlags := 1537
  interfaces := #[]
  cf := some (fileOf pool4 2 #[] #[] 1537 4 #[] #[])
  fields := #[]
  methods := #[]
  instanceTypes := #[]
  staticTypes := #[]
  resolved := Array.replicate 8 none
  statics := none }

/-- the primitive byte -/
def k5 : Class := { plain "byte" none with kind := .primitive 'B', accessFlags := 0x411 }
/-- [B -/
def k6 : Class := { plain "[B" (some 0) with kind := .array 5 .byte, interfaces := #[3, 4], accessFlags := 1041 }

/-- the primitive int -/
def k7 : Class := { plain "int" none with kind := .primitive 'I', accessFlags := 0x411 }
/-- [I -/
def k8 : Class := { plain "[I" (some 0) with kind := .array 7 .int, interfaces := #[3, 4], accessFlags := 1041 }

def heap : Heap := #[]
def classes : Array Class := #[k0, k1, k2, k3, k4, k5, k6, k7, k8]
def interned : List (Array UInt16 × Addr) := []
def slotsUsed : Nat := 0
def theMethod : MethodId := ⟨1, 2⟩
def args0 : Array Value := #[.int 5, .int 7]
def aboutOver (below : List Frame) : State where
  vm := { classes := classes, interned := interned.toArray }
  heap := heap
  slotsUsed := slotsUsed
  threads := #[{ frames := .invoking theMethod args0 :: below }]
def below0 : List Frame := [.native { method := ⟨0, 0⟩, args := #[] }]
def about1 : State := aboutOver below0
def p0 : Program := .bare "" "" ""
def e0 : Env := launch0.env 0 0 0
theorem w_frames : about1.frames = Frame.invoking theMethod args0 :: below0 := rfl
set_option maxRecDepth 65536 in
theorem w_args : argsFit about1.vm theMethod args0 = true := by decide +kernel
set_option maxRecDepth 65536 in
theorem w_heap : heapFits about1 = true := by decide +kernel
set_option maxRecDepth 65536 in
theorem w_runnable : about1.curStatus? = some .runnable := by decide +kernel
set_option maxRecDepth 65536 in
theorem w_alone : about1.alone = true := by decide +kernel
set_option maxRecDepth 65536 in
theorem w_named : about1.methodNamed? x = some theMethod := by decide +kernel
set_option maxRecDepth 65536 in
theorem w_hears : about1.hears theMethod below0 = true := by decide +kernel
set_option maxRecDepth 65536 in
theorem w_ripe : about1.ripe theMethod args0 below0 = true := by decide +kernel
theorem w_running : about1.status = .running := rfl
set_option maxRecDepth 65536 in
theorem w_room : about1.hasRoom e0.platform room_1 = true :=
  launch0.hasRoom_least _ room_1 (by decide +kernel) (by decide +kernel) (by decide +kernel) (by decide +kernel) (by decide +kernel) (by decide +kernel)
theorem allAtoms_all (ts : List Jvm.Cond) (a : Array Jvm.Value) (st : Jvm.State) : (allAtoms ts).before a st = ts.all (fun c => c.before a st) := by
  induction ts with
  | nil => rfl
  | cons c t ih =>
    show (Jvm.Cond.and c (allAtoms t)).before a st = _
    rw [Jvm.Cond.before_and, ih, List.all_cons]
def words1 : List Jvm.Cond := Jvm.Cond.code x code maxLocals ret :: tables_1
/-- a 'code' word, met by the world's own term for the bytes: nothing is compared byte by byte -/
theorem code_word {y : MethodName} {bytes : ByteArray} {mx : Nat} {rt : Option FieldType} {a : Array Value} {s : State} {m : MethodId} {meth : Method} {c : Code} (h1 : s.methodNamed? y = some m) (h2 : s.vm.method? m = some meth) (h3 : meth.code = some c) (h4 : c.code = bytes)
    (h5 : (c.maxLocals == mx && c.exceptionTable.isEmpty && decide (c.maxStack ≤ mostOperands) && decide (meth.sig.returnType = rt) && !meth.locks && decide (parseMethodDescriptor y.desc = some meth.sig)) = true) : (Jvm.Cond.code y bytes mx rt).before a s = true := by
  simp only [Bool.and_eq_true, beq_iff_eq, Bool.not_eq_true', decide_eq_true_eq] at h5
  obtain ⟨⟨⟨⟨⟨g1, g2⟩, g3⟩, g4⟩, g5⟩, g6⟩ := h5
  simp [Cond.before, Cond.holds, Cond.value, h1, h2, h3, h4, g1, g2, g3, g4, g5, g6]
def isCode : Jvm.Cond → Bool
  | .code _ _ _ _ => true
  | _ => false
theorem all_split {L : List Jvm.Cond} {P : Jvm.Cond → Bool} (h1 : L.all (fun c => isCode c || P c) = true) (h2 : ∀ c ∈ L.filter isCode, P c = true) : L.all P = true := by
  refine List.all_eq_true.mpr fun c hc => ?_
  have h := List.all_eq_true.mp h1 c hc
  rcases Bool.eq_false_or_eq_true (isCode c) with hi | hi
  · exact h2 c (List.mem_filter.mpr ⟨hc, hi⟩)
  · simpa [hi] using h
set_option maxRecDepth 65536 in
theorem w_c0 : (Jvm.Cond.code x code maxLocals ret).before args0 about1 = true := code_word (m := ⟨1, 2⟩) (meth := k1m2) (c := k1c2) (by decide +kernel) rfl rfl rfl (by decide +kernel)
set_option maxRecDepth 65536 in
theorem w_c1 : (Jvm.Cond.code ({ cls := "com/example/tidesheet/tidesheet/io/NccsvSyntax", name := "isDigit", desc := "(I)Z" } : Jvm.MethodName) prog_30_method_15_code (1 : Nat) (Option.some Jvm.ClassFile.FieldType.boolean)).before args0 about1 = true := code_word (m := ⟨2, 1⟩) (meth := k2m1) (c := k2c1) (by decide +kernel) rfl rfl rfl (by decide +kernel)
set_option maxRecDepth 65536 in
theorem w_c2 : (Jvm.Cond.code ({ cls := "com/example/tidesheet/tidesheet/io/NccsvSyntaxIsDigitPinLaw", name := "isOneOfTenDigits", desc := "(I)Z" } : Jvm.MethodName) method_2_code (1 : Nat) (Option.some Jvm.ClassFile.FieldType.boolean)).before args0 about1 = true := code_word (m := ⟨1, 1⟩) (meth := k1m1) (c := k1c1) (by decide +kernel) rfl rfl rfl (by decide +kernel)
def codes1 : List Jvm.Cond := [Jvm.Cond.code x code maxLocals ret, Jvm.Cond.code ({ cls := "com/example/tidesheet/tidesheet/io/NccsvSyntax", name := "isDigit", desc := "(I)Z" } : Jvm.MethodName) prog_30_method_15_code (1 : Nat) (Option.some Jvm.ClassFile.FieldType.boolean), Jvm.Cond.code ({ cls := "com/example/tidesheet/tidesheet/io/NccsvSyntaxIsDigitPinLaw", name := "isOneOfTenDigits", desc := "(I)Z" } : Jvm.MethodName) method_2_code (1 : Nat) (Option.some Jvm.ClassFile.FieldType.boolean)]
set_option maxRecDepth 65536 in
theorem codes_eq : words1.filter isCode = codes1 := rfl
theorem w_codes : ∀ c ∈ words1.filter isCode, c.before args0 about1 = true := by
  rw [codes_eq]
  intro c hc
  simp only [codes1, List.mem_cons, List.not_mem_nil, or_false] at hc
  rcases hc with rfl | rfl | rfl
  · exact w_c0
  · exact w_c1
  · exact w_c2
set_option maxRecDepth 65536 in
theorem w_t1 : words1.all (fun c => isCode c || c.before args0 about1) = true := by decide +kernel
theorem w_tables : (allAtoms (Jvm.Cond.code x code maxLocals ret :: tables_1)).before args0 about1 = true := by
  rw [allAtoms_all]
  show words1.all (fun c => c.before args0 about1) = true
  refine all_split ?_ w_codes
  rw [w_t1]
set_option maxRecDepth 65536 in
theorem w_case : (Jvm.Cond.and given_1 narrow_1).before args0 about1 = true := by decide +kernel
theorem w_applies : (headSpec (Jvm.Cond.code x code maxLocals ret :: tables_1) room_1).applies x e0.platform about1 = true :=
  (Spec.applies_iff w_frames).mpr ⟨w_running, w_runnable, w_alone, w_named, w_hears, w_ripe, w_room, w_tables⟩
theorem atStart : AtStart classFile x code maxLocals ret World_1 tables_1 room_1 Calls_1 rest_1 Pre_1 launch0 p0 e0 about1 theMethod args0 below0 :=
  ⟨lists_1, trivial, launch0.admits_env _ _ _, launch0.least_env, fairChoices_fair.cas, fairChoices_fair.clock, w_frames, w_args, w_heap, w_applies, trivial, trivial, w_case⟩
end start1
theorem witness_1 : WitnessClaimed_1 := ⟨start1.p0, start1.e0, start1.about1, start1.theMethod, start1.args0, start1.below0, start1.atStart⟩
end Jvm.Pilot.@@N@@
