import JvmDerived
import JvmDerived.Pilot.@@N@@Statement
import JvmDerived.Pilot.@@N@@Code
set_option linter.unusedVariables false
set_option linter.unusedSimpArgs false
namespace Jvm.Pilot.@@N@@
open Jvm Jvm.ClassFile Sem Op Lib Jvm.Free Jvm.Stand Jvm.LawKit Jvm.RoadKit Bundle Jvm.Pilot.@@N@@.Jvm.D
section OwnKit
abbrev oU : Slot := .unset
abbrev oS : Slot := .second
abbrev oJ (x : Int64) : Slot := .val (.long x)
variable {p : Program} {l : Launch} {e : Env} {R : Room} {s : State} {m : MethodId} {args : Array Value} {below : List Frame} {meth : Method} {c : Code} {T A B : State} {locs : List Loc} {cells slots : Nat} {G : State → Outcome → Prop} {Q : Option Value → Heap → List Loc → Prop} {C S : Nat} {pc : Nat} {Ls : Array Slot} {rest : List Value}
/-- from A the run ends, and what it leaves is G -/
def own_Go (p : Program) (e : Env) (below : List Frame) (G : State → Outcome → Prop) (A : State) : Prop := ∃ u o, Steps p.tables e below A u ∧ u.status = .running ∧ Ended u below o ∧ G u o
def own_Post (s : State) (Q : Option Value → Heap → List Loc → Prop) (C S : Nat) : State → Outcome → Prop := fun u o => ∃ v L, o = .returned v ∧ Q v u.heap L ∧ FrameEnd s o u L C S
def own_PostW (s : State) (Q : Option Value → Heap → List Loc → Prop) (C S : Nat) : State → Outcome → Prop := fun u o => ∃ v L, o = .returned v ∧ Q v u.heap L ∧ ReturnedEndW s o u L C S
theorem own_by (k : ∀ t, Steps p.tables e below B t → Steps p.tables e below A t) (h : own_Go p e below G B) : own_Go p e below G A := by
  obtain ⟨u, o, h1, h2⟩ := h
  exact ⟨u, o, k _ h1, h2⟩
theorem own_tr (k : Steps p.tables e below A B) (h : own_Go p e below G B) : own_Go p e below G A := by
  obtain ⟨u, o, h1, h2⟩ := h
  exact ⟨u, o, k.trans h1, h2⟩
theorem own_retI (X : Stand p l e R s m args below meth c T locs cells slots) (hlk : meth.locks = false) (hx : p.tables.exec = Jvm.exec) (hret : meth.sig.returnType = some .int) {z : Int32} (hd : decode c.code pc = .ok (.ireturn, 1)) (hq : Q (some (.int z)) T.heap locs) (hC : cells ≤ C) (hS : slots ≤ S) :
    own_Go p e below (own_Post s Q C S) (T.setTop (mkF m pc Ls (.int z :: rest))) := by
  obtain ⟨fs, hr, hrun, hended, hW, hsame⟩ := X.leave (v := some (.int z)) (fun h => by rw [hret] at h; cases h) hlk
  have hm' : T.vm.method? m = some meth := X.method'
  have hn : narrow .int (.int z) = .int z := rfl
  refine ⟨_, _, ?_, hrun, hended, _, _, rfl, hq, ⟨_, rfl⟩, hW, hsame.mono hC hS⟩
  show Steps p.tables e below (T.setTop { method := m, pc := pc, locals := Ls, stack := _ :: rest, locked := none }) _
  jvm_step X.here [X.here.top, hx, hd, hm', hret, hn]
  first | (intro acts; rw [hr _ acts rfl rfl rfl]) | rw [hr _ _ rfl rfl rfl]
  exact Steps.refl _
theorem own_retN (X : Stand p l e R s m args below meth c T locs cells slots) (hlk : meth.locks = false) (hx : p.tables.exec = Jvm.exec) {t : FieldType} (hret : meth.sig.returnType = some t) (ht : t = .boolean ∨ t = .byte ∨ t = .char ∨ t = .short) {z : Int32} (hd : decode c.code pc = .ok (.ireturn, 1)) (hq : Q (some (.int (nar t z))) T.heap locs) (hC : cells ≤ C) (hS : slots ≤ S) :
    own_Go p e below (own_Post s Q C S) (T.setTop (mkF m pc Ls (.int z :: rest))) := by
  obtain ⟨fs, hr, hrun, hended, hW, hsame⟩ := X.leave (v := some (.int (nar t z))) (fun h => by rw [hret] at h; cases h) hlk
  exact ⟨_, _, retN X hx hret ht hd hr, hrun, hended, _, _, rfl, hq, ⟨_, rfl⟩, hW, hsame.mono hC hS⟩
theorem own_retNW {vm₁ : Vm} (X : Stand p l e R (s.setVm vm₁) m args below meth c T locs cells slots) (hlk : meth.locks = false) (hx : p.tables.exec = Jvm.exec) {t : FieldType} (hret : meth.sig.returnType = some t) (ht : t = .boolean ∨ t = .byte ∨ t = .char ∨ t = .short) {z : Int32} (hd : decode c.code pc = .ok (.ireturn, 1)) {n : Nat} (hSi : s.Since vm₁ n) (hn : n ≤ T.heap.size) (hq : Q (some (.int (nar t z))) T.heap locs) (hC : cells ≤ C) (hS : slots ≤ S) :
    own_Go p e below (own_PostW s Q C S) (T.setTop (mkF m pc Ls (.int z :: rest))) := by
  obtain ⟨fs, hr, hrun, hended, h1, h2, h3, h4⟩ := X.leaveW hSi hn (v := some (.int (nar t z))) (fun h => by rw [hret] at h; cases h) hlk
  exact ⟨_, _, retN X hx hret ht hd hr, hrun, hended, _, _, rfl, hq, h1, h2, h3, h4.mono hC hS⟩
theorem own_retL (X : Stand p l e R s m args below meth c T locs cells slots) (hlk : meth.locks = false) (hx : p.tables.exec = Jvm.exec) (hret : meth.sig.returnType = some .long) {z : Int64} (hd : decode c.code pc = .ok (.lreturn, 1)) (hq : Q (some (.long z)) T.heap locs) (hC : cells ≤ C) (hS : slots ≤ S) :
    own_Go p e below (own_Post s Q C S) (T.setTop (mkF m pc Ls [.long z])) := by
  obtain ⟨fs, hr, hrun, hended, hW, hsame⟩ := X.leave (v := some (.long z)) (fun h => by rw [hret] at h; cases h) hlk
  exact ⟨_, _, retOut X hx (t := .long) (i := .lreturn) hret rfl (Or.inr (Or.inl ⟨rfl, rfl, _, rfl⟩)) hd hr, hrun, hended, _, _, rfl, hq, ⟨_, rfl⟩, hW, hsame.mono hC hS⟩
theorem own_retR (X : Stand p l e R s m args below meth c T locs cells slots) (hlk : meth.locks = false) (hx : p.tables.exec = Jvm.exec) {t : FieldType} (hret : meth.sig.returnType = some t) {w : Value} (ht : t.isReference = true) (hn : narrow t w = w) (hw : w.isRef = true) (hd : decode c.code pc = .ok (.areturn, 1)) (hq : Q (some w) T.heap locs) (hC : cells ≤ C) (hS : slots ≤ S) :
    own_Go p e below (own_Post s Q C S) (T.setTop (mkF m pc Ls (w :: rest))) := by
  obtain ⟨fs, hr, hrun, hended, hW, hsame⟩ := X.leave (v := some w) (fun h => by rw [hret] at h; cases h) hlk
  exact ⟨_, _, retOut X hx (t := t) (i := .areturn) hret hn (Or.inr (Or.inr (Or.inr (Or.inr ⟨rfl, ht, hw⟩)))) hd hr, hrun, hended, _, _, rfl, hq, ⟨_, rfl⟩, hW, hsame.mono hC hS⟩
theorem own_retV (X : Stand p l e R s m args below meth c T locs cells slots) (hlk : meth.locks = false) (hx : p.tables.exec = Jvm.exec) (hret : meth.sig.returnType = none) (hd : decode c.code pc = .ok (.return_, 1)) (hq : Q none T.heap locs) (hC : cells ≤ C) (hS : slots ≤ S) :
    own_Go p e below (own_Post s Q C S) (T.setTop (mkF m pc Ls [])) := by
  obtain ⟨fs, hr, hrun, hended, hW, hsame⟩ := X.leave (v := none) (fun _ => rfl) hlk
  exact ⟨_, _, X.returnOut hx hret hd hr, hrun, hended, _, _, rfl, hq, ⟨_, rfl⟩, hW, hsame.mono hC hS⟩
theorem own_nev {Z : State} {h : Heap} {a b : Addr} {C : String} {a0 : Array Value} {n : Nat} {k : ClassId} {ty : FieldType} {z : Int32} {vs : List Value} {dv : Value} (E : Exa Z h a C) (wi : (Jvm.Cond.instantiable C n).before a0 Z = true) (F : Arv Z h b k ty z vs dv) : a ≠ b := by
  obtain ⟨c, A, -⟩ := F
  exact ne_arr E wi A
theorem own_selp {args' : Array Value} {y : MethodName} {n : Nat} (hins : (Jvm.Cond.instantiable y.cls n).before args' s = true) (hpriv : (Jvm.Cond.privateMethod y).before args' s = true) (hinst : (Jvm.Cond.instanceMethod y).before args' s = true) (hy : y.cls ≠ "java/lang/invoke/MethodHandle" ∧ y.cls ≠ "java/lang/invoke/VarHandle") : (Jvm.Cond.selects y.cls y y).before args' s = true := by
  obtain ⟨c, k, hc, hk, -, hniab, -, -⟩ := Cond.instantiable_spec hins
  exact selects_self_of_private hc hk (Bool.or_eq_false_iff.mp hniab).1 (Cond.privateMethod_at hpriv) hinst hy
theorem own_callS (X : Stand p l e R s m args below meth c T locs cells slots) (hx : p.tables.exec = Jvm.exec) {Z : State} {a0 : Array Value} {h : Heap} (hZ : Z.Warmed39 s.vm) {own : String} {index : Nat} {y : MethodName} (hown : s.vm.findClass own = some m.cls) {bytes : ByteArray} {maxL : Nat} {ret : Option FieldType} {rm : Room} {as' : Array Value} {Q : Option Value → Heap → List Loc → Prop} (w1 : (Jvm.Cond.methodLink own index y).before a0 Z = true) (w2 : (Jvm.Cond.static y).before a0 Z = true) (w3 : (Jvm.Cond.initialized y.cls).before a0 Z = true) (w4 : (Jvm.Cond.code y bytes maxL ret).before a0 Z = true) (hy : y.cls ≠ "java/lang/invoke/MethodHandle" ∧ y.cls ≠ "java/lang/invoke/VarHandle")
    (hM : MetFree l y (head1 [Jvm.Cond.code y bytes maxL ret] rm) (fun a U => a = as' ∧ Z.Warmed39 U.vm ∧ U.heap = h) (fun _ _ _ _ _ => True) (fun _ U o U' => ∃ v L, o = .returned v ∧ Q v U'.heap L ∧ FrameEnd U o U' L rm.cells rm.slots)) (eT : T.heap = h) (W : Nat) (hf : rm.frames + 1 ≤ R.frames) (hl : W + (maxL + 11) + rm.locals ≤ R.locals) (hc : cells + rm.cells ≤ R.cells) (hs : slots + rm.slots ≤ R.slots) {g : JFrame} (hg : g.method = m) (hsize : g.locals.size = c.maxLocals) (argsL rest : List Value) (ha : argsL.toArray = as') (hlen : ∀ sig, parseMethodDescriptor y.desc = some sig → argsL.length = sig.parameters.length) (hstack : g.stack = argsL.reverse ++ rest) (hW : 2 * g.monitorRoom + (rest.map fun v => v.category).sum ≤ W) (hd : decode c.code g.pc = .ok (.invokestatic index, 3)) :
    ∃ (T' : State) (L : List Loc) (v : Option Value), Stand p l e R s m args below meth c T' (locs ++ L) (cells + rm.cells) (slots + rm.slots) ∧ Q v T'.heap L ∧ ∀ t, Steps p.tables e below (T'.setTop { g with pc := g.pc + 3, stack := v.toList ++ rest }) t → Steps p.tables e below (T.setTop g) t := by
  obtain ⟨v, _, ⟨T', L', k', n'⟩, -, X', ⟨L, hQ, h2, h3, h4⟩, st⟩ := Jvm.LawKit.callS X hx (y := y) hown (mvT hZ w1) (mvT hZ w2) (mvT hZ w3) (mvT hZ w4) hy (backOf (W := W) hM hZ w4 w3 hf hl) (g := g) hg hsize (argsL := argsL) (rest := rest) hlen hstack hW hd (fun _ _ => ⟨ha, eT, hc, hs⟩)
  dsimp only [Pt.U, Pt.locs, Pt.cells, Pt.slots] at X' h2 h3 h4 st hQ
  subst h2 h3 h4
  exact ⟨T', L, v, X', hQ, st⟩
theorem own_callI (X : Stand p l e R s m args below meth c T locs cells slots) (hx : p.tables.exec = Jvm.exec) {Z : State} {a0 : Array Value} {h : Heap} (hZ : Z.Warmed39 s.vm) {own : String} {index : Nat} {y : MethodName} (hy1 : y.name = "<init>") (hown : s.vm.findClass own = some m.cls) {bytes : ByteArray} {maxL : Nat} {rm : Room} {as' : Array Value} {Q : Option Value → Heap → List Loc → Prop} (w1 : (Jvm.Cond.methodLink own index y).before a0 Z = true) (w2 : (Jvm.Cond.instanceMethod y).before a0 Z = true) (w3 : (Jvm.Cond.initialized y.cls).before a0 Z = true) (w4 : (Jvm.Cond.code y bytes maxL none).before a0 Z = true) (hy : y.cls ≠ "java/lang/invoke/MethodHandle" ∧ y.cls ≠ "java/lang/invoke/VarHandle")
    (hM : MetFree l y (head1 [Jvm.Cond.code y bytes maxL none] rm) (fun a U => a = as' ∧ Z.Warmed39 U.vm ∧ U.heap = h) (fun _ _ _ _ _ => True) (fun _ U o U' => ∃ v L, o = .returned v ∧ Q v U'.heap L ∧ FrameEnd U o U' L rm.cells rm.slots)) (eT : T.heap = h) (W : Nat) (hf : rm.frames + 1 ≤ R.frames) (hl : W + (maxL + 11) + rm.locals ≤ R.locals) (hc : cells + rm.cells ≤ R.cells) (hs : slots + rm.slots ≤ R.slots) {g : JFrame} (hg : g.method = m) (hsize : g.locals.size = c.maxLocals) (a : Addr) (argsL rest : List Value) (ha : (.ref a :: argsL).toArray = as') (hlen : ∀ sig, parseMethodDescriptor y.desc = some sig → argsL.length = sig.parameters.length) (hstack : g.stack = argsL.reverse ++ .ref a :: rest) (hW : 2 * g.monitorRoom + (rest.map fun v => v.category).sum ≤ W) (hd : decode c.code g.pc = .ok (.invokespecial index, 3)) :
    ∃ (T' : State) (L : List Loc) (v : Option Value), Stand p l e R s m args below meth c T' (locs ++ L) (cells + rm.cells) (slots + rm.slots) ∧ Q v T'.heap L ∧ ∀ t, Steps p.tables e below (T'.setTop { g with pc := g.pc + 3, stack := v.toList ++ rest }) t → Steps p.tables e below (T.setTop g) t := by
  obtain ⟨v, _, ⟨T', L', k', n'⟩, -, X', ⟨L, hQ, h2, h3, h4⟩, st⟩ := X.specialBack hx (y := y) hy1 hown (mvT hZ w1) (mvT hZ w2) (mvT hZ w4) hy (backOf (W := W) hM hZ w4 w3 hf hl) (g := g) hg hsize (Steps.refl _) (a := a) (argsL := argsL) (rest := rest) hlen hstack hW hd (fun _ _ => ⟨ha, eT, hc, hs⟩)
  dsimp only [Pt.U, Pt.locs, Pt.cells, Pt.slots] at X' h2 h3 h4 st hQ
  subst h2 h3 h4
  exact ⟨T', L, v, X', hQ, fun t k => st.trans k⟩
theorem own_callP (X : Stand p l e R s m args below meth c T locs cells slots) (hx : p.tables.exec = Jvm.exec) {Z : State} {a0 : Array Value} {h : Heap} (hZ : Z.Warmed39 s.vm) {own C : String} {index n : Nat} {y : MethodName} (hown : s.vm.findClass own = some m.cls) {bytes : ByteArray} {maxL : Nat} {ret : Option FieldType} {rm : Room} {as' : Array Value} {Q : Option Value → Heap → List Loc → Prop} (w1 : (Jvm.Cond.methodLink own index y).before a0 Z = true) (w2 : (Jvm.Cond.instanceMethod y).before a0 Z = true) (w3 : (Jvm.Cond.initialized y.cls).before a0 Z = true) (w4 : (Jvm.Cond.code y bytes maxL ret).before a0 Z = true) (w5 : (Jvm.Cond.privateMethod y).before a0 Z = true) (w6 : (Jvm.Cond.instantiable y.cls n).before a0 Z = true) (hy : y.cls ≠ "java/lang/invoke/MethodHandle" ∧ y.cls ≠ "java/lang/invoke/VarHandle")
    (hM : MetFree l y (head1 [Jvm.Cond.code y bytes maxL ret] rm) (fun a U => a = as' ∧ Z.Warmed39 U.vm ∧ U.heap = h) (fun _ _ _ _ _ => True) (fun _ U o U' => ∃ v L, o = .returned v ∧ Q v U'.heap L ∧ FrameEnd U o U' L rm.cells rm.slots)) (eT : T.heap = h) (W : Nat) (hf : rm.frames + 1 ≤ R.frames) (hl : W + (maxL + 11) + rm.locals ≤ R.locals) (hc : cells + rm.cells ≤ R.cells) (hs : slots + rm.slots ≤ R.slots) {g : JFrame} (hg : g.method = m) (hsize : g.locals.size = c.maxLocals) (a : Addr) (E : Exa Z h a C) (argsL rest : List Value) (ha : (.ref a :: argsL).toArray = as') (hlen : ∀ sig, parseMethodDescriptor y.desc = some sig → argsL.length = sig.parameters.length) (hstack : g.stack = argsL.reverse ++ .ref a :: rest) (hW : 2 * g.monitorRoom + (rest.map fun v => v.category).sum ≤ W) (hd : decode c.code g.pc = .ok (.invokevirtual index, 3)) :
    ∃ (T' : State) (L : List Loc) (v : Option Value), Stand p l e R s m args below meth c T' (locs ++ L) (cells + rm.cells) (slots + rm.slots) ∧ Q v T'.heap L ∧ ∀ t, Steps p.tables e below (T'.setTop { g with pc := g.pc + 3, stack := v.toList ++ rest }) t → Steps p.tables e below (T.setTop g) t := by
  obtain ⟨cq, q1, q2⟩ := E.cell
  obtain ⟨v, _, ⟨T', L', k', n'⟩, -, X', ⟨L, hQ, h2, h3, h4⟩, st⟩ := X.privateBack hx (y := y) hown (mvT hZ w1) (mvT hZ w2) (own_selp (y := y) (mvT hZ w6) (mvP hZ w5) (mvT hZ w2) hy) (Cond.privateMethod_at (mvP hZ w5 (args := #[]))) (mvT hZ w4) hy (backOf (W := W) hM hZ w4 w3 hf hl) (g := g) hg hsize (Steps.refl _) (a := a) (by rw [eT]; exact q1) q2 (argsL := argsL) (rest := rest) hlen hstack hW hd (fun _ _ => ⟨ha, eT, hc, hs⟩)
  dsimp only [Pt.U, Pt.locs, Pt.cells, Pt.slots] at X' h2 h3 h4 st hQ
  subst h2 h3 h4
  exact ⟨T', L, v, X', hQ, fun t k => st.trans k⟩
theorem own_callV (X : Stand p l e R s m args below meth c T locs cells slots) (hx : p.tables.exec = Jvm.exec) {Z : State} {a0 : Array Value} {h : Heap} (hZ : Z.Warmed39 s.vm) {own C : String} {index : Nat} {y z : MethodName} (hown : s.vm.findClass own = some m.cls) {bytes : ByteArray} {maxL : Nat} {ret : Option FieldType} {rm : Room} {as' : Array Value} {Q : Option Value → Heap → List Loc → Prop} (w1 : (Jvm.Cond.methodLink own index y).before a0 Z = true) (w2 : (Jvm.Cond.declares y).before a0 Z = true) (hnf : NotFace s y) (w3 : (Jvm.Cond.selects C y z).before a0 Z = true) (w4 : (Jvm.Cond.instanceMethod z).before a0 Z = true) (w5 : (Jvm.Cond.initialized z.cls).before a0 Z = true) (w6 : (Jvm.Cond.code z bytes maxL ret).before a0 Z = true) (hy : y.cls ≠ "java/lang/invoke/MethodHandle" ∧ y.cls ≠ "java/lang/invoke/VarHandle")
    (hM : MetFree l z (head1 [Jvm.Cond.code z bytes maxL ret] rm) (fun a U => a = as' ∧ Z.Warmed39 U.vm ∧ U.heap = h) (fun _ _ _ _ _ => True) (fun _ U o U' => ∃ v L, o = .returned v ∧ Q v U'.heap L ∧ FrameEnd U o U' L rm.cells rm.slots)) (eT : T.heap = h) (W : Nat) (hf : rm.frames + 1 ≤ R.frames) (hl : W + (maxL + 11) + rm.locals ≤ R.locals) (hc : cells + rm.cells ≤ R.cells) (hs : slots + rm.slots ≤ R.slots) {g : JFrame} (hg : g.method = m) (hsize : g.locals.size = c.maxLocals) (a : Addr) (E : Exa Z h a C) (argsL rest : List Value) (ha : (.ref a :: argsL).toArray = as') (hlen : ∀ sig, parseMethodDescriptor y.desc = some sig → argsL.length = sig.parameters.length) (hstack : g.stack = argsL.reverse ++ .ref a :: rest) (hW : 2 * g.monitorRoom + (rest.map fun v => v.category).sum ≤ W) (hd : decode c.code g.pc = .ok (.invokevirtual index, 3)) :
    ∃ (T' : State) (L : List Loc) (v : Option Value), Stand p l e R s m args below meth c T' (locs ++ L) (cells + rm.cells) (slots + rm.slots) ∧ Q v T'.heap L ∧ ∀ t, Steps p.tables e below (T'.setTop { g with pc := g.pc + 3, stack := v.toList ++ rest }) t → Steps p.tables e below (T.setTop g) t := by
  obtain ⟨cq, kq, qa, qb, qc⟩ := isOf hZ eT E
  obtain ⟨v, _, ⟨T', L', k', n'⟩, -, X', ⟨L, hQ, h2, h3, h4⟩, st⟩ := X.virtualBack hx (y := y) (z := z) hown (mvT hZ w1) (mvT hZ w2) hnf (mvT hZ w3) (mvT hZ w4) hy (backOf (W := W) hM hZ w6 w5 hf hl) qa qc (g := g) hg hsize (Steps.refl _) (argsL := argsL) (rest := rest) hlen hstack hW hd (fun _ _ => ⟨ha, eT, hc, hs⟩)
  dsimp only [Pt.U, Pt.locs, Pt.cells, Pt.slots] at X' h2 h3 h4 st hQ
  subst h2 h3 h4
  exact ⟨T', L, v, X', hQ, fun t k => st.trans k⟩
theorem own_callF (X : Stand p l e R s m args below meth c T locs cells slots) (hx : p.tables.exec = Jvm.exec) {Z : State} {a0 : Array Value} {h : Heap} (hZ : Z.Warmed39 s.vm) {own C : String} {index count : Nat} {y z : MethodName} (hown : s.vm.findClass own = some m.cls) {bytes : ByteArray} {maxL : Nat} {ret : Option FieldType} {rm : Room} {as' : Array Value} {Q : Option Value → Heap → List Loc → Prop} (w1 : (Jvm.Cond.methodLink own index y).before a0 Z = true) (w2 : (Jvm.Cond.declares y).before a0 Z = true) (w3 : (Jvm.Cond.interfaceMethod y.cls y.cls y.name y.desc).before a0 Z = true) (w4 : (Jvm.Cond.selects C y z).before a0 Z = true) (w5 : (Jvm.Cond.instanceMethod z).before a0 Z = true) (w6 : (Jvm.Cond.publicMethod z).before a0 Z = true) (w7 : (Jvm.Cond.unhidden C y.name y.desc).before a0 Z = true) (w8 : (Jvm.Cond.castable C y.cls).before a0 Z = true) (w9 : (Jvm.Cond.initialized z.cls).before a0 Z = true) (w10 : (Jvm.Cond.code z bytes maxL ret).before a0 Z = true) (hy : y.cls ≠ "java/lang/invoke/MethodHandle" ∧ y.cls ≠ "java/lang/invoke/VarHandle")
    (hM : MetFree l z (head1 [Jvm.Cond.code z bytes maxL ret] rm) (fun a U => a = as' ∧ Z.Warmed39 U.vm ∧ U.heap = h) (fun _ _ _ _ _ => True) (fun _ U o U' => ∃ v L, o = .returned v ∧ Q v U'.heap L ∧ FrameEnd U o U' L rm.cells rm.slots)) (eT : T.heap = h) (W : Nat) (hf : rm.frames + 1 ≤ R.frames) (hl : W + (maxL + 11) + rm.locals ≤ R.locals) (hc : cells + rm.cells ≤ R.cells) (hs : slots + rm.slots ≤ R.slots) {g : JFrame} (hg : g.method = m) (hsize : g.locals.size = c.maxLocals) (a : Addr) (E : Exa Z h a C) (argsL rest : List Value) (ha : (.ref a :: argsL).toArray = as') (hlen : ∀ sig, parseMethodDescriptor y.desc = some sig → argsL.length = sig.parameters.length) (hstack : g.stack = argsL.reverse ++ .ref a :: rest) (hW : 2 * g.monitorRoom + (rest.map fun v => v.category).sum ≤ W) (hd : decode c.code g.pc = .ok (.invokeinterface index count, 5)) (hw3 : ((Jvm.Cond.interfaceMethod y.cls y.cls y.name y.desc).onTables && (Jvm.Cond.interfaceMethod y.cls y.cls y.name y.desc).keepsFace) = true := by first | rfl | simp [Cond.onTables, Cond.keepsFace, Cond.keeps, Cond.steady]) :
    ∃ (T' : State) (L : List Loc) (v : Option Value), Stand p l e R s m args below meth c T' (locs ++ L) (cells + rm.cells) (slots + rm.slots) ∧ Q v T'.heap L ∧ ∀ t, Steps p.tables e below (T'.setTop { g with pc := g.pc + 5, stack := v.toList ++ rest }) t → Steps p.tables e below (T.setTop g) t := by
  obtain ⟨cq, kq, qa, qb, qc⟩ := isOf hZ eT E
  obtain ⟨v, _, ⟨T', L', k', n'⟩, -, X', ⟨L, hQ, h2, h3, h4⟩, st⟩ := X.interfaceBack hx (xi := y) (y := z) hown (mvT hZ w1) (mvT hZ w2) (mvT hZ w3 hw3) (mvT hZ w4) (mvT hZ w5) (mvT hZ w6) (mvT hZ w7) (mvT hZ w8) hy (backOf (W := W) hM hZ w10 w9 hf hl) qa qb qc (g := g) hg hsize (Steps.refl _) (argsL := argsL) (rest := rest) hlen hstack hW hd (fun _ _ => ⟨ha, eT, hc, hs⟩)
  dsimp only [Pt.U, Pt.locs, Pt.cells, Pt.slots] at X' h2 h3 h4 st hQ
  subst h2 h3 h4
  exact ⟨T', L, v, X', hQ, fun t k => st.trans k⟩
theorem own_c1 {g g' : JFrame} {h : Heap} (h1 : ∃ T', Stand p l e R s m args below meth c T' locs cells slots ∧ T'.heap = h ∧ ∀ t, Steps p.tables e below (T'.setTop g') t → Steps p.tables e below (T.setTop g) t) (k : ∀ T', Stand p l e R s m args below meth c T' locs cells slots → T'.heap = h → own_Go p e below G (T'.setTop g')) : own_Go p e below G (T.setTop g) := by
  obtain ⟨T', X', e', st⟩ := h1
  exact own_by st (k T' X' e')
theorem own_c2 {g g' : JFrame} {h : Heap} {a : Addr} {sl : Nat} {v : Value} (h1 : ∃ T' h', Stand p l e R s m args below meth c T' (locs ++ [⟨a, sl⟩]) cells slots ∧ T'.heap = h' ∧ Wr h h' a sl v ∧ ∀ t, Steps p.tables e below (T'.setTop g') t → Steps p.tables e below (T.setTop g) t) (k : ∀ T' h', Stand p l e R s m args below meth c T' (locs ++ [⟨a, sl⟩]) cells slots → T'.heap = h' → Wr h h' a sl v → own_Go p e below G (T'.setTop g')) : own_Go p e below G (T.setTop g) := by
  obtain ⟨T', h', X', e', W, st⟩ := h1
  exact own_by st (k T' h' X' e' W)
theorem own_cc {g : JFrame} {c1 s1 : Nat} {Q : Option Value → Heap → List Loc → Prop} {f : Option Value → JFrame} (h1 : ∃ (T' : State) (L : List Loc) (v : Option Value), Stand p l e R s m args below meth c T' (locs ++ L) c1 s1 ∧ Q v T'.heap L ∧ ∀ t, Steps p.tables e below (T'.setTop (f v)) t → Steps p.tables e below (T.setTop g) t) (k : ∀ (T' : State) (L : List Loc) (v : Option Value), Stand p l e R s m args below meth c T' (locs ++ L) c1 s1 → Q v T'.heap L → own_Go p e below G (T'.setTop (f v))) : own_Go p e below G (T.setTop g) := by
  obtain ⟨T', L, v, X', hQ, st⟩ := h1
  exact own_by st (k T' L v X' hQ)
end OwnKit
theorem sn0 {Z : State} {a0 : Array Value} (hw : ∀ d ∈ tables_1, d.before a0 Z = true) : Jvm.RoadKit.slotOf Z "com/example/exfactor/exfactor/core/MutableFigure" "scale" "I" ≠ Jvm.RoadKit.slotOf Z "com/example/exfactor/exfactor/core/MutableFigure" "unscaled" "J" := slot_ne (Or.inl (hw _ (List.mem_of_getElem? (i := 19) rfl))) (Or.inl (hw _ (List.mem_of_getElem? (i := 17) rfl))) (by decide) (t := .int) (t' := .long) (by decide) (by decide)
theorem sn1 {Z : State} {a0 : Array Value} (hw : ∀ d ∈ tables_1, d.before a0 Z = true) : Jvm.RoadKit.slotOf Z "com/example/exfactor/exfactor/core/MutableFigure" "big" "Ljava/math/BigDecimal;" ≠ Jvm.RoadKit.slotOf Z "com/example/exfactor/exfactor/core/MutableFigure" "unscaled" "J" := slot_ne (Or.inl (hw _ (List.mem_of_getElem? (i := 21) rfl))) (Or.inl (hw _ (List.mem_of_getElem? (i := 17) rfl))) (by decide) (t := (.object "java/math/BigDecimal")) (t' := .long) (by decide) (by decide)
theorem sn2 {Z : State} {a0 : Array Value} (hw : ∀ d ∈ tables_1, d.before a0 Z = true) : Jvm.RoadKit.slotOf Z "com/example/exfactor/exfactor/core/MutableFigure" "unscaled" "J" ≠ Jvm.RoadKit.slotOf Z "com/example/exfactor/exfactor/core/MutableFigure" "scale" "I" := slot_ne (Or.inl (hw _ (List.mem_of_getElem? (i := 17) rfl))) (Or.inl (hw _ (List.mem_of_getElem? (i := 19) rfl))) (by decide) (t := .long) (t' := .int) (by decide) (by decide)
theorem sn3 {Z : State} {a0 : Array Value} (hw : ∀ d ∈ tables_1, d.before a0 Z = true) : Jvm.RoadKit.slotOf Z "com/example/exfactor/exfactor/core/MutableFigure" "big" "Ljava/math/BigDecimal;" ≠ Jvm.RoadKit.slotOf Z "com/example/exfactor/exfactor/core/MutableFigure" "scale" "I" := slot_ne (Or.inl (hw _ (List.mem_of_getElem? (i := 21) rfl))) (Or.inl (hw _ (List.mem_of_getElem? (i := 19) rfl))) (by decide) (t := (.object "java/math/BigDecimal")) (t' := .int) (by decide) (by decide)
theorem sn4 {Z : State} {a0 : Array Value} (hw : ∀ d ∈ tables_1, d.before a0 Z = true) : Jvm.RoadKit.slotOf Z "com/example/exfactor/exfactor/core/MutableFigure" "unscaled" "J" ≠ Jvm.RoadKit.slotOf Z "com/example/exfactor/exfactor/core/MutableFigure" "big" "Ljava/math/BigDecimal;" := slot_ne (Or.inl (hw _ (List.mem_of_getElem? (i := 17) rfl))) (Or.inl (hw _ (List.mem_of_getElem? (i := 21) rfl))) (by decide) (t := .long) (t' := (.object "java/math/BigDecimal")) (by decide) (by decide)
theorem sn5 {Z : State} {a0 : Array Value} (hw : ∀ d ∈ tables_1, d.before a0 Z = true) : Jvm.RoadKit.slotOf Z "com/example/exfactor/exfactor/core/MutableFigure" "scale" "I" ≠ Jvm.RoadKit.slotOf Z "com/example/exfactor/exfactor/core/MutableFigure" "big" "Ljava/math/BigDecimal;" := slot_ne (Or.inl (hw _ (List.mem_of_getElem? (i := 19) rfl))) (Or.inl (hw _ (List.mem_of_getElem? (i := 21) rfl))) (by decide) (t := .int) (t' := (.object "java/math/BigDecimal")) (by decide) (by decide)
theorem sn6 {Z : State} {a0 : Array Value} (hw : ∀ d ∈ tables_1, d.before a0 Z = true) : Jvm.RoadKit.slotOf Z "java/math/BigDecimal" "precision" "I" ≠ Jvm.RoadKit.slotOf Z "java/math/BigDecimal" "scale" "I" := slot_ne (Or.inl (hw _ (List.mem_of_getElem? (i := 101) rfl))) (Or.inr (hw _ (List.mem_of_getElem? (i := 99) rfl))) (by decide) (t := .int) (t' := .int) (by decide) (by decide)
theorem sn7 {Z : State} {a0 : Array Value} (hw : ∀ d ∈ tables_1, d.before a0 Z = true) : Jvm.RoadKit.slotOf Z "java/math/BigDecimal" "intCompact" "J" ≠ Jvm.RoadKit.slotOf Z "java/math/BigDecimal" "scale" "I" := slot_ne (Or.inr (hw _ (List.mem_of_getElem? (i := 103) rfl))) (Or.inr (hw _ (List.mem_of_getElem? (i := 99) rfl))) (by decide) (t := .long) (t' := .int) (by decide) (by decide)
theorem sn8 {Z : State} {a0 : Array Value} (hw : ∀ d ∈ tables_1, d.before a0 Z = true) : Jvm.RoadKit.slotOf Z "java/math/BigDecimal" "intVal" "Ljava/math/BigInteger;" ≠ Jvm.RoadKit.slotOf Z "java/math/BigDecimal" "scale" "I" := slot_ne (Or.inr (hw _ (List.mem_of_getElem? (i := 105) rfl))) (Or.inr (hw _ (List.mem_of_getElem? (i := 99) rfl))) (by decide) (t := (.object "java/math/BigInteger")) (t' := .int) (by decide) (by decide)
theorem sn9 {Z : State} {a0 : Array Value} (hw : ∀ d ∈ tables_1, d.before a0 Z = true) : Jvm.RoadKit.slotOf Z "java/math/BigDecimal" "scale" "I" ≠ Jvm.RoadKit.slotOf Z "java/math/BigDecimal" "precision" "I" := slot_ne (Or.inr (hw _ (List.mem_of_getElem? (i := 99) rfl))) (Or.inl (hw _ (List.mem_of_getElem? (i := 101) rfl))) (by decide) (t := .int) (t' := .int) (by decide) (by decide)
theorem sn10 {Z : State} {a0 : Array Value} (hw : ∀ d ∈ tables_1, d.before a0 Z = true) : Jvm.RoadKit.slotOf Z "java/math/BigDecimal" "intCompact" "J" ≠ Jvm.RoadKit.slotOf Z "java/math/BigDecimal" "precision" "I" := slot_ne (Or.inr (hw _ (List.mem_of_getElem? (i := 103) rfl))) (Or.inl (hw _ (List.mem_of_getElem? (i := 101) rfl))) (by decide) (t := .long) (t' := .int) (by decide) (by decide)
theorem sn11 {Z : State} {a0 : Array Value} (hw : ∀ d ∈ tables_1, d.before a0 Z = true) : Jvm.RoadKit.slotOf Z "java/math/BigDecimal" "intVal" "Ljava/math/BigInteger;" ≠ Jvm.RoadKit.slotOf Z "java/math/BigDecimal" "precision" "I" := slot_ne (Or.inr (hw _ (List.mem_of_getElem? (i := 105) rfl))) (Or.inl (hw _ (List.mem_of_getElem? (i := 101) rfl))) (by decide) (t := (.object "java/math/BigInteger")) (t' := .int) (by decide) (by decide)
theorem sn12 {Z : State} {a0 : Array Value} (hw : ∀ d ∈ tables_1, d.before a0 Z = true) : Jvm.RoadKit.slotOf Z "java/math/BigDecimal" "scale" "I" ≠ Jvm.RoadKit.slotOf Z "java/math/BigDecimal" "intCompact" "J" := slot_ne (Or.inr (hw _ (List.mem_of_getElem? (i := 99) rfl))) (Or.inr (hw _ (List.mem_of_getElem? (i := 103) rfl))) (by decide) (t := .int) (t' := .long) (by decide) (by decide)
theorem sn13 {Z : State} {a0 : Array Value} (hw : ∀ d ∈ tables_1, d.before a0 Z = true) : Jvm.RoadKit.slotOf Z "java/math/BigDecimal" "precision" "I" ≠ Jvm.RoadKit.slotOf Z "java/math/BigDecimal" "intCompact" "J" := slot_ne (Or.inl (hw _ (List.mem_of_getElem? (i := 101) rfl))) (Or.inr (hw _ (List.mem_of_getElem? (i := 103) rfl))) (by decide) (t := .int) (t' := .long) (by decide) (by decide)
theorem sn14 {Z : State} {a0 : Array Value} (hw : ∀ d ∈ tables_1, d.before a0 Z = true) : Jvm.RoadKit.slotOf Z "java/math/BigDecimal" "intVal" "Ljava/math/BigInteger;" ≠ Jvm.RoadKit.slotOf Z "java/math/BigDecimal" "intCompact" "J" := slot_ne (Or.inr (hw _ (List.mem_of_getElem? (i := 105) rfl))) (Or.inr (hw _ (List.mem_of_getElem? (i := 103) rfl))) (by decide) (t := (.object "java/math/BigInteger")) (t' := .long) (by decide) (by decide)
theorem sn15 {Z : State} {a0 : Array Value} (hw : ∀ d ∈ tables_1, d.before a0 Z = true) : Jvm.RoadKit.slotOf Z "java/math/BigDecimal" "scale" "I" ≠ Jvm.RoadKit.slotOf Z "java/math/BigDecimal" "intVal" "Ljava/math/BigInteger;" := slot_ne (Or.inr (hw _ (List.mem_of_getElem? (i := 99) rfl))) (Or.inr (hw _ (List.mem_of_getElem? (i := 105) rfl))) (by decide) (t := .int) (t' := (.object "java/math/BigInteger")) (by decide) (by decide)
theorem sn16 {Z : State} {a0 : Array Value} (hw : ∀ d ∈ tables_1, d.before a0 Z = true) : Jvm.RoadKit.slotOf Z "java/math/BigDecimal" "precision" "I" ≠ Jvm.RoadKit.slotOf Z "java/math/BigDecimal" "intVal" "Ljava/math/BigInteger;" := slot_ne (Or.inl (hw _ (List.mem_of_getElem? (i := 101) rfl))) (Or.inr (hw _ (List.mem_of_getElem? (i := 105) rfl))) (by decide) (t := .int) (t' := (.object "java/math/BigInteger")) (by decide) (by decide)
theorem sn17 {Z : State} {a0 : Array Value} (hw : ∀ d ∈ tables_1, d.before a0 Z = true) : Jvm.RoadKit.slotOf Z "java/math/BigDecimal" "intCompact" "J" ≠ Jvm.RoadKit.slotOf Z "java/math/BigDecimal" "intVal" "Ljava/math/BigInteger;" := slot_ne (Or.inr (hw _ (List.mem_of_getElem? (i := 103) rfl))) (Or.inr (hw _ (List.mem_of_getElem? (i := 105) rfl))) (by decide) (t := .long) (t' := (.object "java/math/BigInteger")) (by decide) (by decide)
theorem sn18 {Z : State} {a0 : Array Value} (hw : ∀ d ∈ tables_1, d.before a0 Z = true) : Jvm.RoadKit.slotOf Z "java/math/BigInteger" "mag" "[I" ≠ Jvm.RoadKit.slotOf Z "java/math/BigInteger" "signum" "I" := slot_ne (Or.inr (hw _ (List.mem_of_getElem? (i := 137) rfl))) (Or.inr (hw _ (List.mem_of_getElem? (i := 134) rfl))) (by decide) (t := (.array .int)) (t' := .int) (by decide) (by decide)
theorem sn19 {Z : State} {a0 : Array Value} (hw : ∀ d ∈ tables_1, d.before a0 Z = true) : Jvm.RoadKit.slotOf Z "java/math/BigInteger" "signum" "I" ≠ Jvm.RoadKit.slotOf Z "java/math/BigInteger" "mag" "[I" := slot_ne (Or.inr (hw _ (List.mem_of_getElem? (i := 134) rfl))) (Or.inr (hw _ (List.mem_of_getElem? (i := 137) rfl))) (by decide) (t := .int) (t' := (.array .int)) (by decide) (by decide)
theorem own_sta {C K n d : String} {args : Array Value} {s : State} (hx : (Jvm.Cond.exactly (.static C n d) K).value args s none s [] = some true) (wi : (Jvm.Cond.initialized C).before args s = true) (wl : (Jvm.Cond.laysStatic C n d).before args s = true) :
    ∃ a, (Term.static C n d).eval args s none [] s = some (.ref a) ∧ Sta s s.heap C n d (.ref a) ∧ Exa s s.heap a K := by
  have hx' : (Jvm.Cond.exactly (.static C n d) K).before args s = true := Cond.before_iff.mpr hx
  obtain ⟨a', c', cell, k, e1, e2, e3, e4, e5, e6, e7⟩ := Cond.exactly_spec hx'
  exact ⟨a', e1, Sta.start e1 (Or.inr ⟨wi, wl⟩), Exa.start e1 hx⟩
theorem own_ord {t : Term} {a : Addr} {args : Array Value} {s : State} {C n d : String} {k : Int32} (e : t.eval args s none [] s = some (.ref a)) (h : (Jvm.Cond.eq (.field t C n d) (.int k)).value args s none s [] = some true) : Fld s s.heap a C n d (.int k) := by
  have h1 : (Term.field t C n d).eval args s none [] s = some (.int k) := Jvm.Free.NT.SwA.eq_int (Cond.before_iff.mpr h)
  have h2 : s.fieldOf? a C n d = some (.int k) := by
    rw [← h1]
    show _ = (t.eval args s none [] s >>= _)
    rw [e]
    rfl
  exact Fld.start h2
theorem own_arr {t : Term} {args : Array Value} {s : State} {ty : FieldType} {n : Int32} {a : Addr} (ev : t.eval args s none [] s = some (.ref a)) (hx : (Jvm.Cond.arrayOf t ty).value args s none s [] = some true) (hl : (Jvm.Cond.eq (.length t) (.int n)).value args s none s [] = some true) :
    ∃ cl, Arr s s.heap a cl ty ∧ cl.slots.size < 2 ^ 31 ∧ cl.slots.size.toInt32 = n := by
  obtain ⟨cl, A⟩ := Arr.start ev hx
  have h1 : (Term.length t).eval args s none [] s = some (.int n) := Jvm.Free.NT.SwA.eq_int (Cond.before_iff.mpr hl)
  refine ⟨cl, A, ?_⟩
  cases hat : s.arrayAt? a with
  | none => simp [Term.eval, ev, hat] at h1
  | some c' =>
    have hc := (State.arrayAt?_spec hat).1
    cases A.1.symm.trans hc
    simp only [Term.eval, ev, hat, Option.bind_eq_bind, Option.bind_some] at h1
    split at h1
    · rename_i hlt
      exact ⟨hlt, by simpa using h1⟩
    · simp at h1
theorem own_elem {t : Term} {args : Array Value} {s : State} {ty : FieldType} {a w : Addr} {cl : Cell} {k : Int32} (ev : t.eval args s none [] s = some (.ref a)) (A : Arr s s.heap a cl ty) (h : (Term.elem t (.int k)).eval args s none [] s = some (.ref w)) : cl.slots[k.toNatClampNeg]? = some (.ref w) := (elem_in h ev rfl A.1).2
theorem own_eqR {t u : Term} {args : Array Value} {s : State} {w : Addr} (h : (Jvm.Cond.eq t u).value args s none s [] = some true) (hu : u.eval args s none [] s = some (.ref w)) : t.eval args s none [] s = some (.ref w) := by
  obtain ⟨x, y, e1, e2, k1, k2⟩ := cmp_v (Or.inl h)
  cases hu.symm.trans e2
  have hx : x.isRef = true := by cases x <;> simp [Kin, Value.isRef] at k1 k2 ⊢
  have := gotT (eq_R e1 hu hx rfl) h
  rw [e1, this]
theorem own_ordL {t : Term} {a : Addr} {args : Array Value} {s : State} {C n d : String} {k : Int64} (e : t.eval args s none [] s = some (.ref a)) (h : (Jvm.Cond.eq (.field t C n d) (.long k)).value args s none s [] = some true) : Fld s s.heap a C n d (.long k) := by
  obtain ⟨x, y, e1, e2, k1, k2⟩ := cmp_v (Or.inl h)
  have e2' : y = .long k := Option.some.inj (e2.symm.trans rfl)
  subst e2'
  obtain ⟨z, rfl⟩ : ∃ z, x = .long z := k2
  have := gotT (eq_L e1 e2) h
  subst this
  rw [fld_at e] at e1
  exact Fld.start e1

def fsgn (q0 : Int64) : Int32 := (((q0 >>> ((63 : Int32) &&& 0x3f).toInt64) ||| (((-q0).toUInt64 >>> ((63 : Int32) &&& 0x3f).toInt64.toUInt64).toInt64)).toInt32)
theorem d6_0 : decode jdk_35_method_57_code 0 = .ok (.lload_n 0, 1) := by decide +kernel
theorem d6_1 : decode jdk_35_method_57_code 1 = .ok (.bipush 63, 2) := by decide +kernel
theorem d6_3 : decode jdk_35_method_57_code 3 = .ok (.lshr, 1) := by decide +kernel
theorem d6_4 : decode jdk_35_method_57_code 4 = .ok (.lload_n 0, 1) := by decide +kernel
theorem d6_5 : decode jdk_35_method_57_code 5 = .ok (.lneg, 1) := by decide +kernel
theorem d6_6 : decode jdk_35_method_57_code 6 = .ok (.bipush 63, 2) := by decide +kernel
theorem d6_8 : decode jdk_35_method_57_code 8 = .ok (.lushr, 1) := by decide +kernel
theorem d6_9 : decode jdk_35_method_57_code 9 = .ok (.lor, 1) := by decide +kernel
theorem d6_10 : decode jdk_35_method_57_code 10 = .ok (.l2i, 1) := by decide +kernel
theorem d6_11 : decode jdk_35_method_57_code 11 = .ok (.ireturn, 1) := by decide +kernel
theorem pn_6 : plainName "java/lang/Long" = true := by first | (simp [plainName, overriddenIn]; done) | decide +kernel
theorem ef_6 (m : MethodId) (x0 : Int64) : entryFrame m #[(.long x0)] 2 = mkF m 0 #[oJ x0, oS] [] := by first | (simp [entryFrame, mkF, argsToLocals, Value.category]; done) | rfl
def Q6 (Z : State) (q0 : Int64) (h0 : Heap) (n0 : Nat) (v : Option Value) (h : Heap) (L : List Loc) : Prop := v = some (.int (fsgn q0)) ∧ Fr n0 L ∧ h = h0
set_option maxRecDepth 65536 in
set_option maxHeartbeats 40000000 in
theorem rm6 (l : Launch) (Z : State) (a0 : Array Value) (hw : ∀ d ∈ tables_1, d.before a0 Z = true) (ws : List Jvm.Cond) (q0 : Int64) (h0 : Heap) (n0 : Nat) (Z0 : n0 ≤ h0.size) :
    MetFree l (⟨"java/lang/Long", "signum", "(J)I"⟩ : MethodName) (head1 (Jvm.Cond.code (⟨"java/lang/Long", "signum", "(J)I"⟩ : MethodName) jdk_35_method_57_code 2 (some .int) :: ws) ({ frames := 0, cells := 0, slots := 0, locals := 0 } : Room)) (fun a U => a = #[(.long q0)] ∧ Z.Warmed39 U.vm ∧ U.heap = h0) (fun _ _ _ _ _ => True) (fun _ U o U' => ∃ v L, o = .returned v ∧ Q6 Z q0 h0 n0 v U'.heap L ∧ FrameEnd U o U' L ({ frames := 0, cells := 0, slots := 0, locals := 0 } : Room).cells ({ frames := 0, cells := 0, slots := 0, locals := 0 } : Room).slots) := by
  refine MetFree.of_bodySF (plainFor_of_name pn_6) hisR ?_
  intro p e s m args below meth c s₁ Bd hml0 hP hK
  obtain ⟨rfl, hZ, hh⟩ := hP
  have hx := Bd.exec
  have hby := Bd.bytes
  have hml : c.maxLocals = 2 := hml0
  have hown : s.vm.findClass "java/lang/Long" = some m.cls := findClass_of_methodNamed Bd.named
  have hnm := (name_of_methodNamed Bd.named Bd.method).1
  have X0 : Stand p l e ({ frames := 0, cells := 0, slots := 0, locals := 0 } : Room) s m #[(.long q0)] below meth c s₁ [] 0 0 := Stand.of_body Bd
  have e0 : s₁.heap = h0 := by rw [← hh, Bd.state]; rfl
  have N0 := Fr.nil n0
  change own_Go p e below (own_Post s (Q6 Z q0 h0 n0) ({ frames := 0, cells := 0, slots := 0, locals := 0 } : Room).cells ({ frames := 0, cells := 0, slots := 0, locals := 0 } : Room).slots) (s₁.setTop (entryFrame m #[(.long q0)] 2))
  refine own_by (fun t k => castTop (ef_6 m q0) k) ?_
  show own_Go p e below _ (s₁.setTop (mkF m 0 #[oJ q0, oS] []))
  refine own_by (B := s₁.setTop (mkF m 11 #[oJ q0, oS] [(.int (((q0 >>> ((63 : Int32) &&& 0x3f).toInt64) ||| (((-q0).toUInt64 >>> ((63 : Int32) &&& 0x3f).toInt64.toUInt64).toInt64)).toInt32))])) (fun t k => ?_) ?_
  · show Steps p.tables e below (s₁.setTop (mkF m 0 #[oJ q0, oS] [])) _
    refine XS.lloadN X0.here hx rfl (hb hby d6_0) rfl ?_
    show Steps p.tables e below (s₁.setTop (mkF m 1 #[oJ q0, oS] [(.long q0)])) _
    refine XS.bipush X0.here hx rfl (hb hby d6_1) ?_
    show Steps p.tables e below (s₁.setTop (mkF m 3 #[oJ q0, oS] [(.int (63 : Int32)), (.long q0)])) _
    refine XS.lshr X0.here hx rfl (hb hby d6_3) rfl ?_
    show Steps p.tables e below (s₁.setTop (mkF m 4 #[oJ q0, oS] [(.long (q0 >>> ((63 : Int32) &&& 0x3f).toInt64))])) _
    refine XS.lloadN X0.here hx rfl (hb hby d6_4) rfl ?_
    show Steps p.tables e below (s₁.setTop (mkF m 5 #[oJ q0, oS] [(.long q0), (.long (q0 >>> ((63 : Int32) &&& 0x3f).toInt64))])) _
    refine XS.lneg X0.here hx rfl (hb hby d6_5) rfl ?_
    show Steps p.tables e below (s₁.setTop (mkF m 6 #[oJ q0, oS] [(.long (-q0)), (.long (q0 >>> ((63 : Int32) &&& 0x3f).toInt64))])) _
    refine XS.bipush X0.here hx rfl (hb hby d6_6) ?_
    show Steps p.tables e below (s₁.setTop (mkF m 8 #[oJ q0, oS] [(.int (63 : Int32)), (.long (-q0)), (.long (q0 >>> ((63 : Int32) &&& 0x3f).toInt64))])) _
    refine XS.lushr X0.here hx rfl (hb hby d6_8) rfl ?_
    show Steps p.tables e below (s₁.setTop (mkF m 9 #[oJ q0, oS] [(.long (((-q0).toUInt64 >>> ((63 : Int32) &&& 0x3f).toInt64.toUInt64).toInt64)), (.long (q0 >>> ((63 : Int32) &&& 0x3f).toInt64))])) _
    refine XS.lor X0.here hx rfl (hb hby d6_9) rfl ?_
    show Steps p.tables e below (s₁.setTop (mkF m 10 #[oJ q0, oS] [(.long ((q0 >>> ((63 : Int32) &&& 0x3f).toInt64) ||| (((-q0).toUInt64 >>> ((63 : Int32) &&& 0x3f).toInt64.toUInt64).toInt64)))])) _
    refine XS.l2i X0.here hx rfl (hb hby d6_10) rfl ?_
    show Steps p.tables e below (s₁.setTop (mkF m 11 #[oJ q0, oS] [(.int (((q0 >>> ((63 : Int32) &&& 0x3f).toInt64) ||| (((-q0).toUInt64 >>> ((63 : Int32) &&& 0x3f).toInt64.toUInt64).toInt64)).toInt32))])) _
    exact k
  exact own_retI X0 Bd.notSynchronized hx Bd.returns (hb hby d6_11) (by
      rw [show s₁.heap = h0 from e0]
      exact ⟨congrArg (fun z => some (Value.int z)) (show (((q0 >>> ((63 : Int32) &&& 0x3f).toInt64) ||| (((-q0).toUInt64 >>> ((63 : Int32) &&& 0x3f).toInt64.toUInt64).toInt64)).toInt32) = (fsgn q0) from rfl), N0, rfl⟩) (by decide) (by decide)

def fmaxI (p0 : Int32) (p1 : Int32) : Int32 := (if p0 < p1 then p1 else p0)
theorem d14_0 : decode jdk_29_method_65_code 0 = .ok (.iload_n 0, 1) := by decide +kernel
theorem d14_1 : decode jdk_29_method_65_code 1 = .ok (.iload_n 1, 1) := by decide +kernel
theorem d14_2 : decode jdk_29_method_65_code 2 = .ok (.if_icmp .lt 7, 3) := by decide +kernel
theorem d14_5 : decode jdk_29_method_65_code 5 = .ok (.iload_n 0, 1) := by decide +kernel
theorem d14_6 : decode jdk_29_method_65_code 6 = .ok (.goto 4, 3) := by decide +kernel
theorem d14_9 : decode jdk_29_method_65_code 9 = .ok (.iload_n 1, 1) := by decide +kernel
theorem d14_10 : decode jdk_29_method_65_code 10 = .ok (.ireturn, 1) := by decide +kernel
theorem ef_14 (m : MethodId) (x0 : Int32) (x1 : Int32) : entryFrame m #[(.int x0), (.int x1)] 2 = mkF m 0 #[iv x0, iv x1] [] := by first | (simp [entryFrame, mkF, argsToLocals, Value.category]; done) | rfl
def Q14 (Z : State) (p0 : Int32) (p1 : Int32) (h0 : Heap) (n0 : Nat) (v : Option Value) (h : Heap) (L : List Loc) : Prop := v = some (.int (fmaxI p0 p1)) ∧ Fr n0 L ∧ h = h0
set_option maxRecDepth 65536 in
set_option maxHeartbeats 40000000 in
theorem rm14 (l : Launch) (Z : State) (a0 : Array Value) (hw : ∀ d ∈ tables_1, d.before a0 Z = true) (ws : List Jvm.Cond) (p0 : Int32) (p1 : Int32) (h0 : Heap) (n0 : Nat) (Z0 : n0 ≤ h0.size) :
    MetFree l (⟨"java/lang/Math", "max", "(II)I"⟩ : MethodName) (head1 (Jvm.Cond.code (⟨"java/lang/Math", "max", "(II)I"⟩ : MethodName) jdk_29_method_65_code 2 (some .int) :: ws) ({ frames := 0, cells := 0, slots := 0, locals := 0 } : Room)) (fun a U => a = #[(.int p0), (.int p1)] ∧ Z.Warmed39 U.vm ∧ U.heap = h0) (fun _ _ _ _ _ => True) (fun _ U o U' => ∃ v L, o = .returned v ∧ Q14 Z p0 p1 h0 n0 v U'.heap L ∧ FrameEnd U o U' L ({ frames := 0, cells := 0, slots := 0, locals := 0 } : Room).cells ({ frames := 0, cells := 0, slots := 0, locals := 0 } : Room).slots) := by
  refine MetFree.of_bodySF (Jvm.Free.JP.mathPlain rfl (by decide +kernel)) hisR ?_
  intro p e s m args below meth c s₁ Bd hml0 hP hK
  obtain ⟨rfl, hZ, hh⟩ := hP
  have hx := Bd.exec
  have hby := Bd.bytes
  have hml : c.maxLocals = 2 := hml0
  have hown : s.vm.findClass "java/lang/Math" = some m.cls := findClass_of_methodNamed Bd.named
  have hnm := (name_of_methodNamed Bd.named Bd.method).1
  have X0 : Stand p l e ({ frames := 0, cells := 0, slots := 0, locals := 0 } : Room) s m #[(.int p0), (.int p1)] below meth c s₁ [] 0 0 := Stand.of_body Bd
  have e0 : s₁.heap = h0 := by rw [← hh, Bd.state]; rfl
  have N0 := Fr.nil n0
  change own_Go p e below (own_Post s (Q14 Z p0 p1 h0 n0) ({ frames := 0, cells := 0, slots := 0, locals := 0 } : Room).cells ({ frames := 0, cells := 0, slots := 0, locals := 0 } : Room).slots) (s₁.setTop (entryFrame m #[(.int p0), (.int p1)] 2))
  refine own_by (fun t k => castTop (ef_14 m p0 p1) k) ?_
  show own_Go p e below _ (s₁.setTop (mkF m 0 #[iv p0, iv p1] []))
  refine own_by (B := s₁.setTop (mkF m 10 #[iv p0, iv p1] [(.int (if p0 < p1 then p1 else p0))])) (fun t k => ?_) ?_
  · show Steps p.tables e below (s₁.setTop (mkF m 0 #[iv p0, iv p1] [])) _
    refine XS.iloadN X0.here hx rfl (hb hby d14_0) rfl ?_
    show Steps p.tables e below (s₁.setTop (mkF m 1 #[iv p0, iv p1] [(.int p0)])) _
    refine XS.iloadN X0.here hx rfl (hb hby d14_1) rfl ?_
    show Steps p.tables e below (s₁.setTop (mkF m 2 #[iv p0, iv p1] [(.int p1), (.int p0)])) _
    refine (fun t (k : Steps p.tables e below (s₁.setTop (mkF m 10 #[iv p0, iv p1] [(.int (if p0 < p1 then p1 else p0))])) t) => (?_ : Steps p.tables e below _ t)) _ ?_
    · by_cases hc1 : p0 < p1
      · simp only [if_pos hc1] at k
        refine XS.icmpYes X0.here hx rfl (pc0 := 2) (pc' := 9) rfl (hb hby d14_2) rfl (tlt hc1).1 (by decide) (by decide) ?_
        show Steps p.tables e below (s₁.setTop (mkF m 9 #[iv p0, iv p1] [])) _
        refine XS.iloadN X0.here hx rfl (hb hby d14_9) rfl ?_
        show Steps p.tables e below (s₁.setTop (mkF m 10 #[iv p0, iv p1] [(.int p1)])) _
        exact k
      · simp only [if_neg hc1] at k
        refine XS.icmpNo X0.here hx rfl (hb hby d14_2) rfl (flt hc1).1 ?_
        show Steps p.tables e below (s₁.setTop (mkF m 5 #[iv p0, iv p1] [])) _
        refine XS.iloadN X0.here hx rfl (hb hby d14_5) rfl ?_
        show Steps p.tables e below (s₁.setTop (mkF m 6 #[iv p0, iv p1] [(.int p0)])) _
        refine XS.goto X0.here hx rfl (pc0 := 6) (pc' := 10) rfl (hb hby d14_6) (by decide) (by decide) ?_
        show Steps p.tables e below (s₁.setTop (mkF m 10 #[iv p0, iv p1] [(.int p0)])) _
        exact k
    show Steps p.tables e below (s₁.setTop (mkF m 10 #[iv p0, iv p1] [(.int (if p0 < p1 then p1 else p0))])) _
    exact k
  exact own_retI X0 Bd.notSynchronized hx Bd.returns (hb hby d14_10) (by
      rw [show s₁.heap = h0 from e0]
      exact ⟨congrArg (fun z => some (Value.int z)) (show (if p0 < p1 then p1 else p0) = (fmaxI p0 p1) from rfl), N0, rfl⟩) (by decide) (by decide)

def fabs (q0 : Int64) : Int64 := (if q0 < (0 : Int64) then (-q0) else q0)
theorem d27_0 : decode jdk_29_method_61_code 0 = .ok (.lload_n 0, 1) := by decide +kernel
theorem d27_1 : decode jdk_29_method_61_code 1 = .ok (.lconst 0, 1) := by decide +kernel
theorem d27_2 : decode jdk_29_method_61_code 2 = .ok (.lcmp, 1) := by decide +kernel
theorem d27_3 : decode jdk_29_method_61_code 3 = .ok (.ifCond .ge 8, 3) := by decide +kernel
theorem d27_6 : decode jdk_29_method_61_code 6 = .ok (.lload_n 0, 1) := by decide +kernel
theorem d27_7 : decode jdk_29_method_61_code 7 = .ok (.lneg, 1) := by decide +kernel
theorem d27_8 : decode jdk_29_method_61_code 8 = .ok (.goto 4, 3) := by decide +kernel
theorem d27_11 : decode jdk_29_method_61_code 11 = .ok (.lload_n 0, 1) := by decide +kernel
theorem d27_12 : decode jdk_29_method_61_code 12 = .ok (.lreturn, 1) := by decide +kernel
theorem ef_27 (m : MethodId) (x0 : Int64) : entryFrame m #[(.long x0)] 2 = mkF m 0 #[oJ x0, oS] [] := by first | (simp [entryFrame, mkF, argsToLocals, Value.category]; done) | rfl
def Q27 (Z : State) (q0 : Int64) (h0 : Heap) (n0 : Nat) (v : Option Value) (h : Heap) (L : List Loc) : Prop := v = some (.long (fabs q0)) ∧ Fr n0 L ∧ h = h0
set_option maxRecDepth 65536 in
set_option maxHeartbeats 40000000 in
theorem rm27 (l : Launch) (Z : State) (a0 : Array Value) (hw : ∀ d ∈ tables_1, d.before a0 Z = true) (ws : List Jvm.Cond) (q0 : Int64) (h0 : Heap) (n0 : Nat) (Z0 : n0 ≤ h0.size) :
    MetFree l (⟨"java/lang/Math", "abs", "(J)J"⟩ : MethodName) (head1 (Jvm.Cond.code (⟨"java/lang/Math", "abs", "(J)J"⟩ : MethodName) jdk_29_method_61_code 2 (some .long) :: ws) ({ frames := 0, cells := 0, slots := 0, locals := 0 } : Room)) (fun a U => a = #[(.long q0)] ∧ Z.Warmed39 U.vm ∧ U.heap = h0) (fun _ _ _ _ _ => True) (fun _ U o U' => ∃ v L, o = .returned v ∧ Q27 Z q0 h0 n0 v U'.heap L ∧ FrameEnd U o U' L ({ frames := 0, cells := 0, slots := 0, locals := 0 } : Room).cells ({ frames := 0, cells := 0, slots := 0, locals := 0 } : Room).slots) := by
  refine MetFree.of_bodySF (Jvm.Free.JP.mathPlain rfl (by decide +kernel)) hisR ?_
  intro p e s m args below meth c s₁ Bd hml0 hP hK
  obtain ⟨rfl, hZ, hh⟩ := hP
  have hx := Bd.exec
  have hby := Bd.bytes
  have hml : c.maxLocals = 2 := hml0
  have hown : s.vm.findClass "java/lang/Math" = some m.cls := findClass_of_methodNamed Bd.named
  have hnm := (name_of_methodNamed Bd.named Bd.method).1
  have X0 : Stand p l e ({ frames := 0, cells := 0, slots := 0, locals := 0 } : Room) s m #[(.long q0)] below meth c s₁ [] 0 0 := Stand.of_body Bd
  have e0 : s₁.heap = h0 := by rw [← hh, Bd.state]; rfl
  have N0 := Fr.nil n0
  change own_Go p e below (own_Post s (Q27 Z q0 h0 n0) ({ frames := 0, cells := 0, slots := 0, locals := 0 } : Room).cells ({ frames := 0, cells := 0, slots := 0, locals := 0 } : Room).slots) (s₁.setTop (entryFrame m #[(.long q0)] 2))
  refine own_by (fun t k => castTop (ef_27 m q0) k) ?_
  show own_Go p e below _ (s₁.setTop (mkF m 0 #[oJ q0, oS] []))
  refine own_by (B := s₁.setTop (mkF m 12 #[oJ q0, oS] [(.long (if q0 < (0 : Int64) then (-q0) else q0))])) (fun t k => ?_) ?_
  · show Steps p.tables e below (s₁.setTop (mkF m 0 #[oJ q0, oS] [])) _
    refine XS.lloadN X0.here hx rfl (hb hby d27_0) rfl ?_
    show Steps p.tables e below (s₁.setTop (mkF m 1 #[oJ q0, oS] [(.long q0)])) _
    refine XS.lconst X0.here hx rfl (hb hby d27_1) ?_
    show Steps p.tables e below (s₁.setTop (mkF m 2 #[oJ q0, oS] [(.long (0 : Int64)), (.long q0)])) _
    refine XS.lcmp X0.here hx rfl (hb hby d27_2) rfl ?_
    show Steps p.tables e below (s₁.setTop (mkF m 3 #[oJ q0, oS] [(.int (lcmpW q0 (0 : Int64)))])) _
    refine (fun t (k : Steps p.tables e below (s₁.setTop (mkF m 12 #[oJ q0, oS] [(.long (if q0 < (0 : Int64) then (-q0) else q0))])) t) => (?_ : Steps p.tables e below _ t)) _ ?_
    · by_cases hc1 : q0 < (0 : Int64)
      · simp only [if_pos hc1] at k
        refine XS.ifNo X0.here hx rfl (hb hby d27_3) rfl ((if0 _ _).trans (tlt ((lw_lt _ _).mpr hc1)).2.1) ?_
        show Steps p.tables e below (s₁.setTop (mkF m 6 #[oJ q0, oS] [])) _
        refine XS.lloadN X0.here hx rfl (hb hby d27_6) rfl ?_
        show Steps p.tables e below (s₁.setTop (mkF m 7 #[oJ q0, oS] [(.long q0)])) _
        refine XS.lneg X0.here hx rfl (hb hby d27_7) rfl ?_
        show Steps p.tables e below (s₁.setTop (mkF m 8 #[oJ q0, oS] [(.long (-q0))])) _
        refine XS.goto X0.here hx rfl (pc0 := 8) (pc' := 12) rfl (hb hby d27_8) (by decide) (by decide) ?_
        show Steps p.tables e below (s₁.setTop (mkF m 12 #[oJ q0, oS] [(.long (-q0))])) _
        exact k
      · simp only [if_neg hc1] at k
        refine XS.ifYes X0.here hx rfl (pc0 := 3) (pc' := 11) rfl (hb hby d27_3) rfl ((if0 _ _).trans (flt (fun q => hc1 ((lw_lt _ _).mp q))).2.1) (by decide) (by decide) ?_
        show Steps p.tables e below (s₁.setTop (mkF m 11 #[oJ q0, oS] [])) _
        refine XS.lloadN X0.here hx rfl (hb hby d27_11) rfl ?_
        show Steps p.tables e below (s₁.setTop (mkF m 12 #[oJ q0, oS] [(.long q0)])) _
        exact k
    show Steps p.tables e below (s₁.setTop (mkF m 12 #[oJ q0, oS] [(.long (if q0 < (0 : Int64) then (-q0) else q0))])) _
    exact k
  exact own_retL X0 Bd.notSynchronized hx Bd.returns (hb hby d27_12) (by
      rw [show s₁.heap = h0 from e0]
      exact ⟨congrArg (fun z => some (Value.long z)) (show (if q0 < (0 : Int64) then (-q0) else q0) = (fabs q0) from rfl), N0, rfl⟩) (by decide) (by decide)

def fmh (q0 : Int64) (q1 : Int64) : Int64 := ((((q0 >>> ((32 : Int32) &&& 0x3f).toInt64) * (q1 >>> ((32 : Int32) &&& 0x3f).toInt64)) + ((((q0 >>> ((32 : Int32) &&& 0x3f).toInt64) * (q1 &&& (4294967295 : Int64))) + ((((q0 &&& (4294967295 : Int64)) * (q1 &&& (4294967295 : Int64))).toUInt64 >>> ((32 : Int32) &&& 0x3f).toInt64.toUInt64).toInt64)) >>> ((32 : Int32) &&& 0x3f).toInt64)) + ((((((q0 >>> ((32 : Int32) &&& 0x3f).toInt64) * (q1 &&& (4294967295 : Int64))) + ((((q0 &&& (4294967295 : Int64)) * (q1 &&& (4294967295 : Int64))).toUInt64 >>> ((32 : Int32) &&& 0x3f).toInt64.toUInt64).toInt64)) &&& (4294967295 : Int64)) + ((q0 &&& (4294967295 : Int64)) * (q1 >>> ((32 : Int32) &&& 0x3f).toInt64))) >>> ((32 : Int32) &&& 0x3f).toInt64))
theorem d11_0 : decode jdk_29_method_45_code 0 = .ok (.lload_n 0, 1) := by decide +kernel
theorem d11_1 : decode jdk_29_method_45_code 1 = .ok (.bipush 32, 2) := by decide +kernel
theorem d11_3 : decode jdk_29_method_45_code 3 = .ok (.lshr, 1) := by decide +kernel
theorem d11_4 : decode jdk_29_method_45_code 4 = .ok (.lstore 4, 2) := by decide +kernel
theorem d11_6 : decode jdk_29_method_45_code 6 = .ok (.lload_n 0, 1) := by decide +kernel
theorem d11_7 : decode jdk_29_method_45_code 7 = .ok (.ldc2_w 138, 3) := by decide +kernel
theorem d11_10 : decode jdk_29_method_45_code 10 = .ok (.land, 1) := by decide +kernel
theorem d11_11 : decode jdk_29_method_45_code 11 = .ok (.lstore 6, 2) := by decide +kernel
theorem d11_13 : decode jdk_29_method_45_code 13 = .ok (.lload_n 2, 1) := by decide +kernel
theorem d11_14 : decode jdk_29_method_45_code 14 = .ok (.bipush 32, 2) := by decide +kernel
theorem d11_16 : decode jdk_29_method_45_code 16 = .ok (.lshr, 1) := by decide +kernel
theorem d11_17 : decode jdk_29_method_45_code 17 = .ok (.lstore 8, 2) := by decide +kernel
theorem d11_19 : decode jdk_29_method_45_code 19 = .ok (.lload_n 2, 1) := by decide +kernel
theorem d11_20 : decode jdk_29_method_45_code 20 = .ok (.ldc2_w 138, 3) := by decide +kernel
theorem d11_23 : decode jdk_29_method_45_code 23 = .ok (.land, 1) := by decide +kernel
theorem d11_24 : decode jdk_29_method_45_code 24 = .ok (.lstore 10, 2) := by decide +kernel
theorem d11_26 : decode jdk_29_method_45_code 26 = .ok (.lload 6, 2) := by decide +kernel
theorem d11_28 : decode jdk_29_method_45_code 28 = .ok (.lload 10, 2) := by decide +kernel
theorem d11_30 : decode jdk_29_method_45_code 30 = .ok (.lmul, 1) := by decide +kernel
theorem d11_31 : decode jdk_29_method_45_code 31 = .ok (.lstore 12, 2) := by decide +kernel
theorem d11_33 : decode jdk_29_method_45_code 33 = .ok (.lload 4, 2) := by decide +kernel
theorem d11_35 : decode jdk_29_method_45_code 35 = .ok (.lload 10, 2) := by decide +kernel
theorem d11_37 : decode jdk_29_method_45_code 37 = .ok (.lmul, 1) := by decide +kernel
theorem d11_38 : decode jdk_29_method_45_code 38 = .ok (.lload 12, 2) := by decide +kernel
theorem d11_40 : decode jdk_29_method_45_code 40 = .ok (.bipush 32, 2) := by decide +kernel
theorem d11_42 : decode jdk_29_method_45_code 42 = .ok (.lushr, 1) := by decide +kernel
theorem d11_43 : decode jdk_29_method_45_code 43 = .ok (.ladd, 1) := by decide +kernel
theorem d11_44 : decode jdk_29_method_45_code 44 = .ok (.lstore 14, 2) := by decide +kernel
theorem d11_46 : decode jdk_29_method_45_code 46 = .ok (.lload 14, 2) := by decide +kernel
theorem d11_48 : decode jdk_29_method_45_code 48 = .ok (.ldc2_w 138, 3) := by decide +kernel
theorem d11_51 : decode jdk_29_method_45_code 51 = .ok (.land, 1) := by decide +kernel
theorem d11_52 : decode jdk_29_method_45_code 52 = .ok (.lstore 16, 2) := by decide +kernel
theorem d11_54 : decode jdk_29_method_45_code 54 = .ok (.lload 14, 2) := by decide +kernel
theorem d11_56 : decode jdk_29_method_45_code 56 = .ok (.bipush 32, 2) := by decide +kernel
theorem d11_58 : decode jdk_29_method_45_code 58 = .ok (.lshr, 1) := by decide +kernel
theorem d11_59 : decode jdk_29_method_45_code 59 = .ok (.lstore 18, 2) := by decide +kernel
theorem d11_61 : decode jdk_29_method_45_code 61 = .ok (.lload 16, 2) := by decide +kernel
theorem d11_63 : decode jdk_29_method_45_code 63 = .ok (.lload 6, 2) := by decide +kernel
theorem d11_65 : decode jdk_29_method_45_code 65 = .ok (.lload 8, 2) := by decide +kernel
theorem d11_67 : decode jdk_29_method_45_code 67 = .ok (.lmul, 1) := by decide +kernel
theorem d11_68 : decode jdk_29_method_45_code 68 = .ok (.ladd, 1) := by decide +kernel
theorem d11_69 : decode jdk_29_method_45_code 69 = .ok (.lstore 16, 2) := by decide +kernel
theorem d11_71 : decode jdk_29_method_45_code 71 = .ok (.lload 4, 2) := by decide +kernel
theorem d11_73 : decode jdk_29_method_45_code 73 = .ok (.lload 8, 2) := by decide +kernel
theorem d11_75 : decode jdk_29_method_45_code 75 = .ok (.lmul, 1) := by decide +kernel
theorem d11_76 : decode jdk_29_method_45_code 76 = .ok (.lload 18, 2) := by decide +kernel
theorem d11_78 : decode jdk_29_method_45_code 78 = .ok (.ladd, 1) := by decide +kernel
theorem d11_79 : decode jdk_29_method_45_code 79 = .ok (.lload 16, 2) := by decide +kernel
theorem d11_81 : decode jdk_29_method_45_code 81 = .ok (.bipush 32, 2) := by decide +kernel
theorem d11_83 : decode jdk_29_method_45_code 83 = .ok (.lshr, 1) := by decide +kernel
theorem d11_84 : decode jdk_29_method_45_code 84 = .ok (.ladd, 1) := by decide +kernel
theorem d11_85 : decode jdk_29_method_45_code 85 = .ok (.lreturn, 1) := by decide +kernel
theorem ef_11 (m : MethodId) (x0 : Int64) (x1 : Int64) : entryFrame m #[(.long x0), (.long x1)] 20 = mkF m 0 #[oJ x0, oS, oJ x1, oS, oU, oU, oU, oU, oU, oU, oU, oU, oU, oU, oU, oU, oU, oU, oU, oU] [] := by first | (simp [entryFrame, mkF, argsToLocals, Value.category]; done) | rfl
def Q11 (Z : State) (q0 : Int64) (q1 : Int64) (h0 : Heap) (n0 : Nat) (v : Option Value) (h : Heap) (L : List Loc) : Prop := v = some (.long (fmh q0 q1)) ∧ Fr n0 L ∧ h = h0
set_option maxRecDepth 65536 in
set_option maxHeartbeats 40000000 in
theorem rm11 (l : Launch) (Z : State) (a0 : Array Value) (hw : ∀ d ∈ tables_1, d.before a0 Z = true) (ws : List Jvm.Cond) (q0 : Int64) (q1 : Int64) (h0 : Heap) (n0 : Nat) (Z0 : n0 ≤ h0.size) :
    MetFree l (⟨"java/lang/Math", "multiplyHigh", "(JJ)J"⟩ : MethodName) (head1 (Jvm.Cond.code (⟨"java/lang/Math", "multiplyHigh", "(JJ)J"⟩ : MethodName) jdk_29_method_45_code 20 (some .long) :: ws) ({ frames := 0, cells := 0, slots := 0, locals := 0 } : Room)) (fun a U => a = #[(.long q0), (.long q1)] ∧ Z.Warmed39 U.vm ∧ U.heap = h0) (fun _ _ _ _ _ => True) (fun _ U o U' => ∃ v L, o = .returned v ∧ Q11 Z q0 q1 h0 n0 v U'.heap L ∧ FrameEnd U o U' L ({ frames := 0, cells := 0, slots := 0, locals := 0 } : Room).cells ({ frames := 0, cells := 0, slots := 0, locals := 0 } : Room).slots) := by
  refine MetFree.of_bodySF (Jvm.Free.JP.mathPlain rfl (by decide +kernel)) hisR ?_
  intro p e s m args below meth c s₁ Bd hml0 hP hK
  obtain ⟨rfl, hZ, hh⟩ := hP
  have hx := Bd.exec
  have hby := Bd.bytes
  have hml : c.maxLocals = 20 := hml0
  have hown : s.vm.findClass "java/lang/Math" = some m.cls := findClass_of_methodNamed Bd.named
  have hnm := (name_of_methodNamed Bd.named Bd.method).1
  have X0 : Stand p l e ({ frames := 0, cells := 0, slots := 0, locals := 0 } : Room) s m #[(.long q0), (.long q1)] below meth c s₁ [] 0 0 := Stand.of_body Bd
  have e0 : s₁.heap = h0 := by rw [← hh, Bd.state]; rfl
  have N0 := Fr.nil n0
  change own_Go p e below (own_Post s (Q11 Z q0 q1 h0 n0) ({ frames := 0, cells := 0, slots := 0, locals := 0 } : Room).cells ({ frames := 0, cells := 0, slots := 0, locals := 0 } : Room).slots) (s₁.setTop (entryFrame m #[(.long q0), (.long q1)] 20))
  refine own_by (fun t k => castTop (ef_11 m q0 q1) k) ?_
  show own_Go p e below _ (s₁.setTop (mkF m 0 #[oJ q0, oS, oJ q1, oS, oU, oU, oU, oU, oU, oU, oU, oU, oU, oU, oU, oU, oU, oU, oU, oU] []))
  refine own_by (B := s₁.setTop (mkF m 85 #[oJ q0, oS, oJ q1, oS, oJ (q0 >>> ((32 : Int32) &&& 0x3f).toInt64), oS, oJ (q0 &&& (4294967295 : Int64)), oS, oJ (q1 >>> ((32 : Int32) &&& 0x3f).toInt64), oS, oJ (q1 &&& (4294967295 : Int64)), oS, oJ ((q0 &&& (4294967295 : Int64)) * (q1 &&& (4294967295 : Int64))), oS, oJ (((q0 >>> ((32 : Int32) &&& 0x3f).toInt64) * (q1 &&& (4294967295 : Int64))) + ((((q0 &&& (4294967295 : Int64)) * (q1 &&& (4294967295 : Int64))).toUInt64 >>> ((32 : Int32) &&& 0x3f).toInt64.toUInt64).toInt64)), oS, oJ (((((q0 >>> ((32 : Int32) &&& 0x3f).toInt64) * (q1 &&& (4294967295 : Int64))) + ((((q0 &&& (4294967295 : Int64)) * (q1 &&& (4294967295 : Int64))).toUInt64 >>> ((32 : Int32) &&& 0x3f).toInt64.toUInt64).toInt64)) &&& (4294967295 : Int64)) + ((q0 &&& (4294967295 : Int64)) * (q1 >>> ((32 : Int32) &&& 0x3f).toInt64))), oS, oJ ((((q0 >>> ((32 : Int32) &&& 0x3f).toInt64) * (q1 &&& (4294967295 : Int64))) + ((((q0 &&& (4294967295 : Int64)) * (q1 &&& (4294967295 : Int64))).toUInt64 >>> ((32 : Int32) &&& 0x3f).toInt64.toUInt64).toInt64)) >>> ((32 : Int32) &&& 0x3f).toInt64), oS] [(.long ((((q0 >>> ((32 : Int32) &&& 0x3f).toInt64) * (q1 >>> ((32 : Int32) &&& 0x3f).toInt64)) + ((((q0 >>> ((32 : Int32) &&& 0x3f).toInt64) * (q1 &&& (4294967295 : Int64))) + ((((q0 &&& (4294967295 : Int64)) * (q1 &&& (4294967295 : Int64))).toUInt64 >>> ((32 : Int32) &&& 0x3f).toInt64.toUInt64).toInt64)) >>> ((32 : Int32) &&& 0x3f).toInt64)) + ((((((q0 >>> ((32 : Int32) &&& 0x3f).toInt64) * (q1 &&& (4294967295 : Int64))) + ((((q0 &&& (4294967295 : Int64)) * (q1 &&& (4294967295 : Int64))).toUInt64 >>> ((32 : Int32) &&& 0x3f).toInt64.toUInt64).toInt64)) &&& (4294967295 : Int64)) + ((q0 &&& (4294967295 : Int64)) * (q1 >>> ((32 : Int32) &&& 0x3f).toInt64))) >>> ((32 : Int32) &&& 0x3f).toInt64)))])) (fun t k => ?_) ?_
  · show Steps p.tables e below (s₁.setTop (mkF m 0 #[oJ q0, oS, oJ q1, oS, oU, oU, oU, oU, oU, oU, oU, oU, oU, oU, oU, oU, oU, oU, oU, oU] [])) _
    refine XS.lloadN X0.here hx rfl (hb hby d11_0) rfl ?_
    show Steps p.tables e below (s₁.setTop (mkF m 1 #[oJ q0, oS, oJ q1, oS, oU, oU, oU, oU, oU, oU, oU, oU, oU, oU, oU, oU, oU, oU, oU, oU] [(.long q0)])) _
    refine XS.bipush X0.here hx rfl (hb hby d11_1) ?_
    show Steps p.tables e below (s₁.setTop (mkF m 3 #[oJ q0, oS, oJ q1, oS, oU, oU, oU, oU, oU, oU, oU, oU, oU, oU, oU, oU, oU, oU, oU, oU] [(.int (32 : Int32)), (.long q0)])) _
    refine XS.lshr X0.here hx rfl (hb hby d11_3) rfl ?_
    show Steps p.tables e below (s₁.setTop (mkF m 4 #[oJ q0, oS, oJ q1, oS, oU, oU, oU, oU, oU, oU, oU, oU, oU, oU, oU, oU, oU, oU, oU, oU] [(.long (q0 >>> ((32 : Int32) &&& 0x3f).toInt64))])) _
    refine XS.lstore X0.here hx rfl (hb hby d11_4) rfl (l' := #[oJ q0, oS, oJ q1, oS, oJ (q0 >>> ((32 : Int32) &&& 0x3f).toInt64), oS, oU, oU, oU, oU, oU, oU, oU, oU, oU, oU, oU, oU, oU, oU]) rfl ?_
    show Steps p.tables e below (s₁.setTop (mkF m 6 #[oJ q0, oS, oJ q1, oS, oJ (q0 >>> ((32 : Int32) &&& 0x3f).toInt64), oS, oU, oU, oU, oU, oU, oU, oU, oU, oU, oU, oU, oU, oU, oU] [])) _
    refine XS.lloadN X0.here hx rfl (hb hby d11_6) rfl ?_
    show Steps p.tables e below (s₁.setTop (mkF m 7 #[oJ q0, oS, oJ q1, oS, oJ (q0 >>> ((32 : Int32) &&& 0x3f).toInt64), oS, oU, oU, oU, oU, oU, oU, oU, oU, oU, oU, oU, oU, oU, oU] [(.long q0)])) _
    refine X0.ldc2Long hx hown (mvT hZ (hw _ (List.mem_of_getElem? (i := 56) rfl))) (g := (mkF m 7 #[oJ q0, oS, oJ q1, oS, oJ (q0 >>> ((32 : Int32) &&& 0x3f).toInt64), oS, oU, oU, oU, oU, oU, oU, oU, oU, oU, oU, oU, oU, oU, oU] [(.long q0)])) rfl (hb hby d11_7) _ ?_
    show Steps p.tables e below (s₁.setTop (mkF m 10 #[oJ q0, oS, oJ q1, oS, oJ (q0 >>> ((32 : Int32) &&& 0x3f).toInt64), oS, oU, oU, oU, oU, oU, oU, oU, oU, oU, oU, oU, oU, oU, oU] [(.long (4294967295 : Int64)), (.long q0)])) _
    refine XS.land X0.here hx rfl (hb hby d11_10) rfl ?_
    show Steps p.tables e below (s₁.setTop (mkF m 11 #[oJ q0, oS, oJ q1, oS, oJ (q0 >>> ((32 : Int32) &&& 0x3f).toInt64), oS, oU, oU, oU, oU, oU, oU, oU, oU, oU, oU, oU, oU, oU, oU] [(.long (q0 &&& (4294967295 : Int64)))])) _
    refine XS.lstore X0.here hx rfl (hb hby d11_11) rfl (l' := #[oJ q0, oS, oJ q1, oS, oJ (q0 >>> ((32 : Int32) &&& 0x3f).toInt64), oS, oJ (q0 &&& (4294967295 : Int64)), oS, oU, oU, oU, oU, oU, oU, oU, oU, oU, oU, oU, oU]) rfl ?_
    show Steps p.tables e below (s₁.setTop (mkF m 13 #[oJ q0, oS, oJ q1, oS, oJ (q0 >>> ((32 : Int32) &&& 0x3f).toInt64), oS, oJ (q0 &&& (4294967295 : Int64)), oS, oU, oU, oU, oU, oU, oU, oU, oU, oU, oU, oU, oU] [])) _
    refine XS.lloadN X0.here hx rfl (hb hby d11_13) rfl ?_
    show Steps p.tables e below (s₁.setTop (mkF m 14 #[oJ q0, oS, oJ q1, oS, oJ (q0 >>> ((32 : Int32) &&& 0x3f).toInt64), oS, oJ (q0 &&& (4294967295 : Int64)), oS, oU, oU, oU, oU, oU, oU, oU, oU, oU, oU, oU, oU] [(.long q1)])) _
    refine XS.bipush X0.here hx rfl (hb hby d11_14) ?_
    show Steps p.tables e below (s₁.setTop (mkF m 16 #[oJ q0, oS, oJ q1, oS, oJ (q0 >>> ((32 : Int32) &&& 0x3f).toInt64), oS, oJ (q0 &&& (4294967295 : Int64)), oS, oU, oU, oU, oU, oU, oU, oU, oU, oU, oU, oU, oU] [(.int (32 : Int32)), (.long q1)])) _
    refine XS.lshr X0.here hx rfl (hb hby d11_16) rfl ?_
    show Steps p.tables e below (s₁.setTop (mkF m 17 #[oJ q0, oS, oJ q1, oS, oJ (q0 >>> ((32 : Int32) &&& 0x3f).toInt64), oS, oJ (q0 &&& (4294967295 : Int64)), oS, oU, oU, oU, oU, oU, oU, oU, oU, oU, oU, oU, oU] [(.long (q1 >>> ((32 : Int32) &&& 0x3f).toInt64))])) _
    refine XS.lstore X0.here hx rfl (hb hby d11_17) rfl (l' := #[oJ q0, oS, oJ q1, oS, oJ (q0 >>> ((32 : Int32) &&& 0x3f).toInt64), oS, oJ (q0 &&& (4294967295 : Int64)), oS, oJ (q1 >>> ((32 : Int32) &&& 0x3f).toInt64), oS, oU, oU, oU, oU, oU, oU, oU, oU, oU, oU]) rfl ?_
    show Steps p.tables e below (s₁.setTop (mkF m 19 #[oJ q0, oS, oJ q1, oS, oJ (q0 >>> ((32 : Int32) &&& 0x3f).toInt64), oS, oJ (q0 &&& (4294967295 : Int64)), oS, oJ (q1 >>> ((32 : Int32) &&& 0x3f).toInt64), oS, oU, oU, oU, oU, oU, oU, oU, oU, oU, oU] [])) _
    refine XS.lloadN X0.here hx rfl (hb hby d11_19) rfl ?_
    show Steps p.tables e below (s₁.setTop (mkF m 20 #[oJ q0, oS, oJ q1, oS, oJ (q0 >>> ((32 : Int32) &&& 0x3f).toInt64), oS, oJ (q0 &&& (4294967295 : Int64)), oS, oJ (q1 >>> ((32 : Int32) &&& 0x3f).toInt64), oS, oU, oU, oU, oU, oU, oU, oU, oU, oU, oU] [(.long q1)])) _
    refine X0.ldc2Long hx hown (mvT hZ (hw _ (List.mem_of_getElem? (i := 56) rfl))) (g := (mkF m 20 #[oJ q0, oS, oJ q1, oS, oJ (q0 >>> ((32 : Int32) &&& 0x3f).toInt64), oS, oJ (q0 &&& (4294967295 : Int64)), oS, oJ (q1 >>> ((32 : Int32) &&& 0x3f).toInt64), oS, oU, oU, oU, oU, oU, oU, oU, oU, oU, oU] [(.long q1)])) rfl (hb hby d11_20) _ ?_
    show Steps p.tables e below (s₁.setTop (mkF m 23 #[oJ q0, oS, oJ q1, oS, oJ (q0 >>> ((32 : Int32) &&& 0x3f).toInt64), oS, oJ (q0 &&& (4294967295 : Int64)), oS, oJ (q1 >>> ((32 : Int32) &&& 0x3f).toInt64), oS, oU, oU, oU, oU, oU, oU, oU, oU, oU, oU] [(.long (4294967295 : Int64)), (.long q1)])) _
    refine XS.land X0.here hx rfl (hb hby d11_23) rfl ?_
    show Steps p.tables e below (s₁.setTop (mkF m 24 #[oJ q0, oS, oJ q1, oS, oJ (q0 >>> ((32 : Int32) &&& 0x3f).toInt64), oS, oJ (q0 &&& (4294967295 : Int64)), oS, oJ (q1 >>> ((32 : Int32) &&& 0x3f).toInt64), oS, oU, oU, oU, oU, oU, oU, oU, oU, oU, oU] [(.long (q1 &&& (4294967295 : Int64)))])) _
    refine XS.lstore X0.here hx rfl (hb hby d11_24) rfl (l' := #[oJ q0, oS, oJ q1, oS, oJ (q0 >>> ((32 : Int32) &&& 0x3f).toInt64), oS, oJ (q0 &&& (4294967295 : Int64)), oS, oJ (q1 >>> ((32 : Int32) &&& 0x3f).toInt64), oS, oJ (q1 &&& (4294967295 : Int64)), oS, oU, oU, oU, oU, oU, oU, oU, oU]) rfl ?_
    show Steps p.tables e below (s₁.setTop (mkF m 26 #[oJ q0, oS, oJ q1, oS, oJ (q0 >>> ((32 : Int32) &&& 0x3f).toInt64), oS, oJ (q0 &&& (4294967295 : Int64)), oS, oJ (q1 >>> ((32 : Int32) &&& 0x3f).toInt64), oS, oJ (q1 &&& (4294967295 : Int64)), oS, oU, oU, oU, oU, oU, oU, oU, oU] [])) _
    refine XS.lload X0.here hx rfl (hb hby d11_26) rfl ?_
    show Steps p.tables e below (s₁.setTop (mkF m 28 #[oJ q0, oS, oJ q1, oS, oJ (q0 >>> ((32 : Int32) &&& 0x3f).toInt64), oS, oJ (q0 &&& (4294967295 : Int64)), oS, oJ (q1 >>> ((32 : Int32) &&& 0x3f).toInt64), oS, oJ (q1 &&& (4294967295 : Int64)), oS, oU, oU, oU, oU, oU, oU, oU, oU] [(.long (q0 &&& (4294967295 : Int64)))])) _
    refine XS.lload X0.here hx rfl (hb hby d11_28) rfl ?_
    show Steps p.tables e below (s₁.setTop (mkF m 30 #[oJ q0, oS, oJ q1, oS, oJ (q0 >>> ((32 : Int32) &&& 0x3f).toInt64), oS, oJ (q0 &&& (4294967295 : Int64)), oS, oJ (q1 >>> ((32 : Int32) &&& 0x3f).toInt64), oS, oJ (q1 &&& (4294967295 : Int64)), oS, oU, oU, oU, oU, oU, oU, oU, oU] [(.long (q1 &&& (4294967295 : Int64))), (.long (q0 &&& (4294967295 : Int64)))])) _
    refine XS.lmul X0.here hx rfl (hb hby d11_30) rfl ?_
    show Steps p.tables e below (s₁.setTop (mkF m 31 #[oJ q0, oS, oJ q1, oS, oJ (q0 >>> ((32 : Int32) &&& 0x3f).toInt64), oS, oJ (q0 &&& (4294967295 : Int64)), oS, oJ (q1 >>> ((32 : Int32) &&& 0x3f).toInt64), oS, oJ (q1 &&& (4294967295 : Int64)), oS, oU, oU, oU, oU, oU, oU, oU, oU] [(.long ((q0 &&& (4294967295 : Int64)) * (q1 &&& (4294967295 : Int64))))])) _
    refine XS.lstore X0.here hx rfl (hb hby d11_31) rfl (l' := #[oJ q0, oS, oJ q1, oS, oJ (q0 >>> ((32 : Int32) &&& 0x3f).toInt64), oS, oJ (q0 &&& (4294967295 : Int64)), oS, oJ (q1 >>> ((32 : Int32) &&& 0x3f).toInt64), oS, oJ (q1 &&& (4294967295 : Int64)), oS, oJ ((q0 &&& (4294967295 : Int64)) * (q1 &&& (4294967295 : Int64))), oS, oU, oU, oU, oU, oU, oU]) rfl ?_
    show Steps p.tables e below (s₁.setTop (mkF m 33 #[oJ q0, oS, oJ q1, oS, oJ (q0 >>> ((32 : Int32) &&& 0x3f).toInt64), oS, oJ (q0 &&& (4294967295 : Int64)), oS, oJ (q1 >>> ((32 : Int32) &&& 0x3f).toInt64), oS, oJ (q1 &&& (4294967295 : Int64)), oS, oJ ((q0 &&& (4294967295 : Int64)) * (q1 &&& (4294967295 : Int64))), oS, oU, oU, oU, oU, oU, oU] [])) _
    refine XS.lload X0.here hx rfl (hb hby d11_33) rfl ?_
    show Steps p.tables e below (s₁.setTop (mkF m 35 #[oJ q0, oS, oJ q1, oS, oJ (q0 >>> ((32 : Int32) &&& 0x3f).toInt64), oS, oJ (q0 &&& (4294967295 : Int64)), oS, oJ (q1 >>> ((32 : Int32) &&& 0x3f).toInt64), oS, oJ (q1 &&& (4294967295 : Int64)), oS, oJ ((q0 &&& (4294967295 : Int64)) * (q1 &&& (4294967295 : Int64))), oS, oU, oU, oU, oU, oU, oU] [(.long (q0 >>> ((32 : Int32) &&& 0x3f).toInt64))])) _
    refine XS.lload X0.here hx rfl (hb hby d11_35) rfl ?_
    show Steps p.tables e below (s₁.setTop (mkF m 37 #[oJ q0, oS, oJ q1, oS, oJ (q0 >>> ((32 : Int32) &&& 0x3f).toInt64), oS, oJ (q0 &&& (4294967295 : Int64)), oS, oJ (q1 >>> ((32 : Int32) &&& 0x3f).toInt64), oS, oJ (q1 &&& (4294967295 : Int64)), oS, oJ ((q0 &&& (4294967295 : Int64)) * (q1 &&& (4294967295 : Int64))), oS, oU, oU, oU, oU, oU, oU] [(.long (q1 &&& (4294967295 : Int64))), (.long (q0 >>> ((32 : Int32) &&& 0x3f).toInt64))])) _
    refine XS.lmul X0.here hx rfl (hb hby d11_37) rfl ?_
    show Steps p.tables e below (s₁.setTop (mkF m 38 #[oJ q0, oS, oJ q1, oS, oJ (q0 >>> ((32 : Int32) &&& 0x3f).toInt64), oS, oJ (q0 &&& (4294967295 : Int64)), oS, oJ (q1 >>> ((32 : Int32) &&& 0x3f).toInt64), oS, oJ (q1 &&& (4294967295 : Int64)), oS, oJ ((q0 &&& (4294967295 : Int64)) * (q1 &&& (4294967295 : Int64))), oS, oU, oU, oU, oU, oU, oU] [(.long ((q0 >>> ((32 : Int32) &&& 0x3f).toInt64) * (q1 &&& (4294967295 : Int64))))])) _
    refine XS.lload X0.here hx rfl (hb hby d11_38) rfl ?_
    show Steps p.tables e below (s₁.setTop (mkF m 40 #[oJ q0, oS, oJ q1, oS, oJ (q0 >>> ((32 : Int32) &&& 0x3f).toInt64), oS, oJ (q0 &&& (4294967295 : Int64)), oS, oJ (q1 >>> ((32 : Int32) &&& 0x3f).toInt64), oS, oJ (q1 &&& (4294967295 : Int64)), oS, oJ ((q0 &&& (4294967295 : Int64)) * (q1 &&& (4294967295 : Int64))), oS, oU, oU, oU, oU, oU, oU] [(.long ((q0 &&& (4294967295 : Int64)) * (q1 &&& (4294967295 : Int64)))), (.long ((q0 >>> ((32 : Int32) &&& 0x3f).toInt64) * (q1 &&& (4294967295 : Int64))))])) _
    refine XS.bipush X0.here hx rfl (hb hby d11_40) ?_
    show Steps p.tables e below (s₁.setTop (mkF m 42 #[oJ q0, oS, oJ q1, oS, oJ (q0 >>> ((32 : Int32) &&& 0x3f).toInt64), oS, oJ (q0 &&& (4294967295 : Int64)), oS, oJ (q1 >>> ((32 : Int32) &&& 0x3f).toInt64), oS, oJ (q1 &&& (4294967295 : Int64)), oS, oJ ((q0 &&& (4294967295 : Int64)) * (q1 &&& (4294967295 : Int64))), oS, oU, oU, oU, oU, oU, oU] [(.int (32 : Int32)), (.long ((q0 &&& (4294967295 : Int64)) * (q1 &&& (4294967295 : Int64)))), (.long ((q0 >>> ((32 : Int32) &&& 0x3f).toInt64) * (q1 &&& (4294967295 : Int64))))])) _
    refine XS.lushr X0.here hx rfl (hb hby d11_42) rfl ?_
    show Steps p.tables e below (s₁.setTop (mkF m 43 #[oJ q0, oS, oJ q1, oS, oJ (q0 >>> ((32 : Int32) &&& 0x3f).toInt64), oS, oJ (q0 &&& (4294967295 : Int64)), oS, oJ (q1 >>> ((32 : Int32) &&& 0x3f).toInt64), oS, oJ (q1 &&& (4294967295 : Int64)), oS, oJ ((q0 &&& (4294967295 : Int64)) * (q1 &&& (4294967295 : Int64))), oS, oU, oU, oU, oU, oU, oU] [(.long ((((q0 &&& (4294967295 : Int64)) * (q1 &&& (4294967295 : Int64))).toUInt64 >>> ((32 : Int32) &&& 0x3f).toInt64.toUInt64).toInt64)), (.long ((q0 >>> ((32 : Int32) &&& 0x3f).toInt64) * (q1 &&& (4294967295 : Int64))))])) _
    refine XS.ladd X0.here hx rfl (hb hby d11_43) rfl ?_
    show Steps p.tables e below (s₁.setTop (mkF m 44 #[oJ q0, oS, oJ q1, oS, oJ (q0 >>> ((32 : Int32) &&& 0x3f).toInt64), oS, oJ (q0 &&& (4294967295 : Int64)), oS, oJ (q1 >>> ((32 : Int32) &&& 0x3f).toInt64), oS, oJ (q1 &&& (4294967295 : Int64)), oS, oJ ((q0 &&& (4294967295 : Int64)) * (q1 &&& (4294967295 : Int64))), oS, oU, oU, oU, oU, oU, oU] [(.long (((q0 >>> ((32 : Int32) &&& 0x3f).toInt64) * (q1 &&& (4294967295 : Int64))) + ((((q0 &&& (4294967295 : Int64)) * (q1 &&& (4294967295 : Int64))).toUInt64 >>> ((32 : Int32) &&& 0x3f).toInt64.toUInt64).toInt64)))])) _
    refine XS.lstore X0.here hx rfl (hb hby d11_44) rfl (l' := #[oJ q0, oS, oJ q1, oS, oJ (q0 >>> ((32 : Int32) &&& 0x3f).toInt64), oS, oJ (q0 &&& (4294967295 : Int64)), oS, oJ (q1 >>> ((32 : Int32) &&& 0x3f).toInt64), oS, oJ (q1 &&& (4294967295 : Int64)), oS, oJ ((q0 &&& (4294967295 : Int64)) * (q1 &&& (4294967295 : Int64))), oS, oJ (((q0 >>> ((32 : Int32) &&& 0x3f).toInt64) * (q1 &&& (4294967295 : Int64))) + ((((q0 &&& (4294967295 : Int64)) * (q1 &&& (4294967295 : Int64))).toUInt64 >>> ((32 : Int32) &&& 0x3f).toInt64.toUInt64).toInt64)), oS, oU, oU, oU, oU]) rfl ?_
    show Steps p.tables e below (s₁.setTop (mkF m 46 #[oJ q0, oS, oJ q1, oS, oJ (q0 >>> ((32 : Int32) &&& 0x3f).toInt64), oS, oJ (q0 &&& (4294967295 : Int64)), oS, oJ (q1 >>> ((32 : Int32) &&& 0x3f).toInt64), oS, oJ (q1 &&& (4294967295 : Int64)), oS, oJ ((q0 &&& (4294967295 : Int64)) * (q1 &&& (4294967295 : Int64))), oS, oJ (((q0 >>> ((32 : Int32) &&& 0x3f).toInt64) * (q1 &&& (4294967295 : Int64))) + ((((q0 &&& (4294967295 : Int64)) * (q1 &&& (4294967295 : Int64))).toUInt64 >>> ((32 : Int32) &&& 0x3f).toInt64.toUInt64).toInt64)), oS, oU, oU, oU, oU] [])) _
    refine XS.lload X0.here hx rfl (hb hby d11_46) rfl ?_
    show Steps p.tables e below (s₁.setTop (mkF m 48 #[oJ q0, oS, oJ q1, oS, oJ (q0 >>> ((32 : Int32) &&& 0x3f).toInt64), oS, oJ (q0 &&& (4294967295 : Int64)), oS, oJ (q1 >>> ((32 : Int32) &&& 0x3f).toInt64), oS, oJ (q1 &&& (4294967295 : Int64)), oS, oJ ((q0 &&& (4294967295 : Int64)) * (q1 &&& (4294967295 : Int64))), oS, oJ (((q0 >>> ((32 : Int32) &&& 0x3f).toInt64) * (q1 &&& (4294967295 : Int64))) + ((((q0 &&& (4294967295 : Int64)) * (q1 &&& (4294967295 : Int64))).toUInt64 >>> ((32 : Int32) &&& 0x3f).toInt64.toUInt64).toInt64)), oS, oU, oU, oU, oU] [(.long (((q0 >>> ((32 : Int32) &&& 0x3f).toInt64) * (q1 &&& (4294967295 : Int64))) + ((((q0 &&& (4294967295 : Int64)) * (q1 &&& (4294967295 : Int64))).toUInt64 >>> ((32 : Int32) &&& 0x3f).toInt64.toUInt64).toInt64)))])) _
    refine X0.ldc2Long hx hown (mvT hZ (hw _ (List.mem_of_getElem? (i := 56) rfl))) (g := (mkF m 48 #[oJ q0, oS, oJ q1, oS, oJ (q0 >>> ((32 : Int32) &&& 0x3f).toInt64), oS, oJ (q0 &&& (4294967295 : Int64)), oS, oJ (q1 >>> ((32 : Int32) &&& 0x3f).toInt64), oS, oJ (q1 &&& (4294967295 : Int64)), oS, oJ ((q0 &&& (4294967295 : Int64)) * (q1 &&& (4294967295 : Int64))), oS, oJ (((q0 >>> ((32 : Int32) &&& 0x3f).toInt64) * (q1 &&& (4294967295 : Int64))) + ((((q0 &&& (4294967295 : Int64)) * (q1 &&& (4294967295 : Int64))).toUInt64 >>> ((32 : Int32) &&& 0x3f).toInt64.toUInt64).toInt64)), oS, oU, oU, oU, oU] [(.long (((q0 >>> ((32 : Int32) &&& 0x3f).toInt64) * (q1 &&& (4294967295 : Int64))) + ((((q0 &&& (4294967295 : Int64)) * (q1 &&& (4294967295 : Int64))).toUInt64 >>> ((32 : Int32) &&& 0x3f).toInt64.toUInt64).toInt64)))])) rfl (hb hby d11_48) _ ?_
    show Steps p.tables e below (s₁.setTop (mkF m 51 #[oJ q0, oS, oJ q1, oS, oJ (q0 >>> ((32 : Int32) &&& 0x3f).toInt64), oS, oJ (q0 &&& (4294967295 : Int64)), oS, oJ (q1 >>> ((32 : Int32) &&& 0x3f).toInt64), oS, oJ (q1 &&& (4294967295 : Int64)), oS, oJ ((q0 &&& (4294967295 : Int64)) * (q1 &&& (4294967295 : Int64))), oS, oJ (((q0 >>> ((32 : Int32) &&& 0x3f).toInt64) * (q1 &&& (4294967295 : Int64))) + ((((q0 &&& (4294967295 : Int64)) * (q1 &&& (4294967295 : Int64))).toUInt64 >>> ((32 : Int32) &&& 0x3f).toInt64.toUInt64).toInt64)), oS, oU, oU, oU, oU] [(.long (4294967295 : Int64)), (.long (((q0 >>> ((32 : Int32) &&& 0x3f).toInt64) * (q1 &&& (4294967295 : Int64))) + ((((q0 &&& (4294967295 : Int64)) * (q1 &&& (4294967295 : Int64))).toUInt64 >>> ((32 : Int32) &&& 0x3f).toInt64.toUInt64).toInt64)))])) _
    refine XS.land X0.here hx rfl (hb hby d11_51) rfl ?_
    show Steps p.tables e below (s₁.setTop (mkF m 52 #[oJ q0, oS, oJ q1, oS, oJ (q0 >>> ((32 : Int32) &&& 0x3f).toInt64), oS, oJ (q0 &&& (4294967295 : Int64)), oS, oJ (q1 >>> ((32 : Int32) &&& 0x3f).toInt64), oS, oJ (q1 &&& (4294967295 : Int64)), oS, oJ ((q0 &&& (4294967295 : Int64)) * (q1 &&& (4294967295 : Int64))), oS, oJ (((q0 >>> ((32 : Int32) &&& 0x3f).toInt64) * (q1 &&& (4294967295 : Int64))) + ((((q0 &&& (4294967295 : Int64)) * (q1 &&& (4294967295 : Int64))).toUInt64 >>> ((32 : Int32) &&& 0x3f).toInt64.toUInt64).toInt64)), oS, oU, oU, oU, oU] [(.long ((((q0 >>> ((32 : Int32) &&& 0x3f).toInt64) * (q1 &&& (4294967295 : Int64))) + ((((q0 &&& (4294967295 : Int64)) * (q1 &&& (4294967295 : Int64))).toUInt64 >>> ((32 : Int32) &&& 0x3f).toInt64.toUInt64).toInt64)) &&& (4294967295 : Int64)))])) _
    refine XS.lstore X0.here hx rfl (hb hby d11_52) rfl (l' := #[oJ q0, oS, oJ q1, oS, oJ (q0 >>> ((32 : Int32) &&& 0x3f).toInt64), oS, oJ (q0 &&& (4294967295 : Int64)), oS, oJ (q1 >>> ((32 : Int32) &&& 0x3f).toInt64), oS, oJ (q1 &&& (4294967295 : Int64)), oS, oJ ((q0 &&& (4294967295 : Int64)) * (q1 &&& (4294967295 : Int64))), oS, oJ (((q0 >>> ((32 : Int32) &&& 0x3f).toInt64) * (q1 &&& (4294967295 : Int64))) + ((((q0 &&& (4294967295 : Int64)) * (q1 &&& (4294967295 : Int64))).toUInt64 >>> ((32 : Int32) &&& 0x3f).toInt64.toUInt64).toInt64)), oS, oJ ((((q0 >>> ((32 : Int32) &&& 0x3f).toInt64) * (q1 &&& (4294967295 : Int64))) + ((((q0 &&& (4294967295 : Int64)) * (q1 &&& (4294967295 : Int64))).toUInt64 >>> ((32 : Int32) &&& 0x3f).toInt64.toUInt64).toInt64)) &&& (4294967295 : Int64)), oS, oU, oU]) rfl ?_
    show Steps p.tables e below (s₁.setTop (mkF m 54 #[oJ q0, oS, oJ q1, oS, oJ (q0 >>> ((32 : Int32) &&& 0x3f).toInt64), oS, oJ (q0 &&& (4294967295 : Int64)), oS, oJ (q1 >>> ((32 : Int32) &&& 0x3f).toInt64), oS, oJ (q1 &&& (4294967295 : Int64)), oS, oJ ((q0 &&& (4294967295 : Int64)) * (q1 &&& (4294967295 : Int64))), oS, oJ (((q0 >>> ((32 : Int32) &&& 0x3f).toInt64) * (q1 &&& (4294967295 : Int64))) + ((((q0 &&& (4294967295 : Int64)) * (q1 &&& (4294967295 : Int64))).toUInt64 >>> ((32 : Int32) &&& 0x3f).toInt64.toUInt64).toInt64)), oS, oJ ((((q0 >>> ((32 : Int32) &&& 0x3f).toInt64) * (q1 &&& (4294967295 : Int64))) + ((((q0 &&& (4294967295 : Int64)) * (q1 &&& (4294967295 : Int64))).toUInt64 >>> ((32 : Int32) &&& 0x3f).toInt64.toUInt64).toInt64)) &&& (4294967295 : Int64)), oS, oU, oU] [])) _
    refine XS.lload X0.here hx rfl (hb hby d11_54) rfl ?_
    show Steps p.tables e below (s₁.setTop (mkF m 56 #[oJ q0, oS, oJ q1, oS, oJ (q0 >>> ((32 : Int32) &&& 0x3f).toInt64), oS, oJ (q0 &&& (4294967295 : Int64)), oS, oJ (q1 >>> ((32 : Int32) &&& 0x3f).toInt64), oS, oJ (q1 &&& (4294967295 : Int64)), oS, oJ ((q0 &&& (4294967295 : Int64)) * (q1 &&& (4294967295 : Int64))), oS, oJ (((q0 >>> ((32 : Int32) &&& 0x3f).toInt64) * (q1 &&& (4294967295 : Int64))) + ((((q0 &&& (4294967295 : Int64)) * (q1 &&& (4294967295 : Int64))).toUInt64 >>> ((32 : Int32) &&& 0x3f).toInt64.toUInt64).toInt64)), oS, oJ ((((q0 >>> ((32 : Int32) &&& 0x3f).toInt64) * (q1 &&& (4294967295 : Int64))) + ((((q0 &&& (4294967295 : Int64)) * (q1 &&& (4294967295 : Int64))).toUInt64 >>> ((32 : Int32) &&& 0x3f).toInt64.toUInt64).toInt64)) &&& (4294967295 : Int64)), oS, oU, oU] [(.long (((q0 >>> ((32 : Int32) &&& 0x3f).toInt64) * (q1 &&& (4294967295 : Int64))) + ((((q0 &&& (4294967295 : Int64)) * (q1 &&& (4294967295 : Int64))).toUInt64 >>> ((32 : Int32) &&& 0x3f).toInt64.toUInt64).toInt64)))])) _
    refine XS.bipush X0.here hx rfl (hb hby d11_56) ?_
    show Steps p.tables e below (s₁.setTop (mkF m 58 #[oJ q0, oS, oJ q1, oS, oJ (q0 >>> ((32 : Int32) &&& 0x3f).toInt64), oS, oJ (q0 &&& (4294967295 : Int64)), oS, oJ (q1 >>> ((32 : Int32) &&& 0x3f).toInt64), oS, oJ (q1 &&& (4294967295 : Int64)), oS, oJ ((q0 &&& (4294967295 : Int64)) * (q1 &&& (4294967295 : Int64))), oS, oJ (((q0 >>> ((32 : Int32) &&& 0x3f).toInt64) * (q1 &&& (4294967295 : Int64))) + ((((q0 &&& (4294967295 : Int64)) * (q1 &&& (4294967295 : Int64))).toUInt64 >>> ((32 : Int32) &&& 0x3f).toInt64.toUInt64).toInt64)), oS, oJ ((((q0 >>> ((32 : Int32) &&& 0x3f).toInt64) * (q1 &&& (4294967295 : Int64))) + ((((q0 &&& (4294967295 : Int64)) * (q1 &&& (4294967295 : Int64))).toUInt64 >>> ((32 : Int32) &&& 0x3f).toInt64.toUInt64).toInt64)) &&& (4294967295 : Int64)), oS, oU, oU] [(.int (32 : Int32)), (.long (((q0 >>> ((32 : Int32) &&& 0x3f).toInt64) * (q1 &&& (4294967295 : Int64))) + ((((q0 &&& (4294967295 : Int64)) * (q1 &&& (4294967295 : Int64))).toUInt64 >>> ((32 : Int32) &&& 0x3f).toInt64.toUInt64).toInt64)))])) _
    refine XS.lshr X0.here hx rfl (hb hby d11_58) rfl ?_
    show Steps p.tables e below (s₁.setTop (mkF m 59 #[oJ q0, oS, oJ q1, oS, oJ (q0 >>> ((32 : Int32) &&& 0x3f).toInt64), oS, oJ (q0 &&& (4294967295 : Int64)), oS, oJ (q1 >>> ((32 : Int32) &&& 0x3f).toInt64), oS, oJ (q1 &&& (4294967295 : Int64)), oS, oJ ((q0 &&& (4294967295 : Int64)) * (q1 &&& (4294967295 : Int64))), oS, oJ (((q0 >>> ((32 : Int32) &&& 0x3f).toInt64) * (q1 &&& (4294967295 : Int64))) + ((((q0 &&& (4294967295 : Int64)) * (q1 &&& (4294967295 : Int64))).toUInt64 >>> ((32 : Int32) &&& 0x3f).toInt64.toUInt64).toInt64)), oS, oJ ((((q0 >>> ((32 : Int32) &&& 0x3f).toInt64) * (q1 &&& (4294967295 : Int64))) + ((((q0 &&& (4294967295 : Int64)) * (q1 &&& (4294967295 : Int64))).toUInt64 >>> ((32 : Int32) &&& 0x3f).toInt64.toUInt64).toInt64)) &&& (4294967295 : Int64)), oS, oU, oU] [(.long ((((q0 >>> ((32 : Int32) &&& 0x3f).toInt64) * (q1 &&& (4294967295 : Int64))) + ((((q0 &&& (4294967295 : Int64)) * (q1 &&& (4294967295 : Int64))).toUInt64 >>> ((32 : Int32) &&& 0x3f).toInt64.toUInt64).toInt64)) >>> ((32 : Int32) &&& 0x3f).toInt64))])) _
    refine XS.lstore X0.here hx rfl (hb hby d11_59) rfl (l' := #[oJ q0, oS, oJ q1, oS, oJ (q0 >>> ((32 : Int32) &&& 0x3f).toInt64), oS, oJ (q0 &&& (4294967295 : Int64)), oS, oJ (q1 >>> ((32 : Int32) &&& 0x3f).toInt64), oS, oJ (q1 &&& (4294967295 : Int64)), oS, oJ ((q0 &&& (4294967295 : Int64)) * (q1 &&& (4294967295 : Int64))), oS, oJ (((q0 >>> ((32 : Int32) &&& 0x3f).toInt64) * (q1 &&& (4294967295 : Int64))) + ((((q0 &&& (4294967295 : Int64)) * (q1 &&& (4294967295 : Int64))).toUInt64 >>> ((32 : Int32) &&& 0x3f).toInt64.toUInt64).toInt64)), oS, oJ ((((q0 >>> ((32 : Int32) &&& 0x3f).toInt64) * (q1 &&& (4294967295 : Int64))) + ((((q0 &&& (4294967295 : Int64)) * (q1 &&& (4294967295 : Int64))).toUInt64 >>> ((32 : Int32) &&& 0x3f).toInt64.toUInt64).toInt64)) &&& (4294967295 : Int64)), oS, oJ ((((q0 >>> ((32 : Int32) &&& 0x3f).toInt64) * (q1 &&& (4294967295 : Int64))) + ((((q0 &&& (4294967295 : Int64)) * (q1 &&& (4294967295 : Int64))).toUInt64 >>> ((32 : Int32) &&& 0x3f).toInt64.toUInt64).toInt64)) >>> ((32 : Int32) &&& 0x3f).toInt64), oS]) rfl ?_
    show Steps p.tables e below (s₁.setTop (mkF m 61 #[oJ q0, oS, oJ q1, oS, oJ (q0 >>> ((32 : Int32) &&& 0x3f).toInt64), oS, oJ (q0 &&& (4294967295 : Int64)), oS, oJ (q1 >>> ((32 : Int32) &&& 0x3f).toInt64), oS, oJ (q1 &&& (4294967295 : Int64)), oS, oJ ((q0 &&& (4294967295 : Int64)) * (q1 &&& (4294967295 : Int64))), oS, oJ (((q0 >>> ((32 : Int32) &&& 0x3f).toInt64) * (q1 &&& (4294967295 : Int64))) + ((((q0 &&& (4294967295 : Int64)) * (q1 &&& (4294967295 : Int64))).toUInt64 >>> ((32 : Int32) &&& 0x3f).toInt64.toUInt64).toInt64)), oS, oJ ((((q0 >>> ((32 : Int32) &&& 0x3f).toInt64) * (q1 &&& (4294967295 : Int64))) + ((((q0 &&& (4294967295 : Int64)) * (q1 &&& (4294967295 : Int64))).toUInt64 >>> ((32 : Int32) &&& 0x3f).toInt64.toUInt64).toInt64)) &&& (4294967295 : Int64)), oS, oJ ((((q0 >>> ((32 : Int32) &&& 0x3f).toInt64) * (q1 &&& (4294967295 : Int64))) + ((((q0 &&& (4294967295 : Int64)) * (q1 &&& (4294967295 : Int64))).toUInt64 >>> ((32 : Int32) &&& 0x3f).toInt64.toUInt64).toInt64)) >>> ((32 : Int32) &&& 0x3f).toInt64), oS] [])) _
    refine XS.lload X0.here hx rfl (hb hby d11_61) rfl ?_
    show Steps p.tables e below (s₁.setTop (mkF m 63 #[oJ q0, oS, oJ q1, oS, oJ (q0 >>> ((32 : Int32) &&& 0x3f).toInt64), oS, oJ (q0 &&& (4294967295 : Int64)), oS, oJ (q1 >>> ((32 : Int32) &&& 0x3f).toInt64), oS, oJ (q1 &&& (4294967295 : Int64)), oS, oJ ((q0 &&& (4294967295 : Int64)) * (q1 &&& (4294967295 : Int64))), oS, oJ (((q0 >>> ((32 : Int32) &&& 0x3f).toInt64) * (q1 &&& (4294967295 : Int64))) + ((((q0 &&& (4294967295 : Int64)) * (q1 &&& (4294967295 : Int64))).toUInt64 >>> ((32 : Int32) &&& 0x3f).toInt64.toUInt64).toInt64)), oS, oJ ((((q0 >>> ((32 : Int32) &&& 0x3f).toInt64) * (q1 &&& (4294967295 : Int64))) + ((((q0 &&& (4294967295 : Int64)) * (q1 &&& (4294967295 : Int64))).toUInt64 >>> ((32 : Int32) &&& 0x3f).toInt64.toUInt64).toInt64)) &&& (4294967295 : Int64)), oS, oJ ((((q0 >>> ((32 : Int32) &&& 0x3f).toInt64) * (q1 &&& (4294967295 : Int64))) + ((((q0 &&& (4294967295 : Int64)) * (q1 &&& (4294967295 : Int64))).toUInt64 >>> ((32 : Int32) &&& 0x3f).toInt64.toUInt64).toInt64)) >>> ((32 : Int32) &&& 0x3f).toInt64), oS] [(.long ((((q0 >>> ((32 : Int32) &&& 0x3f).toInt64) * (q1 &&& (4294967295 : Int64))) + ((((q0 &&& (4294967295 : Int64)) * (q1 &&& (4294967295 : Int64))).toUInt64 >>> ((32 : Int32) &&& 0x3f).toInt64.toUInt64).toInt64)) &&& (4294967295 : Int64)))])) _
    refine XS.lload X0.here hx rfl (hb hby d11_63) rfl ?_
    show Steps p.tables e below (s₁.setTop (mkF m 65 #[oJ q0, oS, oJ q1, oS, oJ (q0 >>> ((32 : Int32) &&& 0x3f).toInt64), oS, oJ (q0 &&& (4294967295 : Int64)), oS, oJ (q1 >>> ((32 : Int32) &&& 0x3f).toInt64), oS, oJ (q1 &&& (4294967295 : Int64)), oS, oJ ((q0 &&& (4294967295 : Int64)) * (q1 &&& (4294967295 : Int64))), oS, oJ (((q0 >>> ((32 : Int32) &&& 0x3f).toInt64) * (q1 &&& (4294967295 : Int64))) + ((((q0 &&& (4294967295 : Int64)) * (q1 &&& (4294967295 : Int64))).toUInt64 >>> ((32 : Int32) &&& 0x3f).toInt64.toUInt64).toInt64)), oS, oJ ((((q0 >>> ((32 : Int32) &&& 0x3f).toInt64) * (q1 &&& (4294967295 : Int64))) + ((((q0 &&& (4294967295 : Int64)) * (q1 &&& (4294967295 : Int64))).toUInt64 >>> ((32 : Int32) &&& 0x3f).toInt64.toUInt64).toInt64)) &&& (4294967295 : Int64)), oS, oJ ((((q0 >>> ((32 : Int32) &&& 0x3f).toInt64) * (q1 &&& (4294967295 : Int64))) + ((((q0 &&& (4294967295 : Int64)) * (q1 &&& (4294967295 : Int64))).toUInt64 >>> ((32 : Int32) &&& 0x3f).toInt64.toUInt64).toInt64)) >>> ((32 : Int32) &&& 0x3f).toInt64), oS] [(.long (q0 &&& (4294967295 : Int64))), (.long ((((q0 >>> ((32 : Int32) &&& 0x3f).toInt64) * (q1 &&& (4294967295 : Int64))) + ((((q0 &&& (4294967295 : Int64)) * (q1 &&& (4294967295 : Int64))).toUInt64 >>> ((32 : Int32) &&& 0x3f).toInt64.toUInt64).toInt64)) &&& (4294967295 : Int64)))])) _
    refine XS.lload X0.here hx rfl (hb hby d11_65) rfl ?_
    show Steps p.tables e below (s₁.setTop (mkF m 67 #[oJ q0, oS, oJ q1, oS, oJ (q0 >>> ((32 : Int32) &&& 0x3f).toInt64), oS, oJ (q0 &&& (4294967295 : Int64)), oS, oJ (q1 >>> ((32 : Int32) &&& 0x3f).toInt64), oS, oJ (q1 &&& (4294967295 : Int64)), oS, oJ ((q0 &&& (4294967295 : Int64)) * (q1 &&& (4294967295 : Int64))), oS, oJ (((q0 >>> ((32 : Int32) &&& 0x3f).toInt64) * (q1 &&& (4294967295 : Int64))) + ((((q0 &&& (4294967295 : Int64)) * (q1 &&& (4294967295 : Int64))).toUInt64 >>> ((32 : Int32) &&& 0x3f).toInt64.toUInt64).toInt64)), oS, oJ ((((q0 >>> ((32 : Int32) &&& 0x3f).toInt64) * (q1 &&& (4294967295 : Int64))) + ((((q0 &&& (4294967295 : Int64)) * (q1 &&& (4294967295 : Int64))).toUInt64 >>> ((32 : Int32) &&& 0x3f).toInt64.toUInt64).toInt64)) &&& (4294967295 : Int64)), oS, oJ ((((q0 >>> ((32 : Int32) &&& 0x3f).toInt64) * (q1 &&& (4294967295 : Int64))) + ((((q0 &&& (4294967295 : Int64)) * (q1 &&& (4294967295 : Int64))).toUInt64 >>> ((32 : Int32) &&& 0x3f).toInt64.toUInt64).toInt64)) >>> ((32 : Int32) &&& 0x3f).toInt64), oS] [(.long (q1 >>> ((32 : Int32) &&& 0x3f).toInt64)), (.long (q0 &&& (4294967295 : Int64))), (.long ((((q0 >>> ((32 : Int32) &&& 0x3f).toInt64) * (q1 &&& (4294967295 : Int64))) + ((((q0 &&& (4294967295 : Int64)) * (q1 &&& (4294967295 : Int64))).toUInt64 >>> ((32 : Int32) &&& 0x3f).toInt64.toUInt64).toInt64)) &&& (4294967295 : Int64)))])) _
    refine XS.lmul X0.here hx rfl (hb hby d11_67) rfl ?_
    show Steps p.tables e below (s₁.setTop (mkF m 68 #[oJ q0, oS, oJ q1, oS, oJ (q0 >>> ((32 : Int32) &&& 0x3f).toInt64), oS, oJ (q0 &&& (4294967295 : Int64)), oS, oJ (q1 >>> ((32 : Int32) &&& 0x3f).toInt64), oS, oJ (q1 &&& (4294967295 : Int64)), oS, oJ ((q0 &&& (4294967295 : Int64)) * (q1 &&& (4294967295 : Int64))), oS, oJ (((q0 >>> ((32 : Int32) &&& 0x3f).toInt64) * (q1 &&& (4294967295 : Int64))) + ((((q0 &&& (4294967295 : Int64)) * (q1 &&& (4294967295 : Int64))).toUInt64 >>> ((32 : Int32) &&& 0x3f).toInt64.toUInt64).toInt64)), oS, oJ ((((q0 >>> ((32 : Int32) &&& 0x3f).toInt64) * (q1 &&& (4294967295 : Int64))) + ((((q0 &&& (4294967295 : Int64)) * (q1 &&& (4294967295 : Int64))).toUInt64 >>> ((32 : Int32) &&& 0x3f).toInt64.toUInt64).toInt64)) &&& (4294967295 : Int64)), oS, oJ ((((q0 >>> ((32 : Int32) &&& 0x3f).toInt64) * (q1 &&& (4294967295 : Int64))) + ((((q0 &&& (4294967295 : Int64)) * (q1 &&& (4294967295 : Int64))).toUInt64 >>> ((32 : Int32) &&& 0x3f).toInt64.toUInt64).toInt64)) >>> ((32 : Int32) &&& 0x3f).toInt64), oS] [(.long ((q0 &&& (4294967295 : Int64)) * (q1 >>> ((32 : Int32) &&& 0x3f).toInt64))), (.long ((((q0 >>> ((32 : Int32) &&& 0x3f).toInt64) * (q1 &&& (4294967295 : Int64))) + ((((q0 &&& (4294967295 : Int64)) * (q1 &&& (4294967295 : Int64))).toUInt64 >>> ((32 : Int32) &&& 0x3f).toInt64.toUInt64).toInt64)) &&& (4294967295 : Int64)))])) _
    refine XS.ladd X0.here hx rfl (hb hby d11_68) rfl ?_
    show Steps p.tables e below (s₁.setTop (mkF m 69 #[oJ q0, oS, oJ q1, oS, oJ (q0 >>> ((32 : Int32) &&& 0x3f).toInt64), oS, oJ (q0 &&& (4294967295 : Int64)), oS, oJ (q1 >>> ((32 : Int32) &&& 0x3f).toInt64), oS, oJ (q1 &&& (4294967295 : Int64)), oS, oJ ((q0 &&& (4294967295 : Int64)) * (q1 &&& (4294967295 : Int64))), oS, oJ (((q0 >>> ((32 : Int32) &&& 0x3f).toInt64) * (q1 &&& (4294967295 : Int64))) + ((((q0 &&& (4294967295 : Int64)) * (q1 &&& (4294967295 : Int64))).toUInt64 >>> ((32 : Int32) &&& 0x3f).toInt64.toUInt64).toInt64)), oS, oJ ((((q0 >>> ((32 : Int32) &&& 0x3f).toInt64) * (q1 &&& (4294967295 : Int64))) + ((((q0 &&& (4294967295 : Int64)) * (q1 &&& (4294967295 : Int64))).toUInt64 >>> ((32 : Int32) &&& 0x3f).toInt64.toUInt64).toInt64)) &&& (4294967295 : Int64)), oS, oJ ((((q0 >>> ((32 : Int32) &&& 0x3f).toInt64) * (q1 &&& (4294967295 : Int64))) + ((((q0 &&& (4294967295 : Int64)) * (q1 &&& (4294967295 : Int64))).toUInt64 >>> ((32 : Int32) &&& 0x3f).toInt64.toUInt64).toInt64)) >>> ((32 : Int32) &&& 0x3f).toInt64), oS] [(.long (((((q0 >>> ((32 : Int32) &&& 0x3f).toInt64) * (q1 &&& (4294967295 : Int64))) + ((((q0 &&& (4294967295 : Int64)) * (q1 &&& (4294967295 : Int64))).toUInt64 >>> ((32 : Int32) &&& 0x3f).toInt64.toUInt64).toInt64)) &&& (4294967295 : Int64)) + ((q0 &&& (4294967295 : Int64)) * (q1 >>> ((32 : Int32) &&& 0x3f).toInt64))))])) _
    refine XS.lstore X0.here hx rfl (hb hby d11_69) rfl (l' := #[oJ q0, oS, oJ q1, oS, oJ (q0 >>> ((32 : Int32) &&& 0x3f).toInt64), oS, oJ (q0 &&& (4294967295 : Int64)), oS, oJ (q1 >>> ((32 : Int32) &&& 0x3f).toInt64), oS, oJ (q1 &&& (4294967295 : Int64)), oS, oJ ((q0 &&& (4294967295 : Int64)) * (q1 &&& (4294967295 : Int64))), oS, oJ (((q0 >>> ((32 : Int32) &&& 0x3f).toInt64) * (q1 &&& (4294967295 : Int64))) + ((((q0 &&& (4294967295 : Int64)) * (q1 &&& (4294967295 : Int64))).toUInt64 >>> ((32 : Int32) &&& 0x3f).toInt64.toUInt64).toInt64)), oS, oJ (((((q0 >>> ((32 : Int32) &&& 0x3f).toInt64) * (q1 &&& (4294967295 : Int64))) + ((((q0 &&& (4294967295 : Int64)) * (q1 &&& (4294967295 : Int64))).toUInt64 >>> ((32 : Int32) &&& 0x3f).toInt64.toUInt64).toInt64)) &&& (4294967295 : Int64)) + ((q0 &&& (4294967295 : Int64)) * (q1 >>> ((32 : Int32) &&& 0x3f).toInt64))), oS, oJ ((((q0 >>> ((32 : Int32) &&& 0x3f).toInt64) * (q1 &&& (4294967295 : Int64))) + ((((q0 &&& (4294967295 : Int64)) * (q1 &&& (4294967295 : Int64))).toUInt64 >>> ((32 : Int32) &&& 0x3f).toInt64.toUInt64).toInt64)) >>> ((32 : Int32) &&& 0x3f).toInt64), oS]) rfl ?_
    show Steps p.tables e below (s₁.setTop (mkF m 71 #[oJ q0, oS, oJ q1, oS, oJ (q0 >>> ((32 : Int32) &&& 0x3f).toInt64), oS, oJ (q0 &&& (4294967295 : Int64)), oS, oJ (q1 >>> ((32 : Int32) &&& 0x3f).toInt64), oS, oJ (q1 &&& (4294967295 : Int64)), oS, oJ ((q0 &&& (4294967295 : Int64)) * (q1 &&& (4294967295 : Int64))), oS, oJ (((q0 >>> ((32 : Int32) &&& 0x3f).toInt64) * (q1 &&& (4294967295 : Int64))) + ((((q0 &&& (4294967295 : Int64)) * (q1 &&& (4294967295 : Int64))).toUInt64 >>> ((32 : Int32) &&& 0x3f).toInt64.toUInt64).toInt64)), oS, oJ (((((q0 >>> ((32 : Int32) &&& 0x3f).toInt64) * (q1 &&& (4294967295 : Int64))) + ((((q0 &&& (4294967295 : Int64)) * (q1 &&& (4294967295 : Int64))).toUInt64 >>> ((32 : Int32) &&& 0x3f).toInt64.toUInt64).toInt64)) &&& (4294967295 : Int64)) + ((q0 &&& (4294967295 : Int64)) * (q1 >>> ((32 : Int32) &&& 0x3f).toInt64))), oS, oJ ((((q0 >>> ((32 : Int32) &&& 0x3f).toInt64) * (q1 &&& (4294967295 : Int64))) + ((((q0 &&& (4294967295 : Int64)) * (q1 &&& (4294967295 : Int64))).toUInt64 >>> ((32 : Int32) &&& 0x3f).toInt64.toUInt64).toInt64)) >>> ((32 : Int32) &&& 0x3f).toInt64), oS] [])) _
    refine XS.lload X0.here hx rfl (hb hby d11_71) rfl ?_
    show Steps p.tables e below (s₁.setTop (mkF m 73 #[oJ q0, oS, oJ q1, oS, oJ (q0 >>> ((32 : Int32) &&& 0x3f).toInt64), oS, oJ (q0 &&& (4294967295 : Int64)), oS, oJ (q1 >>> ((32 : Int32) &&& 0x3f).toInt64), oS, oJ (q1 &&& (4294967295 : Int64)), oS, oJ ((q0 &&& (4294967295 : Int64)) * (q1 &&& (4294967295 : Int64))), oS, oJ (((q0 >>> ((32 : Int32) &&& 0x3f).toInt64) * (q1 &&& (4294967295 : Int64))) + ((((q0 &&& (4294967295 : Int64)) * (q1 &&& (4294967295 : Int64))).toUInt64 >>> ((32 : Int32) &&& 0x3f).toInt64.toUInt64).toInt64)), oS, oJ (((((q0 >>> ((32 : Int32) &&& 0x3f).toInt64) * (q1 &&& (4294967295 : Int64))) + ((((q0 &&& (4294967295 : Int64)) * (q1 &&& (4294967295 : Int64))).toUInt64 >>> ((32 : Int32) &&& 0x3f).toInt64.toUInt64).toInt64)) &&& (4294967295 : Int64)) + ((q0 &&& (4294967295 : Int64)) * (q1 >>> ((32 : Int32) &&& 0x3f).toInt64))), oS, oJ ((((q0 >>> ((32 : Int32) &&& 0x3f).toInt64) * (q1 &&& (4294967295 : Int64))) + ((((q0 &&& (4294967295 : Int64)) * (q1 &&& (4294967295 : Int64))).toUInt64 >>> ((32 : Int32) &&& 0x3f).toInt64.toUInt64).toInt64)) >>> ((32 : Int32) &&& 0x3f).toInt64), oS] [(.long (q0 >>> ((32 : Int32) &&& 0x3f).toInt64))])) _
    refine XS.lload X0.here hx rfl (hb hby d11_73) rfl ?_
    show Steps p.tables e below (s₁.setTop (mkF m 75 #[oJ q0, oS, oJ q1, oS, oJ (q0 >>> ((32 : Int32) &&& 0x3f).toInt64), oS, oJ (q0 &&& (4294967295 : Int64)), oS, oJ (q1 >>> ((32 : Int32) &&& 0x3f).toInt64), oS, oJ (q1 &&& (4294967295 : Int64)), oS, oJ ((q0 &&& (4294967295 : Int64)) * (q1 &&& (4294967295 : Int64))), oS, oJ (((q0 >>> ((32 : Int32) &&& 0x3f).toInt64) * (q1 &&& (4294967295 : Int64))) + ((((q0 &&& (4294967295 : Int64)) * (q1 &&& (4294967295 : Int64))).toUInt64 >>> ((32 : Int32) &&& 0x3f).toInt64.toUInt64).toInt64)), oS, oJ (((((q0 >>> ((32 : Int32) &&& 0x3f).toInt64) * (q1 &&& (4294967295 : Int64))) + ((((q0 &&& (4294967295 : Int64)) * (q1 &&& (4294967295 : Int64))).toUInt64 >>> ((32 : Int32) &&& 0x3f).toInt64.toUInt64).toInt64)) &&& (4294967295 : Int64)) + ((q0 &&& (4294967295 : Int64)) * (q1 >>> ((32 : Int32) &&& 0x3f).toInt64))), oS, oJ ((((q0 >>> ((32 : Int32) &&& 0x3f).toInt64) * (q1 &&& (4294967295 : Int64))) + ((((q0 &&& (4294967295 : Int64)) * (q1 &&& (4294967295 : Int64))).toUInt64 >>> ((32 : Int32) &&& 0x3f).toInt64.toUInt64).toInt64)) >>> ((32 : Int32) &&& 0x3f).toInt64), oS] [(.long (q1 >>> ((32 : Int32) &&& 0x3f).toInt64)), (.long (q0 >>> ((32 : Int32) &&& 0x3f).toInt64))])) _
    refine XS.lmul X0.here hx rfl (hb hby d11_75) rfl ?_
    show Steps p.tables e below (s₁.setTop (mkF m 76 #[oJ q0, oS, oJ q1, oS, oJ (q0 >>> ((32 : Int32) &&& 0x3f).toInt64), oS, oJ (q0 &&& (4294967295 : Int64)), oS, oJ (q1 >>> ((32 : Int32) &&& 0x3f).toInt64), oS, oJ (q1 &&& (4294967295 : Int64)), oS, oJ ((q0 &&& (4294967295 : Int64)) * (q1 &&& (4294967295 : Int64))), oS, oJ (((q0 >>> ((32 : Int32) &&& 0x3f).toInt64) * (q1 &&& (4294967295 : Int64))) + ((((q0 &&& (4294967295 : Int64)) * (q1 &&& (4294967295 : Int64))).toUInt64 >>> ((32 : Int32) &&& 0x3f).toInt64.toUInt64).toInt64)), oS, oJ (((((q0 >>> ((32 : Int32) &&& 0x3f).toInt64) * (q1 &&& (4294967295 : Int64))) + ((((q0 &&& (4294967295 : Int64)) * (q1 &&& (4294967295 : Int64))).toUInt64 >>> ((32 : Int32) &&& 0x3f).toInt64.toUInt64).toInt64)) &&& (4294967295 : Int64)) + ((q0 &&& (4294967295 : Int64)) * (q1 >>> ((32 : Int32) &&& 0x3f).toInt64))), oS, oJ ((((q0 >>> ((32 : Int32) &&& 0x3f).toInt64) * (q1 &&& (4294967295 : Int64))) + ((((q0 &&& (4294967295 : Int64)) * (q1 &&& (4294967295 : Int64))).toUInt64 >>> ((32 : Int32) &&& 0x3f).toInt64.toUInt64).toInt64)) >>> ((32 : Int32) &&& 0x3f).toInt64), oS] [(.long ((q0 >>> ((32 : Int32) &&& 0x3f).toInt64) * (q1 >>> ((32 : Int32) &&& 0x3f).toInt64)))])) _
    refine XS.lload X0.here hx rfl (hb hby d11_76) rfl ?_
    show Steps p.tables e below (s₁.setTop (mkF m 78 #[oJ q0, oS, oJ q1, oS, oJ (q0 >>> ((32 : Int32) &&& 0x3f).toInt64), oS, oJ (q0 &&& (4294967295 : Int64)), oS, oJ (q1 >>> ((32 : Int32) &&& 0x3f).toInt64), oS, oJ (q1 &&& (4294967295 : Int64)), oS, oJ ((q0 &&& (4294967295 : Int64)) * (q1 &&& (4294967295 : Int64))), oS, oJ (((q0 >>> ((32 : Int32) &&& 0x3f).toInt64) * (q1 &&& (4294967295 : Int64))) + ((((q0 &&& (4294967295 : Int64)) * (q1 &&& (4294967295 : Int64))).toUInt64 >>> ((32 : Int32) &&& 0x3f).toInt64.toUInt64).toInt64)), oS, oJ (((((q0 >>> ((32 : Int32) &&& 0x3f).toInt64) * (q1 &&& (4294967295 : Int64))) + ((((q0 &&& (4294967295 : Int64)) * (q1 &&& (4294967295 : Int64))).toUInt64 >>> ((32 : Int32) &&& 0x3f).toInt64.toUInt64).toInt64)) &&& (4294967295 : Int64)) + ((q0 &&& (4294967295 : Int64)) * (q1 >>> ((32 : Int32) &&& 0x3f).toInt64))), oS, oJ ((((q0 >>> ((32 : Int32) &&& 0x3f).toInt64) * (q1 &&& (4294967295 : Int64))) + ((((q0 &&& (4294967295 : Int64)) * (q1 &&& (4294967295 : Int64))).toUInt64 >>> ((32 : Int32) &&& 0x3f).toInt64.toUInt64).toInt64)) >>> ((32 : Int32) &&& 0x3f).toInt64), oS] [(.long ((((q0 >>> ((32 : Int32) &&& 0x3f).toInt64) * (q1 &&& (4294967295 : Int64))) + ((((q0 &&& (4294967295 : Int64)) * (q1 &&& (4294967295 : Int64))).toUInt64 >>> ((32 : Int32) &&& 0x3f).toInt64.toUInt64).toInt64)) >>> ((32 : Int32) &&& 0x3f).toInt64)), (.long ((q0 >>> ((32 : Int32) &&& 0x3f).toInt64) * (q1 >>> ((32 : Int32) &&& 0x3f).toInt64)))])) _
    refine XS.ladd X0.here hx rfl (hb hby d11_78) rfl ?_
    show Steps p.tables e below (s₁.setTop (mkF m 79 #[oJ q0, oS, oJ q1, oS, oJ (q0 >>> ((32 : Int32) &&& 0x3f).toInt64), oS, oJ (q0 &&& (4294967295 : Int64)), oS, oJ (q1 >>> ((32 : Int32) &&& 0x3f).toInt64), oS, oJ (q1 &&& (4294967295 : Int64)), oS, oJ ((q0 &&& (4294967295 : Int64)) * (q1 &&& (4294967295 : Int64))), oS, oJ (((q0 >>> ((32 : Int32) &&& 0x3f).toInt64) * (q1 &&& (4294967295 : Int64))) + ((((q0 &&& (4294967295 : Int64)) * (q1 &&& (4294967295 : Int64))).toUInt64 >>> ((32 : Int32) &&& 0x3f).toInt64.toUInt64).toInt64)), oS, oJ (((((q0 >>> ((32 : Int32) &&& 0x3f).toInt64) * (q1 &&& (4294967295 : Int64))) + ((((q0 &&& (4294967295 : Int64)) * (q1 &&& (4294967295 : Int64))).toUInt64 >>> ((32 : Int32) &&& 0x3f).toInt64.toUInt64).toInt64)) &&& (4294967295 : Int64)) + ((q0 &&& (4294967295 : Int64)) * (q1 >>> ((32 : Int32) &&& 0x3f).toInt64))), oS, oJ ((((q0 >>> ((32 : Int32) &&& 0x3f).toInt64) * (q1 &&& (4294967295 : Int64))) + ((((q0 &&& (4294967295 : Int64)) * (q1 &&& (4294967295 : Int64))).toUInt64 >>> ((32 : Int32) &&& 0x3f).toInt64.toUInt64).toInt64)) >>> ((32 : Int32) &&& 0x3f).toInt64), oS] [(.long (((q0 >>> ((32 : Int32) &&& 0x3f).toInt64) * (q1 >>> ((32 : Int32) &&& 0x3f).toInt64)) + ((((q0 >>> ((32 : Int32) &&& 0x3f).toInt64) * (q1 &&& (4294967295 : Int64))) + ((((q0 &&& (4294967295 : Int64)) * (q1 &&& (4294967295 : Int64))).toUInt64 >>> ((32 : Int32) &&& 0x3f).toInt64.toUInt64).toInt64)) >>> ((32 : Int32) &&& 0x3f).toInt64)))])) _
    refine XS.lload X0.here hx rfl (hb hby d11_79) rfl ?_
    show Steps p.tables e below (s₁.setTop (mkF m 81 #[oJ q0, oS, oJ q1, oS, oJ (q0 >>> ((32 : Int32) &&& 0x3f).toInt64), oS, oJ (q0 &&& (4294967295 : Int64)), oS, oJ (q1 >>> ((32 : Int32) &&& 0x3f).toInt64), oS, oJ (q1 &&& (4294967295 : Int64)), oS, oJ ((q0 &&& (4294967295 : Int64)) * (q1 &&& (4294967295 : Int64))), oS, oJ (((q0 >>> ((32 : Int32) &&& 0x3f).toInt64) * (q1 &&& (4294967295 : Int64))) + ((((q0 &&& (4294967295 : Int64)) * (q1 &&& (4294967295 : Int64))).toUInt64 >>> ((32 : Int32) &&& 0x3f).toInt64.toUInt64).toInt64)), oS, oJ (((((q0 >>> ((32 : Int32) &&& 0x3f).toInt64) * (q1 &&& (4294967295 : Int64))) + ((((q0 &&& (4294967295 : Int64)) * (q1 &&& (4294967295 : Int64))).toUInt64 >>> ((32 : Int32) &&& 0x3f).toInt64.toUInt64).toInt64)) &&& (4294967295 : Int64)) + ((q0 &&& (4294967295 : Int64)) * (q1 >>> ((32 : Int32) &&& 0x3f).toInt64))), oS, oJ ((((q0 >>> ((32 : Int32) &&& 0x3f).toInt64) * (q1 &&& (4294967295 : Int64))) + ((((q0 &&& (4294967295 : Int64)) * (q1 &&& (4294967295 : Int64))).toUInt64 >>> ((32 : Int32) &&& 0x3f).toInt64.toUInt64).toInt64)) >>> ((32 : Int32) &&& 0x3f).toInt64), oS] [(.long (((((q0 >>> ((32 : Int32) &&& 0x3f).toInt64) * (q1 &&& (4294967295 : Int64))) + ((((q0 &&& (4294967295 : Int64)) * (q1 &&& (4294967295 : Int64))).toUInt64 >>> ((32 : Int32) &&& 0x3f).toInt64.toUInt64).toInt64)) &&& (4294967295 : Int64)) + ((q0 &&& (4294967295 : Int64)) * (q1 >>> ((32 : Int32) &&& 0x3f).toInt64)))), (.long (((q0 >>> ((32 : Int32) &&& 0x3f).toInt64) * (q1 >>> ((32 : Int32) &&& 0x3f).toInt64)) + ((((q0 >>> ((32 : Int32) &&& 0x3f).toInt64) * (q1 &&& (4294967295 : Int64))) + ((((q0 &&& (4294967295 : Int64)) * (q1 &&& (4294967295 : Int64))).toUInt64 >>> ((32 : Int32) &&& 0x3f).toInt64.toUInt64).toInt64)) >>> ((32 : Int32) &&& 0x3f).toInt64)))])) _
    refine XS.bipush X0.here hx rfl (hb hby d11_81) ?_
    show Steps p.tables e below (s₁.setTop (mkF m 83 #[oJ q0, oS, oJ q1, oS, oJ (q0 >>> ((32 : Int32) &&& 0x3f).toInt64), oS, oJ (q0 &&& (4294967295 : Int64)), oS, oJ (q1 >>> ((32 : Int32) &&& 0x3f).toInt64), oS, oJ (q1 &&& (4294967295 : Int64)), oS, oJ ((q0 &&& (4294967295 : Int64)) * (q1 &&& (4294967295 : Int64))), oS, oJ (((q0 >>> ((32 : Int32) &&& 0x3f).toInt64) * (q1 &&& (4294967295 : Int64))) + ((((q0 &&& (4294967295 : Int64)) * (q1 &&& (4294967295 : Int64))).toUInt64 >>> ((32 : Int32) &&& 0x3f).toInt64.toUInt64).toInt64)), oS, oJ (((((q0 >>> ((32 : Int32) &&& 0x3f).toInt64) * (q1 &&& (4294967295 : Int64))) + ((((q0 &&& (4294967295 : Int64)) * (q1 &&& (4294967295 : Int64))).toUInt64 >>> ((32 : Int32) &&& 0x3f).toInt64.toUInt64).toInt64)) &&& (4294967295 : Int64)) + ((q0 &&& (4294967295 : Int64)) * (q1 >>> ((32 : Int32) &&& 0x3f).toInt64))), oS, oJ ((((q0 >>> ((32 : Int32) &&& 0x3f).toInt64) * (q1 &&& (4294967295 : Int64))) + ((((q0 &&& (4294967295 : Int64)) * (q1 &&& (4294967295 : Int64))).toUInt64 >>> ((32 : Int32) &&& 0x3f).toInt64.toUInt64).toInt64)) >>> ((32 : Int32) &&& 0x3f).toInt64), oS] [(.int (32 : Int32)), (.long (((((q0 >>> ((32 : Int32) &&& 0x3f).toInt64) * (q1 &&& (4294967295 : Int64))) + ((((q0 &&& (4294967295 : Int64)) * (q1 &&& (4294967295 : Int64))).toUInt64 >>> ((32 : Int32) &&& 0x3f).toInt64.toUInt64).toInt64)) &&& (4294967295 : Int64)) + ((q0 &&& (4294967295 : Int64)) * (q1 >>> ((32 : Int32) &&& 0x3f).toInt64)))), (.long (((q0 >>> ((32 : Int32) &&& 0x3f).toInt64) * (q1 >>> ((32 : Int32) &&& 0x3f).toInt64)) + ((((q0 >>> ((32 : Int32) &&& 0x3f).toInt64) * (q1 &&& (4294967295 : Int64))) + ((((q0 &&& (4294967295 : Int64)) * (q1 &&& (4294967295 : Int64))).toUInt64 >>> ((32 : Int32) &&& 0x3f).toInt64.toUInt64).toInt64)) >>> ((32 : Int32) &&& 0x3f).toInt64)))])) _
    refine XS.lshr X0.here hx rfl (hb hby d11_83) rfl ?_
    show Steps p.tables e below (s₁.setTop (mkF m 84 #[oJ q0, oS, oJ q1, oS, oJ (q0 >>> ((32 : Int32) &&& 0x3f).toInt64), oS, oJ (q0 &&& (4294967295 : Int64)), oS, oJ (q1 >>> ((32 : Int32) &&& 0x3f).toInt64), oS, oJ (q1 &&& (4294967295 : Int64)), oS, oJ ((q0 &&& (4294967295 : Int64)) * (q1 &&& (4294967295 : Int64))), oS, oJ (((q0 >>> ((32 : Int32) &&& 0x3f).toInt64) * (q1 &&& (4294967295 : Int64))) + ((((q0 &&& (4294967295 : Int64)) * (q1 &&& (4294967295 : Int64))).toUInt64 >>> ((32 : Int32) &&& 0x3f).toInt64.toUInt64).toInt64)), oS, oJ (((((q0 >>> ((32 : Int32) &&& 0x3f).toInt64) * (q1 &&& (4294967295 : Int64))) + ((((q0 &&& (4294967295 : Int64)) * (q1 &&& (4294967295 : Int64))).toUInt64 >>> ((32 : Int32) &&& 0x3f).toInt64.toUInt64).toInt64)) &&& (4294967295 : Int64)) + ((q0 &&& (4294967295 : Int64)) * (q1 >>> ((32 : Int32) &&& 0x3f).toInt64))), oS, oJ ((((q0 >>> ((32 : Int32) &&& 0x3f).toInt64) * (q1 &&& (4294967295 : Int64))) + ((((q0 &&& (4294967295 : Int64)) * (q1 &&& (4294967295 : Int64))).toUInt64 >>> ((32 : Int32) &&& 0x3f).toInt64.toUInt64).toInt64)) >>> ((32 : Int32) &&& 0x3f).toInt64), oS] [(.long ((((((q0 >>> ((32 : Int32) &&& 0x3f).toInt64) * (q1 &&& (4294967295 : Int64))) + ((((q0 &&& (4294967295 : Int64)) * (q1 &&& (4294967295 : Int64))).toUInt64 >>> ((32 : Int32) &&& 0x3f).toInt64.toUInt64).toInt64)) &&& (4294967295 : Int64)) + ((q0 &&& (4294967295 : Int64)) * (q1 >>> ((32 : Int32) &&& 0x3f).toInt64))) >>> ((32 : Int32) &&& 0x3f).toInt64)), (.long (((q0 >>> ((32 : Int32) &&& 0x3f).toInt64) * (q1 >>> ((32 : Int32) &&& 0x3f).toInt64)) + ((((q0 >>> ((32 : Int32) &&& 0x3f).toInt64) * (q1 &&& (4294967295 : Int64))) + ((((q0 &&& (4294967295 : Int64)) * (q1 &&& (4294967295 : Int64))).toUInt64 >>> ((32 : Int32) &&& 0x3f).toInt64.toUInt64).toInt64)) >>> ((32 : Int32) &&& 0x3f).toInt64)))])) _
    refine XS.ladd X0.here hx rfl (hb hby d11_84) rfl ?_
    show Steps p.tables e below (s₁.setTop (mkF m 85 #[oJ q0, oS, oJ q1, oS, oJ (q0 >>> ((32 : Int32) &&& 0x3f).toInt64), oS, oJ (q0 &&& (4294967295 : Int64)), oS, oJ (q1 >>> ((32 : Int32) &&& 0x3f).toInt64), oS, oJ (q1 &&& (4294967295 : Int64)), oS, oJ ((q0 &&& (4294967295 : Int64)) * (q1 &&& (4294967295 : Int64))), oS, oJ (((q0 >>> ((32 : Int32) &&& 0x3f).toInt64) * (q1 &&& (4294967295 : Int64))) + ((((q0 &&& (4294967295 : Int64)) * (q1 &&& (4294967295 : Int64))).toUInt64 >>> ((32 : Int32) &&& 0x3f).toInt64.toUInt64).toInt64)), oS, oJ (((((q0 >>> ((32 : Int32) &&& 0x3f).toInt64) * (q1 &&& (4294967295 : Int64))) + ((((q0 &&& (4294967295 : Int64)) * (q1 &&& (4294967295 : Int64))).toUInt64 >>> ((32 : Int32) &&& 0x3f).toInt64.toUInt64).toInt64)) &&& (4294967295 : Int64)) + ((q0 &&& (4294967295 : Int64)) * (q1 >>> ((32 : Int32) &&& 0x3f).toInt64))), oS, oJ ((((q0 >>> ((32 : Int32) &&& 0x3f).toInt64) * (q1 &&& (4294967295 : Int64))) + ((((q0 &&& (4294967295 : Int64)) * (q1 &&& (4294967295 : Int64))).toUInt64 >>> ((32 : Int32) &&& 0x3f).toInt64.toUInt64).toInt64)) >>> ((32 : Int32) &&& 0x3f).toInt64), oS] [(.long ((((q0 >>> ((32 : Int32) &&& 0x3f).toInt64) * (q1 >>> ((32 : Int32) &&& 0x3f).toInt64)) + ((((q0 >>> ((32 : Int32) &&& 0x3f).toInt64) * (q1 &&& (4294967295 : Int64))) + ((((q0 &&& (4294967295 : Int64)) * (q1 &&& (4294967295 : Int64))).toUInt64 >>> ((32 : Int32) &&& 0x3f).toInt64.toUInt64).toInt64)) >>> ((32 : Int32) &&& 0x3f).toInt64)) + ((((((q0 >>> ((32 : Int32) &&& 0x3f).toInt64) * (q1 &&& (4294967295 : Int64))) + ((((q0 &&& (4294967295 : Int64)) * (q1 &&& (4294967295 : Int64))).toUInt64 >>> ((32 : Int32) &&& 0x3f).toInt64.toUInt64).toInt64)) &&& (4294967295 : Int64)) + ((q0 &&& (4294967295 : Int64)) * (q1 >>> ((32 : Int32) &&& 0x3f).toInt64))) >>> ((32 : Int32) &&& 0x3f).toInt64)))])) _
    exact k
  exact own_retL X0 Bd.notSynchronized hx Bd.returns (hb hby d11_85) (by
      rw [show s₁.heap = h0 from e0]
      exact ⟨congrArg (fun z => some (Value.long z)) (show ((((q0 >>> ((32 : Int32) &&& 0x3f).toInt64) * (q1 >>> ((32 : Int32) &&& 0x3f).toInt64)) + ((((q0 >>> ((32 : Int32) &&& 0x3f).toInt64) * (q1 &&& (4294967295 : Int64))) + ((((q0 &&& (4294967295 : Int64)) * (q1 &&& (4294967295 : Int64))).toUInt64 >>> ((32 : Int32) &&& 0x3f).toInt64.toUInt64).toInt64)) >>> ((32 : Int32) &&& 0x3f).toInt64)) + ((((((q0 >>> ((32 : Int32) &&& 0x3f).toInt64) * (q1 &&& (4294967295 : Int64))) + ((((q0 &&& (4294967295 : Int64)) * (q1 &&& (4294967295 : Int64))).toUInt64 >>> ((32 : Int32) &&& 0x3f).toInt64.toUInt64).toInt64)) &&& (4294967295 : Int64)) + ((q0 &&& (4294967295 : Int64)) * (q1 >>> ((32 : Int32) &&& 0x3f).toInt64))) >>> ((32 : Int32) &&& 0x3f).toInt64)) = (fmh q0 q1) from rfl), N0, rfl⟩) (by decide) (by decide)

def fme (q0 : Int64) (q1 : Int64) : Int64 := (if (fmh q0 q1) = ((q0 * q1) >>> ((63 : Int32) &&& 0x3f).toInt64) then (q0 * q1) else (-9223372036854775808 : Int64))
theorem d10_0 : decode prog_7_method_19_code 0 = .ok (.lload_n 0, 1) := by decide +kernel
theorem d10_1 : decode prog_7_method_19_code 1 = .ok (.lload_n 2, 1) := by decide +kernel
theorem d10_2 : decode prog_7_method_19_code 2 = .ok (.invokestatic 127, 3) := by decide +kernel
theorem d10_5 : decode prog_7_method_19_code 5 = .ok (.lstore 4, 2) := by decide +kernel
theorem d10_7 : decode prog_7_method_19_code 7 = .ok (.lload_n 0, 1) := by decide +kernel
theorem d10_8 : decode prog_7_method_19_code 8 = .ok (.lload_n 2, 1) := by decide +kernel
theorem d10_9 : decode prog_7_method_19_code 9 = .ok (.lmul, 1) := by decide +kernel
theorem d10_10 : decode prog_7_method_19_code 10 = .ok (.lstore 6, 2) := by decide +kernel
theorem d10_12 : decode prog_7_method_19_code 12 = .ok (.lload 4, 2) := by decide +kernel
theorem d10_14 : decode prog_7_method_19_code 14 = .ok (.lload 6, 2) := by decide +kernel
theorem d10_16 : decode prog_7_method_19_code 16 = .ok (.bipush 63, 2) := by decide +kernel
theorem d10_18 : decode prog_7_method_19_code 18 = .ok (.lshr, 1) := by decide +kernel
theorem d10_19 : decode prog_7_method_19_code 19 = .ok (.lcmp, 1) := by decide +kernel
theorem d10_20 : decode prog_7_method_19_code 20 = .ok (.ifCond .ne 8, 3) := by decide +kernel
theorem d10_23 : decode prog_7_method_19_code 23 = .ok (.lload 6, 2) := by decide +kernel
theorem d10_25 : decode prog_7_method_19_code 25 = .ok (.goto 6, 3) := by decide +kernel
theorem d10_28 : decode prog_7_method_19_code 28 = .ok (.ldc2_w 87, 3) := by decide +kernel
theorem d10_31 : decode prog_7_method_19_code 31 = .ok (.lreturn, 1) := by decide +kernel
theorem pn_10 : plainName "com/example/exfactor/exfactor/core/MutableFigure" = true := by first | (simp [plainName, overriddenIn]; done) | decide +kernel
theorem pd_7 : parseMethodDescriptor "(JJ)J" = some ⟨[.long, .long], some .long⟩ := by decide +kernel
theorem ef_10 (m : MethodId) (x0 : Int64) (x1 : Int64) : entryFrame m #[(.long x0), (.long x1)] 8 = mkF m 0 #[oJ x0, oS, oJ x1, oS, oU, oU, oU, oU] [] := by first | (simp [entryFrame, mkF, argsToLocals, Value.category]; done) | rfl
def Q10 (Z : State) (q0 : Int64) (q1 : Int64) (h0 : Heap) (n0 : Nat) (v : Option Value) (h : Heap) (L : List Loc) : Prop := v = some (.long (fme q0 q1)) ∧ Fr n0 L ∧ h = h0
set_option maxRecDepth 65536 in
set_option maxHeartbeats 40000000 in
theorem rm10 (l : Launch) (Z : State) (a0 : Array Value) (hw : ∀ d ∈ tables_1, d.before a0 Z = true) (ws : List Jvm.Cond) (q0 : Int64) (q1 : Int64) (h0 : Heap) (n0 : Nat) (Z0 : n0 ≤ h0.size) :
    MetFree l (⟨"com/example/exfactor/exfactor/core/MutableFigure", "multiplyExactly", "(JJ)J"⟩ : MethodName) (head1 (Jvm.Cond.code (⟨"com/example/exfactor/exfactor/core/MutableFigure", "multiplyExactly", "(JJ)J"⟩ : MethodName) prog_7_method_19_code 8 (some .long) :: ws) ({ frames := 1, cells := 0, slots := 0, locals := 31 } : Room)) (fun a U => a = #[(.long q0), (.long q1)] ∧ Z.Warmed39 U.vm ∧ U.heap = h0) (fun _ _ _ _ _ => True) (fun _ U o U' => ∃ v L, o = .returned v ∧ Q10 Z q0 q1 h0 n0 v U'.heap L ∧ FrameEnd U o U' L ({ frames := 1, cells := 0, slots := 0, locals := 31 } : Room).cells ({ frames := 1, cells := 0, slots := 0, locals := 31 } : Room).slots) := by
  refine MetFree.of_bodySF (plainFor_of_name pn_10) hisR ?_
  intro p e s m args below meth c s₁ Bd hml0 hP hK
  obtain ⟨rfl, hZ, hh⟩ := hP
  have hx := Bd.exec
  have hby := Bd.bytes
  have hml : c.maxLocals = 8 := hml0
  have hown : s.vm.findClass "com/example/exfactor/exfactor/core/MutableFigure" = some m.cls := findClass_of_methodNamed Bd.named
  have hnm := (name_of_methodNamed Bd.named Bd.method).1
  have X0 : Stand p l e ({ frames := 1, cells := 0, slots := 0, locals := 31 } : Room) s m #[(.long q0), (.long q1)] below meth c s₁ [] 0 0 := Stand.of_body Bd
  have e0 : s₁.heap = h0 := by rw [← hh, Bd.state]; rfl
  have N0 := Fr.nil n0
  change own_Go p e below (own_Post s (Q10 Z q0 q1 h0 n0) ({ frames := 1, cells := 0, slots := 0, locals := 31 } : Room).cells ({ frames := 1, cells := 0, slots := 0, locals := 31 } : Room).slots) (s₁.setTop (entryFrame m #[(.long q0), (.long q1)] 8))
  refine own_by (fun t k => castTop (ef_10 m q0 q1) k) ?_
  show own_Go p e below _ (s₁.setTop (mkF m 0 #[oJ q0, oS, oJ q1, oS, oU, oU, oU, oU] []))
  refine own_by (B := s₁.setTop (mkF m 2 #[oJ q0, oS, oJ q1, oS, oU, oU, oU, oU] [(.long q1), (.long q0)])) (fun t k => ?_) ?_
  · show Steps p.tables e below (s₁.setTop (mkF m 0 #[oJ q0, oS, oJ q1, oS, oU, oU, oU, oU] [])) _
    refine XS.lloadN X0.here hx rfl (hb hby d10_0) rfl ?_
    show Steps p.tables e below (s₁.setTop (mkF m 1 #[oJ q0, oS, oJ q1, oS, oU, oU, oU, oU] [(.long q0)])) _
    refine XS.lloadN X0.here hx rfl (hb hby d10_1) rfl ?_
    show Steps p.tables e below (s₁.setTop (mkF m 2 #[oJ q0, oS, oJ q1, oS, oU, oU, oU, oU] [(.long q1), (.long q0)])) _
    exact k
  refine own_cc (own_callS X0 hx hZ (y := (⟨"java/lang/Math", "multiplyHigh", "(JJ)J"⟩ : MethodName)) hown (hw _ (List.mem_of_getElem? (i := 52) rfl)) (hw _ (List.mem_of_getElem? (i := 53) rfl)) (hw _ (List.mem_of_getElem? (i := 54) rfl)) (hw _ (List.mem_of_getElem? (i := 55) rfl)) (by decide) (rm11 l Z a0 hw [] q0 q1 h0 n0 Z0 ) e0 0 (by decide) (by decide) (by decide) (by decide) rfl (by rw [hml]; rfl) [(.long q0), (.long q1)] [] rfl (lenOf pd_7 rfl) rfl (by show 2 * 0 + _ ≤ _; exact Nat.le_of_eq rfl) (hb hby d10_2)) fun T2 L2 v2 X2 hQ2 => ?_
  obtain ⟨rfl, N2, e2⟩ := hQ2
  replace N0 := Fr.app N0 N2
  show own_Go p e below _ (T2.setTop (mkF m 5 #[oJ q0, oS, oJ q1, oS, oU, oU, oU, oU] [(.long (fmh q0 q1))]))
  refine own_by (B := T2.setTop (mkF m 31 #[oJ q0, oS, oJ q1, oS, oJ (fmh q0 q1), oS, oJ (q0 * q1), oS] [(.long (if (fmh q0 q1) = ((q0 * q1) >>> ((63 : Int32) &&& 0x3f).toInt64) then (q0 * q1) else (-9223372036854775808 : Int64)))])) (fun t k => ?_) ?_
  · show Steps p.tables e below (T2.setTop (mkF m 5 #[oJ q0, oS, oJ q1, oS, oU, oU, oU, oU] [(.long (fmh q0 q1))])) _
    refine XS.lstore X2.here hx rfl (hb hby d10_5) rfl (l' := #[oJ q0, oS, oJ q1, oS, oJ (fmh q0 q1), oS, oU, oU]) rfl ?_
    show Steps p.tables e below (T2.setTop (mkF m 7 #[oJ q0, oS, oJ q1, oS, oJ (fmh q0 q1), oS, oU, oU] [])) _
    refine XS.lloadN X2.here hx rfl (hb hby d10_7) rfl ?_
    show Steps p.tables e below (T2.setTop (mkF m 8 #[oJ q0, oS, oJ q1, oS, oJ (fmh q0 q1), oS, oU, oU] [(.long q0)])) _
    refine XS.lloadN X2.here hx rfl (hb hby d10_8) rfl ?_
    show Steps p.tables e below (T2.setTop (mkF m 9 #[oJ q0, oS, oJ q1, oS, oJ (fmh q0 q1), oS, oU, oU] [(.long q1), (.long q0)])) _
    refine XS.lmul X2.here hx rfl (hb hby d10_9) rfl ?_
    show Steps p.tables e below (T2.setTop (mkF m 10 #[oJ q0, oS, oJ q1, oS, oJ (fmh q0 q1), oS, oU, oU] [(.long (q0 * q1))])) _
    refine XS.lstore X2.here hx rfl (hb hby d10_10) rfl (l' := #[oJ q0, oS, oJ q1, oS, oJ (fmh q0 q1), oS, oJ (q0 * q1), oS]) rfl ?_
    show Steps p.tables e below (T2.setTop (mkF m 12 #[oJ q0, oS, oJ q1, oS, oJ (fmh q0 q1), oS, oJ (q0 * q1), oS] [])) _
    refine XS.lload X2.here hx rfl (hb hby d10_12) rfl ?_
    show Steps p.tables e below (T2.setTop (mkF m 14 #[oJ q0, oS, oJ q1, oS, oJ (fmh q0 q1), oS, oJ (q0 * q1), oS] [(.long (fmh q0 q1))])) _
    refine XS.lload X2.here hx rfl (hb hby d10_14) rfl ?_
    show Steps p.tables e below (T2.setTop (mkF m 16 #[oJ q0, oS, oJ q1, oS, oJ (fmh q0 q1), oS, oJ (q0 * q1), oS] [(.long (q0 * q1)), (.long (fmh q0 q1))])) _
    refine XS.bipush X2.here hx rfl (hb hby d10_16) ?_
    show Steps p.tables e below (T2.setTop (mkF m 18 #[oJ q0, oS, oJ q1, oS, oJ (fmh q0 q1), oS, oJ (q0 * q1), oS] [(.int (63 : Int32)), (.long (q0 * q1)), (.long (fmh q0 q1))])) _
    refine XS.lshr X2.here hx rfl (hb hby d10_18) rfl ?_
    show Steps p.tables e below (T2.setTop (mkF m 19 #[oJ q0, oS, oJ q1, oS, oJ (fmh q0 q1), oS, oJ (q0 * q1), oS] [(.long ((q0 * q1) >>> ((63 : Int32) &&& 0x3f).toInt64)), (.long (fmh q0 q1))])) _
    refine XS.lcmp X2.here hx rfl (hb hby d10_19) rfl ?_
    show Steps p.tables e below (T2.setTop (mkF m 20 #[oJ q0, oS, oJ q1, oS, oJ (fmh q0 q1), oS, oJ (q0 * q1), oS] [(.int (lcmpW (fmh q0 q1) ((q0 * q1) >>> ((63 : Int32) &&& 0x3f).toInt64)))])) _
    refine (fun t (k : Steps p.tables e below (T2.setTop (mkF m 31 #[oJ q0, oS, oJ q1, oS, oJ (fmh q0 q1), oS, oJ (q0 * q1), oS] [(.long (if (fmh q0 q1) = ((q0 * q1) >>> ((63 : Int32) &&& 0x3f).toInt64) then (q0 * q1) else (-9223372036854775808 : Int64)))])) t) => (?_ : Steps p.tables e below _ t)) _ ?_
    · by_cases hc3 : (fmh q0 q1) = ((q0 * q1) >>> ((63 : Int32) &&& 0x3f).toInt64)
      · simp only [if_pos hc3] at k
        refine XS.ifNo X2.here hx rfl (hb hby d10_20) rfl ((if0 _ _).trans (teq ((lw_eq _ _).mpr hc3)).2) ?_
        show Steps p.tables e below (T2.setTop (mkF m 23 #[oJ q0, oS, oJ q1, oS, oJ (fmh q0 q1), oS, oJ (q0 * q1), oS] [])) _
        refine XS.lload X2.here hx rfl (hb hby d10_23) rfl ?_
        show Steps p.tables e below (T2.setTop (mkF m 25 #[oJ q0, oS, oJ q1, oS, oJ (fmh q0 q1), oS, oJ (q0 * q1), oS] [(.long (q0 * q1))])) _
        refine XS.goto X2.here hx rfl (pc0 := 25) (pc' := 31) rfl (hb hby d10_25) (by decide) (by decide) ?_
        show Steps p.tables e below (T2.setTop (mkF m 31 #[oJ q0, oS, oJ q1, oS, oJ (fmh q0 q1), oS, oJ (q0 * q1), oS] [(.long (q0 * q1))])) _
        exact k
      · simp only [if_neg hc3] at k
        refine XS.ifYes X2.here hx rfl (pc0 := 20) (pc' := 28) rfl (hb hby d10_20) rfl ((if0 _ _).trans (feq (fun q => hc3 ((lw_eq _ _).mp q))).2) (by decide) (by decide) ?_
        show Steps p.tables e below (T2.setTop (mkF m 28 #[oJ q0, oS, oJ q1, oS, oJ (fmh q0 q1), oS, oJ (q0 * q1), oS] [])) _
        refine X2.ldc2Long hx hown (mvT hZ (hw _ (List.mem_of_getElem? (i := 70) rfl))) (g := (mkF m 28 #[oJ q0, oS, oJ q1, oS, oJ (fmh q0 q1), oS, oJ (q0 * q1), oS] [])) rfl (hb hby d10_28) _ ?_
        show Steps p.tables e below (T2.setTop (mkF m 31 #[oJ q0, oS, oJ q1, oS, oJ (fmh q0 q1), oS, oJ (q0 * q1), oS] [(.long (-9223372036854775808 : Int64))])) _
        exact k
    show Steps p.tables e below (T2.setTop (mkF m 31 #[oJ q0, oS, oJ q1, oS, oJ (fmh q0 q1), oS, oJ (q0 * q1), oS] [(.long (if (fmh q0 q1) = ((q0 * q1) >>> ((63 : Int32) &&& 0x3f).toInt64) then (q0 * q1) else (-9223372036854775808 : Int64)))])) _
    exact k
  exact own_retL X2 Bd.notSynchronized hx Bd.returns (hb hby d10_31) (by
      rw [show T2.heap = h0 from e2]
      exact ⟨congrArg (fun z => some (Value.long z)) (show (if (fmh q0 q1) = ((q0 * q1) >>> ((63 : Int32) &&& 0x3f).toInt64) then (q0 * q1) else (-9223372036854775808 : Int64)) = (fme q0 q1) from rfl), N0, rfl⟩) (by decide) (by decide)

def fadd2 (q0 : Int64) (q1 : Int64) : Int64 := (if (((q0 + q1) ^^^ q0) &&& ((q0 + q1) ^^^ q1)) < (0 : Int64) then (-9223372036854775808 : Int64) else (q0 + q1))
theorem d23_0 : decode jdk_17_method_132_code 0 = .ok (.lload_n 0, 1) := by decide +kernel
theorem d23_1 : decode jdk_17_method_132_code 1 = .ok (.lload_n 2, 1) := by decide +kernel
theorem d23_2 : decode jdk_17_method_132_code 2 = .ok (.ladd, 1) := by decide +kernel
theorem d23_3 : decode jdk_17_method_132_code 3 = .ok (.lstore 4, 2) := by decide +kernel
theorem d23_5 : decode jdk_17_method_132_code 5 = .ok (.lload 4, 2) := by decide +kernel
theorem d23_7 : decode jdk_17_method_132_code 7 = .ok (.lload_n 0, 1) := by decide +kernel
theorem d23_8 : decode jdk_17_method_132_code 8 = .ok (.lxor, 1) := by decide +kernel
theorem d23_9 : decode jdk_17_method_132_code 9 = .ok (.lload 4, 2) := by decide +kernel
theorem d23_11 : decode jdk_17_method_132_code 11 = .ok (.lload_n 2, 1) := by decide +kernel
theorem d23_12 : decode jdk_17_method_132_code 12 = .ok (.lxor, 1) := by decide +kernel
theorem d23_13 : decode jdk_17_method_132_code 13 = .ok (.land, 1) := by decide +kernel
theorem d23_14 : decode jdk_17_method_132_code 14 = .ok (.lconst 0, 1) := by decide +kernel
theorem d23_15 : decode jdk_17_method_132_code 15 = .ok (.lcmp, 1) := by decide +kernel
theorem d23_16 : decode jdk_17_method_132_code 16 = .ok (.ifCond .lt 6, 3) := by decide +kernel
theorem d23_19 : decode jdk_17_method_132_code 19 = .ok (.lload 4, 2) := by decide +kernel
theorem d23_21 : decode jdk_17_method_132_code 21 = .ok (.lreturn, 1) := by decide +kernel
theorem d23_22 : decode jdk_17_method_132_code 22 = .ok (.ldc2_w 125, 3) := by decide +kernel
theorem d23_25 : decode jdk_17_method_132_code 25 = .ok (.lreturn, 1) := by decide +kernel
theorem pn_23 : plainName "java/math/BigDecimal" = true := by first | (simp [plainName, overriddenIn]; done) | decide +kernel
theorem ef_23 (m : MethodId) (x0 : Int64) (x1 : Int64) : entryFrame m #[(.long x0), (.long x1)] 6 = mkF m 0 #[oJ x0, oS, oJ x1, oS, oU, oU] [] := by first | (simp [entryFrame, mkF, argsToLocals, Value.category]; done) | rfl
def Q23 (Z : State) (q0 : Int64) (q1 : Int64) (h0 : Heap) (n0 : Nat) (v : Option Value) (h : Heap) (L : List Loc) : Prop := v = some (.long (fadd2 q0 q1)) ∧ Fr n0 L ∧ h = h0
set_option maxRecDepth 65536 in
set_option maxHeartbeats 40000000 in
theorem rm23 (l : Launch) (Z : State) (a0 : Array Value) (hw : ∀ d ∈ tables_1, d.before a0 Z = true) (ws : List Jvm.Cond) (q0 : Int64) (q1 : Int64) (h0 : Heap) (n0 : Nat) (Z0 : n0 ≤ h0.size) :
    MetFree l (⟨"java/math/BigDecimal", "add", "(JJ)J"⟩ : MethodName) (head1 (Jvm.Cond.code (⟨"java/math/BigDecimal", "add", "(JJ)J"⟩ : MethodName) jdk_17_method_132_code 6 (some .long) :: ws) ({ frames := 0, cells := 0, slots := 0, locals := 0 } : Room)) (fun a U => a = #[(.long q0), (.long q1)] ∧ Z.Warmed39 U.vm ∧ U.heap = h0) (fun _ _ _ _ _ => True) (fun _ U o U' => ∃ v L, o = .returned v ∧ Q23 Z q0 q1 h0 n0 v U'.heap L ∧ FrameEnd U o U' L ({ frames := 0, cells := 0, slots := 0, locals := 0 } : Room).cells ({ frames := 0, cells := 0, slots := 0, locals := 0 } : Room).slots) := by
  refine MetFree.of_bodySF (plainFor_of_name pn_23) hisR ?_
  intro p e s m args below meth c s₁ Bd hml0 hP hK
  obtain ⟨rfl, hZ, hh⟩ := hP
  have hx := Bd.exec
  have hby := Bd.bytes
  have hml : c.maxLocals = 6 := hml0
  have hown : s.vm.findClass "java/math/BigDecimal" = some m.cls := findClass_of_methodNamed Bd.named
  have hnm := (name_of_methodNamed Bd.named Bd.method).1
  have X0 : Stand p l e ({ frames := 0, cells := 0, slots := 0, locals := 0 } : Room) s m #[(.long q0), (.long q1)] below meth c s₁ [] 0 0 := Stand.of_body Bd
  have e0 : s₁.heap = h0 := by rw [← hh, Bd.state]; rfl
  have N0 := Fr.nil n0
  change own_Go p e below (own_Post s (Q23 Z q0 q1 h0 n0) ({ frames := 0, cells := 0, slots := 0, locals := 0 } : Room).cells ({ frames := 0, cells := 0, slots := 0, locals := 0 } : Room).slots) (s₁.setTop (entryFrame m #[(.long q0), (.long q1)] 6))
  refine own_by (fun t k => castTop (ef_23 m q0 q1) k) ?_
  show own_Go p e below _ (s₁.setTop (mkF m 0 #[oJ q0, oS, oJ q1, oS, oU, oU] []))
  refine own_by (B := s₁.setTop (mkF m 16 #[oJ q0, oS, oJ q1, oS, oJ (q0 + q1), oS] [(.int (lcmpW (((q0 + q1) ^^^ q0) &&& ((q0 + q1) ^^^ q1)) (0 : Int64)))])) (fun t k => ?_) ?_
  · show Steps p.tables e below (s₁.setTop (mkF m 0 #[oJ q0, oS, oJ q1, oS, oU, oU] [])) _
    refine XS.lloadN X0.here hx rfl (hb hby d23_0) rfl ?_
    show Steps p.tables e below (s₁.setTop (mkF m 1 #[oJ q0, oS, oJ q1, oS, oU, oU] [(.long q0)])) _
    refine XS.lloadN X0.here hx rfl (hb hby d23_1) rfl ?_
    show Steps p.tables e below (s₁.setTop (mkF m 2 #[oJ q0, oS, oJ q1, oS, oU, oU] [(.long q1), (.long q0)])) _
    refine XS.ladd X0.here hx rfl (hb hby d23_2) rfl ?_
    show Steps p.tables e below (s₁.setTop (mkF m 3 #[oJ q0, oS, oJ q1, oS, oU, oU] [(.long (q0 + q1))])) _
    refine XS.lstore X0.here hx rfl (hb hby d23_3) rfl (l' := #[oJ q0, oS, oJ q1, oS, oJ (q0 + q1), oS]) rfl ?_
    show Steps p.tables e below (s₁.setTop (mkF m 5 #[oJ q0, oS, oJ q1, oS, oJ (q0 + q1), oS] [])) _
    refine XS.lload X0.here hx rfl (hb hby d23_5) rfl ?_
    show Steps p.tables e below (s₁.setTop (mkF m 7 #[oJ q0, oS, oJ q1, oS, oJ (q0 + q1), oS] [(.long (q0 + q1))])) _
    refine XS.lloadN X0.here hx rfl (hb hby d23_7) rfl ?_
    show Steps p.tables e below (s₁.setTop (mkF m 8 #[oJ q0, oS, oJ q1, oS, oJ (q0 + q1), oS] [(.long q0), (.long (q0 + q1))])) _
    refine XS.lxor X0.here hx rfl (hb hby d23_8) rfl ?_
    show Steps p.tables e below (s₁.setTop (mkF m 9 #[oJ q0, oS, oJ q1, oS, oJ (q0 + q1), oS] [(.long ((q0 + q1) ^^^ q0))])) _
    refine XS.lload X0.here hx rfl (hb hby d23_9) rfl ?_
    show Steps p.tables e below (s₁.setTop (mkF m 11 #[oJ q0, oS, oJ q1, oS, oJ (q0 + q1), oS] [(.long (q0 + q1)), (.long ((q0 + q1) ^^^ q0))])) _
    refine XS.lloadN X0.here hx rfl (hb hby d23_11) rfl ?_
    show Steps p.tables e below (s₁.setTop (mkF m 12 #[oJ q0, oS, oJ q1, oS, oJ (q0 + q1), oS] [(.long q1), (.long (q0 + q1)), (.long ((q0 + q1) ^^^ q0))])) _
    refine XS.lxor X0.here hx rfl (hb hby d23_12) rfl ?_
    show Steps p.tables e below (s₁.setTop (mkF m 13 #[oJ q0, oS, oJ q1, oS, oJ (q0 + q1), oS] [(.long ((q0 + q1) ^^^ q1)), (.long ((q0 + q1) ^^^ q0))])) _
    refine XS.land X0.here hx rfl (hb hby d23_13) rfl ?_
    show Steps p.tables e below (s₁.setTop (mkF m 14 #[oJ q0, oS, oJ q1, oS, oJ (q0 + q1), oS] [(.long (((q0 + q1) ^^^ q0) &&& ((q0 + q1) ^^^ q1)))])) _
    refine XS.lconst X0.here hx rfl (hb hby d23_14) ?_
    show Steps p.tables e below (s₁.setTop (mkF m 15 #[oJ q0, oS, oJ q1, oS, oJ (q0 + q1), oS] [(.long (0 : Int64)), (.long (((q0 + q1) ^^^ q0) &&& ((q0 + q1) ^^^ q1)))])) _
    refine XS.lcmp X0.here hx rfl (hb hby d23_15) rfl ?_
    show Steps p.tables e below (s₁.setTop (mkF m 16 #[oJ q0, oS, oJ q1, oS, oJ (q0 + q1), oS] [(.int (lcmpW (((q0 + q1) ^^^ q0) &&& ((q0 + q1) ^^^ q1)) (0 : Int64)))])) _
    exact k
  by_cases hc1 : (((q0 + q1) ^^^ q0) &&& ((q0 + q1) ^^^ q1)) < (0 : Int64)
  · skip
    refine own_by (fun t k => XS.ifYes X0.here hx rfl (pc0 := 16) (pc' := 22) rfl (hb hby d23_16) rfl ((if0 _ _).trans (tlt ((lw_lt _ _).mpr hc1)).1) (by decide) (by decide) k) ?_
    show own_Go p e below _ (s₁.setTop (mkF m 22 #[oJ q0, oS, oJ q1, oS, oJ (q0 + q1), oS] []))
    refine own_by (B := s₁.setTop (mkF m 25 #[oJ q0, oS, oJ q1, oS, oJ (q0 + q1), oS] [(.long (-9223372036854775808 : Int64))])) (fun t k => ?_) ?_
    · show Steps p.tables e below (s₁.setTop (mkF m 22 #[oJ q0, oS, oJ q1, oS, oJ (q0 + q1), oS] [])) _
      refine X0.ldc2Long hx hown (mvT hZ (hw _ (List.mem_of_getElem? (i := 84) rfl))) (g := (mkF m 22 #[oJ q0, oS, oJ q1, oS, oJ (q0 + q1), oS] [])) rfl (hb hby d23_22) _ ?_
      show Steps p.tables e below (s₁.setTop (mkF m 25 #[oJ q0, oS, oJ q1, oS, oJ (q0 + q1), oS] [(.long (-9223372036854775808 : Int64))])) _
      exact k
    exact own_retL X0 Bd.notSynchronized hx Bd.returns (hb hby d23_25) (by
        rw [show s₁.heap = h0 from e0]
        exact ⟨congrArg (fun z => some (Value.long z)) (show (-9223372036854775808 : Int64) = (fadd2 q0 q1) from (by simp only [fadd2, if_pos hc1])), N0, rfl⟩) (by decide) (by decide)
  · skip
    refine own_by (fun t k => XS.ifNo X0.here hx rfl (hb hby d23_16) rfl ((if0 _ _).trans (flt (fun q => hc1 ((lw_lt _ _).mp q))).1) k) ?_
    show own_Go p e below _ (s₁.setTop (mkF m 19 #[oJ q0, oS, oJ q1, oS, oJ (q0 + q1), oS] []))
    refine own_by (B := s₁.setTop (mkF m 21 #[oJ q0, oS, oJ q1, oS, oJ (q0 + q1), oS] [(.long (q0 + q1))])) (fun t k => ?_) ?_
    · show Steps p.tables e below (s₁.setTop (mkF m 19 #[oJ q0, oS, oJ q1, oS, oJ (q0 + q1), oS] [])) _
      refine XS.lload X0.here hx rfl (hb hby d23_19) rfl ?_
      show Steps p.tables e below (s₁.setTop (mkF m 21 #[oJ q0, oS, oJ q1, oS, oJ (q0 + q1), oS] [(.long (q0 + q1))])) _
      exact k
    exact own_retL X0 Bd.notSynchronized hx Bd.returns (hb hby d23_21) (by
        rw [show s₁.heap = h0 from e0]
        exact ⟨congrArg (fun z => some (Value.long z)) (show (q0 + q1) = (fadd2 q0 q1) from (by simp only [fadd2, if_neg hc1])), N0, rfl⟩) (by decide) (by decide)

section OwnMirror
variable {p : Program} {l : Launch} {e : Env} {R : Room} {s : State} {m : MethodId} {args : Array Value} {below : List Frame} {meth : Method} {c : Code} {T : State} {locs : List Loc} {cells slots : Nat}
def own_Mi (Z : State) (C : String) (mr : Addr) : Prop := ∃ (cc : ClassId) (kc : Class), Z.vm.findClass C = some cc ∧ Z.vm.classes[cc]? = some kc ∧ kc.mirror = some mr
def own_MB (Z : State) : Prop := ∃ mr, own_Mi Z "java/math/BigInteger" mr
theorem own_gcls (X : Stand p l e R s m args below meth c T locs cells slots) (hx : p.tables.exec = Jvm.exec) {Z : State} {a0 : Array Value} {h : Heap} (hZ : Z.Warmed39 s.vm) {own C : String} {index : Nat} (hown : s.vm.findClass own = some m.cls) (w1 : (Jvm.Cond.methodLink own index Jvm.Stand.gcN).before a0 Z = true) (w2 : (Jvm.Cond.declares Jvm.Stand.gcN).before a0 Z = true) (w4 : (Jvm.Cond.selects C Jvm.Stand.gcN Jvm.Stand.gcN).before a0 Z = true) (w5 : (Jvm.Cond.instanceMethod Jvm.Stand.gcN).before a0 Z = true) (w6 : (Jvm.Cond.native Jvm.Stand.gcN).before a0 Z = true) (eT : T.heap = h) {a mr : Addr} (E : Exa Z h a C) (M : own_Mi Z C mr)
    {g : JFrame} (hg : g.method = m) (hsize : g.locals.size = c.maxLocals) {rest : List Value} (hs : g.stack = .ref a :: rest) (hd : decode c.code g.pc = .ok (.invokevirtual index, 3)) (hf : 1 ≤ R.frames) (hl : 2 * g.monitorRoom + (rest.map fun v => v.category).sum + (nativeFrameWords "java/lang/Object" "getClass" 1 + 11) ≤ R.locals) :
    ∃ T', Stand p l e R s m args below meth c T' locs cells slots ∧ T'.heap = h ∧ ∀ t, Steps p.tables e below (T'.setTop { g with pc := g.pc + 3, stack := .ref mr :: rest }) t → Steps p.tables e below (T.setTop g) t := by
  obtain ⟨cB, kB, i1, i2, i3⟩ := isOf hZ eT E
  obtain ⟨cc, kc, m1, m2, m3⟩ := M
  have i1' := i1
  rw [hZ.alike.findClass] at i1'
  cases i1'.symm.trans m1
  obtain ⟨k', q, ek⟩ := hZ.alike.2.2 _ _ m2
  obtain ⟨vm', X', st⟩ := X.getClassOf hx hown (mvT hZ w1) (mvT hZ w2) (notFace_of_selects (args := #[]) (mvT hZ w4)) (mvT hZ w4) (mvT hZ w5) (mvT hZ w6) i1 i3 q (by rw [ek]; exact m3) hg hsize hs hd hf hl
  exact ⟨_, X', eT, st⟩
theorem own_ldcM (X : Stand p l e R s m args below meth c T locs cells slots) (hx : p.tables.exec = Jvm.exec) {Z : State} {a0 : Array Value} {h : Heap} (hZ : Z.Warmed39 s.vm) {own C : String} {index : Nat} (hown : s.vm.findClass own = some m.cls) (w1 : (Jvm.Cond.classLink own index C).before a0 Z = true) (eT : T.heap = h) {mr : Addr} (M : own_Mi Z C mr) {g : JFrame} (hg : g.method = m) (hd : decode c.code g.pc = .ok (.ldc index, 2)) :
    ∃ T', Stand p l e R s m args below meth c T' locs cells slots ∧ T'.heap = h ∧ ∀ t, Steps p.tables e below (T'.setTop { g with pc := g.pc + 2, stack := .ref mr :: g.stack }) t → Steps p.tables e below (T.setTop g) t := by
  obtain ⟨cc, kc, m1, m2, m3⟩ := M
  obtain ⟨k', q, ek⟩ := hZ.alike.2.2 _ _ m2
  have f1 : s.vm.findClass C = some cc := by rw [hZ.alike.findClass]; exact m1
  have f2 : k'.mirror = some mr := by rw [ek]; exact m3
  obtain ⟨vm', X', st⟩ := X.ldcMirror hx hown (mvT hZ w1) (a := mr) (by simp [Term.eval, f1, q, f2]) hg hd
  exact ⟨_, X', eT, st⟩
end OwnMirror

theorem own_fmh1 (x : Int64) : fmh x (1 : Int64) = ((x * (1 : Int64)) >>> ((63 : Int32) &&& 0x3f).toInt64) := by
  have y1 : ((1 : Int64) >>> ((32 : Int32) &&& 0x3f).toInt64) = 0 := by decide
  have y2 : ((1 : Int64) &&& (4294967295 : Int64)) = 1 := by decide
  unfold fmh
  rw [y1, y2, Int64.mul_one, Int64.mul_one, Int64.mul_one, Int64.mul_zero, Int64.mul_zero, Int64.zero_add, Int64.add_zero]
  have r := rng64 x
  have a1 := c_lshr x (32 : Int32) 32 (by decide)
  have a2 := c_maskL x (4294967295 : Int64) 32 (by decide) (by decide)
  have a3 := c_lshr x (63 : Int32) 63 (by decide)
  generalize (x >>> ((63 : Int32) &&& 0x3f).toInt64) = w at *
  generalize (x >>> ((32 : Int32) &&& 0x3f).toInt64) = u at *
  generalize (x &&& (4294967295 : Int64)) = v at *
  have b1 := c_lushr v (32 : Int32) 32 (by decide) (by decide)
  generalize ((v.toUInt64 >>> ((32 : Int32) &&& 0x3f).toInt64.toUInt64).toInt64) = z at *
  have b2 : z.toInt = 0 := by omega
  have b3 := c_ladd u z
  have b4 := rng64 (u + z)
  have b5 : (u + z).toInt = u.toInt := by omega
  generalize (u + z) = t at *
  have d1 := c_maskL t (4294967295 : Int64) 32 (by decide) (by decide)
  have d2 := c_lshr t (32 : Int32) 32 (by decide)
  generalize (t &&& (4294967295 : Int64)) = t1 at *
  generalize (t >>> ((32 : Int32) &&& 0x3f).toInt64) = t2 at *
  have d3 := c_lshr t1 (32 : Int32) 32 (by decide)
  generalize (t1 >>> ((32 : Int32) &&& 0x3f).toInt64) = t3 at *
  have d4 := c_ladd t2 t3
  have d5 := rng64 (t2 + t3)
  rw [← Int64.toInt_inj]
  omega
theorem own_fme1 (x : Int64) : fme x (1 : Int64) = x := by
  unfold fme
  rw [if_pos (own_fmh1 x), Int64.mul_one]
theorem own_sgn (x : Int64) : fsgn x = (if (0 : Int64) < x then (1 : Int32) else (if x < (0 : Int64) then (-1 : Int32) else (0 : Int32))) := by
  have r := rng64 x
  have a := c_lshr x (63 : Int32) 63 (by decide)
  have b := c_lushr (-x) (63 : Int32) 63 (by decide) (by decide)
  have c := c_lneg x
  have c2 := rng64 (-x)
  have e0 : (0 : Int64).toInt = 0 := by decide
  have e1 : (1 : Int64).toInt = 1 := by decide
  have em : (-1 : Int64).toInt = -1 := by decide
  unfold fsgn
  generalize (x >>> ((63 : Int32) &&& 0x3f).toInt64) = u at *
  generalize (((-x).toUInt64 >>> ((63 : Int32) &&& 0x3f).toInt64.toUInt64).toInt64) = v at *
  by_cases hp : (0 : Int64) < x
  · rw [if_pos hp]
    rw [Int64.lt_iff_toInt_lt] at hp
    have e : u = 0 := by rw [← Int64.toInt_inj]; omega
    have e2 : v = 1 := by rw [← Int64.toInt_inj]; omega
    subst e e2
    decide
  · rw [if_neg hp]
    rw [Int64.lt_iff_toInt_lt] at hp
    by_cases hn : x < (0 : Int64)
    · rw [if_pos hn]
      rw [Int64.lt_iff_toInt_lt] at hn
      have e : u = -1 := by rw [← Int64.toInt_inj]; omega
      subst e
      rw [show ((-1 : Int64) ||| v) = -1 from by rw [← Int64.toBitVec_inj, Int64.toBitVec_or]; exact BitVec.allOnes_or]
      decide
    · rw [if_neg hn]
      rw [Int64.lt_iff_toInt_lt] at hn
      have e : u = 0 := by rw [← Int64.toInt_inj]; omega
      have e2 : v = 0 := by rw [← Int64.toInt_inj]; omega
      subst e e2
      decide
theorem own_sc0 (x : Int32) : ¬ ((x &&& (2147483647 : Int32)) % (19 : Int32) < (0 : Int32)) ∧ ¬ ((18 : Int32) < (x &&& (2147483647 : Int32)) % (19 : Int32)) := by
  have a1 := c_mask x (2147483647 : Int32) 31 (by decide) (by decide)
  have a0 : 0 ≤ (x &&& (2147483647 : Int32)).toInt := by rw [a1]; exact Int.emod_nonneg _ (by decide)
  clear a1
  generalize x &&& (2147483647 : Int32) = u at *
  have b := (c_irem u (19 : Int32) 19 (by decide)).1 a0
  have ez : (0 : Int32).toInt = 0 := by decide
  have et : (18 : Int32).toInt = 18 := by decide
  rw [Int32.lt_iff_toInt_lt, Int32.lt_iff_toInt_lt]
  omega

theorem d31_0 : decode jdk_17_method_11_code 0 = .ok (.aload_n 0, 1) := by decide +kernel
theorem d31_1 : decode jdk_17_method_11_code 1 = .ok (.invokevirtual 210, 3) := by decide +kernel
theorem d31_4 : decode jdk_17_method_11_code 4 = .ok (.ldc 9, 2) := by decide +kernel
theorem d31_6 : decode jdk_17_method_11_code 6 = .ok (.if_acmp .ne 7, 3) := by decide +kernel
theorem d31_9 : decode jdk_17_method_11_code 9 = .ok (.aload_n 0, 1) := by decide +kernel
theorem d31_10 : decode jdk_17_method_11_code 10 = .ok (.goto 20, 3) := by decide +kernel
theorem d31_30 : decode jdk_17_method_11_code 30 = .ok (.areturn, 1) := by decide +kernel
theorem pn_31 : plainName "java/math/BigDecimal" = true := by first | (simp [plainName, overriddenIn]; done) | decide +kernel
theorem ef_31 (m : MethodId) (x0 : Addr) : entryFrame m #[(.ref x0)] 1 = mkF m 0 #[rv x0] [] := by first | (simp [entryFrame, mkF, argsToLocals, Value.category]; done) | rfl
def Q31 (Z : State) (o0 : Addr) (h0 : Heap) (n0 : Nat) (v : Option Value) (h : Heap) (L : List Loc) : Prop := v = some (.ref o0) ∧ Fr n0 L ∧ h = h0
set_option maxRecDepth 65536 in
set_option maxHeartbeats 40000000 in
theorem rm31 (l : Launch) (Z : State) (a0 : Array Value) (hw : ∀ d ∈ tables_1, d.before a0 Z = true) (ws : List Jvm.Cond) (o0 : Addr) (h0 : Heap) (n0 : Nat) (Z0 : n0 ≤ h0.size) (E_o0 : Exa Z h0 o0 "java/math/BigInteger") (hMB : own_MB Z) :
    MetFree l (⟨"java/math/BigDecimal", "toStrictBigInteger", "(Ljava/math/BigInteger;)Ljava/math/BigInteger;"⟩ : MethodName) (head1 (Jvm.Cond.code (⟨"java/math/BigDecimal", "toStrictBigInteger", "(Ljava/math/BigInteger;)Ljava/math/BigInteger;"⟩ : MethodName) jdk_17_method_11_code 1 (some (.object "java/math/BigInteger")) :: ws) ({ frames := 1, cells := 0, slots := 0, locals := 64 } : Room)) (fun a U => a = #[(.ref o0)] ∧ Z.Warmed39 U.vm ∧ U.heap = h0) (fun _ _ _ _ _ => True) (fun _ U o U' => ∃ v L, o = .returned v ∧ Q31 Z o0 h0 n0 v U'.heap L ∧ FrameEnd U o U' L ({ frames := 1, cells := 0, slots := 0, locals := 64 } : Room).cells ({ frames := 1, cells := 0, slots := 0, locals := 64 } : Room).slots) := by
  refine MetFree.of_bodySF (plainFor_of_name pn_31) hisR ?_
  intro p e s m args below meth c s₁ Bd hml0 hP hK
  obtain ⟨rfl, hZ, hh⟩ := hP
  have hx := Bd.exec
  have hby := Bd.bytes
  have hml : c.maxLocals = 1 := hml0
  have hown : s.vm.findClass "java/math/BigDecimal" = some m.cls := findClass_of_methodNamed Bd.named
  have hnm := (name_of_methodNamed Bd.named Bd.method).1
  have X0 : Stand p l e ({ frames := 1, cells := 0, slots := 0, locals := 64 } : Room) s m #[(.ref o0)] below meth c s₁ [] 0 0 := Stand.of_body Bd
  have e0 : s₁.heap = h0 := by rw [← hh, Bd.state]; rfl
  have N0 := Fr.nil n0
  obtain ⟨mr, hMi⟩ := hMB
  change own_Go p e below (own_Post s (Q31 Z o0 h0 n0) ({ frames := 1, cells := 0, slots := 0, locals := 64 } : Room).cells ({ frames := 1, cells := 0, slots := 0, locals := 64 } : Room).slots) (s₁.setTop (entryFrame m #[(.ref o0)] 1))
  refine own_by (fun t k => castTop (ef_31 m o0) k) ?_
  show own_Go p e below _ (s₁.setTop (mkF m 0 #[rv o0] []))
  refine own_by (B := s₁.setTop (mkF m 1 #[rv o0] [(.ref o0)])) (fun t k => ?_) ?_
  · show Steps p.tables e below (s₁.setTop (mkF m 0 #[rv o0] [])) _
    refine XS.aloadN X0.here hx rfl (hb hby d31_0) rfl rfl ?_
    show Steps p.tables e below (s₁.setTop (mkF m 1 #[rv o0] [(.ref o0)])) _
    exact k
  refine own_c1 (own_gcls X0 hx hZ hown (hw _ (List.mem_of_getElem? (i := 161) rfl)) (hw _ (List.mem_of_getElem? (i := 162) rfl)) (hw _ (List.mem_of_getElem? (i := 164) rfl)) (hw _ (List.mem_of_getElem? (i := 163) rfl)) (hw _ (List.mem_of_getElem? (i := 165) rfl)) e0 E_o0 hMi rfl (by rw [hml]; rfl) rfl (hb hby d31_1) (by decide) (by show 2 * 0 + _ ≤ _; decide)) fun T1 X1 e1 => ?_
  show own_Go p e below _ (T1.setTop (mkF m 4 #[rv o0] [(.ref mr)]))
  refine own_c1 (own_ldcM X1 hx hZ hown (hw _ (List.mem_of_getElem? (i := 166) rfl)) e1 hMi rfl (hb hby d31_4)) fun T2 X2 e2 => ?_
  show own_Go p e below _ (T2.setTop (mkF m 6 #[rv o0] [(.ref mr), (.ref mr)]))
  refine own_by (fun t k => Jvm.RoadKit.acmp (g := (mkF m 6 #[rv o0] [(.ref mr), (.ref mr)])) X2 hx rfl rfl rfl (pc0 := 6) (pc' := 9) (same := true) rfl (hb hby d31_6) rfl (decide_eq_true rfl) (by decide) (by decide) k) ?_
  show own_Go p e below _ (T2.setTop (mkF m 9 #[rv o0] []))
  refine own_by (B := T2.setTop (mkF m 30 #[rv o0] [(.ref o0)])) (fun t k => ?_) ?_
  · show Steps p.tables e below (T2.setTop (mkF m 9 #[rv o0] [])) _
    refine XS.aloadN X2.here hx rfl (hb hby d31_9) rfl rfl ?_
    show Steps p.tables e below (T2.setTop (mkF m 10 #[rv o0] [(.ref o0)])) _
    refine XS.goto X2.here hx rfl (pc0 := 10) (pc' := 30) rfl (hb hby d31_10) (by decide) (by decide) ?_
    show Steps p.tables e below (T2.setTop (mkF m 30 #[rv o0] [(.ref o0)])) _
    exact k
  exact own_retR X2 Bd.notSynchronized hx Bd.returns rfl rfl rfl (hb hby d31_30) (by
      rw [show T2.heap = h0 from e2]
      exact ⟨rfl, N0, rfl⟩) (by decide) (by decide)

theorem d1_0 : decode prog_7_method_1_code 0 = .ok (.aload_n 0, 1) := by decide +kernel
theorem d1_1 : decode prog_7_method_1_code 1 = .ok (.invokespecial 3, 3) := by decide +kernel
theorem d1_4 : decode prog_7_method_1_code 4 = .ok (.return_, 1) := by decide +kernel
theorem pn_1 : plainName "com/example/exfactor/exfactor/core/MutableFigure" = true := by first | (simp [plainName, overriddenIn]; done) | decide +kernel
theorem ef_1 (m : MethodId) (x0 : Addr) : entryFrame m #[(.ref x0)] 1 = mkF m 0 #[rv x0] [] := by first | (simp [entryFrame, mkF, argsToLocals, Value.category]; done) | rfl
def Q1_1 (Z : State) (o0 : Addr) (h0 : Heap) (n0 : Nat) (v : Option Value) (h : Heap) (L : List Loc) : Prop := v = none ∧ Fr n0 L ∧ h = h0
set_option maxRecDepth 65536 in
set_option maxHeartbeats 40000000 in
theorem rm1_1 (l : Launch) (Z : State) (a0 : Array Value) (hw : ∀ d ∈ tables_1, d.before a0 Z = true) (ws : List Jvm.Cond) (o0 : Addr) (h0 : Heap) (n0 : Nat) (Z0 : n0 ≤ h0.size) :
    MetFree l (⟨"com/example/exfactor/exfactor/core/MutableFigure", "<init>", "()V"⟩ : MethodName) (head1 (Jvm.Cond.code (⟨"com/example/exfactor/exfactor/core/MutableFigure", "<init>", "()V"⟩ : MethodName) prog_7_method_1_code 1 none :: ws) ({ frames := 1, cells := 0, slots := 0, locals := 12 } : Room)) (fun a U => a = #[(.ref o0)] ∧ Z.Warmed39 U.vm ∧ U.heap = h0) (fun _ _ _ _ _ => True) (fun _ U o U' => ∃ v L, o = .returned v ∧ Q1_1 Z o0 h0 n0 v U'.heap L ∧ FrameEnd U o U' L ({ frames := 1, cells := 0, slots := 0, locals := 12 } : Room).cells ({ frames := 1, cells := 0, slots := 0, locals := 12 } : Room).slots) := by
  refine MetFree.of_bodySF (plainFor_of_name pn_1) hisR ?_
  intro p e s m args below meth c s₁ Bd hml0 hP hK
  obtain ⟨rfl, hZ, hh⟩ := hP
  have hx := Bd.exec
  have hby := Bd.bytes
  have hml : c.maxLocals = 1 := hml0
  have hown : s.vm.findClass "com/example/exfactor/exfactor/core/MutableFigure" = some m.cls := findClass_of_methodNamed Bd.named
  have hnm := (name_of_methodNamed Bd.named Bd.method).1
  have X0 : Stand p l e ({ frames := 1, cells := 0, slots := 0, locals := 12 } : Room) s m #[(.ref o0)] below meth c s₁ [] 0 0 := Stand.of_body Bd
  have e0 : s₁.heap = h0 := by rw [← hh, Bd.state]; rfl
  have N0 := Fr.nil n0
  change own_Go p e below (own_Post s (Q1_1 Z o0 h0 n0) ({ frames := 1, cells := 0, slots := 0, locals := 12 } : Room).cells ({ frames := 1, cells := 0, slots := 0, locals := 12 } : Room).slots) (s₁.setTop (entryFrame m #[(.ref o0)] 1))
  refine own_by (fun t k => castTop (ef_1 m o0) k) ?_
  show own_Go p e below _ (s₁.setTop (mkF m 0 #[rv o0] []))
  refine own_by (B := s₁.setTop (mkF m 1 #[rv o0] [(.ref o0)])) (fun t k => ?_) ?_
  · show Steps p.tables e below (s₁.setTop (mkF m 0 #[rv o0] [])) _
    refine XS.aloadN X0.here hx rfl (hb hby d1_0) rfl rfl ?_
    show Steps p.tables e below (s₁.setTop (mkF m 1 #[rv o0] [(.ref o0)])) _
    exact k
  refine own_c1 (initO X0 hx hZ hown (hw _ (List.mem_of_getElem? (i := 8) rfl)) (hw _ (List.mem_of_getElem? (i := 9) rfl)) (hw _ (List.mem_of_getElem? (i := 10) rfl)) e0 rfl (by rw [hml]; rfl) rfl (hb hby d1_1) (by decide) (W := 0) (by show 2 * 0 + _ ≤ _; exact Nat.le_of_eq rfl) (by decide)) fun T2 X2 e2 => ?_
  show own_Go p e below _ (T2.setTop (mkF m 4 #[rv o0] []))
  exact own_retV X2 Bd.notSynchronized hx Bd.returns (hb hby d1_4) (by
      rw [show T2.heap = h0 from e2]
      exact ⟨rfl, N0, rfl⟩) (by decide) (by decide)

theorem d3_0 : decode prog_7_method_6_code 0 = .ok (.aload_n 0, 1) := by decide +kernel
theorem d3_1 : decode prog_7_method_6_code 1 = .ok (.lload_n 1, 1) := by decide +kernel
theorem d3_2 : decode prog_7_method_6_code 2 = .ok (.putfield 56, 3) := by decide +kernel
theorem d3_5 : decode prog_7_method_6_code 5 = .ok (.aload_n 0, 1) := by decide +kernel
theorem d3_6 : decode prog_7_method_6_code 6 = .ok (.iload_n 3, 1) := by decide +kernel
theorem d3_7 : decode prog_7_method_6_code 7 = .ok (.putfield 60, 3) := by decide +kernel
theorem d3_10 : decode prog_7_method_6_code 10 = .ok (.aload_n 0, 1) := by decide +kernel
theorem d3_11 : decode prog_7_method_6_code 11 = .ok (.aconst_null, 1) := by decide +kernel
theorem d3_12 : decode prog_7_method_6_code 12 = .ok (.putfield 52, 3) := by decide +kernel
theorem d3_15 : decode prog_7_method_6_code 15 = .ok (.return_, 1) := by decide +kernel
theorem pn_3 : plainName "com/example/exfactor/exfactor/core/MutableFigure" = true := by first | (simp [plainName, overriddenIn]; done) | decide +kernel
theorem ef_3 (m : MethodId) (x0 : Addr) (x1 : Int64) (x2 : Int32) : entryFrame m #[(.ref x0), (.long x1), (.int x2)] 4 = mkF m 0 #[rv x0, oJ x1, oS, iv x2] [] := by first | (simp [entryFrame, mkF, argsToLocals, Value.category]; done) | rfl
def Q3_2 (Z : State) (o0 : Addr) (j0 : Int64) (i0 : Int32) (j1 : Int64) (i1 : Int32) (h0 : Heap) (n0 : Nat) (v : Option Value) (h : Heap) (L : List Loc) : Prop := v = none ∧ Fr n0 L ∧ Keep h0 h [o0] ∧ Exa Z h o0 "com/example/exfactor/exfactor/core/MutableFigure" ∧ Fld Z h o0 "com/example/exfactor/exfactor/core/MutableFigure" "unscaled" "J" (.long j0) ∧ Fld Z h o0 "com/example/exfactor/exfactor/core/MutableFigure" "scale" "I" (.int i0) ∧ Fld Z h o0 "com/example/exfactor/exfactor/core/MutableFigure" "big" "Ljava/math/BigDecimal;" .null
set_option maxRecDepth 65536 in
set_option maxHeartbeats 40000000 in
theorem rm3_2 (l : Launch) (Z : State) (a0 : Array Value) (hw : ∀ d ∈ tables_1, d.before a0 Z = true) (ws : List Jvm.Cond) (o0 : Addr) (j0 : Int64) (i0 : Int32) (j1 : Int64) (i1 : Int32) (h0 : Heap) (n0 : Nat) (Z0 : n0 ≤ h0.size) (g_o0 : n0 ≤ o0) (E_o0 : Exa Z h0 o0 "com/example/exfactor/exfactor/core/MutableFigure") (F_unscaled_o0 : Fld Z h0 o0 "com/example/exfactor/exfactor/core/MutableFigure" "unscaled" "J" (.long j1)) (F_scale_o0 : Fld Z h0 o0 "com/example/exfactor/exfactor/core/MutableFigure" "scale" "I" (.int i1)) (F_big_o0 : Fld Z h0 o0 "com/example/exfactor/exfactor/core/MutableFigure" "big" "Ljava/math/BigDecimal;" .null) :
    MetFree l (⟨"com/example/exfactor/exfactor/core/MutableFigure", "set", "(JI)V"⟩ : MethodName) (head1 (Jvm.Cond.code (⟨"com/example/exfactor/exfactor/core/MutableFigure", "set", "(JI)V"⟩ : MethodName) prog_7_method_6_code 4 none :: ws) ({ frames := 0, cells := 0, slots := 0, locals := 0 } : Room)) (fun a U => a = #[(.ref o0), (.long j0), (.int i0)] ∧ Z.Warmed39 U.vm ∧ U.heap = h0) (fun _ _ _ _ _ => True) (fun _ U o U' => ∃ v L, o = .returned v ∧ Q3_2 Z o0 j0 i0 j1 i1 h0 n0 v U'.heap L ∧ FrameEnd U o U' L ({ frames := 0, cells := 0, slots := 0, locals := 0 } : Room).cells ({ frames := 0, cells := 0, slots := 0, locals := 0 } : Room).slots) := by
  refine MetFree.of_bodySF (plainFor_of_name pn_3) hisR ?_
  intro p e s m args below meth c s₁ Bd hml0 hP hK
  obtain ⟨rfl, hZ, hh⟩ := hP
  have hx := Bd.exec
  have hby := Bd.bytes
  have hml : c.maxLocals = 4 := hml0
  have hown : s.vm.findClass "com/example/exfactor/exfactor/core/MutableFigure" = some m.cls := findClass_of_methodNamed Bd.named
  have hnm := (name_of_methodNamed Bd.named Bd.method).1
  have X0 : Stand p l e ({ frames := 0, cells := 0, slots := 0, locals := 0 } : Room) s m #[(.ref o0), (.long j0), (.int i0)] below meth c s₁ [] 0 0 := Stand.of_body Bd
  have e0 : s₁.heap = h0 := by rw [← hh, Bd.state]; rfl
  have N0 := Fr.nil n0
  have K0 : Keep h0 h0 [o0] := Keep.refl h0 _
  change own_Go p e below (own_Post s (Q3_2 Z o0 j0 i0 j1 i1 h0 n0) ({ frames := 0, cells := 0, slots := 0, locals := 0 } : Room).cells ({ frames := 0, cells := 0, slots := 0, locals := 0 } : Room).slots) (s₁.setTop (entryFrame m #[(.ref o0), (.long j0), (.int i0)] 4))
  refine own_by (fun t k => castTop (ef_3 m o0 j0 i0) k) ?_
  show own_Go p e below _ (s₁.setTop (mkF m 0 #[rv o0, oJ j0, oS, iv i0] []))
  refine own_by (B := s₁.setTop (mkF m 2 #[rv o0, oJ j0, oS, iv i0] [(.long j0), (.ref o0)])) (fun t k => ?_) ?_
  · show Steps p.tables e below (s₁.setTop (mkF m 0 #[rv o0, oJ j0, oS, iv i0] [])) _
    refine XS.aloadN X0.here hx rfl (hb hby d3_0) rfl rfl ?_
    show Steps p.tables e below (s₁.setTop (mkF m 1 #[rv o0, oJ j0, oS, iv i0] [(.ref o0)])) _
    refine XS.lloadN X0.here hx rfl (hb hby d3_1) rfl ?_
    show Steps p.tables e below (s₁.setTop (mkF m 2 #[rv o0, oJ j0, oS, iv i0] [(.long j0), (.ref o0)])) _
    exact k
  refine own_c2 (putF X0 hx hZ hown (host := "") (Or.inl (hw _ (List.mem_of_getElem? (i := 16) rfl))) Via.refl e0 F_unscaled_o0 E_o0 (Or.inl (hw _ (List.mem_of_getElem? (i := 17) rfl))) (hw _ (List.mem_of_getElem? (i := 3) rfl)) (ty := .long) (by decide) rfl rfl rfl rfl (hb hby d3_2)) fun T1 h1 X1 e1 W1 => ?_
  replace F_unscaled_o0 := F_unscaled_o0.same W1
  replace E_o0 := E_o0.wr W1
  replace F_scale_o0 := F_scale_o0.other W1 (Or.inr (sn0 hw))
  replace F_big_o0 := F_big_o0.other W1 (Or.inr (sn1 hw))
  replace K0 := K0.wr W1 (Or.inl (List.mem_of_getElem? (i := 0) rfl))
  replace Z0 := Nat.le_trans Z0 (Keep.of_wr W1).1
  replace N0 := Fr.snoc X1 N0 g_o0
  show own_Go p e below _ (T1.setTop (mkF m 5 #[rv o0, oJ j0, oS, iv i0] []))
  refine own_by (B := T1.setTop (mkF m 7 #[rv o0, oJ j0, oS, iv i0] [(.int i0), (.ref o0)])) (fun t k => ?_) ?_
  · show Steps p.tables e below (T1.setTop (mkF m 5 #[rv o0, oJ j0, oS, iv i0] [])) _
    refine XS.aloadN X1.here hx rfl (hb hby d3_5) rfl rfl ?_
    show Steps p.tables e below (T1.setTop (mkF m 6 #[rv o0, oJ j0, oS, iv i0] [(.ref o0)])) _
    refine XS.iloadN X1.here hx rfl (hb hby d3_6) rfl ?_
    show Steps p.tables e below (T1.setTop (mkF m 7 #[rv o0, oJ j0, oS, iv i0] [(.int i0), (.ref o0)])) _
    exact k
  refine own_c2 (putF X1 hx hZ hown (host := "") (Or.inl (hw _ (List.mem_of_getElem? (i := 18) rfl))) Via.refl e1 F_scale_o0 E_o0 (Or.inl (hw _ (List.mem_of_getElem? (i := 19) rfl))) (hw _ (List.mem_of_getElem? (i := 3) rfl)) (ty := .int) (by decide) rfl rfl rfl rfl (hb hby d3_7)) fun T2 h2 X2 e2 W2 => ?_
  replace F_scale_o0 := F_scale_o0.same W2
  replace E_o0 := E_o0.wr W2
  replace F_unscaled_o0 := F_unscaled_o0.other W2 (Or.inr (sn2 hw))
  replace F_big_o0 := F_big_o0.other W2 (Or.inr (sn3 hw))
  replace K0 := K0.wr W2 (Or.inl (List.mem_of_getElem? (i := 0) rfl))
  replace Z0 := Nat.le_trans Z0 (Keep.of_wr W2).1
  replace N0 := Fr.snoc X2 N0 g_o0
  show own_Go p e below _ (T2.setTop (mkF m 10 #[rv o0, oJ j0, oS, iv i0] []))
  refine own_by (B := T2.setTop (mkF m 12 #[rv o0, oJ j0, oS, iv i0] [.null, (.ref o0)])) (fun t k => ?_) ?_
  · show Steps p.tables e below (T2.setTop (mkF m 10 #[rv o0, oJ j0, oS, iv i0] [])) _
    refine XS.aloadN X2.here hx rfl (hb hby d3_10) rfl rfl ?_
    show Steps p.tables e below (T2.setTop (mkF m 11 #[rv o0, oJ j0, oS, iv i0] [(.ref o0)])) _
    refine XS.aconstNull X2.here hx rfl (hb hby d3_11) ?_
    show Steps p.tables e below (T2.setTop (mkF m 12 #[rv o0, oJ j0, oS, iv i0] [.null, (.ref o0)])) _
    exact k
  refine own_c2 (putF X2 hx hZ hown (host := "") (Or.inl (hw _ (List.mem_of_getElem? (i := 20) rfl))) Via.refl e2 F_big_o0 E_o0 (Or.inl (hw _ (List.mem_of_getElem? (i := 21) rfl))) (hw _ (List.mem_of_getElem? (i := 3) rfl)) (ty := (.object "java/math/BigDecimal")) (by decide) rfl rfl rfl rfl (hb hby d3_12)) fun T3 h3 X3 e3 W3 => ?_
  replace F_big_o0 := F_big_o0.same W3
  replace E_o0 := E_o0.wr W3
  replace F_unscaled_o0 := F_unscaled_o0.other W3 (Or.inr (sn4 hw))
  replace F_scale_o0 := F_scale_o0.other W3 (Or.inr (sn5 hw))
  replace K0 := K0.wr W3 (Or.inl (List.mem_of_getElem? (i := 0) rfl))
  replace Z0 := Nat.le_trans Z0 (Keep.of_wr W3).1
  replace N0 := Fr.snoc X3 N0 g_o0
  show own_Go p e below _ (T3.setTop (mkF m 15 #[rv o0, oJ j0, oS, iv i0] []))
  exact own_retV X3 Bd.notSynchronized hx Bd.returns (hb hby d3_15) (by
      rw [show T3.heap = h3 from e3]
      exact ⟨rfl, N0, K0, E_o0, F_unscaled_o0, F_scale_o0, F_big_o0⟩) (by decide) (by decide)

theorem d4_0 : decode prog_7_method_8_code 0 = .ok (.aload_n 0, 1) := by decide +kernel
theorem d4_1 : decode prog_7_method_8_code 1 = .ok (.getfield 52, 3) := by decide +kernel
theorem d4_4 : decode prog_7_method_8_code 4 = .ok (.ifnonnull 10, 3) := by decide +kernel
theorem d4_7 : decode prog_7_method_8_code 7 = .ok (.aload_n 0, 1) := by decide +kernel
theorem d4_8 : decode prog_7_method_8_code 8 = .ok (.getfield 60, 3) := by decide +kernel
theorem d4_11 : decode prog_7_method_8_code 11 = .ok (.goto 10, 3) := by decide +kernel
theorem d4_21 : decode prog_7_method_8_code 21 = .ok (.ireturn, 1) := by decide +kernel
theorem pn_4 : plainName "com/example/exfactor/exfactor/core/MutableFigure" = true := by first | (simp [plainName, overriddenIn]; done) | decide +kernel
theorem ef_4 (m : MethodId) (x0 : Addr) : entryFrame m #[(.ref x0)] 1 = mkF m 0 #[rv x0] [] := by first | (simp [entryFrame, mkF, argsToLocals, Value.category]; done) | rfl
def Q4_3 (Z : State) (o0 : Addr) (i0 : Int32) (h0 : Heap) (n0 : Nat) (v : Option Value) (h : Heap) (L : List Loc) : Prop := v = some (.int i0) ∧ Fr n0 L ∧ h = h0
set_option maxRecDepth 65536 in
set_option maxHeartbeats 40000000 in
theorem rm4_3 (l : Launch) (Z : State) (a0 : Array Value) (hw : ∀ d ∈ tables_1, d.before a0 Z = true) (ws : List Jvm.Cond) (o0 : Addr) (i0 : Int32) (h0 : Heap) (n0 : Nat) (Z0 : n0 ≤ h0.size) (F_scale_o0 : Fld Z h0 o0 "com/example/exfactor/exfactor/core/MutableFigure" "scale" "I" (.int i0)) (F_big_o0 : Fld Z h0 o0 "com/example/exfactor/exfactor/core/MutableFigure" "big" "Ljava/math/BigDecimal;" .null) :
    MetFree l (⟨"com/example/exfactor/exfactor/core/MutableFigure", "scale", "()I"⟩ : MethodName) (head1 (Jvm.Cond.code (⟨"com/example/exfactor/exfactor/core/MutableFigure", "scale", "()I"⟩ : MethodName) prog_7_method_8_code 1 (some .int) :: ws) ({ frames := 0, cells := 0, slots := 0, locals := 0 } : Room)) (fun a U => a = #[(.ref o0)] ∧ Z.Warmed39 U.vm ∧ U.heap = h0) (fun _ _ _ _ _ => True) (fun _ U o U' => ∃ v L, o = .returned v ∧ Q4_3 Z o0 i0 h0 n0 v U'.heap L ∧ FrameEnd U o U' L ({ frames := 0, cells := 0, slots := 0, locals := 0 } : Room).cells ({ frames := 0, cells := 0, slots := 0, locals := 0 } : Room).slots) := by
  refine MetFree.of_bodySF (plainFor_of_name pn_4) hisR ?_
  intro p e s m args below meth c s₁ Bd hml0 hP hK
  obtain ⟨rfl, hZ, hh⟩ := hP
  have hx := Bd.exec
  have hby := Bd.bytes
  have hml : c.maxLocals = 1 := hml0
  have hown : s.vm.findClass "com/example/exfactor/exfactor/core/MutableFigure" = some m.cls := findClass_of_methodNamed Bd.named
  have hnm := (name_of_methodNamed Bd.named Bd.method).1
  have X0 : Stand p l e ({ frames := 0, cells := 0, slots := 0, locals := 0 } : Room) s m #[(.ref o0)] below meth c s₁ [] 0 0 := Stand.of_body Bd
  have e0 : s₁.heap = h0 := by rw [← hh, Bd.state]; rfl
  have N0 := Fr.nil n0
  change own_Go p e below (own_Post s (Q4_3 Z o0 i0 h0 n0) ({ frames := 0, cells := 0, slots := 0, locals := 0 } : Room).cells ({ frames := 0, cells := 0, slots := 0, locals := 0 } : Room).slots) (s₁.setTop (entryFrame m #[(.ref o0)] 1))
  refine own_by (fun t k => castTop (ef_4 m o0) k) ?_
  show own_Go p e below _ (s₁.setTop (mkF m 0 #[rv o0] []))
  refine own_by (B := s₁.setTop (mkF m 1 #[rv o0] [(.ref o0)])) (fun t k => ?_) ?_
  · show Steps p.tables e below (s₁.setTop (mkF m 0 #[rv o0] [])) _
    refine XS.aloadN X0.here hx rfl (hb hby d4_0) rfl rfl ?_
    show Steps p.tables e below (s₁.setTop (mkF m 1 #[rv o0] [(.ref o0)])) _
    exact k
  refine own_c1 (getF X0 hx hZ hown (host := "") (Or.inl (hw _ (List.mem_of_getElem? (i := 20) rfl))) Via.refl e0 F_big_o0 rfl rfl (hb hby d4_1)) fun T1 X1 e1 => ?_
  show own_Go p e below _ (T1.setTop (mkF m 4 #[rv o0] [.null]))
  refine own_by (fun t k => XS.ifnonnullNo X1.here hx rfl (hb hby d4_4) rfl k) ?_
  show own_Go p e below _ (T1.setTop (mkF m 7 #[rv o0] []))
  refine own_by (B := T1.setTop (mkF m 8 #[rv o0] [(.ref o0)])) (fun t k => ?_) ?_
  · show Steps p.tables e below (T1.setTop (mkF m 7 #[rv o0] [])) _
    refine XS.aloadN X1.here hx rfl (hb hby d4_7) rfl rfl ?_
    show Steps p.tables e below (T1.setTop (mkF m 8 #[rv o0] [(.ref o0)])) _
    exact k
  refine own_c1 (getF X1 hx hZ hown (host := "") (Or.inl (hw _ (List.mem_of_getElem? (i := 18) rfl))) Via.refl e1 F_scale_o0 rfl rfl (hb hby d4_8)) fun T2 X2 e2 => ?_
  show own_Go p e below _ (T2.setTop (mkF m 11 #[rv o0] [(.int i0)]))
  refine own_by (B := T2.setTop (mkF m 21 #[rv o0] [(.int i0)])) (fun t k => ?_) ?_
  · show Steps p.tables e below (T2.setTop (mkF m 11 #[rv o0] [(.int i0)])) _
    refine XS.goto X2.here hx rfl (pc0 := 11) (pc' := 21) rfl (hb hby d4_11) (by decide) (by decide) ?_
    show Steps p.tables e below (T2.setTop (mkF m 21 #[rv o0] [(.int i0)])) _
    exact k
  exact own_retI X2 Bd.notSynchronized hx Bd.returns (hb hby d4_21) (by
      rw [show T2.heap = h0 from e2]
      exact ⟨rfl, N0, rfl⟩) (by decide) (by decide)

theorem d5_0 : decode prog_7_method_7_code 0 = .ok (.aload_n 0, 1) := by decide +kernel
theorem d5_1 : decode prog_7_method_7_code 1 = .ok (.getfield 52, 3) := by decide +kernel
theorem d5_4 : decode prog_7_method_7_code 4 = .ok (.ifnonnull 13, 3) := by decide +kernel
theorem d5_7 : decode prog_7_method_7_code 7 = .ok (.aload_n 0, 1) := by decide +kernel
theorem d5_8 : decode prog_7_method_7_code 8 = .ok (.getfield 56, 3) := by decide +kernel
theorem d5_11 : decode prog_7_method_7_code 11 = .ok (.invokestatic 63, 3) := by decide +kernel
theorem d5_14 : decode prog_7_method_7_code 14 = .ok (.goto 10, 3) := by decide +kernel
theorem d5_24 : decode prog_7_method_7_code 24 = .ok (.ireturn, 1) := by decide +kernel
theorem pn_5 : plainName "com/example/exfactor/exfactor/core/MutableFigure" = true := by first | (simp [plainName, overriddenIn]; done) | decide +kernel
theorem pd_3 : parseMethodDescriptor "(J)I" = some ⟨[.long], some .int⟩ := by decide +kernel
theorem ef_5 (m : MethodId) (x0 : Addr) : entryFrame m #[(.ref x0)] 1 = mkF m 0 #[rv x0] [] := by first | (simp [entryFrame, mkF, argsToLocals, Value.category]; done) | rfl
def Q5_4 (Z : State) (o0 : Addr) (j0 : Int64) (h0 : Heap) (n0 : Nat) (v : Option Value) (h : Heap) (L : List Loc) : Prop := v = some (.int (fsgn j0)) ∧ Fr n0 L ∧ h = h0
set_option maxRecDepth 65536 in
set_option maxHeartbeats 40000000 in
theorem rm5_4 (l : Launch) (Z : State) (a0 : Array Value) (hw : ∀ d ∈ tables_1, d.before a0 Z = true) (ws : List Jvm.Cond) (o0 : Addr) (j0 : Int64) (h0 : Heap) (n0 : Nat) (Z0 : n0 ≤ h0.size) (F_unscaled_o0 : Fld Z h0 o0 "com/example/exfactor/exfactor/core/MutableFigure" "unscaled" "J" (.long j0)) (F_big_o0 : Fld Z h0 o0 "com/example/exfactor/exfactor/core/MutableFigure" "big" "Ljava/math/BigDecimal;" .null) :
    MetFree l (⟨"com/example/exfactor/exfactor/core/MutableFigure", "signum", "()I"⟩ : MethodName) (head1 (Jvm.Cond.code (⟨"com/example/exfactor/exfactor/core/MutableFigure", "signum", "()I"⟩ : MethodName) prog_7_method_7_code 1 (some .int) :: ws) ({ frames := 1, cells := 0, slots := 0, locals := 13 } : Room)) (fun a U => a = #[(.ref o0)] ∧ Z.Warmed39 U.vm ∧ U.heap = h0) (fun _ _ _ _ _ => True) (fun _ U o U' => ∃ v L, o = .returned v ∧ Q5_4 Z o0 j0 h0 n0 v U'.heap L ∧ FrameEnd U o U' L ({ frames := 1, cells := 0, slots := 0, locals := 13 } : Room).cells ({ frames := 1, cells := 0, slots := 0, locals := 13 } : Room).slots) := by
  refine MetFree.of_bodySF (plainFor_of_name pn_5) hisR ?_
  intro p e s m args below meth c s₁ Bd hml0 hP hK
  obtain ⟨rfl, hZ, hh⟩ := hP
  have hx := Bd.exec
  have hby := Bd.bytes
  have hml : c.maxLocals = 1 := hml0
  have hown : s.vm.findClass "com/example/exfactor/exfactor/core/MutableFigure" = some m.cls := findClass_of_methodNamed Bd.named
  have hnm := (name_of_methodNamed Bd.named Bd.method).1
  have X0 : Stand p l e ({ frames := 1, cells := 0, slots := 0, locals := 13 } : Room) s m #[(.ref o0)] below meth c s₁ [] 0 0 := Stand.of_body Bd
  have e0 : s₁.heap = h0 := by rw [← hh, Bd.state]; rfl
  have N0 := Fr.nil n0
  change own_Go p e below (own_Post s (Q5_4 Z o0 j0 h0 n0) ({ frames := 1, cells := 0, slots := 0, locals := 13 } : Room).cells ({ frames := 1, cells := 0, slots := 0, locals := 13 } : Room).slots) (s₁.setTop (entryFrame m #[(.ref o0)] 1))
  refine own_by (fun t k => castTop (ef_5 m o0) k) ?_
  show own_Go p e below _ (s₁.setTop (mkF m 0 #[rv o0] []))
  refine own_by (B := s₁.setTop (mkF m 1 #[rv o0] [(.ref o0)])) (fun t k => ?_) ?_
  · show Steps p.tables e below (s₁.setTop (mkF m 0 #[rv o0] [])) _
    refine XS.aloadN X0.here hx rfl (hb hby d5_0) rfl rfl ?_
    show Steps p.tables e below (s₁.setTop (mkF m 1 #[rv o0] [(.ref o0)])) _
    exact k
  refine own_c1 (getF X0 hx hZ hown (host := "") (Or.inl (hw _ (List.mem_of_getElem? (i := 20) rfl))) Via.refl e0 F_big_o0 rfl rfl (hb hby d5_1)) fun T1 X1 e1 => ?_
  show own_Go p e below _ (T1.setTop (mkF m 4 #[rv o0] [.null]))
  refine own_by (fun t k => XS.ifnonnullNo X1.here hx rfl (hb hby d5_4) rfl k) ?_
  show own_Go p e below _ (T1.setTop (mkF m 7 #[rv o0] []))
  refine own_by (B := T1.setTop (mkF m 8 #[rv o0] [(.ref o0)])) (fun t k => ?_) ?_
  · show Steps p.tables e below (T1.setTop (mkF m 7 #[rv o0] [])) _
    refine XS.aloadN X1.here hx rfl (hb hby d5_7) rfl rfl ?_
    show Steps p.tables e below (T1.setTop (mkF m 8 #[rv o0] [(.ref o0)])) _
    exact k
  refine own_c1 (getF X1 hx hZ hown (host := "") (Or.inl (hw _ (List.mem_of_getElem? (i := 16) rfl))) Via.refl e1 F_unscaled_o0 rfl rfl (hb hby d5_8)) fun T2 X2 e2 => ?_
  show own_Go p e below _ (T2.setTop (mkF m 11 #[rv o0] [(.long j0)]))
  refine own_cc (own_callS X2 hx hZ (y := (⟨"java/lang/Long", "signum", "(J)I"⟩ : MethodName)) hown (hw _ (List.mem_of_getElem? (i := 32) rfl)) (hw _ (List.mem_of_getElem? (i := 33) rfl)) (hw _ (List.mem_of_getElem? (i := 34) rfl)) (hw _ (List.mem_of_getElem? (i := 35) rfl)) (by decide) (rm6 l Z a0 hw [] j0 h0 n0 Z0 ) e2 0 (by decide) (by decide) (by decide) (by decide) rfl (by rw [hml]; rfl) [(.long j0)] [] rfl (lenOf pd_3 rfl) rfl (by show 2 * 0 + _ ≤ _; exact Nat.le_of_eq rfl) (hb hby d5_11)) fun T4 L4 v4 X4 hQ4 => ?_
  obtain ⟨rfl, N4, e4⟩ := hQ4
  replace N0 := Fr.app N0 N4
  show own_Go p e below _ (T4.setTop (mkF m 14 #[rv o0] [(.int (fsgn j0))]))
  refine own_by (B := T4.setTop (mkF m 24 #[rv o0] [(.int (fsgn j0))])) (fun t k => ?_) ?_
  · show Steps p.tables e below (T4.setTop (mkF m 14 #[rv o0] [(.int (fsgn j0))])) _
    refine XS.goto X4.here hx rfl (pc0 := 14) (pc' := 24) rfl (hb hby d5_14) (by decide) (by decide) ?_
    show Steps p.tables e below (T4.setTop (mkF m 24 #[rv o0] [(.int (fsgn j0))])) _
    exact k
  exact own_retI X4 Bd.notSynchronized hx Bd.returns (hb hby d5_24) (by
      rw [show T4.heap = h0 from e4]
      exact ⟨rfl, N0, rfl⟩) (by decide) (by decide)

theorem d9_0 : decode prog_7_method_18_code 0 = .ok (.iload_n 2, 1) := by decide +kernel
theorem d9_1 : decode prog_7_method_18_code 1 = .ok (.bipush 18, 2) := by decide +kernel
theorem d9_3 : decode prog_7_method_18_code 3 = .ok (.if_icmp .le 9, 3) := by decide +kernel
theorem d9_12 : decode prog_7_method_18_code 12 = .ok (.lload_n 0, 1) := by decide +kernel
theorem d9_13 : decode prog_7_method_18_code 13 = .ok (.getstatic 123, 3) := by decide +kernel
theorem d9_16 : decode prog_7_method_18_code 16 = .ok (.iload_n 2, 1) := by decide +kernel
theorem d9_17 : decode prog_7_method_18_code 17 = .ok (.laload, 1) := by decide +kernel
theorem d9_18 : decode prog_7_method_18_code 18 = .ok (.invokestatic 95, 3) := by decide +kernel
theorem d9_21 : decode prog_7_method_18_code 21 = .ok (.lreturn, 1) := by decide +kernel
theorem pn_9 : plainName "com/example/exfactor/exfactor/core/MutableFigure" = true := by first | (simp [plainName, overriddenIn]; done) | decide +kernel
theorem ef_9 (m : MethodId) (x0 : Int64) (x1 : Int32) : entryFrame m #[(.long x0), (.int x1)] 3 = mkF m 0 #[oJ x0, oS, iv x1] [] := by first | (simp [entryFrame, mkF, argsToLocals, Value.category]; done) | rfl
def Q9_5 (Z : State) (j0 : Int64) (o0 : Addr) (k0 : ClassId) (j1 : Int64) (j2 : Int64) (j3 : Int64) (j4 : Int64) (j5 : Int64) (j6 : Int64) (j7 : Int64) (j8 : Int64) (j9 : Int64) (j10 : Int64) (j11 : Int64) (j12 : Int64) (j13 : Int64) (j14 : Int64) (j15 : Int64) (j16 : Int64) (j17 : Int64) (j18 : Int64) (j19 : Int64) (h0 : Heap) (n0 : Nat) (v : Option Value) (h : Heap) (L : List Loc) : Prop := v = some (.long (fme j0 j1)) ∧ Fr n0 L ∧ h = h0
set_option maxRecDepth 65536 in
set_option maxHeartbeats 40000000 in
theorem rm9_5 (l : Launch) (Z : State) (a0 : Array Value) (hw : ∀ d ∈ tables_1, d.before a0 Z = true) (ws : List Jvm.Cond) (j0 : Int64) (o0 : Addr) (k0 : ClassId) (j1 : Int64) (j2 : Int64) (j3 : Int64) (j4 : Int64) (j5 : Int64) (j6 : Int64) (j7 : Int64) (j8 : Int64) (j9 : Int64) (j10 : Int64) (j11 : Int64) (j12 : Int64) (j13 : Int64) (j14 : Int64) (j15 : Int64) (j16 : Int64) (j17 : Int64) (j18 : Int64) (j19 : Int64) (h0 : Heap) (n0 : Nat) (Z0 : n0 ≤ h0.size) (V_o0 : Arv Z h0 o0 k0 .long (19 : Int32) [(.long j1), (.long j2), (.long j3), (.long j4), (.long j5), (.long j6), (.long j7), (.long j8), (.long j9), (.long j10), (.long j11), (.long j12), (.long j13), (.long j14), (.long j15), (.long j16), (.long j17), (.long j18), (.long j19)] (.long (0 : Int64))) (S_POWERS_OF_TEN : Sta Z Z.heap "com/example/exfactor/exfactor/core/MutableFigure" "POWERS_OF_TEN" "[J" (.ref o0)) (OZ : Old Z n0 h0) :
    MetFree l (⟨"com/example/exfactor/exfactor/core/MutableFigure", "scaleUp", "(JI)J"⟩ : MethodName) (head1 (Jvm.Cond.code (⟨"com/example/exfactor/exfactor/core/MutableFigure", "scaleUp", "(JI)J"⟩ : MethodName) prog_7_method_18_code 3 (some .long) :: ws) ({ frames := 2, cells := 0, slots := 0, locals := 50 } : Room)) (fun a U => a = #[(.long j0), (.int (0 : Int32))] ∧ Z.Warmed39 U.vm ∧ U.heap = h0) (fun _ _ _ _ _ => True) (fun _ U o U' => ∃ v L, o = .returned v ∧ Q9_5 Z j0 o0 k0 j1 j2 j3 j4 j5 j6 j7 j8 j9 j10 j11 j12 j13 j14 j15 j16 j17 j18 j19 h0 n0 v U'.heap L ∧ FrameEnd U o U' L ({ frames := 2, cells := 0, slots := 0, locals := 50 } : Room).cells ({ frames := 2, cells := 0, slots := 0, locals := 50 } : Room).slots) := by
  refine MetFree.of_bodySF (plainFor_of_name pn_9) hisR ?_
  intro p e s m args below meth c s₁ Bd hml0 hP hK
  obtain ⟨rfl, hZ, hh⟩ := hP
  have hx := Bd.exec
  have hby := Bd.bytes
  have hml : c.maxLocals = 3 := hml0
  have hown : s.vm.findClass "com/example/exfactor/exfactor/core/MutableFigure" = some m.cls := findClass_of_methodNamed Bd.named
  have hnm := (name_of_methodNamed Bd.named Bd.method).1
  have X0 : Stand p l e ({ frames := 2, cells := 0, slots := 0, locals := 50 } : Room) s m #[(.long j0), (.int (0 : Int32))] below meth c s₁ [] 0 0 := Stand.of_body Bd
  have e0 : s₁.heap = h0 := by rw [← hh, Bd.state]; rfl
  have N0 := Fr.nil n0
  change own_Go p e below (own_Post s (Q9_5 Z j0 o0 k0 j1 j2 j3 j4 j5 j6 j7 j8 j9 j10 j11 j12 j13 j14 j15 j16 j17 j18 j19 h0 n0) ({ frames := 2, cells := 0, slots := 0, locals := 50 } : Room).cells ({ frames := 2, cells := 0, slots := 0, locals := 50 } : Room).slots) (s₁.setTop (entryFrame m #[(.long j0), (.int (0 : Int32))] 3))
  refine own_by (fun t k => castTop (ef_9 m j0 (0 : Int32)) k) ?_
  show own_Go p e below _ (s₁.setTop (mkF m 0 #[oJ j0, oS, iv (0 : Int32)] []))
  refine own_by (B := s₁.setTop (mkF m 13 #[oJ j0, oS, iv (0 : Int32)] [(.long j0)])) (fun t k => ?_) ?_
  · show Steps p.tables e below (s₁.setTop (mkF m 0 #[oJ j0, oS, iv (0 : Int32)] [])) _
    refine XS.iloadN X0.here hx rfl (hb hby d9_0) rfl ?_
    show Steps p.tables e below (s₁.setTop (mkF m 1 #[oJ j0, oS, iv (0 : Int32)] [(.int (0 : Int32))])) _
    refine XS.bipush X0.here hx rfl (hb hby d9_1) ?_
    show Steps p.tables e below (s₁.setTop (mkF m 3 #[oJ j0, oS, iv (0 : Int32)] [(.int (18 : Int32)), (.int (0 : Int32))])) _
    refine XS.icmpYes X0.here hx rfl (pc0 := 3) (pc' := 12) rfl (hb hby d9_3) rfl (flt (by decide : ¬ ((18 : Int32) < (0 : Int32)))).2.2.2 (by decide) (by decide) ?_
    show Steps p.tables e below (s₁.setTop (mkF m 12 #[oJ j0, oS, iv (0 : Int32)] [])) _
    refine XS.lloadN X0.here hx rfl (hb hby d9_12) rfl ?_
    show Steps p.tables e below (s₁.setTop (mkF m 13 #[oJ j0, oS, iv (0 : Int32)] [(.long j0)])) _
    exact k
  refine own_c1 (getS2 X0 hx hZ hown (host := "") (Or.inl (hw _ (List.mem_of_getElem? (i := 47) rfl))) Via.refl e0 (S_POWERS_OF_TEN.ext OZ.2) rfl (hb hby d9_13)) fun T1 X1 e1 => ?_
  show own_Go p e below _ (T1.setTop (mkF m 16 #[oJ j0, oS, iv (0 : Int32)] [(.ref o0), (.long j0)]))
  refine own_by (B := T1.setTop (mkF m 18 #[oJ j0, oS, iv (0 : Int32)] [(.long j1), (.long j0)])) (fun t k => ?_) ?_
  · show Steps p.tables e below (T1.setTop (mkF m 16 #[oJ j0, oS, iv (0 : Int32)] [(.ref o0), (.long j0)])) _
    refine XS.iloadN X1.here hx rfl (hb hby d9_16) rfl ?_
    show Steps p.tables e below (T1.setTop (mkF m 17 #[oJ j0, oS, iv (0 : Int32)] [(.int (0 : Int32)), (.ref o0), (.long j0)])) _
    obtain ⟨cl2, Ar2, q2, S2, N2, H2, G2⟩ := id V_o0
    have hin2 : ¬ ((0 : Int32) < 0 ∨ cl2.slots.size ≤ ((0 : Int32)).toNatClampNeg) := inb_of S2 ⟨by decide, by decide⟩
    have hat2 : cl2.slots[((0 : Int32)).toNatClampNeg]? = some (.long j1) := H2.at hin2 rfl
    refine X1.laload hx (j := (0 : Int32)) (v := (.long j1)) (by rw [show T1.heap = h0 from e1]; exact Ar2.1) (State.isArrayOf_alike hZ.alike Ar2.2.1) Ar2.2.2 hin2 hat2 (g := (mkF m 17 #[oJ j0, oS, iv (0 : Int32)] [(.int (0 : Int32)), (.ref o0), (.long j0)])) rfl rfl (hb hby d9_17) _ ?_
    show Steps p.tables e below (T1.setTop (mkF m 18 #[oJ j0, oS, iv (0 : Int32)] [(.long j1), (.long j0)])) _
    exact k
  refine own_cc (own_callS X1 hx hZ (y := (⟨"com/example/exfactor/exfactor/core/MutableFigure", "multiplyExactly", "(JJ)J"⟩ : MethodName)) hown (hw _ (List.mem_of_getElem? (i := 49) rfl)) (hw _ (List.mem_of_getElem? (i := 50) rfl)) (hw _ (List.mem_of_getElem? (i := 4) rfl)) (hw _ (List.mem_of_getElem? (i := 51) rfl)) (by decide) (rm10 l Z a0 hw [] j0 j1 h0 n0 Z0 ) e1 0 (by decide) (by decide) (by decide) (by decide) rfl (by rw [hml]; rfl) [(.long j0), (.long j1)] [] rfl (lenOf pd_7 rfl) rfl (by show 2 * 0 + _ ≤ _; exact Nat.le_of_eq rfl) (hb hby d9_18)) fun T4 L4 v4 X4 hQ4 => ?_
  obtain ⟨rfl, N4, e4⟩ := hQ4
  replace N0 := Fr.app N0 N4
  show own_Go p e below _ (T4.setTop (mkF m 21 #[oJ j0, oS, iv (0 : Int32)] [(.long (fme j0 j1))]))
  exact own_retL X4 Bd.notSynchronized hx Bd.returns (hb hby d9_21) (by
      rw [show T4.heap = h0 from e4]
      exact ⟨rfl, N0, rfl⟩) (by decide) (by decide)

theorem d8_0 : decode prog_7_method_17_code 0 = .ok (.iload_n 3, 1) := by decide +kernel
theorem d8_1 : decode prog_7_method_17_code 1 = .ok (.ifCond .lt 9, 3) := by decide +kernel
theorem d8_4 : decode prog_7_method_17_code 4 = .ok (.iload_n 3, 1) := by decide +kernel
theorem d8_5 : decode prog_7_method_17_code 5 = .ok (.bipush 18, 2) := by decide +kernel
theorem d8_7 : decode prog_7_method_17_code 7 = .ok (.if_icmp .le 7, 3) := by decide +kernel
theorem d8_14 : decode prog_7_method_17_code 14 = .ok (.iload_n 3, 1) := by decide +kernel
theorem d8_15 : decode prog_7_method_17_code 15 = .ok (.iload_n 2, 1) := by decide +kernel
theorem d8_16 : decode prog_7_method_17_code 16 = .ok (.if_icmp .lt 11, 3) := by decide +kernel
theorem d8_19 : decode prog_7_method_17_code 19 = .ok (.lload_n 0, 1) := by decide +kernel
theorem d8_20 : decode prog_7_method_17_code 20 = .ok (.iload_n 3, 1) := by decide +kernel
theorem d8_21 : decode prog_7_method_17_code 21 = .ok (.iload_n 2, 1) := by decide +kernel
theorem d8_22 : decode prog_7_method_17_code 22 = .ok (.isub, 1) := by decide +kernel
theorem d8_23 : decode prog_7_method_17_code 23 = .ok (.invokestatic 83, 3) := by decide +kernel
theorem d8_26 : decode prog_7_method_17_code 26 = .ok (.lreturn, 1) := by decide +kernel
theorem pn_8 : plainName "com/example/exfactor/exfactor/core/MutableFigure" = true := by first | (simp [plainName, overriddenIn]; done) | decide +kernel
theorem pd_6 : parseMethodDescriptor "(JI)J" = some ⟨[.long, .int], some .long⟩ := by decide +kernel
theorem ef_8 (m : MethodId) (x0 : Int64) (x1 : Int32) (x2 : Int32) : entryFrame m #[(.long x0), (.int x1), (.int x2)] 5 = mkF m 0 #[oJ x0, oS, iv x1, iv x2, oU] [] := by first | (simp [entryFrame, mkF, argsToLocals, Value.category]; done) | rfl
def Q8_6 (Z : State) (j0 : Int64) (i0 : Int32) (o0 : Addr) (k0 : ClassId) (j1 : Int64) (j2 : Int64) (j3 : Int64) (j4 : Int64) (j5 : Int64) (j6 : Int64) (j7 : Int64) (j8 : Int64) (j9 : Int64) (j10 : Int64) (j11 : Int64) (j12 : Int64) (j13 : Int64) (j14 : Int64) (j15 : Int64) (j16 : Int64) (j17 : Int64) (j18 : Int64) (j19 : Int64) (h0 : Heap) (n0 : Nat) (v : Option Value) (h : Heap) (L : List Loc) : Prop := v = some (.long (fme j0 j1)) ∧ Fr n0 L ∧ h = h0
set_option maxRecDepth 65536 in
set_option maxHeartbeats 40000000 in
theorem rm8_6 (l : Launch) (Z : State) (a0 : Array Value) (hw : ∀ d ∈ tables_1, d.before a0 Z = true) (ws : List Jvm.Cond) (j0 : Int64) (i0 : Int32) (o0 : Addr) (k0 : ClassId) (j1 : Int64) (j2 : Int64) (j3 : Int64) (j4 : Int64) (j5 : Int64) (j6 : Int64) (j7 : Int64) (j8 : Int64) (j9 : Int64) (j10 : Int64) (j11 : Int64) (j12 : Int64) (j13 : Int64) (j14 : Int64) (j15 : Int64) (j16 : Int64) (j17 : Int64) (j18 : Int64) (j19 : Int64) (h0 : Heap) (n0 : Nat) (Z0 : n0 ≤ h0.size) (V_o0 : Arv Z h0 o0 k0 .long (19 : Int32) [(.long j1), (.long j2), (.long j3), (.long j4), (.long j5), (.long j6), (.long j7), (.long j8), (.long j9), (.long j10), (.long j11), (.long j12), (.long j13), (.long j14), (.long j15), (.long j16), (.long j17), (.long j18), (.long j19)] (.long (0 : Int64))) (S_POWERS_OF_TEN : Sta Z Z.heap "com/example/exfactor/exfactor/core/MutableFigure" "POWERS_OF_TEN" "[J" (.ref o0)) (OZ : Old Z n0 h0) (hp0 : ¬ (i0 < (0 : Int32))) (hp1 : ¬ ((18 : Int32) < i0)) :
    MetFree l (⟨"com/example/exfactor/exfactor/core/MutableFigure", "rescale", "(JII)J"⟩ : MethodName) (head1 (Jvm.Cond.code (⟨"com/example/exfactor/exfactor/core/MutableFigure", "rescale", "(JII)J"⟩ : MethodName) prog_7_method_17_code 5 (some .long) :: ws) ({ frames := 3, cells := 0, slots := 0, locals := 64 } : Room)) (fun a U => a = #[(.long j0), (.int i0), (.int i0)] ∧ Z.Warmed39 U.vm ∧ U.heap = h0) (fun _ _ _ _ _ => True) (fun _ U o U' => ∃ v L, o = .returned v ∧ Q8_6 Z j0 i0 o0 k0 j1 j2 j3 j4 j5 j6 j7 j8 j9 j10 j11 j12 j13 j14 j15 j16 j17 j18 j19 h0 n0 v U'.heap L ∧ FrameEnd U o U' L ({ frames := 3, cells := 0, slots := 0, locals := 64 } : Room).cells ({ frames := 3, cells := 0, slots := 0, locals := 64 } : Room).slots) := by
  refine MetFree.of_bodySF (plainFor_of_name pn_8) hisR ?_
  intro p e s m args below meth c s₁ Bd hml0 hP hK
  obtain ⟨rfl, hZ, hh⟩ := hP
  have hx := Bd.exec
  have hby := Bd.bytes
  have hml : c.maxLocals = 5 := hml0
  have hown : s.vm.findClass "com/example/exfactor/exfactor/core/MutableFigure" = some m.cls := findClass_of_methodNamed Bd.named
  have hnm := (name_of_methodNamed Bd.named Bd.method).1
  have X0 : Stand p l e ({ frames := 3, cells := 0, slots := 0, locals := 64 } : Room) s m #[(.long j0), (.int i0), (.int i0)] below meth c s₁ [] 0 0 := Stand.of_body Bd
  have e0 : s₁.heap = h0 := by rw [← hh, Bd.state]; rfl
  have N0 := Fr.nil n0
  change own_Go p e below (own_Post s (Q8_6 Z j0 i0 o0 k0 j1 j2 j3 j4 j5 j6 j7 j8 j9 j10 j11 j12 j13 j14 j15 j16 j17 j18 j19 h0 n0) ({ frames := 3, cells := 0, slots := 0, locals := 64 } : Room).cells ({ frames := 3, cells := 0, slots := 0, locals := 64 } : Room).slots) (s₁.setTop (entryFrame m #[(.long j0), (.int i0), (.int i0)] 5))
  refine own_by (fun t k => castTop (ef_8 m j0 i0 i0) k) ?_
  show own_Go p e below _ (s₁.setTop (mkF m 0 #[oJ j0, oS, iv i0, iv i0, oU] []))
  refine own_by (B := s₁.setTop (mkF m 23 #[oJ j0, oS, iv i0, iv i0, oU] [(.int (0 : Int32)), (.long j0)])) (fun t k => ?_) ?_
  · show Steps p.tables e below (s₁.setTop (mkF m 0 #[oJ j0, oS, iv i0, iv i0, oU] [])) _
    refine XS.iloadN X0.here hx rfl (hb hby d8_0) rfl ?_
    show Steps p.tables e below (s₁.setTop (mkF m 1 #[oJ j0, oS, iv i0, iv i0, oU] [(.int i0)])) _
    refine XS.ifNo X0.here hx rfl (hb hby d8_1) rfl ((if0 _ _).trans (flt hp0).1) ?_
    show Steps p.tables e below (s₁.setTop (mkF m 4 #[oJ j0, oS, iv i0, iv i0, oU] [])) _
    refine XS.iloadN X0.here hx rfl (hb hby d8_4) rfl ?_
    show Steps p.tables e below (s₁.setTop (mkF m 5 #[oJ j0, oS, iv i0, iv i0, oU] [(.int i0)])) _
    refine XS.bipush X0.here hx rfl (hb hby d8_5) ?_
    show Steps p.tables e below (s₁.setTop (mkF m 7 #[oJ j0, oS, iv i0, iv i0, oU] [(.int (18 : Int32)), (.int i0)])) _
    refine XS.icmpYes X0.here hx rfl (pc0 := 7) (pc' := 14) rfl (hb hby d8_7) rfl (flt hp1).2.2.2 (by decide) (by decide) ?_
    show Steps p.tables e below (s₁.setTop (mkF m 14 #[oJ j0, oS, iv i0, iv i0, oU] [])) _
    refine XS.iloadN X0.here hx rfl (hb hby d8_14) rfl ?_
    show Steps p.tables e below (s₁.setTop (mkF m 15 #[oJ j0, oS, iv i0, iv i0, oU] [(.int i0)])) _
    refine XS.iloadN X0.here hx rfl (hb hby d8_15) rfl ?_
    show Steps p.tables e below (s₁.setTop (mkF m 16 #[oJ j0, oS, iv i0, iv i0, oU] [(.int i0), (.int i0)])) _
    refine XS.icmpNo X0.here hx rfl (hb hby d8_16) rfl (flt (by first | exact Int32.lt_irrefl | exact Int64.lt_irrefl)).1 ?_
    show Steps p.tables e below (s₁.setTop (mkF m 19 #[oJ j0, oS, iv i0, iv i0, oU] [])) _
    refine XS.lloadN X0.here hx rfl (hb hby d8_19) rfl ?_
    show Steps p.tables e below (s₁.setTop (mkF m 20 #[oJ j0, oS, iv i0, iv i0, oU] [(.long j0)])) _
    refine XS.iloadN X0.here hx rfl (hb hby d8_20) rfl ?_
    show Steps p.tables e below (s₁.setTop (mkF m 21 #[oJ j0, oS, iv i0, iv i0, oU] [(.int i0), (.long j0)])) _
    refine XS.iloadN X0.here hx rfl (hb hby d8_21) rfl ?_
    show Steps p.tables e below (s₁.setTop (mkF m 22 #[oJ j0, oS, iv i0, iv i0, oU] [(.int i0), (.int i0), (.long j0)])) _
    refine XS.isub X0.here hx rfl (hb hby d8_22) rfl ?_
    rw [Int32.sub_self]
    show Steps p.tables e below (s₁.setTop (mkF m 23 #[oJ j0, oS, iv i0, iv i0, oU] [(.int (0 : Int32)), (.long j0)])) _
    exact k
  refine own_cc (own_callS X0 hx hZ (y := (⟨"com/example/exfactor/exfactor/core/MutableFigure", "scaleUp", "(JI)J"⟩ : MethodName)) hown (hw _ (List.mem_of_getElem? (i := 44) rfl)) (hw _ (List.mem_of_getElem? (i := 45) rfl)) (hw _ (List.mem_of_getElem? (i := 4) rfl)) (hw _ (List.mem_of_getElem? (i := 46) rfl)) (by decide) (rm9_5 l Z a0 hw [] j0 o0 k0 j1 j2 j3 j4 j5 j6 j7 j8 j9 j10 j11 j12 j13 j14 j15 j16 j17 j18 j19 h0 n0 Z0 V_o0 S_POWERS_OF_TEN OZ) e0 0 (by decide) (by decide) (by decide) (by decide) rfl (by rw [hml]; rfl) [(.long j0), (.int (0 : Int32))] [] rfl (lenOf pd_6 rfl) rfl (by show 2 * 0 + _ ≤ _; exact Nat.le_of_eq rfl) (hb hby d8_23)) fun T2 L2 v2 X2 hQ2 => ?_
  obtain ⟨rfl, N2, e2⟩ := hQ2
  replace N0 := Fr.app N0 N2
  show own_Go p e below _ (T2.setTop (mkF m 26 #[oJ j0, oS, iv i0, iv i0, oU] [(.long (fme j0 j1))]))
  exact own_retL X2 Bd.notSynchronized hx Bd.returns (hb hby d8_26) (by
      rw [show T2.heap = h0 from e2]
      exact ⟨rfl, N0, rfl⟩) (by decide) (by decide)

theorem d7_0 : decode prog_7_method_15_code 0 = .ok (.aload_n 0, 1) := by decide +kernel
theorem d7_1 : decode prog_7_method_15_code 1 = .ok (.getfield 52, 3) := by decide +kernel
theorem d7_4 : decode prog_7_method_15_code 4 = .ok (.ifnonnull 18, 3) := by decide +kernel
theorem d7_7 : decode prog_7_method_15_code 7 = .ok (.aload_n 0, 1) := by decide +kernel
theorem d7_8 : decode prog_7_method_15_code 8 = .ok (.getfield 56, 3) := by decide +kernel
theorem d7_11 : decode prog_7_method_15_code 11 = .ok (.aload_n 0, 1) := by decide +kernel
theorem d7_12 : decode prog_7_method_15_code 12 = .ok (.getfield 60, 3) := by decide +kernel
theorem d7_15 : decode prog_7_method_15_code 15 = .ok (.iload_n 1, 1) := by decide +kernel
theorem d7_16 : decode prog_7_method_15_code 16 = .ok (.invokestatic 99, 3) := by decide +kernel
theorem d7_19 : decode prog_7_method_15_code 19 = .ok (.goto 6, 3) := by decide +kernel
theorem d7_25 : decode prog_7_method_15_code 25 = .ok (.lreturn, 1) := by decide +kernel
theorem pn_7 : plainName "com/example/exfactor/exfactor/core/MutableFigure" = true := by first | (simp [plainName, overriddenIn]; done) | decide +kernel
theorem pd_5 : parseMethodDescriptor "(JII)J" = some ⟨[.long, .int, .int], some .long⟩ := by decide +kernel
theorem ef_7 (m : MethodId) (x0 : Addr) (x1 : Int32) : entryFrame m #[(.ref x0), (.int x1)] 2 = mkF m 0 #[rv x0, iv x1] [] := by first | (simp [entryFrame, mkF, argsToLocals, Value.category]; done) | rfl
def Q7_7 (Z : State) (o0 : Addr) (i0 : Int32) (o1 : Addr) (j0 : Int64) (k0 : ClassId) (j1 : Int64) (j2 : Int64) (j3 : Int64) (j4 : Int64) (j5 : Int64) (j6 : Int64) (j7 : Int64) (j8 : Int64) (j9 : Int64) (j10 : Int64) (j11 : Int64) (j12 : Int64) (j13 : Int64) (j14 : Int64) (j15 : Int64) (j16 : Int64) (j17 : Int64) (j18 : Int64) (j19 : Int64) (h0 : Heap) (n0 : Nat) (v : Option Value) (h : Heap) (L : List Loc) : Prop := v = some (.long (fme j0 j1)) ∧ Fr n0 L ∧ h = h0
set_option maxRecDepth 65536 in
set_option maxHeartbeats 40000000 in
theorem rm7_7 (l : Launch) (Z : State) (a0 : Array Value) (hw : ∀ d ∈ tables_1, d.before a0 Z = true) (ws : List Jvm.Cond) (o0 : Addr) (i0 : Int32) (o1 : Addr) (j0 : Int64) (k0 : ClassId) (j1 : Int64) (j2 : Int64) (j3 : Int64) (j4 : Int64) (j5 : Int64) (j6 : Int64) (j7 : Int64) (j8 : Int64) (j9 : Int64) (j10 : Int64) (j11 : Int64) (j12 : Int64) (j13 : Int64) (j14 : Int64) (j15 : Int64) (j16 : Int64) (j17 : Int64) (j18 : Int64) (j19 : Int64) (h0 : Heap) (n0 : Nat) (Z0 : n0 ≤ h0.size) (F_unscaled_o0 : Fld Z h0 o0 "com/example/exfactor/exfactor/core/MutableFigure" "unscaled" "J" (.long j0)) (F_scale_o0 : Fld Z h0 o0 "com/example/exfactor/exfactor/core/MutableFigure" "scale" "I" (.int i0)) (F_big_o0 : Fld Z h0 o0 "com/example/exfactor/exfactor/core/MutableFigure" "big" "Ljava/math/BigDecimal;" .null) (V_o1 : Arv Z h0 o1 k0 .long (19 : Int32) [(.long j1), (.long j2), (.long j3), (.long j4), (.long j5), (.long j6), (.long j7), (.long j8), (.long j9), (.long j10), (.long j11), (.long j12), (.long j13), (.long j14), (.long j15), (.long j16), (.long j17), (.long j18), (.long j19)] (.long (0 : Int64))) (S_POWERS_OF_TEN : Sta Z Z.heap "com/example/exfactor/exfactor/core/MutableFigure" "POWERS_OF_TEN" "[J" (.ref o1)) (OZ : Old Z n0 h0) (hp0 : ¬ (i0 < (0 : Int32))) (hp1 : ¬ ((18 : Int32) < i0)) :
    MetFree l (⟨"com/example/exfactor/exfactor/core/MutableFigure", "unscaledAt", "(I)J"⟩ : MethodName) (head1 (Jvm.Cond.code (⟨"com/example/exfactor/exfactor/core/MutableFigure", "unscaledAt", "(I)J"⟩ : MethodName) prog_7_method_15_code 2 (some .long) :: ws) ({ frames := 4, cells := 0, slots := 0, locals := 80 } : Room)) (fun a U => a = #[(.ref o0), (.int i0)] ∧ Z.Warmed39 U.vm ∧ U.heap = h0) (fun _ _ _ _ _ => True) (fun _ U o U' => ∃ v L, o = .returned v ∧ Q7_7 Z o0 i0 o1 j0 k0 j1 j2 j3 j4 j5 j6 j7 j8 j9 j10 j11 j12 j13 j14 j15 j16 j17 j18 j19 h0 n0 v U'.heap L ∧ FrameEnd U o U' L ({ frames := 4, cells := 0, slots := 0, locals := 80 } : Room).cells ({ frames := 4, cells := 0, slots := 0, locals := 80 } : Room).slots) := by
  refine MetFree.of_bodySF (plainFor_of_name pn_7) hisR ?_
  intro p e s m args below meth c s₁ Bd hml0 hP hK
  obtain ⟨rfl, hZ, hh⟩ := hP
  have hx := Bd.exec
  have hby := Bd.bytes
  have hml : c.maxLocals = 2 := hml0
  have hown : s.vm.findClass "com/example/exfactor/exfactor/core/MutableFigure" = some m.cls := findClass_of_methodNamed Bd.named
  have hnm := (name_of_methodNamed Bd.named Bd.method).1
  have X0 : Stand p l e ({ frames := 4, cells := 0, slots := 0, locals := 80 } : Room) s m #[(.ref o0), (.int i0)] below meth c s₁ [] 0 0 := Stand.of_body Bd
  have e0 : s₁.heap = h0 := by rw [← hh, Bd.state]; rfl
  have N0 := Fr.nil n0
  change own_Go p e below (own_Post s (Q7_7 Z o0 i0 o1 j0 k0 j1 j2 j3 j4 j5 j6 j7 j8 j9 j10 j11 j12 j13 j14 j15 j16 j17 j18 j19 h0 n0) ({ frames := 4, cells := 0, slots := 0, locals := 80 } : Room).cells ({ frames := 4, cells := 0, slots := 0, locals := 80 } : Room).slots) (s₁.setTop (entryFrame m #[(.ref o0), (.int i0)] 2))
  refine own_by (fun t k => castTop (ef_7 m o0 i0) k) ?_
  show own_Go p e below _ (s₁.setTop (mkF m 0 #[rv o0, iv i0] []))
  refine own_by (B := s₁.setTop (mkF m 1 #[rv o0, iv i0] [(.ref o0)])) (fun t k => ?_) ?_
  · show Steps p.tables e below (s₁.setTop (mkF m 0 #[rv o0, iv i0] [])) _
    refine XS.aloadN X0.here hx rfl (hb hby d7_0) rfl rfl ?_
    show Steps p.tables e below (s₁.setTop (mkF m 1 #[rv o0, iv i0] [(.ref o0)])) _
    exact k
  refine own_c1 (getF X0 hx hZ hown (host := "") (Or.inl (hw _ (List.mem_of_getElem? (i := 20) rfl))) Via.refl e0 F_big_o0 rfl rfl (hb hby d7_1)) fun T1 X1 e1 => ?_
  show own_Go p e below _ (T1.setTop (mkF m 4 #[rv o0, iv i0] [.null]))
  refine own_by (fun t k => XS.ifnonnullNo X1.here hx rfl (hb hby d7_4) rfl k) ?_
  show own_Go p e below _ (T1.setTop (mkF m 7 #[rv o0, iv i0] []))
  refine own_by (B := T1.setTop (mkF m 8 #[rv o0, iv i0] [(.ref o0)])) (fun t k => ?_) ?_
  · show Steps p.tables e below (T1.setTop (mkF m 7 #[rv o0, iv i0] [])) _
    refine XS.aloadN X1.here hx rfl (hb hby d7_7) rfl rfl ?_
    show Steps p.tables e below (T1.setTop (mkF m 8 #[rv o0, iv i0] [(.ref o0)])) _
    exact k
  refine own_c1 (getF X1 hx hZ hown (host := "") (Or.inl (hw _ (List.mem_of_getElem? (i := 16) rfl))) Via.refl e1 F_unscaled_o0 rfl rfl (hb hby d7_8)) fun T2 X2 e2 => ?_
  show own_Go p e below _ (T2.setTop (mkF m 11 #[rv o0, iv i0] [(.long j0)]))
  refine own_by (B := T2.setTop (mkF m 12 #[rv o0, iv i0] [(.ref o0), (.long j0)])) (fun t k => ?_) ?_
  · show Steps p.tables e below (T2.setTop (mkF m 11 #[rv o0, iv i0] [(.long j0)])) _
    refine XS.aloadN X2.here hx rfl (hb hby d7_11) rfl rfl ?_
    show Steps p.tables e below (T2.setTop (mkF m 12 #[rv o0, iv i0] [(.ref o0), (.long j0)])) _
    exact k
  refine own_c1 (getF X2 hx hZ hown (host := "") (Or.inl (hw _ (List.mem_of_getElem? (i := 18) rfl))) Via.refl e2 F_scale_o0 rfl rfl (hb hby d7_12)) fun T3 X3 e3 => ?_
  show own_Go p e below _ (T3.setTop (mkF m 15 #[rv o0, iv i0] [(.int i0), (.long j0)]))
  refine own_by (B := T3.setTop (mkF m 16 #[rv o0, iv i0] [(.int i0), (.int i0), (.long j0)])) (fun t k => ?_) ?_
  · show Steps p.tables e below (T3.setTop (mkF m 15 #[rv o0, iv i0] [(.int i0), (.long j0)])) _
    refine XS.iloadN X3.here hx rfl (hb hby d7_15) rfl ?_
    show Steps p.tables e below (T3.setTop (mkF m 16 #[rv o0, iv i0] [(.int i0), (.int i0), (.long j0)])) _
    exact k
  refine own_cc (own_callS X3 hx hZ (y := (⟨"com/example/exfactor/exfactor/core/MutableFigure", "rescale", "(JII)J"⟩ : MethodName)) hown (hw _ (List.mem_of_getElem? (i := 41) rfl)) (hw _ (List.mem_of_getElem? (i := 42) rfl)) (hw _ (List.mem_of_getElem? (i := 4) rfl)) (hw _ (List.mem_of_getElem? (i := 43) rfl)) (by decide) (rm8_6 l Z a0 hw [] j0 i0 o1 k0 j1 j2 j3 j4 j5 j6 j7 j8 j9 j10 j11 j12 j13 j14 j15 j16 j17 j18 j19 h0 n0 Z0 V_o1 S_POWERS_OF_TEN OZ hp0 hp1) e3 0 (by decide) (by decide) (by decide) (by decide) rfl (by rw [hml]; rfl) [(.long j0), (.int i0), (.int i0)] [] rfl (lenOf pd_5 rfl) rfl (by show 2 * 0 + _ ≤ _; exact Nat.le_of_eq rfl) (hb hby d7_16)) fun T5 L5 v5 X5 hQ5 => ?_
  obtain ⟨rfl, N5, e5⟩ := hQ5
  replace N0 := Fr.app N0 N5
  show own_Go p e below _ (T5.setTop (mkF m 19 #[rv o0, iv i0] [(.long (fme j0 j1))]))
  refine own_by (B := T5.setTop (mkF m 25 #[rv o0, iv i0] [(.long (fme j0 j1))])) (fun t k => ?_) ?_
  · show Steps p.tables e below (T5.setTop (mkF m 19 #[rv o0, iv i0] [(.long (fme j0 j1))])) _
    refine XS.goto X5.here hx rfl (pc0 := 19) (pc' := 25) rfl (hb hby d7_19) (by decide) (by decide) ?_
    show Steps p.tables e below (T5.setTop (mkF m 25 #[rv o0, iv i0] [(.long (fme j0 j1))])) _
    exact k
  exact own_retL X5 Bd.notSynchronized hx Bd.returns (hb hby d7_25) (by
      rw [show T5.heap = h0 from e5]
      exact ⟨rfl, N0, rfl⟩) (by decide) (by decide)

def Q14_8 (Z : State) (i0 : Int32) (i1 : Int32) (h0 : Heap) (n0 : Nat) (v : Option Value) (h : Heap) (L : List Loc) : Prop := v = some (.int i0) ∧ Fr n0 L ∧ h = h0
set_option maxRecDepth 65536 in
set_option maxHeartbeats 40000000 in
theorem rm14_8 (l : Launch) (Z : State) (a0 : Array Value) (hw : ∀ d ∈ tables_1, d.before a0 Z = true) (ws : List Jvm.Cond) (i0 : Int32) (i1 : Int32) (h0 : Heap) (n0 : Nat) (Z0 : n0 ≤ h0.size) (hp0 : ¬ (i0 < i1)) :
    MetFree l (⟨"java/lang/Math", "max", "(II)I"⟩ : MethodName) (head1 (Jvm.Cond.code (⟨"java/lang/Math", "max", "(II)I"⟩ : MethodName) jdk_29_method_65_code 2 (some .int) :: ws) ({ frames := 0, cells := 0, slots := 0, locals := 0 } : Room)) (fun a U => a = #[(.int i0), (.int i1)] ∧ Z.Warmed39 U.vm ∧ U.heap = h0) (fun _ _ _ _ _ => True) (fun _ U o U' => ∃ v L, o = .returned v ∧ Q14_8 Z i0 i1 h0 n0 v U'.heap L ∧ FrameEnd U o U' L ({ frames := 0, cells := 0, slots := 0, locals := 0 } : Room).cells ({ frames := 0, cells := 0, slots := 0, locals := 0 } : Room).slots) := by
  refine MetFree.of_bodySF (Jvm.Free.JP.mathPlain rfl (by decide +kernel)) hisR ?_
  intro p e s m args below meth c s₁ Bd hml0 hP hK
  obtain ⟨rfl, hZ, hh⟩ := hP
  have hx := Bd.exec
  have hby := Bd.bytes
  have hml : c.maxLocals = 2 := hml0
  have hown : s.vm.findClass "java/lang/Math" = some m.cls := findClass_of_methodNamed Bd.named
  have hnm := (name_of_methodNamed Bd.named Bd.method).1
  have X0 : Stand p l e ({ frames := 0, cells := 0, slots := 0, locals := 0 } : Room) s m #[(.int i0), (.int i1)] below meth c s₁ [] 0 0 := Stand.of_body Bd
  have e0 : s₁.heap = h0 := by rw [← hh, Bd.state]; rfl
  have N0 := Fr.nil n0
  change own_Go p e below (own_Post s (Q14_8 Z i0 i1 h0 n0) ({ frames := 0, cells := 0, slots := 0, locals := 0 } : Room).cells ({ frames := 0, cells := 0, slots := 0, locals := 0 } : Room).slots) (s₁.setTop (entryFrame m #[(.int i0), (.int i1)] 2))
  refine own_by (fun t k => castTop (ef_14 m i0 i1) k) ?_
  show own_Go p e below _ (s₁.setTop (mkF m 0 #[iv i0, iv i1] []))
  refine own_by (B := s₁.setTop (mkF m 10 #[iv i0, iv i1] [(.int i0)])) (fun t k => ?_) ?_
  · show Steps p.tables e below (s₁.setTop (mkF m 0 #[iv i0, iv i1] [])) _
    refine XS.iloadN X0.here hx rfl (hb hby d14_0) rfl ?_
    show Steps p.tables e below (s₁.setTop (mkF m 1 #[iv i0, iv i1] [(.int i0)])) _
    refine XS.iloadN X0.here hx rfl (hb hby d14_1) rfl ?_
    show Steps p.tables e below (s₁.setTop (mkF m 2 #[iv i0, iv i1] [(.int i1), (.int i0)])) _
    refine XS.icmpNo X0.here hx rfl (hb hby d14_2) rfl (flt hp0).1 ?_
    show Steps p.tables e below (s₁.setTop (mkF m 5 #[iv i0, iv i1] [])) _
    refine XS.iloadN X0.here hx rfl (hb hby d14_5) rfl ?_
    show Steps p.tables e below (s₁.setTop (mkF m 6 #[iv i0, iv i1] [(.int i0)])) _
    refine XS.goto X0.here hx rfl (pc0 := 6) (pc' := 10) rfl (hb hby d14_6) (by decide) (by decide) ?_
    show Steps p.tables e below (s₁.setTop (mkF m 10 #[iv i0, iv i1] [(.int i0)])) _
    exact k
  exact own_retI X0 Bd.notSynchronized hx Bd.returns (hb hby d14_10) (by
      rw [show s₁.heap = h0 from e0]
      exact ⟨rfl, N0, rfl⟩) (by decide) (by decide)

theorem d19_0 : decode jdk_18_method_1_code 0 = .ok (.aload_n 0, 1) := by decide +kernel
theorem d19_1 : decode jdk_18_method_1_code 1 = .ok (.invokespecial 1, 3) := by decide +kernel
theorem d19_4 : decode jdk_18_method_1_code 4 = .ok (.return_, 1) := by decide +kernel
theorem pn_19 : plainName "java/lang/Number" = true := by first | (simp [plainName, overriddenIn]; done) | decide +kernel
theorem ef_19 (m : MethodId) (x0 : Addr) : entryFrame m #[(.ref x0)] 1 = mkF m 0 #[rv x0] [] := by first | (simp [entryFrame, mkF, argsToLocals, Value.category]; done) | rfl
def Q19_9 (Z : State) (o0 : Addr) (h0 : Heap) (n0 : Nat) (v : Option Value) (h : Heap) (L : List Loc) : Prop := v = none ∧ Fr n0 L ∧ h = h0
set_option maxRecDepth 65536 in
set_option maxHeartbeats 40000000 in
theorem rm19_9 (l : Launch) (Z : State) (a0 : Array Value) (hw : ∀ d ∈ tables_1, d.before a0 Z = true) (ws : List Jvm.Cond) (o0 : Addr) (h0 : Heap) (n0 : Nat) (Z0 : n0 ≤ h0.size) :
    MetFree l (⟨"java/lang/Number", "<init>", "()V"⟩ : MethodName) (head1 (Jvm.Cond.code (⟨"java/lang/Number", "<init>", "()V"⟩ : MethodName) jdk_18_method_1_code 1 none :: ws) ({ frames := 1, cells := 0, slots := 0, locals := 12 } : Room)) (fun a U => a = #[(.ref o0)] ∧ Z.Warmed39 U.vm ∧ U.heap = h0) (fun _ _ _ _ _ => True) (fun _ U o U' => ∃ v L, o = .returned v ∧ Q19_9 Z o0 h0 n0 v U'.heap L ∧ FrameEnd U o U' L ({ frames := 1, cells := 0, slots := 0, locals := 12 } : Room).cells ({ frames := 1, cells := 0, slots := 0, locals := 12 } : Room).slots) := by
  refine MetFree.of_bodySF (plainFor_of_name pn_19) hisR ?_
  intro p e s m args below meth c s₁ Bd hml0 hP hK
  obtain ⟨rfl, hZ, hh⟩ := hP
  have hx := Bd.exec
  have hby := Bd.bytes
  have hml : c.maxLocals = 1 := hml0
  have hown : s.vm.findClass "java/lang/Number" = some m.cls := findClass_of_methodNamed Bd.named
  have hnm := (name_of_methodNamed Bd.named Bd.method).1
  have X0 : Stand p l e ({ frames := 1, cells := 0, slots := 0, locals := 12 } : Room) s m #[(.ref o0)] below meth c s₁ [] 0 0 := Stand.of_body Bd
  have e0 : s₁.heap = h0 := by rw [← hh, Bd.state]; rfl
  have N0 := Fr.nil n0
  change own_Go p e below (own_Post s (Q19_9 Z o0 h0 n0) ({ frames := 1, cells := 0, slots := 0, locals := 12 } : Room).cells ({ frames := 1, cells := 0, slots := 0, locals := 12 } : Room).slots) (s₁.setTop (entryFrame m #[(.ref o0)] 1))
  refine own_by (fun t k => castTop (ef_19 m o0) k) ?_
  show own_Go p e below _ (s₁.setTop (mkF m 0 #[rv o0] []))
  refine own_by (B := s₁.setTop (mkF m 1 #[rv o0] [(.ref o0)])) (fun t k => ?_) ?_
  · show Steps p.tables e below (s₁.setTop (mkF m 0 #[rv o0] [])) _
    refine XS.aloadN X0.here hx rfl (hb hby d19_0) rfl rfl ?_
    show Steps p.tables e below (s₁.setTop (mkF m 1 #[rv o0] [(.ref o0)])) _
    exact k
  refine own_c1 (initO X0 hx hZ hown (hw _ (List.mem_of_getElem? (i := 97) rfl)) (hw _ (List.mem_of_getElem? (i := 9) rfl)) (hw _ (List.mem_of_getElem? (i := 10) rfl)) e0 rfl (by rw [hml]; rfl) rfl (hb hby d19_1) (by decide) (W := 0) (by show 2 * 0 + _ ≤ _; exact Nat.le_of_eq rfl) (by decide)) fun T2 X2 e2 => ?_
  show own_Go p e below _ (T2.setTop (mkF m 4 #[rv o0] []))
  exact own_retV X2 Bd.notSynchronized hx Bd.returns (hb hby d19_4) (by
      rw [show T2.heap = h0 from e2]
      exact ⟨rfl, N0, rfl⟩) (by decide) (by decide)

theorem d18_0 : decode jdk_17_method_1_code 0 = .ok (.aload_n 0, 1) := by decide +kernel
theorem d18_1 : decode jdk_17_method_1_code 1 = .ok (.invokespecial 11, 3) := by decide +kernel
theorem d18_4 : decode jdk_17_method_1_code 4 = .ok (.aload_n 0, 1) := by decide +kernel
theorem d18_5 : decode jdk_17_method_1_code 5 = .ok (.iload 4, 2) := by decide +kernel
theorem d18_7 : decode jdk_17_method_1_code 7 = .ok (.putfield 17, 3) := by decide +kernel
theorem d18_10 : decode jdk_17_method_1_code 10 = .ok (.aload_n 0, 1) := by decide +kernel
theorem d18_11 : decode jdk_17_method_1_code 11 = .ok (.iload 5, 2) := by decide +kernel
theorem d18_13 : decode jdk_17_method_1_code 13 = .ok (.putfield 21, 3) := by decide +kernel
theorem d18_16 : decode jdk_17_method_1_code 16 = .ok (.aload_n 0, 1) := by decide +kernel
theorem d18_17 : decode jdk_17_method_1_code 17 = .ok (.lload_n 2, 1) := by decide +kernel
theorem d18_18 : decode jdk_17_method_1_code 18 = .ok (.putfield 24, 3) := by decide +kernel
theorem d18_21 : decode jdk_17_method_1_code 21 = .ok (.aload_n 0, 1) := by decide +kernel
theorem d18_22 : decode jdk_17_method_1_code 22 = .ok (.aload_n 1, 1) := by decide +kernel
theorem d18_23 : decode jdk_17_method_1_code 23 = .ok (.putfield 28, 3) := by decide +kernel
theorem d18_26 : decode jdk_17_method_1_code 26 = .ok (.return_, 1) := by decide +kernel
theorem pn_18 : plainName "java/math/BigDecimal" = true := by first | (simp [plainName, overriddenIn]; done) | decide +kernel
theorem pd_0 : parseMethodDescriptor "()V" = some ⟨[], none⟩ := by decide +kernel
theorem ef_18n (m : MethodId) (x0 : Addr) (x2 : Int64) (x3 : Int32) (x4 : Int32) : entryFrame m #[(.ref x0), .null, (.long x2), (.int x3), (.int x4)] 6 = mkF m 0 #[rv x0, .val .null, oJ x2, oS, iv x3, iv x4] [] := by first | (simp [entryFrame, mkF, argsToLocals, Value.category]; done) | rfl
def Q18_10 (Z : State) (o0 : Addr) (j0 : Int64) (i0 : Int32) (i1 : Int32) (i2 : Int32) (i3 : Int32) (j1 : Int64) (h0 : Heap) (n0 : Nat) (v : Option Value) (h : Heap) (L : List Loc) : Prop := v = none ∧ Fr n0 L ∧ Keep h0 h [o0] ∧ Exa Z h o0 "java/math/BigDecimal" ∧ Fld Z h o0 "java/math/BigDecimal" "scale" "I" (.int i0) ∧ Fld Z h o0 "java/math/BigDecimal" "precision" "I" (.int i1) ∧ Fld Z h o0 "java/math/BigDecimal" "intCompact" "J" (.long j0) ∧ Fld Z h o0 "java/math/BigDecimal" "intVal" "Ljava/math/BigInteger;" .null
set_option maxRecDepth 65536 in
set_option maxHeartbeats 40000000 in
theorem rm18_10 (l : Launch) (Z : State) (a0 : Array Value) (hw : ∀ d ∈ tables_1, d.before a0 Z = true) (ws : List Jvm.Cond) (o0 : Addr) (j0 : Int64) (i0 : Int32) (i1 : Int32) (i2 : Int32) (i3 : Int32) (j1 : Int64) (h0 : Heap) (n0 : Nat) (Z0 : n0 ≤ h0.size) (g_o0 : n0 ≤ o0) (E_o0 : Exa Z h0 o0 "java/math/BigDecimal") (F_scale_o0 : Fld Z h0 o0 "java/math/BigDecimal" "scale" "I" (.int i2)) (F_precision_o0 : Fld Z h0 o0 "java/math/BigDecimal" "precision" "I" (.int i3)) (F_intCompact_o0 : Fld Z h0 o0 "java/math/BigDecimal" "intCompact" "J" (.long j1)) (F_intVal_o0 : Fld Z h0 o0 "java/math/BigDecimal" "intVal" "Ljava/math/BigInteger;" .null) :
    MetFree l (⟨"java/math/BigDecimal", "<init>", "(Ljava/math/BigInteger;JII)V"⟩ : MethodName) (head1 (Jvm.Cond.code (⟨"java/math/BigDecimal", "<init>", "(Ljava/math/BigInteger;JII)V"⟩ : MethodName) jdk_17_method_1_code 6 none :: ws) ({ frames := 2, cells := 0, slots := 0, locals := 24 } : Room)) (fun a U => a = #[(.ref o0), .null, (.long j0), (.int i0), (.int i1)] ∧ Z.Warmed39 U.vm ∧ U.heap = h0) (fun _ _ _ _ _ => True) (fun _ U o U' => ∃ v L, o = .returned v ∧ Q18_10 Z o0 j0 i0 i1 i2 i3 j1 h0 n0 v U'.heap L ∧ FrameEnd U o U' L ({ frames := 2, cells := 0, slots := 0, locals := 24 } : Room).cells ({ frames := 2, cells := 0, slots := 0, locals := 24 } : Room).slots) := by
  refine MetFree.of_bodySF (plainFor_of_name pn_18) hisR ?_
  intro p e s m args below meth c s₁ Bd hml0 hP hK
  obtain ⟨rfl, hZ, hh⟩ := hP
  have hx := Bd.exec
  have hby := Bd.bytes
  have hml : c.maxLocals = 6 := hml0
  have hown : s.vm.findClass "java/math/BigDecimal" = some m.cls := findClass_of_methodNamed Bd.named
  have hnm := (name_of_methodNamed Bd.named Bd.method).1
  have X0 : Stand p l e ({ frames := 2, cells := 0, slots := 0, locals := 24 } : Room) s m #[(.ref o0), .null, (.long j0), (.int i0), (.int i1)] below meth c s₁ [] 0 0 := Stand.of_body Bd
  have e0 : s₁.heap = h0 := by rw [← hh, Bd.state]; rfl
  have N0 := Fr.nil n0
  have K0 : Keep h0 h0 [o0] := Keep.refl h0 _
  change own_Go p e below (own_Post s (Q18_10 Z o0 j0 i0 i1 i2 i3 j1 h0 n0) ({ frames := 2, cells := 0, slots := 0, locals := 24 } : Room).cells ({ frames := 2, cells := 0, slots := 0, locals := 24 } : Room).slots) (s₁.setTop (entryFrame m #[(.ref o0), .null, (.long j0), (.int i0), (.int i1)] 6))
  refine own_by (fun t k => castTop (ef_18n m o0 j0 i0 i1) k) ?_
  show own_Go p e below _ (s₁.setTop (mkF m 0 #[rv o0, .val .null, oJ j0, oS, iv i0, iv i1] []))
  refine own_by (B := s₁.setTop (mkF m 1 #[rv o0, .val .null, oJ j0, oS, iv i0, iv i1] [(.ref o0)])) (fun t k => ?_) ?_
  · show Steps p.tables e below (s₁.setTop (mkF m 0 #[rv o0, .val .null, oJ j0, oS, iv i0, iv i1] [])) _
    refine XS.aloadN X0.here hx rfl (hb hby d18_0) rfl rfl ?_
    show Steps p.tables e below (s₁.setTop (mkF m 1 #[rv o0, .val .null, oJ j0, oS, iv i0, iv i1] [(.ref o0)])) _
    exact k
  refine own_cc (own_callI X0 hx hZ (y := (⟨"java/lang/Number", "<init>", "()V"⟩ : MethodName)) rfl hown (hw _ (List.mem_of_getElem? (i := 91) rfl)) (hw _ (List.mem_of_getElem? (i := 92) rfl)) (hw _ (List.mem_of_getElem? (i := 95) rfl)) (hw _ (List.mem_of_getElem? (i := 96) rfl)) (by decide) (rm19_9 l Z a0 hw [] o0 h0 n0 Z0 ) e0 0 (by decide) (by decide) (by decide) (by decide) rfl (by rw [hml]; rfl) o0 [] [] rfl (lenOf pd_0 rfl) rfl (by show 2 * 0 + _ ≤ _; exact Nat.le_of_eq rfl) (hb hby d18_1)) fun T2 L2 v2 X2 hQ2 => ?_
  obtain ⟨rfl, N2, e2⟩ := hQ2
  replace N0 := Fr.app N0 N2
  show own_Go p e below _ (T2.setTop (mkF m 4 #[rv o0, .val .null, oJ j0, oS, iv i0, iv i1] []))
  refine own_by (B := T2.setTop (mkF m 7 #[rv o0, .val .null, oJ j0, oS, iv i0, iv i1] [(.int i0), (.ref o0)])) (fun t k => ?_) ?_
  · show Steps p.tables e below (T2.setTop (mkF m 4 #[rv o0, .val .null, oJ j0, oS, iv i0, iv i1] [])) _
    refine XS.aloadN X2.here hx rfl (hb hby d18_4) rfl rfl ?_
    show Steps p.tables e below (T2.setTop (mkF m 5 #[rv o0, .val .null, oJ j0, oS, iv i0, iv i1] [(.ref o0)])) _
    refine XS.iload X2.here hx rfl (hb hby d18_5) rfl ?_
    show Steps p.tables e below (T2.setTop (mkF m 7 #[rv o0, .val .null, oJ j0, oS, iv i0, iv i1] [(.int i0), (.ref o0)])) _
    exact k
  refine own_c2 (putF X2 hx hZ hown (host := "") (Or.inl (hw _ (List.mem_of_getElem? (i := 98) rfl))) Via.refl e2 F_scale_o0 E_o0 (Or.inr ⟨(hw _ (List.mem_of_getElem? (i := 99) rfl)), rfl, hnm⟩) (hw _ (List.mem_of_getElem? (i := 86) rfl)) (ty := .int) (by decide) rfl rfl rfl rfl (hb hby d18_7)) fun T3 h3 X3 e3 W3 => ?_
  replace F_scale_o0 := F_scale_o0.same W3
  replace E_o0 := E_o0.wr W3
  replace F_precision_o0 := F_precision_o0.other W3 (Or.inr (sn6 hw))
  replace F_intCompact_o0 := F_intCompact_o0.other W3 (Or.inr (sn7 hw))
  replace F_intVal_o0 := F_intVal_o0.other W3 (Or.inr (sn8 hw))
  replace K0 := K0.wr W3 (Or.inl (List.mem_of_getElem? (i := 0) rfl))
  replace Z0 := Nat.le_trans Z0 (Keep.of_wr W3).1
  replace N0 := Fr.snoc X3 N0 g_o0
  show own_Go p e below _ (T3.setTop (mkF m 10 #[rv o0, .val .null, oJ j0, oS, iv i0, iv i1] []))
  refine own_by (B := T3.setTop (mkF m 13 #[rv o0, .val .null, oJ j0, oS, iv i0, iv i1] [(.int i1), (.ref o0)])) (fun t k => ?_) ?_
  · show Steps p.tables e below (T3.setTop (mkF m 10 #[rv o0, .val .null, oJ j0, oS, iv i0, iv i1] [])) _
    refine XS.aloadN X3.here hx rfl (hb hby d18_10) rfl rfl ?_
    show Steps p.tables e below (T3.setTop (mkF m 11 #[rv o0, .val .null, oJ j0, oS, iv i0, iv i1] [(.ref o0)])) _
    refine XS.iload X3.here hx rfl (hb hby d18_11) rfl ?_
    show Steps p.tables e below (T3.setTop (mkF m 13 #[rv o0, .val .null, oJ j0, oS, iv i0, iv i1] [(.int i1), (.ref o0)])) _
    exact k
  refine own_c2 (putF X3 hx hZ hown (host := "") (Or.inl (hw _ (List.mem_of_getElem? (i := 100) rfl))) Via.refl e3 F_precision_o0 E_o0 (Or.inl (hw _ (List.mem_of_getElem? (i := 101) rfl))) (hw _ (List.mem_of_getElem? (i := 86) rfl)) (ty := .int) (by decide) rfl rfl rfl rfl (hb hby d18_13)) fun T4 h4 X4 e4 W4 => ?_
  replace F_precision_o0 := F_precision_o0.same W4
  replace E_o0 := E_o0.wr W4
  replace F_scale_o0 := F_scale_o0.other W4 (Or.inr (sn9 hw))
  replace F_intCompact_o0 := F_intCompact_o0.other W4 (Or.inr (sn10 hw))
  replace F_intVal_o0 := F_intVal_o0.other W4 (Or.inr (sn11 hw))
  replace K0 := K0.wr W4 (Or.inl (List.mem_of_getElem? (i := 0) rfl))
  replace Z0 := Nat.le_trans Z0 (Keep.of_wr W4).1
  replace N0 := Fr.snoc X4 N0 g_o0
  show own_Go p e below _ (T4.setTop (mkF m 16 #[rv o0, .val .null, oJ j0, oS, iv i0, iv i1] []))
  refine own_by (B := T4.setTop (mkF m 18 #[rv o0, .val .null, oJ j0, oS, iv i0, iv i1] [(.long j0), (.ref o0)])) (fun t k => ?_) ?_
  · show Steps p.tables e below (T4.setTop (mkF m 16 #[rv o0, .val .null, oJ j0, oS, iv i0, iv i1] [])) _
    refine XS.aloadN X4.here hx rfl (hb hby d18_16) rfl rfl ?_
    show Steps p.tables e below (T4.setTop (mkF m 17 #[rv o0, .val .null, oJ j0, oS, iv i0, iv i1] [(.ref o0)])) _
    refine XS.lloadN X4.here hx rfl (hb hby d18_17) rfl ?_
    show Steps p.tables e below (T4.setTop (mkF m 18 #[rv o0, .val .null, oJ j0, oS, iv i0, iv i1] [(.long j0), (.ref o0)])) _
    exact k
  refine own_c2 (putF X4 hx hZ hown (host := "") (Or.inl (hw _ (List.mem_of_getElem? (i := 102) rfl))) Via.refl e4 F_intCompact_o0 E_o0 (Or.inr ⟨(hw _ (List.mem_of_getElem? (i := 103) rfl)), rfl, hnm⟩) (hw _ (List.mem_of_getElem? (i := 86) rfl)) (ty := .long) (by decide) rfl rfl rfl rfl (hb hby d18_18)) fun T5 h5 X5 e5 W5 => ?_
  replace F_intCompact_o0 := F_intCompact_o0.same W5
  replace E_o0 := E_o0.wr W5
  replace F_scale_o0 := F_scale_o0.other W5 (Or.inr (sn12 hw))
  replace F_precision_o0 := F_precision_o0.other W5 (Or.inr (sn13 hw))
  replace F_intVal_o0 := F_intVal_o0.other W5 (Or.inr (sn14 hw))
  replace K0 := K0.wr W5 (Or.inl (List.mem_of_getElem? (i := 0) rfl))
  replace Z0 := Nat.le_trans Z0 (Keep.of_wr W5).1
  replace N0 := Fr.snoc X5 N0 g_o0
  show own_Go p e below _ (T5.setTop (mkF m 21 #[rv o0, .val .null, oJ j0, oS, iv i0, iv i1] []))
  refine own_by (B := T5.setTop (mkF m 23 #[rv o0, .val .null, oJ j0, oS, iv i0, iv i1] [.null, (.ref o0)])) (fun t k => ?_) ?_
  · show Steps p.tables e below (T5.setTop (mkF m 21 #[rv o0, .val .null, oJ j0, oS, iv i0, iv i1] [])) _
    refine XS.aloadN X5.here hx rfl (hb hby d18_21) rfl rfl ?_
    show Steps p.tables e below (T5.setTop (mkF m 22 #[rv o0, .val .null, oJ j0, oS, iv i0, iv i1] [(.ref o0)])) _
    refine XS.aloadN X5.here hx rfl (hb hby d18_22) rfl rfl ?_
    show Steps p.tables e below (T5.setTop (mkF m 23 #[rv o0, .val .null, oJ j0, oS, iv i0, iv i1] [.null, (.ref o0)])) _
    exact k
  refine own_c2 (putF X5 hx hZ hown (host := "") (Or.inl (hw _ (List.mem_of_getElem? (i := 104) rfl))) Via.refl e5 F_intVal_o0 E_o0 (Or.inr ⟨(hw _ (List.mem_of_getElem? (i := 105) rfl)), rfl, hnm⟩) (hw _ (List.mem_of_getElem? (i := 86) rfl)) (ty := (.object "java/math/BigInteger")) (by decide) rfl rfl rfl rfl (hb hby d18_23)) fun T6 h6 X6 e6 W6 => ?_
  replace F_intVal_o0 := F_intVal_o0.same W6
  replace E_o0 := E_o0.wr W6
  replace F_scale_o0 := F_scale_o0.other W6 (Or.inr (sn15 hw))
  replace F_precision_o0 := F_precision_o0.other W6 (Or.inr (sn16 hw))
  replace F_intCompact_o0 := F_intCompact_o0.other W6 (Or.inr (sn17 hw))
  replace K0 := K0.wr W6 (Or.inl (List.mem_of_getElem? (i := 0) rfl))
  replace Z0 := Nat.le_trans Z0 (Keep.of_wr W6).1
  replace N0 := Fr.snoc X6 N0 g_o0
  show own_Go p e below _ (T6.setTop (mkF m 26 #[rv o0, .val .null, oJ j0, oS, iv i0, iv i1] []))
  exact own_retV X6 Bd.notSynchronized hx Bd.returns (hb hby d18_26) (by
      rw [show T6.heap = h6 from e6]
      exact ⟨rfl, N0, K0, E_o0, F_scale_o0, F_precision_o0, F_intCompact_o0, F_intVal_o0⟩) (by decide) (by decide)

theorem d17_0 : decode jdk_17_method_21_code 0 = .ok (.lload_n 0, 1) := by decide +kernel
theorem d17_1 : decode jdk_17_method_21_code 1 = .ok (.lconst 0, 1) := by decide +kernel
theorem d17_2 : decode jdk_17_method_21_code 2 = .ok (.lcmp, 1) := by decide +kernel
theorem d17_3 : decode jdk_17_method_21_code 3 = .ok (.ifCond .lt 20, 3) := by decide +kernel
theorem d17_6 : decode jdk_17_method_21_code 6 = .ok (.lload_n 0, 1) := by decide +kernel
theorem d17_7 : decode jdk_17_method_21_code 7 = .ok (.getstatic 246, 3) := by decide +kernel
theorem d17_10 : decode jdk_17_method_21_code 10 = .ok (.arraylength, 1) := by decide +kernel
theorem d17_11 : decode jdk_17_method_21_code 11 = .ok (.i2l, 1) := by decide +kernel
theorem d17_12 : decode jdk_17_method_21_code 12 = .ok (.lcmp, 1) := by decide +kernel
theorem d17_13 : decode jdk_17_method_21_code 13 = .ok (.ifCond .ge 10, 3) := by decide +kernel
theorem d17_23 : decode jdk_17_method_21_code 23 = .ok (.lload_n 0, 1) := by decide +kernel
theorem d17_24 : decode jdk_17_method_21_code 24 = .ok (.ldc2_w 125, 3) := by decide +kernel
theorem d17_27 : decode jdk_17_method_21_code 27 = .ok (.lcmp, 1) := by decide +kernel
theorem d17_28 : decode jdk_17_method_21_code 28 = .ok (.ifCond .eq 15, 3) := by decide +kernel
theorem d17_31 : decode jdk_17_method_21_code 31 = .ok (.new 3, 3) := by decide +kernel
theorem d17_34 : decode jdk_17_method_21_code 34 = .ok (.dup, 1) := by decide +kernel
theorem d17_35 : decode jdk_17_method_21_code 35 = .ok (.aconst_null, 1) := by decide +kernel
theorem d17_36 : decode jdk_17_method_21_code 36 = .ok (.lload_n 0, 1) := by decide +kernel
theorem d17_37 : decode jdk_17_method_21_code 37 = .ok (.iconst 0, 1) := by decide +kernel
theorem d17_38 : decode jdk_17_method_21_code 38 = .ok (.iconst 0, 1) := by decide +kernel
theorem d17_39 : decode jdk_17_method_21_code 39 = .ok (.invokespecial 243, 3) := by decide +kernel
theorem d17_42 : decode jdk_17_method_21_code 42 = .ok (.areturn, 1) := by decide +kernel
theorem pn_17 : plainName "java/math/BigDecimal" = true := by first | (simp [plainName, overriddenIn]; done) | decide +kernel
theorem pd_14 : parseMethodDescriptor "(Ljava/math/BigInteger;JII)V" = some ⟨[(.object "java/math/BigInteger"), .long, .int, .int], none⟩ := by decide +kernel
theorem ef_17 (m : MethodId) (x0 : Int64) : entryFrame m #[(.long x0)] 2 = mkF m 0 #[oJ x0, oS] [] := by first | (simp [entryFrame, mkF, argsToLocals, Value.category]; done) | rfl
def Q17_11 (Z : State) (j0 : Int64) (o1 : Addr) (o2 : Addr) (o3 : Addr) (o4 : Addr) (o5 : Addr) (o6 : Addr) (o7 : Addr) (o8 : Addr) (o9 : Addr) (o10 : Addr) (o11 : Addr) (o12 : Addr) (k1 : ClassId) (h0 : Heap) (n0 : Nat) (v : Option Value) (h : Heap) (L : List Loc) : Prop := ∃ b3 : Addr, v = some (.ref b3) ∧ Fr n0 L ∧ Keep h0 h [] ∧ Exa Z h b3 "java/math/BigDecimal" ∧ Fld Z h b3 "java/math/BigDecimal" "scale" "I" (.int (0 : Int32)) ∧ Fld Z h b3 "java/math/BigDecimal" "precision" "I" (.int (0 : Int32)) ∧ Fld Z h b3 "java/math/BigDecimal" "intCompact" "J" (.long j0) ∧ Fld Z h b3 "java/math/BigDecimal" "intVal" "Ljava/math/BigInteger;" .null ∧ h0.size ≤ b3
set_option maxRecDepth 65536 in
set_option maxHeartbeats 40000000 in
theorem rm17_11 (l : Launch) (Z : State) (a0 : Array Value) (hw : ∀ d ∈ tables_1, d.before a0 Z = true) (ws : List Jvm.Cond) (j0 : Int64) (o1 : Addr) (o2 : Addr) (o3 : Addr) (o4 : Addr) (o5 : Addr) (o6 : Addr) (o7 : Addr) (o8 : Addr) (o9 : Addr) (o10 : Addr) (o11 : Addr) (o12 : Addr) (k1 : ClassId) (h0 : Heap) (n0 : Nat) (Z0 : n0 ≤ h0.size) (V_o1 : Arv Z h0 o1 k1 (.object "java/math/BigDecimal") (11 : Int32) [(.ref o2), (.ref o3), (.ref o4), (.ref o5), (.ref o6), (.ref o7), (.ref o8), (.ref o9), (.ref o10), (.ref o11), (.ref o12)] .null) (S_ZERO_THROUGH_TEN : Sta Z Z.heap "java/math/BigDecimal" "ZERO_THROUGH_TEN" "[Ljava/math/BigDecimal;" (.ref o1)) (OZ : Old Z n0 h0) (hp0 : ¬ (j0 < (0 : Int64))) (hp1 : ¬ (j0 < (11 : Int64))) (hp2 : ¬ (j0 = (-9223372036854775808 : Int64))) :
    MetFree l (⟨"java/math/BigDecimal", "valueOf", "(J)Ljava/math/BigDecimal;"⟩ : MethodName) (head1 (Jvm.Cond.code (⟨"java/math/BigDecimal", "valueOf", "(J)Ljava/math/BigDecimal;"⟩ : MethodName) jdk_17_method_21_code 2 (some (.object "java/math/BigDecimal")) :: ws) ({ frames := 3, cells := 1, slots := 5, locals := 42 } : Room)) (fun a U => a = #[(.long j0)] ∧ Z.Warmed39 U.vm ∧ U.heap = h0) (fun _ _ _ _ _ => True) (fun _ U o U' => ∃ v L, o = .returned v ∧ Q17_11 Z j0 o1 o2 o3 o4 o5 o6 o7 o8 o9 o10 o11 o12 k1 h0 n0 v U'.heap L ∧ FrameEnd U o U' L ({ frames := 3, cells := 1, slots := 5, locals := 42 } : Room).cells ({ frames := 3, cells := 1, slots := 5, locals := 42 } : Room).slots) := by
  refine MetFree.of_bodySF (plainFor_of_name pn_17) hisR ?_
  intro p e s m args below meth c s₁ Bd hml0 hP hK
  obtain ⟨rfl, hZ, hh⟩ := hP
  have hx := Bd.exec
  have hby := Bd.bytes
  have hml : c.maxLocals = 2 := hml0
  have hown : s.vm.findClass "java/math/BigDecimal" = some m.cls := findClass_of_methodNamed Bd.named
  have hnm := (name_of_methodNamed Bd.named Bd.method).1
  have X0 : Stand p l e ({ frames := 3, cells := 1, slots := 5, locals := 42 } : Room) s m #[(.long j0)] below meth c s₁ [] 0 0 := Stand.of_body Bd
  have e0 : s₁.heap = h0 := by rw [← hh, Bd.state]; rfl
  have N0 := Fr.nil n0
  have K0 : Keep h0 h0 [] := Keep.refl h0 _
  change own_Go p e below (own_Post s (Q17_11 Z j0 o1 o2 o3 o4 o5 o6 o7 o8 o9 o10 o11 o12 k1 h0 n0) ({ frames := 3, cells := 1, slots := 5, locals := 42 } : Room).cells ({ frames := 3, cells := 1, slots := 5, locals := 42 } : Room).slots) (s₁.setTop (entryFrame m #[(.long j0)] 2))
  refine own_by (fun t k => castTop (ef_17 m j0) k) ?_
  show own_Go p e below _ (s₁.setTop (mkF m 0 #[oJ j0, oS] []))
  refine own_by (B := s₁.setTop (mkF m 7 #[oJ j0, oS] [(.long j0)])) (fun t k => ?_) ?_
  · show Steps p.tables e below (s₁.setTop (mkF m 0 #[oJ j0, oS] [])) _
    refine XS.lloadN X0.here hx rfl (hb hby d17_0) rfl ?_
    show Steps p.tables e below (s₁.setTop (mkF m 1 #[oJ j0, oS] [(.long j0)])) _
    refine XS.lconst X0.here hx rfl (hb hby d17_1) ?_
    show Steps p.tables e below (s₁.setTop (mkF m 2 #[oJ j0, oS] [(.long (0 : Int64)), (.long j0)])) _
    refine XS.lcmp X0.here hx rfl (hb hby d17_2) rfl ?_
    show Steps p.tables e below (s₁.setTop (mkF m 3 #[oJ j0, oS] [(.int (lcmpW j0 (0 : Int64)))])) _
    refine XS.ifNo X0.here hx rfl (hb hby d17_3) rfl ((if0 _ _).trans (flt (fun q => hp0 ((lw_lt _ _).mp q))).1) ?_
    show Steps p.tables e below (s₁.setTop (mkF m 6 #[oJ j0, oS] [])) _
    refine XS.lloadN X0.here hx rfl (hb hby d17_6) rfl ?_
    show Steps p.tables e below (s₁.setTop (mkF m 7 #[oJ j0, oS] [(.long j0)])) _
    exact k
  refine own_c1 (getS2 X0 hx hZ hown (host := "") (Or.inl (hw _ (List.mem_of_getElem? (i := 83) rfl))) Via.refl e0 (S_ZERO_THROUGH_TEN.ext OZ.2) rfl (hb hby d17_7)) fun T1 X1 e1 => ?_
  show own_Go p e below _ (T1.setTop (mkF m 10 #[oJ j0, oS] [(.ref o1), (.long j0)]))
  refine own_by (B := T1.setTop (mkF m 31 #[oJ j0, oS] [])) (fun t k => ?_) ?_
  · show Steps p.tables e below (T1.setTop (mkF m 10 #[oJ j0, oS] [(.ref o1), (.long j0)])) _
    obtain ⟨cl2, Ar2, -, S2, N2, -, -⟩ := id V_o1
    refine X1.arraylength hx (by rw [show T1.heap = h0 from e1]; exact Ar2.1) (State.isArrayOf_alike hZ.alike Ar2.2.1) (g := (mkF m 10 #[oJ j0, oS] [(.ref o1), (.long j0)])) rfl rfl (hb hby d17_10) _ ?_
    rw [len_of S2 N2]
    show Steps p.tables e below (T1.setTop (mkF m 11 #[oJ j0, oS] [(.int (11 : Int32)), (.long j0)])) _
    refine XS.i2l X1.here hx rfl (hb hby d17_11) rfl ?_
    rw [show ((11 : Int32).toInt64) = (11 : Int64) from by decide]
    show Steps p.tables e below (T1.setTop (mkF m 12 #[oJ j0, oS] [(.long (11 : Int64)), (.long j0)])) _
    refine XS.lcmp X1.here hx rfl (hb hby d17_12) rfl ?_
    show Steps p.tables e below (T1.setTop (mkF m 13 #[oJ j0, oS] [(.int (lcmpW j0 (11 : Int64)))])) _
    refine XS.ifYes X1.here hx rfl (pc0 := 13) (pc' := 23) rfl (hb hby d17_13) rfl ((if0 _ _).trans (flt (fun q => hp1 ((lw_lt _ _).mp q))).2.1) (by decide) (by decide) ?_
    show Steps p.tables e below (T1.setTop (mkF m 23 #[oJ j0, oS] [])) _
    refine XS.lloadN X1.here hx rfl (hb hby d17_23) rfl ?_
    show Steps p.tables e below (T1.setTop (mkF m 24 #[oJ j0, oS] [(.long j0)])) _
    refine X1.ldc2Long hx hown (mvT hZ (hw _ (List.mem_of_getElem? (i := 84) rfl))) (g := (mkF m 24 #[oJ j0, oS] [(.long j0)])) rfl (hb hby d17_24) _ ?_
    show Steps p.tables e below (T1.setTop (mkF m 27 #[oJ j0, oS] [(.long (-9223372036854775808 : Int64)), (.long j0)])) _
    refine XS.lcmp X1.here hx rfl (hb hby d17_27) rfl ?_
    show Steps p.tables e below (T1.setTop (mkF m 28 #[oJ j0, oS] [(.int (lcmpW j0 (-9223372036854775808 : Int64)))])) _
    refine XS.ifNo X1.here hx rfl (hb hby d17_28) rfl ((if0 _ _).trans (feq (fun q => hp2 ((lw_eq _ _).mp q))).1) ?_
    show Steps p.tables e below (T1.setTop (mkF m 31 #[oJ j0, oS] [])) _
    exact k
  obtain ⟨T3, h3, X3, e3, E3, A3, D3, -, st3⟩ := newO X1 hx hZ hown (hw _ (List.mem_of_getElem? (i := 85) rfl)) (hw _ (List.mem_of_getElem? (i := 86) rfl)) (hw _ (List.mem_of_getElem? (i := 78) rfl)) e1 (g := (mkF m 31 #[oJ j0, oS] [])) rfl (hb hby d17_31) (by decide) (by decide)
  obtain ⟨b3, g3⟩ : ∃ z, z = h0.size := ⟨_, rfl⟩
  rw [← g3] at A3 D3 st3
  have g_b3 : n0 ≤ b3 := Nat.le_trans Z0 (Nat.le_of_eq g3.symm)
  have sz_b3 : h0.size ≤ b3 := Nat.le_trans K0.1 (Nat.le_of_eq g3.symm)
  have ne_o1_b3 : o1 ≠ b3 := Nat.ne_of_lt (Nat.lt_of_lt_of_le V_o1.lt (Nat.le_of_eq g3.symm))
  replace V_o1 := V_o1.ext E3
  replace OZ := OZ.ext E3
  replace K0 := K0.ext E3
  replace Z0 := Nat.le_trans Z0 E3.1
  have E_b3 := A3
  have F_scale_b3 : Fld Z h3 b3 "java/math/BigDecimal" "scale" "I" (.int (0 : Int32)) := D3 (Or.inr (hw _ (List.mem_of_getElem? (i := 99) rfl))) (ty := .int) (by decide)
  have F_precision_b3 : Fld Z h3 b3 "java/math/BigDecimal" "precision" "I" (.int (0 : Int32)) := D3 (Or.inl (hw _ (List.mem_of_getElem? (i := 101) rfl))) (ty := .int) (by decide)
  have F_intCompact_b3 : Fld Z h3 b3 "java/math/BigDecimal" "intCompact" "J" (.long (0 : Int64)) := D3 (Or.inr (hw _ (List.mem_of_getElem? (i := 103) rfl))) (ty := .long) (by decide)
  have F_intVal_b3 : Fld Z h3 b3 "java/math/BigDecimal" "intVal" "Ljava/math/BigInteger;" .null := D3 (Or.inr (hw _ (List.mem_of_getElem? (i := 105) rfl))) (ty := (.object "java/math/BigInteger")) (by decide)
  refine own_by st3 ?_
  show own_Go p e below _ (T3.setTop (mkF m 34 #[oJ j0, oS] [(.ref b3)]))
  refine own_by (B := T3.setTop (mkF m 39 #[oJ j0, oS] [(.int (0 : Int32)), (.int (0 : Int32)), (.long j0), .null, (.ref b3), (.ref b3)])) (fun t k => ?_) ?_
  · show Steps p.tables e below (T3.setTop (mkF m 34 #[oJ j0, oS] [(.ref b3)])) _
    refine XS.dup X3.here hx rfl (hb hby d17_34) rfl rfl ?_
    show Steps p.tables e below (T3.setTop (mkF m 35 #[oJ j0, oS] [(.ref b3), (.ref b3)])) _
    refine XS.aconstNull X3.here hx rfl (hb hby d17_35) ?_
    show Steps p.tables e below (T3.setTop (mkF m 36 #[oJ j0, oS] [.null, (.ref b3), (.ref b3)])) _
    refine XS.lloadN X3.here hx rfl (hb hby d17_36) rfl ?_
    show Steps p.tables e below (T3.setTop (mkF m 37 #[oJ j0, oS] [(.long j0), .null, (.ref b3), (.ref b3)])) _
    refine XS.iconst X3.here hx rfl (hb hby d17_37) ?_
    show Steps p.tables e below (T3.setTop (mkF m 38 #[oJ j0, oS] [(.int (0 : Int32)), (.long j0), .null, (.ref b3), (.ref b3)])) _
    refine XS.iconst X3.here hx rfl (hb hby d17_38) ?_
    show Steps p.tables e below (T3.setTop (mkF m 39 #[oJ j0, oS] [(.int (0 : Int32)), (.int (0 : Int32)), (.long j0), .null, (.ref b3), (.ref b3)])) _
    exact k
  refine own_cc (own_callI X3 hx hZ (y := (⟨"java/math/BigDecimal", "<init>", "(Ljava/math/BigInteger;JII)V"⟩ : MethodName)) rfl hown (hw _ (List.mem_of_getElem? (i := 87) rfl)) (hw _ (List.mem_of_getElem? (i := 88) rfl)) (hw _ (List.mem_of_getElem? (i := 78) rfl)) (hw _ (List.mem_of_getElem? (i := 90) rfl)) (by decide) (rm18_10 l Z a0 hw [] b3 j0 (0 : Int32) (0 : Int32) (0 : Int32) (0 : Int32) (0 : Int64) h3 n0 Z0 g_b3 E_b3 F_scale_b3 F_precision_b3 F_intCompact_b3 F_intVal_b3) e3 1 (by decide) (by decide) (by decide) (by decide) rfl (by rw [hml]; rfl) b3 [.null, (.long j0), (.int (0 : Int32)), (.int (0 : Int32))] [(.ref b3)] rfl (lenOf pd_14 rfl) rfl (by show 2 * 0 + _ ≤ _; exact Nat.le_of_eq rfl) (hb hby d17_39)) fun T5 L5 v5 X5 hQ5 => ?_
  obtain ⟨rfl, N5, K5, E_b3', F_scale_b3', F_precision_b3', F_intCompact_b3', F_intVal_b3'⟩ := hQ5
  replace N0 := Fr.app N0 N5
  replace V_o1 := V_o1.keep K5 (ninS ne_o1_b3 nin0)
  replace E_b3 := E_b3.keep K5
  replace OZ := OZ.keep K5 (allS g_b3 all0)
  replace K0 := K0.trans K5 (allS (Or.inr sz_b3) all0)
  replace Z0 := Nat.le_trans Z0 K5.1
  replace E_b3 := E_b3'
  have F_scale_b3 := F_scale_b3'
  have F_precision_b3 := F_precision_b3'
  have F_intCompact_b3 := F_intCompact_b3'
  have F_intVal_b3 := F_intVal_b3'
  show own_Go p e below _ (T5.setTop (mkF m 42 #[oJ j0, oS] [(.ref b3)]))
  exact own_retR X5 Bd.notSynchronized hx Bd.returns rfl rfl rfl (hb hby d17_42) ⟨b3, rfl, N0, K0, E_b3, F_scale_b3, F_precision_b3, F_intCompact_b3, F_intVal_b3, sz_b3⟩ (by decide) (by decide)

theorem d16_0 : decode jdk_17_method_20_code 0 = .ok (.iload_n 2, 1) := by decide +kernel
theorem d16_1 : decode jdk_17_method_20_code 1 = .ok (.ifCond .ne 8, 3) := by decide +kernel
theorem d16_4 : decode jdk_17_method_20_code 4 = .ok (.lload_n 0, 1) := by decide +kernel
theorem d16_5 : decode jdk_17_method_20_code 5 = .ok (.invokestatic 236, 3) := by decide +kernel
theorem d16_8 : decode jdk_17_method_20_code 8 = .ok (.areturn, 1) := by decide +kernel
theorem pn_16 : plainName "java/math/BigDecimal" = true := by first | (simp [plainName, overriddenIn]; done) | decide +kernel
theorem pd_13 : parseMethodDescriptor "(J)Ljava/math/BigDecimal;" = some ⟨[.long], some (.object "java/math/BigDecimal")⟩ := by decide +kernel
theorem ef_16 (m : MethodId) (x0 : Int64) (x1 : Int32) : entryFrame m #[(.long x0), (.int x1)] 3 = mkF m 0 #[oJ x0, oS, iv x1] [] := by first | (simp [entryFrame, mkF, argsToLocals, Value.category]; done) | rfl
def Q16_12 (Z : State) (j0 : Int64) (i0 : Int32) (o1 : Addr) (o2 : Addr) (o3 : Addr) (o4 : Addr) (o5 : Addr) (o6 : Addr) (o7 : Addr) (o8 : Addr) (o9 : Addr) (o10 : Addr) (o11 : Addr) (o12 : Addr) (k1 : ClassId) (h0 : Heap) (n0 : Nat) (v : Option Value) (h : Heap) (L : List Loc) : Prop := ∃ b3_2 : Addr, v = some (.ref b3_2) ∧ Fr n0 L ∧ Keep h0 h [] ∧ Exa Z h b3_2 "java/math/BigDecimal" ∧ Fld Z h b3_2 "java/math/BigDecimal" "scale" "I" (.int (0 : Int32)) ∧ Fld Z h b3_2 "java/math/BigDecimal" "precision" "I" (.int (0 : Int32)) ∧ Fld Z h b3_2 "java/math/BigDecimal" "intCompact" "J" (.long j0) ∧ Fld Z h b3_2 "java/math/BigDecimal" "intVal" "Ljava/math/BigInteger;" .null ∧ h0.size ≤ b3_2
set_option maxRecDepth 65536 in
set_option maxHeartbeats 40000000 in
theorem rm16_12 (l : Launch) (Z : State) (a0 : Array Value) (hw : ∀ d ∈ tables_1, d.before a0 Z = true) (ws : List Jvm.Cond) (j0 : Int64) (i0 : Int32) (o1 : Addr) (o2 : Addr) (o3 : Addr) (o4 : Addr) (o5 : Addr) (o6 : Addr) (o7 : Addr) (o8 : Addr) (o9 : Addr) (o10 : Addr) (o11 : Addr) (o12 : Addr) (k1 : ClassId) (h0 : Heap) (n0 : Nat) (Z0 : n0 ≤ h0.size) (V_o1 : Arv Z h0 o1 k1 (.object "java/math/BigDecimal") (11 : Int32) [(.ref o2), (.ref o3), (.ref o4), (.ref o5), (.ref o6), (.ref o7), (.ref o8), (.ref o9), (.ref o10), (.ref o11), (.ref o12)] .null) (S_ZERO_THROUGH_TEN : Sta Z Z.heap "java/math/BigDecimal" "ZERO_THROUGH_TEN" "[Ljava/math/BigDecimal;" (.ref o1)) (OZ : Old Z n0 h0) (hp0 : i0 = (0 : Int32)) (hp1 : ¬ (j0 < (0 : Int64))) (hp2 : ¬ (j0 < (11 : Int64))) (hp3 : ¬ (j0 = (-9223372036854775808 : Int64))) :
    MetFree l (⟨"java/math/BigDecimal", "valueOf", "(JI)Ljava/math/BigDecimal;"⟩ : MethodName) (head1 (Jvm.Cond.code (⟨"java/math/BigDecimal", "valueOf", "(JI)Ljava/math/BigDecimal;"⟩ : MethodName) jdk_17_method_20_code 3 (some (.object "java/math/BigDecimal")) :: ws) ({ frames := 4, cells := 1, slots := 5, locals := 55 } : Room)) (fun a U => a = #[(.long j0), (.int i0)] ∧ Z.Warmed39 U.vm ∧ U.heap = h0) (fun _ _ _ _ _ => True) (fun _ U o U' => ∃ v L, o = .returned v ∧ Q16_12 Z j0 i0 o1 o2 o3 o4 o5 o6 o7 o8 o9 o10 o11 o12 k1 h0 n0 v U'.heap L ∧ FrameEnd U o U' L ({ frames := 4, cells := 1, slots := 5, locals := 55 } : Room).cells ({ frames := 4, cells := 1, slots := 5, locals := 55 } : Room).slots) := by
  refine MetFree.of_bodySF (plainFor_of_name pn_16) hisR ?_
  intro p e s m args below meth c s₁ Bd hml0 hP hK
  obtain ⟨rfl, hZ, hh⟩ := hP
  have hx := Bd.exec
  have hby := Bd.bytes
  have hml : c.maxLocals = 3 := hml0
  have hown : s.vm.findClass "java/math/BigDecimal" = some m.cls := findClass_of_methodNamed Bd.named
  have hnm := (name_of_methodNamed Bd.named Bd.method).1
  have X0 : Stand p l e ({ frames := 4, cells := 1, slots := 5, locals := 55 } : Room) s m #[(.long j0), (.int i0)] below meth c s₁ [] 0 0 := Stand.of_body Bd
  have e0 : s₁.heap = h0 := by rw [← hh, Bd.state]; rfl
  have N0 := Fr.nil n0
  have K0 : Keep h0 h0 [] := Keep.refl h0 _
  change own_Go p e below (own_Post s (Q16_12 Z j0 i0 o1 o2 o3 o4 o5 o6 o7 o8 o9 o10 o11 o12 k1 h0 n0) ({ frames := 4, cells := 1, slots := 5, locals := 55 } : Room).cells ({ frames := 4, cells := 1, slots := 5, locals := 55 } : Room).slots) (s₁.setTop (entryFrame m #[(.long j0), (.int i0)] 3))
  refine own_by (fun t k => castTop (ef_16 m j0 i0) k) ?_
  show own_Go p e below _ (s₁.setTop (mkF m 0 #[oJ j0, oS, iv i0] []))
  refine own_by (B := s₁.setTop (mkF m 5 #[oJ j0, oS, iv i0] [(.long j0)])) (fun t k => ?_) ?_
  · show Steps p.tables e below (s₁.setTop (mkF m 0 #[oJ j0, oS, iv i0] [])) _
    refine XS.iloadN X0.here hx rfl (hb hby d16_0) rfl ?_
    show Steps p.tables e below (s₁.setTop (mkF m 1 #[oJ j0, oS, iv i0] [(.int i0)])) _
    refine XS.ifNo X0.here hx rfl (hb hby d16_1) rfl ((if0 _ _).trans (teq hp0).2) ?_
    show Steps p.tables e below (s₁.setTop (mkF m 4 #[oJ j0, oS, iv i0] [])) _
    refine XS.lloadN X0.here hx rfl (hb hby d16_4) rfl ?_
    show Steps p.tables e below (s₁.setTop (mkF m 5 #[oJ j0, oS, iv i0] [(.long j0)])) _
    exact k
  refine own_cc (own_callS X0 hx hZ (y := (⟨"java/math/BigDecimal", "valueOf", "(J)Ljava/math/BigDecimal;"⟩ : MethodName)) hown (hw _ (List.mem_of_getElem? (i := 80) rfl)) (hw _ (List.mem_of_getElem? (i := 81) rfl)) (hw _ (List.mem_of_getElem? (i := 78) rfl)) (hw _ (List.mem_of_getElem? (i := 82) rfl)) (by decide) (rm17_11 l Z a0 hw [] j0 o1 o2 o3 o4 o5 o6 o7 o8 o9 o10 o11 o12 k1 h0 n0 Z0 V_o1 S_ZERO_THROUGH_TEN OZ hp1 hp2 hp3) e0 0 (by decide) (by decide) (by decide) (by decide) rfl (by rw [hml]; rfl) [(.long j0)] [] rfl (lenOf pd_13 rfl) rfl (by show 2 * 0 + _ ≤ _; exact Nat.le_of_eq rfl) (hb hby d16_5)) fun T2 L2 v2 X2 hQ2 => ?_
  obtain ⟨b3_2, rfl, N2, K2, E_b3_2', F_scale_b3_2', F_precision_b3_2', F_intCompact_b3_2', F_intVal_b3_2', sz_b3_2'⟩ := hQ2
  replace N0 := Fr.app N0 N2
  have g_b3_2 : n0 ≤ b3_2 := Nat.le_trans Z0 sz_b3_2'
  have sz_b3_2 : h0.size ≤ b3_2 := Nat.le_trans K0.1 sz_b3_2'
  have ne_o1_b3_2 : o1 ≠ b3_2 := Nat.ne_of_lt (Nat.lt_of_lt_of_le V_o1.lt sz_b3_2')
  replace V_o1 := V_o1.keep K2 nin0
  replace OZ := OZ.keep K2 all0
  replace K0 := K0.trans K2 all0
  replace Z0 := Nat.le_trans Z0 K2.1
  have E_b3_2 := E_b3_2'
  have F_scale_b3_2 := F_scale_b3_2'
  have F_precision_b3_2 := F_precision_b3_2'
  have F_intCompact_b3_2 := F_intCompact_b3_2'
  have F_intVal_b3_2 := F_intVal_b3_2'
  show own_Go p e below _ (T2.setTop (mkF m 8 #[oJ j0, oS, iv i0] [(.ref b3_2)]))
  exact own_retR X2 Bd.notSynchronized hx Bd.returns rfl rfl rfl (hb hby d16_8) ⟨b3_2, rfl, N0, K0, E_b3_2, F_scale_b3_2, F_precision_b3_2, F_intCompact_b3_2, F_intVal_b3_2, sz_b3_2⟩ (by decide) (by decide)

theorem d15_0 : decode prog_7_method_9_code 0 = .ok (.aload_n 0, 1) := by decide +kernel
theorem d15_1 : decode prog_7_method_9_code 1 = .ok (.getfield 52, 3) := by decide +kernel
theorem d15_4 : decode prog_7_method_9_code 4 = .ok (.ifnonnull 17, 3) := by decide +kernel
theorem d15_7 : decode prog_7_method_9_code 7 = .ok (.aload_n 0, 1) := by decide +kernel
theorem d15_8 : decode prog_7_method_9_code 8 = .ok (.getfield 56, 3) := by decide +kernel
theorem d15_11 : decode prog_7_method_9_code 11 = .ok (.aload_n 0, 1) := by decide +kernel
theorem d15_12 : decode prog_7_method_9_code 12 = .ok (.getfield 60, 3) := by decide +kernel
theorem d15_15 : decode prog_7_method_9_code 15 = .ok (.invokestatic 69, 3) := by decide +kernel
theorem d15_18 : decode prog_7_method_9_code 18 = .ok (.goto 7, 3) := by decide +kernel
theorem d15_25 : decode prog_7_method_9_code 25 = .ok (.areturn, 1) := by decide +kernel
theorem pn_15 : plainName "com/example/exfactor/exfactor/core/MutableFigure" = true := by first | (simp [plainName, overriddenIn]; done) | decide +kernel
theorem pd_12 : parseMethodDescriptor "(JI)Ljava/math/BigDecimal;" = some ⟨[.long, .int], some (.object "java/math/BigDecimal")⟩ := by decide +kernel
theorem ef_15 (m : MethodId) (x0 : Addr) : entryFrame m #[(.ref x0)] 1 = mkF m 0 #[rv x0] [] := by first | (simp [entryFrame, mkF, argsToLocals, Value.category]; done) | rfl
def Q15_13 (Z : State) (o0 : Addr) (o2 : Addr) (o3 : Addr) (o4 : Addr) (o5 : Addr) (o6 : Addr) (o7 : Addr) (o8 : Addr) (o9 : Addr) (o10 : Addr) (o11 : Addr) (o12 : Addr) (o13 : Addr) (j0 : Int64) (i0 : Int32) (k1 : ClassId) (h0 : Heap) (n0 : Nat) (v : Option Value) (h : Heap) (L : List Loc) : Prop := ∃ b3_2_5 : Addr, v = some (.ref b3_2_5) ∧ Fr n0 L ∧ Keep h0 h [] ∧ Exa Z h b3_2_5 "java/math/BigDecimal" ∧ Fld Z h b3_2_5 "java/math/BigDecimal" "scale" "I" (.int (0 : Int32)) ∧ Fld Z h b3_2_5 "java/math/BigDecimal" "precision" "I" (.int (0 : Int32)) ∧ Fld Z h b3_2_5 "java/math/BigDecimal" "intCompact" "J" (.long j0) ∧ Fld Z h b3_2_5 "java/math/BigDecimal" "intVal" "Ljava/math/BigInteger;" .null ∧ h0.size ≤ b3_2_5
set_option maxRecDepth 65536 in
set_option maxHeartbeats 40000000 in
theorem rm15_13 (l : Launch) (Z : State) (a0 : Array Value) (hw : ∀ d ∈ tables_1, d.before a0 Z = true) (ws : List Jvm.Cond) (o0 : Addr) (o2 : Addr) (o3 : Addr) (o4 : Addr) (o5 : Addr) (o6 : Addr) (o7 : Addr) (o8 : Addr) (o9 : Addr) (o10 : Addr) (o11 : Addr) (o12 : Addr) (o13 : Addr) (j0 : Int64) (i0 : Int32) (k1 : ClassId) (h0 : Heap) (n0 : Nat) (Z0 : n0 ≤ h0.size) (F_unscaled_o0 : Fld Z h0 o0 "com/example/exfactor/exfactor/core/MutableFigure" "unscaled" "J" (.long j0)) (F_scale_o0 : Fld Z h0 o0 "com/example/exfactor/exfactor/core/MutableFigure" "scale" "I" (.int i0)) (F_big_o0 : Fld Z h0 o0 "com/example/exfactor/exfactor/core/MutableFigure" "big" "Ljava/math/BigDecimal;" .null) (V_o2 : Arv Z h0 o2 k1 (.object "java/math/BigDecimal") (11 : Int32) [(.ref o3), (.ref o4), (.ref o5), (.ref o6), (.ref o7), (.ref o8), (.ref o9), (.ref o10), (.ref o11), (.ref o12), (.ref o13)] .null) (S_ZERO_THROUGH_TEN : Sta Z Z.heap "java/math/BigDecimal" "ZERO_THROUGH_TEN" "[Ljava/math/BigDecimal;" (.ref o2)) (OZ : Old Z n0 h0) (hp0 : i0 = (0 : Int32)) (hp1 : ¬ (j0 < (0 : Int64))) (hp2 : ¬ (j0 < (11 : Int64))) (hp3 : ¬ (j0 = (-9223372036854775808 : Int64))) :
    MetFree l (⟨"com/example/exfactor/exfactor/core/MutableFigure", "toBigDecimal", "()Ljava/math/BigDecimal;"⟩ : MethodName) (head1 (Jvm.Cond.code (⟨"com/example/exfactor/exfactor/core/MutableFigure", "toBigDecimal", "()Ljava/math/BigDecimal;"⟩ : MethodName) prog_7_method_9_code 1 (some (.object "java/math/BigDecimal")) :: ws) ({ frames := 5, cells := 1, slots := 5, locals := 69 } : Room)) (fun a U => a = #[(.ref o0)] ∧ Z.Warmed39 U.vm ∧ U.heap = h0) (fun _ _ _ _ _ => True) (fun _ U o U' => ∃ v L, o = .returned v ∧ Q15_13 Z o0 o2 o3 o4 o5 o6 o7 o8 o9 o10 o11 o12 o13 j0 i0 k1 h0 n0 v U'.heap L ∧ FrameEnd U o U' L ({ frames := 5, cells := 1, slots := 5, locals := 69 } : Room).cells ({ frames := 5, cells := 1, slots := 5, locals := 69 } : Room).slots) := by
  refine MetFree.of_bodySF (plainFor_of_name pn_15) hisR ?_
  intro p e s m args below meth c s₁ Bd hml0 hP hK
  obtain ⟨rfl, hZ, hh⟩ := hP
  have hx := Bd.exec
  have hby := Bd.bytes
  have hml : c.maxLocals = 1 := hml0
  have hown : s.vm.findClass "com/example/exfactor/exfactor/core/MutableFigure" = some m.cls := findClass_of_methodNamed Bd.named
  have hnm := (name_of_methodNamed Bd.named Bd.method).1
  have X0 : Stand p l e ({ frames := 5, cells := 1, slots := 5, locals := 69 } : Room) s m #[(.ref o0)] below meth c s₁ [] 0 0 := Stand.of_body Bd
  have e0 : s₁.heap = h0 := by rw [← hh, Bd.state]; rfl
  have N0 := Fr.nil n0
  have K0 : Keep h0 h0 [] := Keep.refl h0 _
  change own_Go p e below (own_Post s (Q15_13 Z o0 o2 o3 o4 o5 o6 o7 o8 o9 o10 o11 o12 o13 j0 i0 k1 h0 n0) ({ frames := 5, cells := 1, slots := 5, locals := 69 } : Room).cells ({ frames := 5, cells := 1, slots := 5, locals := 69 } : Room).slots) (s₁.setTop (entryFrame m #[(.ref o0)] 1))
  refine own_by (fun t k => castTop (ef_15 m o0) k) ?_
  show own_Go p e below _ (s₁.setTop (mkF m 0 #[rv o0] []))
  refine own_by (B := s₁.setTop (mkF m 1 #[rv o0] [(.ref o0)])) (fun t k => ?_) ?_
  · show Steps p.tables e below (s₁.setTop (mkF m 0 #[rv o0] [])) _
    refine XS.aloadN X0.here hx rfl (hb hby d15_0) rfl rfl ?_
    show Steps p.tables e below (s₁.setTop (mkF m 1 #[rv o0] [(.ref o0)])) _
    exact k
  refine own_c1 (getF X0 hx hZ hown (host := "") (Or.inl (hw _ (List.mem_of_getElem? (i := 20) rfl))) Via.refl e0 F_big_o0 rfl rfl (hb hby d15_1)) fun T1 X1 e1 => ?_
  show own_Go p e below _ (T1.setTop (mkF m 4 #[rv o0] [.null]))
  refine own_by (fun t k => XS.ifnonnullNo X1.here hx rfl (hb hby d15_4) rfl k) ?_
  show own_Go p e below _ (T1.setTop (mkF m 7 #[rv o0] []))
  refine own_by (B := T1.setTop (mkF m 8 #[rv o0] [(.ref o0)])) (fun t k => ?_) ?_
  · show Steps p.tables e below (T1.setTop (mkF m 7 #[rv o0] [])) _
    refine XS.aloadN X1.here hx rfl (hb hby d15_7) rfl rfl ?_
    show Steps p.tables e below (T1.setTop (mkF m 8 #[rv o0] [(.ref o0)])) _
    exact k
  refine own_c1 (getF X1 hx hZ hown (host := "") (Or.inl (hw _ (List.mem_of_getElem? (i := 16) rfl))) Via.refl e1 F_unscaled_o0 rfl rfl (hb hby d15_8)) fun T2 X2 e2 => ?_
  show own_Go p e below _ (T2.setTop (mkF m 11 #[rv o0] [(.long j0)]))
  refine own_by (B := T2.setTop (mkF m 12 #[rv o0] [(.ref o0), (.long j0)])) (fun t k => ?_) ?_
  · show Steps p.tables e below (T2.setTop (mkF m 11 #[rv o0] [(.long j0)])) _
    refine XS.aloadN X2.here hx rfl (hb hby d15_11) rfl rfl ?_
    show Steps p.tables e below (T2.setTop (mkF m 12 #[rv o0] [(.ref o0), (.long j0)])) _
    exact k
  refine own_c1 (getF X2 hx hZ hown (host := "") (Or.inl (hw _ (List.mem_of_getElem? (i := 18) rfl))) Via.refl e2 F_scale_o0 rfl rfl (hb hby d15_12)) fun T3 X3 e3 => ?_
  show own_Go p e below _ (T3.setTop (mkF m 15 #[rv o0] [(.int i0), (.long j0)]))
  refine own_cc (own_callS X3 hx hZ (y := (⟨"java/math/BigDecimal", "valueOf", "(JI)Ljava/math/BigDecimal;"⟩ : MethodName)) hown (hw _ (List.mem_of_getElem? (i := 76) rfl)) (hw _ (List.mem_of_getElem? (i := 77) rfl)) (hw _ (List.mem_of_getElem? (i := 78) rfl)) (hw _ (List.mem_of_getElem? (i := 79) rfl)) (by decide) (rm16_12 l Z a0 hw [] j0 i0 o2 o3 o4 o5 o6 o7 o8 o9 o10 o11 o12 o13 k1 h0 n0 Z0 V_o2 S_ZERO_THROUGH_TEN OZ hp0 hp1 hp2 hp3) e3 0 (by decide) (by decide) (by decide) (by decide) rfl (by rw [hml]; rfl) [(.long j0), (.int i0)] [] rfl (lenOf pd_12 rfl) rfl (by show 2 * 0 + _ ≤ _; exact Nat.le_of_eq rfl) (hb hby d15_15)) fun T5 L5 v5 X5 hQ5 => ?_
  obtain ⟨b3_2_5, rfl, N5, K5, E_b3_2_5', F_scale_b3_2_5', F_precision_b3_2_5', F_intCompact_b3_2_5', F_intVal_b3_2_5', sz_b3_2_5'⟩ := hQ5
  replace N0 := Fr.app N0 N5
  have g_b3_2_5 : n0 ≤ b3_2_5 := Nat.le_trans Z0 sz_b3_2_5'
  have sz_b3_2_5 : h0.size ≤ b3_2_5 := Nat.le_trans K0.1 sz_b3_2_5'
  have ne_o0_b3_2_5 : o0 ≠ b3_2_5 := Nat.ne_of_lt (Nat.lt_of_lt_of_le F_unscaled_o0.lt sz_b3_2_5')
  have ne_o2_b3_2_5 : o2 ≠ b3_2_5 := Nat.ne_of_lt (Nat.lt_of_lt_of_le V_o2.lt sz_b3_2_5')
  replace F_unscaled_o0 := F_unscaled_o0.keep K5 nin0
  replace F_scale_o0 := F_scale_o0.keep K5 nin0
  replace F_big_o0 := F_big_o0.keep K5 nin0
  replace V_o2 := V_o2.keep K5 nin0
  replace OZ := OZ.keep K5 all0
  replace K0 := K0.trans K5 all0
  replace Z0 := Nat.le_trans Z0 K5.1
  have E_b3_2_5 := E_b3_2_5'
  have F_scale_b3_2_5 := F_scale_b3_2_5'
  have F_precision_b3_2_5 := F_precision_b3_2_5'
  have F_intCompact_b3_2_5 := F_intCompact_b3_2_5'
  have F_intVal_b3_2_5 := F_intVal_b3_2_5'
  show own_Go p e below _ (T5.setTop (mkF m 18 #[rv o0] [(.ref b3_2_5)]))
  refine own_by (B := T5.setTop (mkF m 25 #[rv o0] [(.ref b3_2_5)])) (fun t k => ?_) ?_
  · show Steps p.tables e below (T5.setTop (mkF m 18 #[rv o0] [(.ref b3_2_5)])) _
    refine XS.goto X5.here hx rfl (pc0 := 18) (pc' := 25) rfl (hb hby d15_18) (by decide) (by decide) ?_
    show Steps p.tables e below (T5.setTop (mkF m 25 #[rv o0] [(.ref b3_2_5)])) _
    exact k
  exact own_retR X5 Bd.notSynchronized hx Bd.returns rfl rfl rfl (hb hby d15_25) ⟨b3_2_5, rfl, N0, K0, E_b3_2_5, F_scale_b3_2_5, F_precision_b3_2_5, F_intCompact_b3_2_5, F_intVal_b3_2_5, sz_b3_2_5⟩ (by decide) (by decide)

theorem d25_0 : decode jdk_2097_method_30_code 0 = .ok (.aload_n 0, 1) := by decide +kernel
theorem d25_1 : decode jdk_2097_method_30_code 1 = .ok (.invokespecial 3, 3) := by decide +kernel
theorem d25_4 : decode jdk_2097_method_30_code 4 = .ok (.lload_n 1, 1) := by decide +kernel
theorem d25_5 : decode jdk_2097_method_30_code 5 = .ok (.lconst 0, 1) := by decide +kernel
theorem d25_6 : decode jdk_2097_method_30_code 6 = .ok (.lcmp, 1) := by decide +kernel
theorem d25_7 : decode jdk_2097_method_30_code 7 = .ok (.ifCond .ge 14, 3) := by decide +kernel
theorem d25_21 : decode jdk_2097_method_30_code 21 = .ok (.aload_n 0, 1) := by decide +kernel
theorem d25_22 : decode jdk_2097_method_30_code 22 = .ok (.iconst 1, 1) := by decide +kernel
theorem d25_23 : decode jdk_2097_method_30_code 23 = .ok (.putfield 32, 3) := by decide +kernel
theorem d25_26 : decode jdk_2097_method_30_code 26 = .ok (.lload_n 1, 1) := by decide +kernel
theorem d25_27 : decode jdk_2097_method_30_code 27 = .ok (.bipush 32, 2) := by decide +kernel
theorem d25_29 : decode jdk_2097_method_30_code 29 = .ok (.lushr, 1) := by decide +kernel
theorem d25_30 : decode jdk_2097_method_30_code 30 = .ok (.l2i, 1) := by decide +kernel
theorem d25_31 : decode jdk_2097_method_30_code 31 = .ok (.istore_n 3, 1) := by decide +kernel
theorem d25_32 : decode jdk_2097_method_30_code 32 = .ok (.iload_n 3, 1) := by decide +kernel
theorem d25_33 : decode jdk_2097_method_30_code 33 = .ok (.ifCond .ne 21, 3) := by decide +kernel
theorem d25_54 : decode jdk_2097_method_30_code 54 = .ok (.aload_n 0, 1) := by decide +kernel
theorem d25_55 : decode jdk_2097_method_30_code 55 = .ok (.iconst 2, 1) := by decide +kernel
theorem d25_56 : decode jdk_2097_method_30_code 56 = .ok (.newarray .int, 2) := by decide +kernel
theorem d25_58 : decode jdk_2097_method_30_code 58 = .ok (.putfield 28, 3) := by decide +kernel
theorem d25_61 : decode jdk_2097_method_30_code 61 = .ok (.aload_n 0, 1) := by decide +kernel
theorem d25_62 : decode jdk_2097_method_30_code 62 = .ok (.getfield 28, 3) := by decide +kernel
theorem d25_65 : decode jdk_2097_method_30_code 65 = .ok (.iconst 0, 1) := by decide +kernel
theorem d25_66 : decode jdk_2097_method_30_code 66 = .ok (.iload_n 3, 1) := by decide +kernel
theorem d25_67 : decode jdk_2097_method_30_code 67 = .ok (.iastore, 1) := by decide +kernel
theorem d25_68 : decode jdk_2097_method_30_code 68 = .ok (.aload_n 0, 1) := by decide +kernel
theorem d25_69 : decode jdk_2097_method_30_code 69 = .ok (.getfield 28, 3) := by decide +kernel
theorem d25_72 : decode jdk_2097_method_30_code 72 = .ok (.iconst 1, 1) := by decide +kernel
theorem d25_73 : decode jdk_2097_method_30_code 73 = .ok (.lload_n 1, 1) := by decide +kernel
theorem d25_74 : decode jdk_2097_method_30_code 74 = .ok (.l2i, 1) := by decide +kernel
theorem d25_75 : decode jdk_2097_method_30_code 75 = .ok (.iastore, 1) := by decide +kernel
theorem d25_76 : decode jdk_2097_method_30_code 76 = .ok (.return_, 1) := by decide +kernel
theorem pn_25 : plainName "java/math/BigInteger" = true := by first | (simp [plainName, overriddenIn]; done) | decide +kernel
theorem ef_25 (m : MethodId) (x0 : Addr) (x1 : Int64) : entryFrame m #[(.ref x0), (.long x1)] 4 = mkF m 0 #[rv x0, oJ x1, oS, oU] [] := by first | (simp [entryFrame, mkF, argsToLocals, Value.category]; done) | rfl
def Q25_14 (Z : State) (o0 : Addr) (j0 : Int64) (i0 : Int32) (h0 : Heap) (n0 : Nat) (v : Option Value) (h : Heap) (L : List Loc) : Prop := ∃ b4 : Addr, ∃ k4 : ClassId, v = none ∧ Fr n0 L ∧ Keep h0 h [o0] ∧ Exa Z h o0 "java/math/BigInteger" ∧ Fld Z h o0 "java/math/BigInteger" "signum" "I" (.int (1 : Int32)) ∧ Fld Z h o0 "java/math/BigInteger" "mag" "[I" (.ref b4) ∧ Arv Z h b4 k4 .int (2 : Int32) [(.int (((j0.toUInt64 >>> ((32 : Int32) &&& 0x3f).toInt64.toUInt64).toInt64).toInt32)), (.int (j0.toInt32))] (.int (0 : Int32)) ∧ h0.size ≤ b4
set_option maxRecDepth 65536 in
set_option maxHeartbeats 40000000 in
theorem rm25_14 (l : Launch) (Z : State) (a0 : Array Value) (hw : ∀ d ∈ tables_1, d.before a0 Z = true) (ws : List Jvm.Cond) (o0 : Addr) (j0 : Int64) (i0 : Int32) (h0 : Heap) (n0 : Nat) (Z0 : n0 ≤ h0.size) (g_o0 : n0 ≤ o0) (E_o0 : Exa Z h0 o0 "java/math/BigInteger") (F_signum_o0 : Fld Z h0 o0 "java/math/BigInteger" "signum" "I" (.int i0)) (F_mag_o0 : Fld Z h0 o0 "java/math/BigInteger" "mag" "[I" .null) (hp0 : ¬ (j0 < (0 : Int64))) (hp1 : ¬ ((((j0.toUInt64 >>> ((32 : Int32) &&& 0x3f).toInt64.toUInt64).toInt64).toInt32) = (0 : Int32))) :
    MetFree l (⟨"java/math/BigInteger", "<init>", "(J)V"⟩ : MethodName) (head1 (Jvm.Cond.code (⟨"java/math/BigInteger", "<init>", "(J)V"⟩ : MethodName) jdk_2097_method_30_code 4 none :: ws) ({ frames := 2, cells := 1, slots := 2, locals := 24 } : Room)) (fun a U => a = #[(.ref o0), (.long j0)] ∧ Z.Warmed39 U.vm ∧ U.heap = h0) (fun _ _ _ _ _ => True) (fun _ U o U' => ∃ v L, o = .returned v ∧ Q25_14 Z o0 j0 i0 h0 n0 v U'.heap L ∧ FrameEnd U o U' L ({ frames := 2, cells := 1, slots := 2, locals := 24 } : Room).cells ({ frames := 2, cells := 1, slots := 2, locals := 24 } : Room).slots) := by
  refine MetFree.of_bodySF (plainFor_of_name pn_25) hisR ?_
  intro p e s m args below meth c s₁ Bd hml0 hP hK
  obtain ⟨rfl, hZ, hh⟩ := hP
  have hx := Bd.exec
  have hby := Bd.bytes
  have hml : c.maxLocals = 4 := hml0
  have hown : s.vm.findClass "java/math/BigInteger" = some m.cls := findClass_of_methodNamed Bd.named
  have hnm := (name_of_methodNamed Bd.named Bd.method).1
  have X0 : Stand p l e ({ frames := 2, cells := 1, slots := 2, locals := 24 } : Room) s m #[(.ref o0), (.long j0)] below meth c s₁ [] 0 0 := Stand.of_body Bd
  have e0 : s₁.heap = h0 := by rw [← hh, Bd.state]; rfl
  have N0 := Fr.nil n0
  have K0 : Keep h0 h0 [o0] := Keep.refl h0 _
  change own_Go p e below (own_Post s (Q25_14 Z o0 j0 i0 h0 n0) ({ frames := 2, cells := 1, slots := 2, locals := 24 } : Room).cells ({ frames := 2, cells := 1, slots := 2, locals := 24 } : Room).slots) (s₁.setTop (entryFrame m #[(.ref o0), (.long j0)] 4))
  refine own_by (fun t k => castTop (ef_25 m o0 j0) k) ?_
  show own_Go p e below _ (s₁.setTop (mkF m 0 #[rv o0, oJ j0, oS, oU] []))
  refine own_by (B := s₁.setTop (mkF m 1 #[rv o0, oJ j0, oS, oU] [(.ref o0)])) (fun t k => ?_) ?_
  · show Steps p.tables e below (s₁.setTop (mkF m 0 #[rv o0, oJ j0, oS, oU] [])) _
    refine XS.aloadN X0.here hx rfl (hb hby d25_0) rfl rfl ?_
    show Steps p.tables e below (s₁.setTop (mkF m 1 #[rv o0, oJ j0, oS, oU] [(.ref o0)])) _
    exact k
  refine own_cc (own_callI X0 hx hZ (y := (⟨"java/lang/Number", "<init>", "()V"⟩ : MethodName)) rfl hown (hw _ (List.mem_of_getElem? (i := 131) rfl)) (hw _ (List.mem_of_getElem? (i := 92) rfl)) (hw _ (List.mem_of_getElem? (i := 95) rfl)) (hw _ (List.mem_of_getElem? (i := 96) rfl)) (by decide) (rm19_9 l Z a0 hw [] o0 h0 n0 Z0 ) e0 0 (by decide) (by decide) (by decide) (by decide) rfl (by rw [hml]; rfl) o0 [] [] rfl (lenOf pd_0 rfl) rfl (by show 2 * 0 + _ ≤ _; exact Nat.le_of_eq rfl) (hb hby d25_1)) fun T2 L2 v2 X2 hQ2 => ?_
  obtain ⟨rfl, N2, e2⟩ := hQ2
  replace N0 := Fr.app N0 N2
  show own_Go p e below _ (T2.setTop (mkF m 4 #[rv o0, oJ j0, oS, oU] []))
  refine own_by (B := T2.setTop (mkF m 23 #[rv o0, oJ j0, oS, oU] [(.int (1 : Int32)), (.ref o0)])) (fun t k => ?_) ?_
  · show Steps p.tables e below (T2.setTop (mkF m 4 #[rv o0, oJ j0, oS, oU] [])) _
    refine XS.lloadN X2.here hx rfl (hb hby d25_4) rfl ?_
    show Steps p.tables e below (T2.setTop (mkF m 5 #[rv o0, oJ j0, oS, oU] [(.long j0)])) _
    refine XS.lconst X2.here hx rfl (hb hby d25_5) ?_
    show Steps p.tables e below (T2.setTop (mkF m 6 #[rv o0, oJ j0, oS, oU] [(.long (0 : Int64)), (.long j0)])) _
    refine XS.lcmp X2.here hx rfl (hb hby d25_6) rfl ?_
    show Steps p.tables e below (T2.setTop (mkF m 7 #[rv o0, oJ j0, oS, oU] [(.int (lcmpW j0 (0 : Int64)))])) _
    refine XS.ifYes X2.here hx rfl (pc0 := 7) (pc' := 21) rfl (hb hby d25_7) rfl ((if0 _ _).trans (flt (fun q => hp0 ((lw_lt _ _).mp q))).2.1) (by decide) (by decide) ?_
    show Steps p.tables e below (T2.setTop (mkF m 21 #[rv o0, oJ j0, oS, oU] [])) _
    refine XS.aloadN X2.here hx rfl (hb hby d25_21) rfl rfl ?_
    show Steps p.tables e below (T2.setTop (mkF m 22 #[rv o0, oJ j0, oS, oU] [(.ref o0)])) _
    refine XS.iconst X2.here hx rfl (hb hby d25_22) ?_
    show Steps p.tables e below (T2.setTop (mkF m 23 #[rv o0, oJ j0, oS, oU] [(.int (1 : Int32)), (.ref o0)])) _
    exact k
  refine own_c2 (putF X2 hx hZ hown (host := "") (Or.inl (hw _ (List.mem_of_getElem? (i := 133) rfl))) Via.refl e2 F_signum_o0 E_o0 (Or.inr ⟨(hw _ (List.mem_of_getElem? (i := 134) rfl)), rfl, hnm⟩) (hw _ (List.mem_of_getElem? (i := 126) rfl)) (ty := .int) (by decide) rfl rfl rfl rfl (hb hby d25_23)) fun T3 h3 X3 e3 W3 => ?_
  replace F_signum_o0 := F_signum_o0.same W3
  replace E_o0 := E_o0.wr W3
  replace F_mag_o0 := F_mag_o0.other W3 (Or.inr (sn18 hw))
  replace K0 := K0.wr W3 (Or.inl (List.mem_of_getElem? (i := 0) rfl))
  replace Z0 := Nat.le_trans Z0 (Keep.of_wr W3).1
  replace N0 := Fr.snoc X3 N0 g_o0
  show own_Go p e below _ (T3.setTop (mkF m 26 #[rv o0, oJ j0, oS, oU] []))
  refine own_by (B := T3.setTop (mkF m 56 #[rv o0, oJ j0, oS, iv (((j0.toUInt64 >>> ((32 : Int32) &&& 0x3f).toInt64.toUInt64).toInt64).toInt32)] [(.int (2 : Int32)), (.ref o0)])) (fun t k => ?_) ?_
  · show Steps p.tables e below (T3.setTop (mkF m 26 #[rv o0, oJ j0, oS, oU] [])) _
    refine XS.lloadN X3.here hx rfl (hb hby d25_26) rfl ?_
    show Steps p.tables e below (T3.setTop (mkF m 27 #[rv o0, oJ j0, oS, oU] [(.long j0)])) _
    refine XS.bipush X3.here hx rfl (hb hby d25_27) ?_
    show Steps p.tables e below (T3.setTop (mkF m 29 #[rv o0, oJ j0, oS, oU] [(.int (32 : Int32)), (.long j0)])) _
    refine XS.lushr X3.here hx rfl (hb hby d25_29) rfl ?_
    show Steps p.tables e below (T3.setTop (mkF m 30 #[rv o0, oJ j0, oS, oU] [(.long ((j0.toUInt64 >>> ((32 : Int32) &&& 0x3f).toInt64.toUInt64).toInt64))])) _
    refine XS.l2i X3.here hx rfl (hb hby d25_30) rfl ?_
    show Steps p.tables e below (T3.setTop (mkF m 31 #[rv o0, oJ j0, oS, oU] [(.int (((j0.toUInt64 >>> ((32 : Int32) &&& 0x3f).toInt64.toUInt64).toInt64).toInt32))])) _
    refine XS.istoreN X3.here hx rfl (hb hby d25_31) rfl (l' := #[rv o0, oJ j0, oS, iv (((j0.toUInt64 >>> ((32 : Int32) &&& 0x3f).toInt64.toUInt64).toInt64).toInt32)]) rfl ?_
    show Steps p.tables e below (T3.setTop (mkF m 32 #[rv o0, oJ j0, oS, iv (((j0.toUInt64 >>> ((32 : Int32) &&& 0x3f).toInt64.toUInt64).toInt64).toInt32)] [])) _
    refine XS.iloadN X3.here hx rfl (hb hby d25_32) rfl ?_
    show Steps p.tables e below (T3.setTop (mkF m 33 #[rv o0, oJ j0, oS, iv (((j0.toUInt64 >>> ((32 : Int32) &&& 0x3f).toInt64.toUInt64).toInt64).toInt32)] [(.int (((j0.toUInt64 >>> ((32 : Int32) &&& 0x3f).toInt64.toUInt64).toInt64).toInt32))])) _
    refine XS.ifYes X3.here hx rfl (pc0 := 33) (pc' := 54) rfl (hb hby d25_33) rfl ((if0 _ _).trans (feq hp1).2) (by decide) (by decide) ?_
    show Steps p.tables e below (T3.setTop (mkF m 54 #[rv o0, oJ j0, oS, iv (((j0.toUInt64 >>> ((32 : Int32) &&& 0x3f).toInt64.toUInt64).toInt64).toInt32)] [])) _
    refine XS.aloadN X3.here hx rfl (hb hby d25_54) rfl rfl ?_
    show Steps p.tables e below (T3.setTop (mkF m 55 #[rv o0, oJ j0, oS, iv (((j0.toUInt64 >>> ((32 : Int32) &&& 0x3f).toInt64.toUInt64).toInt64).toInt32)] [(.ref o0)])) _
    refine XS.iconst X3.here hx rfl (hb hby d25_55) ?_
    show Steps p.tables e below (T3.setTop (mkF m 56 #[rv o0, oJ j0, oS, iv (((j0.toUInt64 >>> ((32 : Int32) &&& 0x3f).toInt64.toUInt64).toInt64).toInt32)] [(.int (2 : Int32)), (.ref o0)])) _
    exact k
  obtain ⟨T4, h4, k4, X4, e4, E4, A4, st4⟩ := newP X3 hx hZ (hw _ (List.mem_of_getElem? (i := 135) rfl)) e3 (g := (mkF m 56 #[rv o0, oJ j0, oS, iv (((j0.toUInt64 >>> ((32 : Int32) &&& 0x3f).toInt64.toUInt64).toInt64).toInt32)] [(.int (2 : Int32)), (.ref o0)])) rfl (hb hby d25_56) rfl (by decide) (cap := 2) (by decide) (by decide) (by decide) (by decide)
  obtain ⟨b4, g4⟩ : ∃ z, z = h3.size := ⟨_, rfl⟩
  rw [← g4] at A4 st4
  have g_b4 : n0 ≤ b4 := Nat.le_trans Z0 (Nat.le_of_eq g4.symm)
  have sz_b4 : h0.size ≤ b4 := Nat.le_trans K0.1 (Nat.le_of_eq g4.symm)
  have ne_o0_b4 : o0 ≠ b4 := Nat.ne_of_lt (Nat.lt_of_lt_of_le E_o0.lt (Nat.le_of_eq g4.symm))
  replace E_o0 := E_o0.ext E4
  replace F_signum_o0 := F_signum_o0.ext E4
  replace F_mag_o0 := F_mag_o0.ext E4
  replace K0 := K0.ext E4
  replace Z0 := Nat.le_trans Z0 E4.1
  have V_b4 : Arv Z h4 b4 k4 .int (2 : Int32) [] (.int (0 : Int32)) := Arv.new A4 (by decide)
  refine own_by st4 ?_
  show own_Go p e below _ (T4.setTop (mkF m 58 #[rv o0, oJ j0, oS, iv (((j0.toUInt64 >>> ((32 : Int32) &&& 0x3f).toInt64.toUInt64).toInt64).toInt32)] [(.ref b4), (.ref o0)]))
  refine own_c2 (putF X4 hx hZ hown (host := "") (Or.inl (hw _ (List.mem_of_getElem? (i := 136) rfl))) Via.refl e4 F_mag_o0 E_o0 (Or.inr ⟨(hw _ (List.mem_of_getElem? (i := 137) rfl)), rfl, hnm⟩) (hw _ (List.mem_of_getElem? (i := 126) rfl)) (ty := (.array .int)) (by decide) rfl rfl rfl rfl (hb hby d25_58)) fun T5 h5 X5 e5 W5 => ?_
  replace F_mag_o0 := F_mag_o0.same W5
  replace E_o0 := E_o0.wr W5
  replace F_signum_o0 := F_signum_o0.other W5 (Or.inr (sn19 hw))
  replace V_b4 := V_b4.other W5 (Ne.symm ne_o0_b4)
  replace K0 := K0.wr W5 (Or.inl (List.mem_of_getElem? (i := 0) rfl))
  replace Z0 := Nat.le_trans Z0 (Keep.of_wr W5).1
  replace N0 := Fr.snoc X5 N0 g_o0
  show own_Go p e below _ (T5.setTop (mkF m 61 #[rv o0, oJ j0, oS, iv (((j0.toUInt64 >>> ((32 : Int32) &&& 0x3f).toInt64.toUInt64).toInt64).toInt32)] []))
  refine own_by (B := T5.setTop (mkF m 62 #[rv o0, oJ j0, oS, iv (((j0.toUInt64 >>> ((32 : Int32) &&& 0x3f).toInt64.toUInt64).toInt64).toInt32)] [(.ref o0)])) (fun t k => ?_) ?_
  · show Steps p.tables e below (T5.setTop (mkF m 61 #[rv o0, oJ j0, oS, iv (((j0.toUInt64 >>> ((32 : Int32) &&& 0x3f).toInt64.toUInt64).toInt64).toInt32)] [])) _
    refine XS.aloadN X5.here hx rfl (hb hby d25_61) rfl rfl ?_
    show Steps p.tables e below (T5.setTop (mkF m 62 #[rv o0, oJ j0, oS, iv (((j0.toUInt64 >>> ((32 : Int32) &&& 0x3f).toInt64.toUInt64).toInt64).toInt32)] [(.ref o0)])) _
    exact k
  refine own_c1 (getF X5 hx hZ hown (host := "") (Or.inl (hw _ (List.mem_of_getElem? (i := 136) rfl))) Via.refl e5 F_mag_o0 rfl rfl (hb hby d25_62)) fun T6 X6 e6 => ?_
  show own_Go p e below _ (T6.setTop (mkF m 65 #[rv o0, oJ j0, oS, iv (((j0.toUInt64 >>> ((32 : Int32) &&& 0x3f).toInt64.toUInt64).toInt64).toInt32)] [(.ref b4)]))
  refine own_by (B := T6.setTop (mkF m 67 #[rv o0, oJ j0, oS, iv (((j0.toUInt64 >>> ((32 : Int32) &&& 0x3f).toInt64.toUInt64).toInt64).toInt32)] [(.int (((j0.toUInt64 >>> ((32 : Int32) &&& 0x3f).toInt64.toUInt64).toInt64).toInt32)), (.int (0 : Int32)), (.ref b4)])) (fun t k => ?_) ?_
  · show Steps p.tables e below (T6.setTop (mkF m 65 #[rv o0, oJ j0, oS, iv (((j0.toUInt64 >>> ((32 : Int32) &&& 0x3f).toInt64.toUInt64).toInt64).toInt32)] [(.ref b4)])) _
    refine XS.iconst X6.here hx rfl (hb hby d25_65) ?_
    show Steps p.tables e below (T6.setTop (mkF m 66 #[rv o0, oJ j0, oS, iv (((j0.toUInt64 >>> ((32 : Int32) &&& 0x3f).toInt64.toUInt64).toInt64).toInt32)] [(.int (0 : Int32)), (.ref b4)])) _
    refine XS.iloadN X6.here hx rfl (hb hby d25_66) rfl ?_
    show Steps p.tables e below (T6.setTop (mkF m 67 #[rv o0, oJ j0, oS, iv (((j0.toUInt64 >>> ((32 : Int32) &&& 0x3f).toInt64.toUInt64).toInt64).toInt32)] [(.int (((j0.toUInt64 >>> ((32 : Int32) &&& 0x3f).toInt64.toUInt64).toInt64).toInt32)), (.int (0 : Int32)), (.ref b4)])) _
    exact k
  replace V_b4 : Arv Z h5 b4 k4 .int (2 : Int32) [(.int (0 : Int32))] (.int (0 : Int32)) := V_b4.pad (pad_rep [] (.int (0 : Int32)) 1)
  obtain ⟨cl7, Ar7, q7, S7, N7, H7, G7⟩ := V_b4
  have hin7 : ¬ ((0 : Int32) < 0 ∨ cl7.slots.size ≤ ((0 : Int32)).toNatClampNeg) := inb_of S7 ⟨by decide, by decide⟩
  refine own_c2 (stI X6 hx hZ e6 Ar7 (j := (0 : Int32)) hin7 rfl rfl (hb hby d25_67)) fun T7 h7 X7 e7 W7 => ?_
  replace V_b4 : Arv Z h7 b4 k4 .int (2 : Int32) [(.int (((j0.toUInt64 >>> ((32 : Int32) &&& 0x3f).toInt64.toUInt64).toInt64).toInt32))] (.int (0 : Int32)) := Arv.set Ar7 q7 S7 N7 H7 G7 rfl W7 0 rfl (Nat.le_of_ble_eq_true rfl)
  replace E_o0 := E_o0.wr W7
  replace F_signum_o0 := F_signum_o0.other W7 (Or.inl ne_o0_b4)
  replace F_mag_o0 := F_mag_o0.other W7 (Or.inl ne_o0_b4)
  replace K0 := K0.wr W7 (Or.inr sz_b4)
  replace Z0 := Nat.le_trans Z0 (Keep.of_wr W7).1
  replace N0 := Fr.snoc X7 N0 g_b4
  show own_Go p e below _ (T7.setTop (mkF m 68 #[rv o0, oJ j0, oS, iv (((j0.toUInt64 >>> ((32 : Int32) &&& 0x3f).toInt64.toUInt64).toInt64).toInt32)] []))
  refine own_by (B := T7.setTop (mkF m 69 #[rv o0, oJ j0, oS, iv (((j0.toUInt64 >>> ((32 : Int32) &&& 0x3f).toInt64.toUInt64).toInt64).toInt32)] [(.ref o0)])) (fun t k => ?_) ?_
  · show Steps p.tables e below (T7.setTop (mkF m 68 #[rv o0, oJ j0, oS, iv (((j0.toUInt64 >>> ((32 : Int32) &&& 0x3f).toInt64.toUInt64).toInt64).toInt32)] [])) _
    refine XS.aloadN X7.here hx rfl (hb hby d25_68) rfl rfl ?_
    show Steps p.tables e below (T7.setTop (mkF m 69 #[rv o0, oJ j0, oS, iv (((j0.toUInt64 >>> ((32 : Int32) &&& 0x3f).toInt64.toUInt64).toInt64).toInt32)] [(.ref o0)])) _
    exact k
  refine own_c1 (getF X7 hx hZ hown (host := "") (Or.inl (hw _ (List.mem_of_getElem? (i := 136) rfl))) Via.refl e7 F_mag_o0 rfl rfl (hb hby d25_69)) fun T8 X8 e8 => ?_
  show own_Go p e below _ (T8.setTop (mkF m 72 #[rv o0, oJ j0, oS, iv (((j0.toUInt64 >>> ((32 : Int32) &&& 0x3f).toInt64.toUInt64).toInt64).toInt32)] [(.ref b4)]))
  refine own_by (B := T8.setTop (mkF m 75 #[rv o0, oJ j0, oS, iv (((j0.toUInt64 >>> ((32 : Int32) &&& 0x3f).toInt64.toUInt64).toInt64).toInt32)] [(.int (j0.toInt32)), (.int (1 : Int32)), (.ref b4)])) (fun t k => ?_) ?_
  · show Steps p.tables e below (T8.setTop (mkF m 72 #[rv o0, oJ j0, oS, iv (((j0.toUInt64 >>> ((32 : Int32) &&& 0x3f).toInt64.toUInt64).toInt64).toInt32)] [(.ref b4)])) _
    refine XS.iconst X8.here hx rfl (hb hby d25_72) ?_
    show Steps p.tables e below (T8.setTop (mkF m 73 #[rv o0, oJ j0, oS, iv (((j0.toUInt64 >>> ((32 : Int32) &&& 0x3f).toInt64.toUInt64).toInt64).toInt32)] [(.int (1 : Int32)), (.ref b4)])) _
    refine XS.lloadN X8.here hx rfl (hb hby d25_73) rfl ?_
    show Steps p.tables e below (T8.setTop (mkF m 74 #[rv o0, oJ j0, oS, iv (((j0.toUInt64 >>> ((32 : Int32) &&& 0x3f).toInt64.toUInt64).toInt64).toInt32)] [(.long j0), (.int (1 : Int32)), (.ref b4)])) _
    refine XS.l2i X8.here hx rfl (hb hby d25_74) rfl ?_
    show Steps p.tables e below (T8.setTop (mkF m 75 #[rv o0, oJ j0, oS, iv (((j0.toUInt64 >>> ((32 : Int32) &&& 0x3f).toInt64.toUInt64).toInt64).toInt32)] [(.int (j0.toInt32)), (.int (1 : Int32)), (.ref b4)])) _
    exact k
  replace V_b4 : Arv Z h7 b4 k4 .int (2 : Int32) [(.int (((j0.toUInt64 >>> ((32 : Int32) &&& 0x3f).toInt64.toUInt64).toInt64).toInt32)), (.int (0 : Int32))] (.int (0 : Int32)) := V_b4.pad (pad_rep [(.int (((j0.toUInt64 >>> ((32 : Int32) &&& 0x3f).toInt64.toUInt64).toInt64).toInt32))] (.int (0 : Int32)) 1)
  obtain ⟨cl9, Ar9, q9, S9, N9, H9, G9⟩ := V_b4
  have hin9 : ¬ ((1 : Int32) < 0 ∨ cl9.slots.size ≤ ((1 : Int32)).toNatClampNeg) := inb_of S9 ⟨by decide, by decide⟩
  refine own_c2 (stI X8 hx hZ e8 Ar9 (j := (1 : Int32)) hin9 rfl rfl (hb hby d25_75)) fun T9 h9 X9 e9 W9 => ?_
  replace V_b4 : Arv Z h9 b4 k4 .int (2 : Int32) [(.int (((j0.toUInt64 >>> ((32 : Int32) &&& 0x3f).toInt64.toUInt64).toInt64).toInt32)), (.int (j0.toInt32))] (.int (0 : Int32)) := Arv.set Ar9 q9 S9 N9 H9 G9 rfl W9 1 rfl (Nat.le_of_ble_eq_true rfl)
  replace E_o0 := E_o0.wr W9
  replace F_signum_o0 := F_signum_o0.other W9 (Or.inl ne_o0_b4)
  replace F_mag_o0 := F_mag_o0.other W9 (Or.inl ne_o0_b4)
  replace K0 := K0.wr W9 (Or.inr sz_b4)
  replace Z0 := Nat.le_trans Z0 (Keep.of_wr W9).1
  replace N0 := Fr.snoc X9 N0 g_b4
  show own_Go p e below _ (T9.setTop (mkF m 76 #[rv o0, oJ j0, oS, iv (((j0.toUInt64 >>> ((32 : Int32) &&& 0x3f).toInt64.toUInt64).toInt64).toInt32)] []))
  exact own_retV X9 Bd.notSynchronized hx Bd.returns (hb hby d25_76) (by
      rw [show T9.heap = h9 from e9]
      exact ⟨b4, k4, rfl, N0, K0, E_o0, F_signum_o0, F_mag_o0, V_b4, sz_b4⟩) (by decide) (by decide)

theorem d24_0 : decode jdk_2097_method_29_code 0 = .ok (.lload_n 0, 1) := by decide +kernel
theorem d24_1 : decode jdk_2097_method_29_code 1 = .ok (.lconst 0, 1) := by decide +kernel
theorem d24_2 : decode jdk_2097_method_29_code 2 = .ok (.lcmp, 1) := by decide +kernel
theorem d24_3 : decode jdk_2097_method_29_code 3 = .ok (.ifCond .ne 7, 3) := by decide +kernel
theorem d24_10 : decode jdk_2097_method_29_code 10 = .ok (.lload_n 0, 1) := by decide +kernel
theorem d24_11 : decode jdk_2097_method_29_code 11 = .ok (.lconst 0, 1) := by decide +kernel
theorem d24_12 : decode jdk_2097_method_29_code 12 = .ok (.lcmp, 1) := by decide +kernel
theorem d24_13 : decode jdk_2097_method_29_code 13 = .ok (.ifCond .le 18, 3) := by decide +kernel
theorem d24_16 : decode jdk_2097_method_29_code 16 = .ok (.lload_n 0, 1) := by decide +kernel
theorem d24_17 : decode jdk_2097_method_29_code 17 = .ok (.ldc2_w 345, 3) := by decide +kernel
theorem d24_20 : decode jdk_2097_method_29_code 20 = .ok (.lcmp, 1) := by decide +kernel
theorem d24_21 : decode jdk_2097_method_29_code 21 = .ok (.ifCond .gt 10, 3) := by decide +kernel
theorem d24_31 : decode jdk_2097_method_29_code 31 = .ok (.lload_n 0, 1) := by decide +kernel
theorem d24_32 : decode jdk_2097_method_29_code 32 = .ok (.lconst 0, 1) := by decide +kernel
theorem d24_33 : decode jdk_2097_method_29_code 33 = .ok (.lcmp, 1) := by decide +kernel
theorem d24_34 : decode jdk_2097_method_29_code 34 = .ok (.ifCond .ge 19, 3) := by decide +kernel
theorem d24_53 : decode jdk_2097_method_29_code 53 = .ok (.new 23, 3) := by decide +kernel
theorem d24_56 : decode jdk_2097_method_29_code 56 = .ok (.dup, 1) := by decide +kernel
theorem d24_57 : decode jdk_2097_method_29_code 57 = .ok (.lload_n 0, 1) := by decide +kernel
theorem d24_58 : decode jdk_2097_method_29_code 58 = .ok (.invokespecial 356, 3) := by decide +kernel
theorem d24_61 : decode jdk_2097_method_29_code 61 = .ok (.areturn, 1) := by decide +kernel
theorem pn_24 : plainName "java/math/BigInteger" = true := by first | (simp [plainName, overriddenIn]; done) | decide +kernel
theorem pd_19 : parseMethodDescriptor "(J)V" = some ⟨[.long], none⟩ := by decide +kernel
theorem ef_24 (m : MethodId) (x0 : Int64) : entryFrame m #[(.long x0)] 2 = mkF m 0 #[oJ x0, oS] [] := by first | (simp [entryFrame, mkF, argsToLocals, Value.category]; done) | rfl
def Q24_15 (Z : State) (j0 : Int64) (h0 : Heap) (n0 : Nat) (v : Option Value) (h : Heap) (L : List Loc) : Prop := ∃ b1 : Addr, ∃ b4_3 : Addr, ∃ k4_3 : ClassId, v = some (.ref b1) ∧ Fr n0 L ∧ Keep h0 h [] ∧ Exa Z h b1 "java/math/BigInteger" ∧ Fld Z h b1 "java/math/BigInteger" "signum" "I" (.int (1 : Int32)) ∧ Fld Z h b1 "java/math/BigInteger" "mag" "[I" (.ref b4_3) ∧ Arv Z h b4_3 k4_3 .int (2 : Int32) [(.int (((j0.toUInt64 >>> (32 : Int32).toInt64.toUInt64).toInt64).toInt32)), (.int (j0.toInt32))] (.int (0 : Int32)) ∧ h0.size ≤ b1 ∧ h0.size ≤ b4_3 ∧ b1 ≠ b4_3
set_option maxRecDepth 65536 in
set_option maxHeartbeats 40000000 in
theorem rm24_15 (l : Launch) (Z : State) (a0 : Array Value) (hw : ∀ d ∈ tables_1, d.before a0 Z = true) (ws : List Jvm.Cond) (j0 : Int64) (h0 : Heap) (n0 : Nat) (Z0 : n0 ≤ h0.size) (hp0 : ¬ (j0 = (0 : Int64))) (hp1 : (0 : Int64) < j0) (hp2 : (16 : Int64) < j0) (hp3 : ¬ (j0 < (0 : Int64))) (hp4 : ¬ ((((j0.toUInt64 >>> (32 : Int32).toInt64.toUInt64).toInt64).toInt32) = (0 : Int32))) :
    MetFree l (⟨"java/math/BigInteger", "valueOf", "(J)Ljava/math/BigInteger;"⟩ : MethodName) (head1 (Jvm.Cond.code (⟨"java/math/BigInteger", "valueOf", "(J)Ljava/math/BigInteger;"⟩ : MethodName) jdk_2097_method_29_code 2 (some (.object "java/math/BigInteger")) :: ws) ({ frames := 3, cells := 2, slots := 8, locals := 40 } : Room)) (fun a U => a = #[(.long j0)] ∧ Z.Warmed39 U.vm ∧ U.heap = h0) (fun _ _ _ _ _ => True) (fun _ U o U' => ∃ v L, o = .returned v ∧ Q24_15 Z j0 h0 n0 v U'.heap L ∧ FrameEnd U o U' L ({ frames := 3, cells := 2, slots := 8, locals := 40 } : Room).cells ({ frames := 3, cells := 2, slots := 8, locals := 40 } : Room).slots) := by
  refine MetFree.of_bodySF (plainFor_of_name pn_24) hisR ?_
  intro p e s m args below meth c s₁ Bd hml0 hP hK
  obtain ⟨rfl, hZ, hh⟩ := hP
  have hx := Bd.exec
  have hby := Bd.bytes
  have hml : c.maxLocals = 2 := hml0
  have hown : s.vm.findClass "java/math/BigInteger" = some m.cls := findClass_of_methodNamed Bd.named
  have hnm := (name_of_methodNamed Bd.named Bd.method).1
  have X0 : Stand p l e ({ frames := 3, cells := 2, slots := 8, locals := 40 } : Room) s m #[(.long j0)] below meth c s₁ [] 0 0 := Stand.of_body Bd
  have e0 : s₁.heap = h0 := by rw [← hh, Bd.state]; rfl
  have N0 := Fr.nil n0
  have K0 : Keep h0 h0 [] := Keep.refl h0 _
  change own_Go p e below (own_Post s (Q24_15 Z j0 h0 n0) ({ frames := 3, cells := 2, slots := 8, locals := 40 } : Room).cells ({ frames := 3, cells := 2, slots := 8, locals := 40 } : Room).slots) (s₁.setTop (entryFrame m #[(.long j0)] 2))
  refine own_by (fun t k => castTop (ef_24 m j0) k) ?_
  show own_Go p e below _ (s₁.setTop (mkF m 0 #[oJ j0, oS] []))
  refine own_by (B := s₁.setTop (mkF m 53 #[oJ j0, oS] [])) (fun t k => ?_) ?_
  · show Steps p.tables e below (s₁.setTop (mkF m 0 #[oJ j0, oS] [])) _
    refine XS.lloadN X0.here hx rfl (hb hby d24_0) rfl ?_
    show Steps p.tables e below (s₁.setTop (mkF m 1 #[oJ j0, oS] [(.long j0)])) _
    refine XS.lconst X0.here hx rfl (hb hby d24_1) ?_
    show Steps p.tables e below (s₁.setTop (mkF m 2 #[oJ j0, oS] [(.long (0 : Int64)), (.long j0)])) _
    refine XS.lcmp X0.here hx rfl (hb hby d24_2) rfl ?_
    show Steps p.tables e below (s₁.setTop (mkF m 3 #[oJ j0, oS] [(.int (lcmpW j0 (0 : Int64)))])) _
    refine XS.ifYes X0.here hx rfl (pc0 := 3) (pc' := 10) rfl (hb hby d24_3) rfl ((if0 _ _).trans (feq (fun q => hp0 ((lw_eq _ _).mp q))).2) (by decide) (by decide) ?_
    show Steps p.tables e below (s₁.setTop (mkF m 10 #[oJ j0, oS] [])) _
    refine XS.lloadN X0.here hx rfl (hb hby d24_10) rfl ?_
    show Steps p.tables e below (s₁.setTop (mkF m 11 #[oJ j0, oS] [(.long j0)])) _
    refine XS.lconst X0.here hx rfl (hb hby d24_11) ?_
    show Steps p.tables e below (s₁.setTop (mkF m 12 #[oJ j0, oS] [(.long (0 : Int64)), (.long j0)])) _
    refine XS.lcmp X0.here hx rfl (hb hby d24_12) rfl ?_
    show Steps p.tables e below (s₁.setTop (mkF m 13 #[oJ j0, oS] [(.int (lcmpW j0 (0 : Int64)))])) _
    refine XS.ifNo X0.here hx rfl (hb hby d24_13) rfl ((if0 _ _).trans (tlt ((lw_gt _ _).mpr hp1)).2.2.2) ?_
    show Steps p.tables e below (s₁.setTop (mkF m 16 #[oJ j0, oS] [])) _
    refine XS.lloadN X0.here hx rfl (hb hby d24_16) rfl ?_
    show Steps p.tables e below (s₁.setTop (mkF m 17 #[oJ j0, oS] [(.long j0)])) _
    refine X0.ldc2Long hx hown (mvT hZ (hw _ (List.mem_of_getElem? (i := 124) rfl))) (g := (mkF m 17 #[oJ j0, oS] [(.long j0)])) rfl (hb hby d24_17) _ ?_
    show Steps p.tables e below (s₁.setTop (mkF m 20 #[oJ j0, oS] [(.long (16 : Int64)), (.long j0)])) _
    refine XS.lcmp X0.here hx rfl (hb hby d24_20) rfl ?_
    show Steps p.tables e below (s₁.setTop (mkF m 21 #[oJ j0, oS] [(.int (lcmpW j0 (16 : Int64)))])) _
    refine XS.ifYes X0.here hx rfl (pc0 := 21) (pc' := 31) rfl (hb hby d24_21) rfl ((if0 _ _).trans (tlt ((lw_gt _ _).mpr hp2)).2.2.1) (by decide) (by decide) ?_
    show Steps p.tables e below (s₁.setTop (mkF m 31 #[oJ j0, oS] [])) _
    refine XS.lloadN X0.here hx rfl (hb hby d24_31) rfl ?_
    show Steps p.tables e below (s₁.setTop (mkF m 32 #[oJ j0, oS] [(.long j0)])) _
    refine XS.lconst X0.here hx rfl (hb hby d24_32) ?_
    show Steps p.tables e below (s₁.setTop (mkF m 33 #[oJ j0, oS] [(.long (0 : Int64)), (.long j0)])) _
    refine XS.lcmp X0.here hx rfl (hb hby d24_33) rfl ?_
    show Steps p.tables e below (s₁.setTop (mkF m 34 #[oJ j0, oS] [(.int (lcmpW j0 (0 : Int64)))])) _
    refine XS.ifYes X0.here hx rfl (pc0 := 34) (pc' := 53) rfl (hb hby d24_34) rfl ((if0 _ _).trans (flt (fun q => hp3 ((lw_lt _ _).mp q))).2.1) (by decide) (by decide) ?_
    show Steps p.tables e below (s₁.setTop (mkF m 53 #[oJ j0, oS] [])) _
    exact k
  obtain ⟨T1, h1, X1, e1, E1, A1, D1, -, st1⟩ := newO X0 hx hZ hown (hw _ (List.mem_of_getElem? (i := 125) rfl)) (hw _ (List.mem_of_getElem? (i := 126) rfl)) (hw _ (List.mem_of_getElem? (i := 122) rfl)) e0 (g := (mkF m 53 #[oJ j0, oS] [])) rfl (hb hby d24_53) (by decide) (by decide)
  obtain ⟨b1, g1⟩ : ∃ z, z = h0.size := ⟨_, rfl⟩
  rw [← g1] at A1 D1 st1
  have g_b1 : n0 ≤ b1 := Nat.le_trans Z0 (Nat.le_of_eq g1.symm)
  have sz_b1 : h0.size ≤ b1 := Nat.le_trans K0.1 (Nat.le_of_eq g1.symm)
  replace K0 := K0.ext E1
  replace Z0 := Nat.le_trans Z0 E1.1
  have E_b1 := A1
  have F_signum_b1 : Fld Z h1 b1 "java/math/BigInteger" "signum" "I" (.int (0 : Int32)) := D1 (Or.inr (hw _ (List.mem_of_getElem? (i := 134) rfl))) (ty := .int) (by decide)
  have F_mag_b1 : Fld Z h1 b1 "java/math/BigInteger" "mag" "[I" .null := D1 (Or.inr (hw _ (List.mem_of_getElem? (i := 137) rfl))) (ty := (.array .int)) (by decide)
  refine own_by st1 ?_
  show own_Go p e below _ (T1.setTop (mkF m 56 #[oJ j0, oS] [(.ref b1)]))
  refine own_by (B := T1.setTop (mkF m 58 #[oJ j0, oS] [(.long j0), (.ref b1), (.ref b1)])) (fun t k => ?_) ?_
  · show Steps p.tables e below (T1.setTop (mkF m 56 #[oJ j0, oS] [(.ref b1)])) _
    refine XS.dup X1.here hx rfl (hb hby d24_56) rfl rfl ?_
    show Steps p.tables e below (T1.setTop (mkF m 57 #[oJ j0, oS] [(.ref b1), (.ref b1)])) _
    refine XS.lloadN X1.here hx rfl (hb hby d24_57) rfl ?_
    show Steps p.tables e below (T1.setTop (mkF m 58 #[oJ j0, oS] [(.long j0), (.ref b1), (.ref b1)])) _
    exact k
  refine own_cc (own_callI X1 hx hZ (y := (⟨"java/math/BigInteger", "<init>", "(J)V"⟩ : MethodName)) rfl hown (hw _ (List.mem_of_getElem? (i := 127) rfl)) (hw _ (List.mem_of_getElem? (i := 128) rfl)) (hw _ (List.mem_of_getElem? (i := 122) rfl)) (hw _ (List.mem_of_getElem? (i := 130) rfl)) (by decide) (rm25_14 l Z a0 hw [] b1 j0 (0 : Int32) h1 n0 Z0 g_b1 E_b1 F_signum_b1 F_mag_b1 hp3 hp4) e1 1 (by decide) (by decide) (by decide) (by decide) rfl (by rw [hml]; rfl) b1 [(.long j0)] [(.ref b1)] rfl (lenOf pd_19 rfl) rfl (by show 2 * 0 + _ ≤ _; exact Nat.le_of_eq rfl) (hb hby d24_58)) fun T3 L3 v3 X3 hQ3 => ?_
  obtain ⟨b4_3, k4_3, rfl, N3, K3, E_b1', F_signum_b1', F_mag_b1', V_b4_3', sz_b4_3'⟩ := hQ3
  replace N0 := Fr.app N0 N3
  have g_b4_3 : n0 ≤ b4_3 := Nat.le_trans Z0 sz_b4_3'
  have sz_b4_3 : h0.size ≤ b4_3 := Nat.le_trans K0.1 sz_b4_3'
  have ne_b1_b4_3 : b1 ≠ b4_3 := Nat.ne_of_lt (Nat.lt_of_lt_of_le E_b1.lt sz_b4_3')
  replace E_b1 := E_b1.keep K3
  replace K0 := K0.trans K3 (allS (Or.inr sz_b1) all0)
  replace Z0 := Nat.le_trans Z0 K3.1
  replace E_b1 := E_b1'
  have F_signum_b1 := F_signum_b1'
  have F_mag_b1 := F_mag_b1'
  have V_b4_3 : Arv Z T3.heap b4_3 k4_3 .int (2 : Int32) [(.int (((j0.toUInt64 >>> (32 : Int32).toInt64.toUInt64).toInt64).toInt32)), (.int (j0.toInt32))] (.int (0 : Int32)) := V_b4_3'
  show own_Go p e below _ (T3.setTop (mkF m 61 #[oJ j0, oS] [(.ref b1)]))
  exact own_retR X3 Bd.notSynchronized hx Bd.returns rfl rfl rfl (hb hby d24_61) ⟨b1, b4_3, k4_3, rfl, N0, K0, E_b1, F_signum_b1, F_mag_b1, V_b4_3, sz_b1, sz_b4_3, ne_b1_b4_3⟩ (by decide) (by decide)

theorem d28_0 : decode jdk_2097_method_34_code 0 = .ok (.lconst 0, 1) := by decide +kernel
theorem d28_1 : decode jdk_2097_method_34_code 1 = .ok (.lstore 4, 2) := by decide +kernel
theorem d28_3 : decode jdk_2097_method_34_code 3 = .ok (.aload_n 0, 1) := by decide +kernel
theorem d28_4 : decode jdk_2097_method_34_code 4 = .ok (.arraylength, 1) := by decide +kernel
theorem d28_5 : decode jdk_2097_method_34_code 5 = .ok (.istore 6, 2) := by decide +kernel
theorem d28_7 : decode jdk_2097_method_34_code 7 = .ok (.lload_n 1, 1) := by decide +kernel
theorem d28_8 : decode jdk_2097_method_34_code 8 = .ok (.bipush 32, 2) := by decide +kernel
theorem d28_10 : decode jdk_2097_method_34_code 10 = .ok (.lushr, 1) := by decide +kernel
theorem d28_11 : decode jdk_2097_method_34_code 11 = .ok (.l2i, 1) := by decide +kernel
theorem d28_12 : decode jdk_2097_method_34_code 12 = .ok (.istore 8, 2) := by decide +kernel
theorem d28_14 : decode jdk_2097_method_34_code 14 = .ok (.iload 8, 2) := by decide +kernel
theorem d28_16 : decode jdk_2097_method_34_code 16 = .ok (.ifCond .ne 36, 3) := by decide +kernel
theorem d28_52 : decode jdk_2097_method_34_code 52 = .ok (.iload 6, 2) := by decide +kernel
theorem d28_54 : decode jdk_2097_method_34_code 54 = .ok (.iconst 1, 1) := by decide +kernel
theorem d28_55 : decode jdk_2097_method_34_code 55 = .ok (.if_icmp .ne 40, 3) := by decide +kernel
theorem d28_95 : decode jdk_2097_method_34_code 95 = .ok (.iload 6, 2) := by decide +kernel
theorem d28_97 : decode jdk_2097_method_34_code 97 = .ok (.newarray .int, 2) := by decide +kernel
theorem d28_99 : decode jdk_2097_method_34_code 99 = .ok (.astore 7, 2) := by decide +kernel
theorem d28_101 : decode jdk_2097_method_34_code 101 = .ok (.aload_n 0, 1) := by decide +kernel
theorem d28_102 : decode jdk_2097_method_34_code 102 = .ok (.iinc 6 (-1), 3) := by decide +kernel
theorem d28_105 : decode jdk_2097_method_34_code 105 = .ok (.iload 6, 2) := by decide +kernel
theorem d28_107 : decode jdk_2097_method_34_code 107 = .ok (.iaload, 1) := by decide +kernel
theorem d28_108 : decode jdk_2097_method_34_code 108 = .ok (.i2l, 1) := by decide +kernel
theorem d28_109 : decode jdk_2097_method_34_code 109 = .ok (.ldc2_w 130, 3) := by decide +kernel
theorem d28_112 : decode jdk_2097_method_34_code 112 = .ok (.land, 1) := by decide +kernel
theorem d28_113 : decode jdk_2097_method_34_code 113 = .ok (.lload_n 1, 1) := by decide +kernel
theorem d28_114 : decode jdk_2097_method_34_code 114 = .ok (.ldc2_w 130, 3) := by decide +kernel
theorem d28_117 : decode jdk_2097_method_34_code 117 = .ok (.land, 1) := by decide +kernel
theorem d28_118 : decode jdk_2097_method_34_code 118 = .ok (.ladd, 1) := by decide +kernel
theorem d28_119 : decode jdk_2097_method_34_code 119 = .ok (.lstore 4, 2) := by decide +kernel
theorem d28_121 : decode jdk_2097_method_34_code 121 = .ok (.aload 7, 2) := by decide +kernel
theorem d28_123 : decode jdk_2097_method_34_code 123 = .ok (.iload 6, 2) := by decide +kernel
theorem d28_125 : decode jdk_2097_method_34_code 125 = .ok (.lload 4, 2) := by decide +kernel
theorem d28_127 : decode jdk_2097_method_34_code 127 = .ok (.l2i, 1) := by decide +kernel
theorem d28_128 : decode jdk_2097_method_34_code 128 = .ok (.iastore, 1) := by decide +kernel
theorem d28_129 : decode jdk_2097_method_34_code 129 = .ok (.aload_n 0, 1) := by decide +kernel
theorem d28_130 : decode jdk_2097_method_34_code 130 = .ok (.iinc 6 (-1), 3) := by decide +kernel
theorem d28_133 : decode jdk_2097_method_34_code 133 = .ok (.iload 6, 2) := by decide +kernel
theorem d28_135 : decode jdk_2097_method_34_code 135 = .ok (.iaload, 1) := by decide +kernel
theorem d28_136 : decode jdk_2097_method_34_code 136 = .ok (.i2l, 1) := by decide +kernel
theorem d28_137 : decode jdk_2097_method_34_code 137 = .ok (.ldc2_w 130, 3) := by decide +kernel
theorem d28_140 : decode jdk_2097_method_34_code 140 = .ok (.land, 1) := by decide +kernel
theorem d28_141 : decode jdk_2097_method_34_code 141 = .ok (.iload 8, 2) := by decide +kernel
theorem d28_143 : decode jdk_2097_method_34_code 143 = .ok (.i2l, 1) := by decide +kernel
theorem d28_144 : decode jdk_2097_method_34_code 144 = .ok (.ldc2_w 130, 3) := by decide +kernel
theorem d28_147 : decode jdk_2097_method_34_code 147 = .ok (.land, 1) := by decide +kernel
theorem d28_148 : decode jdk_2097_method_34_code 148 = .ok (.ladd, 1) := by decide +kernel
theorem d28_149 : decode jdk_2097_method_34_code 149 = .ok (.lload 4, 2) := by decide +kernel
theorem d28_151 : decode jdk_2097_method_34_code 151 = .ok (.bipush 32, 2) := by decide +kernel
theorem d28_153 : decode jdk_2097_method_34_code 153 = .ok (.lushr, 1) := by decide +kernel
theorem d28_154 : decode jdk_2097_method_34_code 154 = .ok (.ladd, 1) := by decide +kernel
theorem d28_155 : decode jdk_2097_method_34_code 155 = .ok (.lstore 4, 2) := by decide +kernel
theorem d28_157 : decode jdk_2097_method_34_code 157 = .ok (.aload 7, 2) := by decide +kernel
theorem d28_159 : decode jdk_2097_method_34_code 159 = .ok (.iload 6, 2) := by decide +kernel
theorem d28_161 : decode jdk_2097_method_34_code 161 = .ok (.lload 4, 2) := by decide +kernel
theorem d28_163 : decode jdk_2097_method_34_code 163 = .ok (.l2i, 1) := by decide +kernel
theorem d28_164 : decode jdk_2097_method_34_code 164 = .ok (.iastore, 1) := by decide +kernel
theorem d28_165 : decode jdk_2097_method_34_code 165 = .ok (.lload 4, 2) := by decide +kernel
theorem d28_167 : decode jdk_2097_method_34_code 167 = .ok (.bipush 32, 2) := by decide +kernel
theorem d28_169 : decode jdk_2097_method_34_code 169 = .ok (.lushr, 1) := by decide +kernel
theorem d28_170 : decode jdk_2097_method_34_code 170 = .ok (.lconst 0, 1) := by decide +kernel
theorem d28_171 : decode jdk_2097_method_34_code 171 = .ok (.lcmp, 1) := by decide +kernel
theorem d28_172 : decode jdk_2097_method_34_code 172 = .ok (.ifCond .eq 7, 3) := by decide +kernel
theorem d28_179 : decode jdk_2097_method_34_code 179 = .ok (.iconst 0, 1) := by decide +kernel
theorem d28_180 : decode jdk_2097_method_34_code 180 = .ok (.istore 9, 2) := by decide +kernel
theorem d28_182 : decode jdk_2097_method_34_code 182 = .ok (.iload 6, 2) := by decide +kernel
theorem d28_184 : decode jdk_2097_method_34_code 184 = .ok (.ifCond .le 36, 3) := by decide +kernel
theorem d28_220 : decode jdk_2097_method_34_code 220 = .ok (.iload 6, 2) := by decide +kernel
theorem d28_222 : decode jdk_2097_method_34_code 222 = .ok (.ifCond .le 18, 3) := by decide +kernel
theorem d28_240 : decode jdk_2097_method_34_code 240 = .ok (.iload 9, 2) := by decide +kernel
theorem d28_242 : decode jdk_2097_method_34_code 242 = .ok (.ifCond .eq 32, 3) := by decide +kernel
theorem d28_274 : decode jdk_2097_method_34_code 274 = .ok (.aload 7, 2) := by decide +kernel
theorem d28_276 : decode jdk_2097_method_34_code 276 = .ok (.areturn, 1) := by decide +kernel
theorem pn_28 : plainName "java/math/BigInteger" = true := by first | (simp [plainName, overriddenIn]; done) | decide +kernel
theorem ef_28 (m : MethodId) (x0 : Addr) (x1 : Int64) : entryFrame m #[(.ref x0), (.long x1)] 11 = mkF m 0 #[rv x0, oJ x1, oS, oU, oU, oU, oU, oU, oU, oU, oU] [] := by first | (simp [entryFrame, mkF, argsToLocals, Value.category]; done) | rfl
def Q28_16 (Z : State) (o0 : Addr) (j0 : Int64) (k0 : ClassId) (i0 : Int32) (i1 : Int32) (h0 : Heap) (n0 : Nat) (v : Option Value) (h : Heap) (L : List Loc) : Prop := ∃ b2 : Addr, ∃ k2 : ClassId, v = some (.ref b2) ∧ Fr n0 L ∧ Keep h0 h [] ∧ Arv Z h b2 k2 .int (2 : Int32) [(.int (((((i0.toInt64) &&& (4294967295 : Int64)) + (((((j0.toUInt64 >>> ((32 : Int32) &&& 0x3f).toInt64.toUInt64).toInt64).toInt32).toInt64) &&& (4294967295 : Int64))) + (((((i1.toInt64) &&& (4294967295 : Int64)) + (j0 &&& (4294967295 : Int64))).toUInt64 >>> ((32 : Int32) &&& 0x3f).toInt64.toUInt64).toInt64)).toInt32)), (.int ((((i1.toInt64) &&& (4294967295 : Int64)) + (j0 &&& (4294967295 : Int64))).toInt32))] (.int (0 : Int32)) ∧ h0.size ≤ b2
set_option maxRecDepth 65536 in
set_option maxHeartbeats 40000000 in
theorem rm28_16 (l : Launch) (Z : State) (a0 : Array Value) (hw : ∀ d ∈ tables_1, d.before a0 Z = true) (ws : List Jvm.Cond) (o0 : Addr) (j0 : Int64) (k0 : ClassId) (i0 : Int32) (i1 : Int32) (h0 : Heap) (n0 : Nat) (Z0 : n0 ≤ h0.size) (V_o0 : Arv Z h0 o0 k0 .int (2 : Int32) [(.int i0), (.int i1)] (.int (0 : Int32))) (hp0 : ¬ ((((j0.toUInt64 >>> ((32 : Int32) &&& 0x3f).toInt64.toUInt64).toInt64).toInt32) = (0 : Int32))) (hp1 : ((((((i0.toInt64) &&& (4294967295 : Int64)) + (((((j0.toUInt64 >>> ((32 : Int32) &&& 0x3f).toInt64.toUInt64).toInt64).toInt32).toInt64) &&& (4294967295 : Int64))) + (((((i1.toInt64) &&& (4294967295 : Int64)) + (j0 &&& (4294967295 : Int64))).toUInt64 >>> ((32 : Int32) &&& 0x3f).toInt64.toUInt64).toInt64)).toUInt64 >>> ((32 : Int32) &&& 0x3f).toInt64.toUInt64).toInt64) = (0 : Int64)) :
    MetFree l (⟨"java/math/BigInteger", "add", "([IJ)[I"⟩ : MethodName) (head1 (Jvm.Cond.code (⟨"java/math/BigInteger", "add", "([IJ)[I"⟩ : MethodName) jdk_2097_method_34_code 11 (some (.array .int)) :: ws) ({ frames := 0, cells := 1, slots := 2, locals := 0 } : Room)) (fun a U => a = #[(.ref o0), (.long j0)] ∧ Z.Warmed39 U.vm ∧ U.heap = h0) (fun _ _ _ _ _ => True) (fun _ U o U' => ∃ v L, o = .returned v ∧ Q28_16 Z o0 j0 k0 i0 i1 h0 n0 v U'.heap L ∧ FrameEnd U o U' L ({ frames := 0, cells := 1, slots := 2, locals := 0 } : Room).cells ({ frames := 0, cells := 1, slots := 2, locals := 0 } : Room).slots) := by
  refine MetFree.of_bodySF (plainFor_of_name pn_28) hisR ?_
  intro p e s m args below meth c s₁ Bd hml0 hP hK
  obtain ⟨rfl, hZ, hh⟩ := hP
  have hx := Bd.exec
  have hby := Bd.bytes
  have hml : c.maxLocals = 11 := hml0
  have hown : s.vm.findClass "java/math/BigInteger" = some m.cls := findClass_of_methodNamed Bd.named
  have hnm := (name_of_methodNamed Bd.named Bd.method).1
  have X0 : Stand p l e ({ frames := 0, cells := 1, slots := 2, locals := 0 } : Room) s m #[(.ref o0), (.long j0)] below meth c s₁ [] 0 0 := Stand.of_body Bd
  have e0 : s₁.heap = h0 := by rw [← hh, Bd.state]; rfl
  have N0 := Fr.nil n0
  have K0 : Keep h0 h0 [] := Keep.refl h0 _
  change own_Go p e below (own_Post s (Q28_16 Z o0 j0 k0 i0 i1 h0 n0) ({ frames := 0, cells := 1, slots := 2, locals := 0 } : Room).cells ({ frames := 0, cells := 1, slots := 2, locals := 0 } : Room).slots) (s₁.setTop (entryFrame m #[(.ref o0), (.long j0)] 11))
  refine own_by (fun t k => castTop (ef_28 m o0 j0) k) ?_
  show own_Go p e below _ (s₁.setTop (mkF m 0 #[rv o0, oJ j0, oS, oU, oU, oU, oU, oU, oU, oU, oU] []))
  refine own_by (B := s₁.setTop (mkF m 97 #[rv o0, oJ j0, oS, oU, oJ (0 : Int64), oS, iv (2 : Int32), oU, iv (((j0.toUInt64 >>> ((32 : Int32) &&& 0x3f).toInt64.toUInt64).toInt64).toInt32), oU, oU] [(.int (2 : Int32))])) (fun t k => ?_) ?_
  · show Steps p.tables e below (s₁.setTop (mkF m 0 #[rv o0, oJ j0, oS, oU, oU, oU, oU, oU, oU, oU, oU] [])) _
    refine XS.lconst X0.here hx rfl (hb hby d28_0) ?_
    show Steps p.tables e below (s₁.setTop (mkF m 1 #[rv o0, oJ j0, oS, oU, oU, oU, oU, oU, oU, oU, oU] [(.long (0 : Int64))])) _
    refine XS.lstore X0.here hx rfl (hb hby d28_1) rfl (l' := #[rv o0, oJ j0, oS, oU, oJ (0 : Int64), oS, oU, oU, oU, oU, oU]) rfl ?_
    show Steps p.tables e below (s₁.setTop (mkF m 3 #[rv o0, oJ j0, oS, oU, oJ (0 : Int64), oS, oU, oU, oU, oU, oU] [])) _
    refine XS.aloadN X0.here hx rfl (hb hby d28_3) rfl rfl ?_
    show Steps p.tables e below (s₁.setTop (mkF m 4 #[rv o0, oJ j0, oS, oU, oJ (0 : Int64), oS, oU, oU, oU, oU, oU] [(.ref o0)])) _
    obtain ⟨cl1, Ar1, -, S1, N1, -, -⟩ := id V_o0
    refine X0.arraylength hx (by rw [show s₁.heap = h0 from e0]; exact Ar1.1) (State.isArrayOf_alike hZ.alike Ar1.2.1) (g := (mkF m 4 #[rv o0, oJ j0, oS, oU, oJ (0 : Int64), oS, oU, oU, oU, oU, oU] [(.ref o0)])) rfl rfl (hb hby d28_4) _ ?_
    rw [len_of S1 N1]
    show Steps p.tables e below (s₁.setTop (mkF m 5 #[rv o0, oJ j0, oS, oU, oJ (0 : Int64), oS, oU, oU, oU, oU, oU] [(.int (2 : Int32))])) _
    refine XS.istore X0.here hx rfl (hb hby d28_5) rfl (l' := #[rv o0, oJ j0, oS, oU, oJ (0 : Int64), oS, iv (2 : Int32), oU, oU, oU, oU]) rfl ?_
    show Steps p.tables e below (s₁.setTop (mkF m 7 #[rv o0, oJ j0, oS, oU, oJ (0 : Int64), oS, iv (2 : Int32), oU, oU, oU, oU] [])) _
    refine XS.lloadN X0.here hx rfl (hb hby d28_7) rfl ?_
    show Steps p.tables e below (s₁.setTop (mkF m 8 #[rv o0, oJ j0, oS, oU, oJ (0 : Int64), oS, iv (2 : Int32), oU, oU, oU, oU] [(.long j0)])) _
    refine XS.bipush X0.here hx rfl (hb hby d28_8) ?_
    show Steps p.tables e below (s₁.setTop (mkF m 10 #[rv o0, oJ j0, oS, oU, oJ (0 : Int64), oS, iv (2 : Int32), oU, oU, oU, oU] [(.int (32 : Int32)), (.long j0)])) _
    refine XS.lushr X0.here hx rfl (hb hby d28_10) rfl ?_
    show Steps p.tables e below (s₁.setTop (mkF m 11 #[rv o0, oJ j0, oS, oU, oJ (0 : Int64), oS, iv (2 : Int32), oU, oU, oU, oU] [(.long ((j0.toUInt64 >>> ((32 : Int32) &&& 0x3f).toInt64.toUInt64).toInt64))])) _
    refine XS.l2i X0.here hx rfl (hb hby d28_11) rfl ?_
    show Steps p.tables e below (s₁.setTop (mkF m 12 #[rv o0, oJ j0, oS, oU, oJ (0 : Int64), oS, iv (2 : Int32), oU, oU, oU, oU] [(.int (((j0.toUInt64 >>> ((32 : Int32) &&& 0x3f).toInt64.toUInt64).toInt64).toInt32))])) _
    refine XS.istore X0.here hx rfl (hb hby d28_12) rfl (l' := #[rv o0, oJ j0, oS, oU, oJ (0 : Int64), oS, iv (2 : Int32), oU, iv (((j0.toUInt64 >>> ((32 : Int32) &&& 0x3f).toInt64.toUInt64).toInt64).toInt32), oU, oU]) rfl ?_
    show Steps p.tables e below (s₁.setTop (mkF m 14 #[rv o0, oJ j0, oS, oU, oJ (0 : Int64), oS, iv (2 : Int32), oU, iv (((j0.toUInt64 >>> ((32 : Int32) &&& 0x3f).toInt64.toUInt64).toInt64).toInt32), oU, oU] [])) _
    refine XS.iload X0.here hx rfl (hb hby d28_14) rfl ?_
    show Steps p.tables e below (s₁.setTop (mkF m 16 #[rv o0, oJ j0, oS, oU, oJ (0 : Int64), oS, iv (2 : Int32), oU, iv (((j0.toUInt64 >>> ((32 : Int32) &&& 0x3f).toInt64.toUInt64).toInt64).toInt32), oU, oU] [(.int (((j0.toUInt64 >>> ((32 : Int32) &&& 0x3f).toInt64.toUInt64).toInt64).toInt32))])) _
    refine XS.ifYes X0.here hx rfl (pc0 := 16) (pc' := 52) rfl (hb hby d28_16) rfl ((if0 _ _).trans (feq hp0).2) (by decide) (by decide) ?_
    show Steps p.tables e below (s₁.setTop (mkF m 52 #[rv o0, oJ j0, oS, oU, oJ (0 : Int64), oS, iv (2 : Int32), oU, iv (((j0.toUInt64 >>> ((32 : Int32) &&& 0x3f).toInt64.toUInt64).toInt64).toInt32), oU, oU] [])) _
    refine XS.iload X0.here hx rfl (hb hby d28_52) rfl ?_
    show Steps p.tables e below (s₁.setTop (mkF m 54 #[rv o0, oJ j0, oS, oU, oJ (0 : Int64), oS, iv (2 : Int32), oU, iv (((j0.toUInt64 >>> ((32 : Int32) &&& 0x3f).toInt64.toUInt64).toInt64).toInt32), oU, oU] [(.int (2 : Int32))])) _
    refine XS.iconst X0.here hx rfl (hb hby d28_54) ?_
    show Steps p.tables e below (s₁.setTop (mkF m 55 #[rv o0, oJ j0, oS, oU, oJ (0 : Int64), oS, iv (2 : Int32), oU, iv (((j0.toUInt64 >>> ((32 : Int32) &&& 0x3f).toInt64.toUInt64).toInt64).toInt32), oU, oU] [(.int (1 : Int32)), (.int (2 : Int32))])) _
    refine XS.icmpYes X0.here hx rfl (pc0 := 55) (pc' := 95) rfl (hb hby d28_55) rfl (feq (by decide : ¬ ((2 : Int32) = (1 : Int32)))).2 (by decide) (by decide) ?_
    show Steps p.tables e below (s₁.setTop (mkF m 95 #[rv o0, oJ j0, oS, oU, oJ (0 : Int64), oS, iv (2 : Int32), oU, iv (((j0.toUInt64 >>> ((32 : Int32) &&& 0x3f).toInt64.toUInt64).toInt64).toInt32), oU, oU] [])) _
    refine XS.iload X0.here hx rfl (hb hby d28_95) rfl ?_
    show Steps p.tables e below (s₁.setTop (mkF m 97 #[rv o0, oJ j0, oS, oU, oJ (0 : Int64), oS, iv (2 : Int32), oU, iv (((j0.toUInt64 >>> ((32 : Int32) &&& 0x3f).toInt64.toUInt64).toInt64).toInt32), oU, oU] [(.int (2 : Int32))])) _
    exact k
  obtain ⟨T2, h2, k2, X2, e2, E2, A2, st2⟩ := newP X0 hx hZ (hw _ (List.mem_of_getElem? (i := 135) rfl)) e0 (g := (mkF m 97 #[rv o0, oJ j0, oS, oU, oJ (0 : Int64), oS, iv (2 : Int32), oU, iv (((j0.toUInt64 >>> ((32 : Int32) &&& 0x3f).toInt64.toUInt64).toInt64).toInt32), oU, oU] [(.int (2 : Int32))])) rfl (hb hby d28_97) rfl (by decide) (cap := 2) (by decide) (by decide) (by decide) (by decide)
  obtain ⟨b2, g2⟩ : ∃ z, z = h0.size := ⟨_, rfl⟩
  rw [← g2] at A2 st2
  have g_b2 : n0 ≤ b2 := Nat.le_trans Z0 (Nat.le_of_eq g2.symm)
  have sz_b2 : h0.size ≤ b2 := Nat.le_trans K0.1 (Nat.le_of_eq g2.symm)
  have ne_o0_b2 : o0 ≠ b2 := Nat.ne_of_lt (Nat.lt_of_lt_of_le V_o0.lt (Nat.le_of_eq g2.symm))
  replace V_o0 := V_o0.ext E2
  replace K0 := K0.ext E2
  replace Z0 := Nat.le_trans Z0 E2.1
  have V_b2 : Arv Z h2 b2 k2 .int (2 : Int32) [] (.int (0 : Int32)) := Arv.new A2 (by decide)
  refine own_by st2 ?_
  show own_Go p e below _ (T2.setTop (mkF m 99 #[rv o0, oJ j0, oS, oU, oJ (0 : Int64), oS, iv (2 : Int32), oU, iv (((j0.toUInt64 >>> ((32 : Int32) &&& 0x3f).toInt64.toUInt64).toInt64).toInt32), oU, oU] [(.ref b2)]))
  refine own_by (B := T2.setTop (mkF m 128 #[rv o0, oJ j0, oS, oU, oJ (((i1.toInt64) &&& (4294967295 : Int64)) + (j0 &&& (4294967295 : Int64))), oS, iv (1 : Int32), rv b2, iv (((j0.toUInt64 >>> ((32 : Int32) &&& 0x3f).toInt64.toUInt64).toInt64).toInt32), oU, oU] [(.int ((((i1.toInt64) &&& (4294967295 : Int64)) + (j0 &&& (4294967295 : Int64))).toInt32)), (.int (1 : Int32)), (.ref b2)])) (fun t k => ?_) ?_
  · show Steps p.tables e below (T2.setTop (mkF m 99 #[rv o0, oJ j0, oS, oU, oJ (0 : Int64), oS, iv (2 : Int32), oU, iv (((j0.toUInt64 >>> ((32 : Int32) &&& 0x3f).toInt64.toUInt64).toInt64).toInt32), oU, oU] [(.ref b2)])) _
    refine XS.astore X2.here hx rfl (hb hby d28_99) rfl rfl (l' := #[rv o0, oJ j0, oS, oU, oJ (0 : Int64), oS, iv (2 : Int32), rv b2, iv (((j0.toUInt64 >>> ((32 : Int32) &&& 0x3f).toInt64.toUInt64).toInt64).toInt32), oU, oU]) rfl ?_
    show Steps p.tables e below (T2.setTop (mkF m 101 #[rv o0, oJ j0, oS, oU, oJ (0 : Int64), oS, iv (2 : Int32), rv b2, iv (((j0.toUInt64 >>> ((32 : Int32) &&& 0x3f).toInt64.toUInt64).toInt64).toInt32), oU, oU] [])) _
    refine XS.aloadN X2.here hx rfl (hb hby d28_101) rfl rfl ?_
    show Steps p.tables e below (T2.setTop (mkF m 102 #[rv o0, oJ j0, oS, oU, oJ (0 : Int64), oS, iv (2 : Int32), rv b2, iv (((j0.toUInt64 >>> ((32 : Int32) &&& 0x3f).toInt64.toUInt64).toInt64).toInt32), oU, oU] [(.ref o0)])) _
    refine XS.iinc X2.here hx rfl (hb hby d28_102) rfl (l' := #[rv o0, oJ j0, oS, oU, oJ (0 : Int64), oS, iv (1 : Int32), rv b2, iv (((j0.toUInt64 >>> ((32 : Int32) &&& 0x3f).toInt64.toUInt64).toInt64).toInt32), oU, oU]) rfl ?_
    show Steps p.tables e below (T2.setTop (mkF m 105 #[rv o0, oJ j0, oS, oU, oJ (0 : Int64), oS, iv (1 : Int32), rv b2, iv (((j0.toUInt64 >>> ((32 : Int32) &&& 0x3f).toInt64.toUInt64).toInt64).toInt32), oU, oU] [(.ref o0)])) _
    refine XS.iload X2.here hx rfl (hb hby d28_105) rfl ?_
    show Steps p.tables e below (T2.setTop (mkF m 107 #[rv o0, oJ j0, oS, oU, oJ (0 : Int64), oS, iv (1 : Int32), rv b2, iv (((j0.toUInt64 >>> ((32 : Int32) &&& 0x3f).toInt64.toUInt64).toInt64).toInt32), oU, oU] [(.int (1 : Int32)), (.ref o0)])) _
    obtain ⟨cl3, Ar3, q3, S3, N3, H3, G3⟩ := id V_o0
    have hin3 : ¬ ((1 : Int32) < 0 ∨ cl3.slots.size ≤ ((1 : Int32)).toNatClampNeg) := inb_of S3 ⟨by decide, by decide⟩
    have hat3 : cl3.slots[((1 : Int32)).toNatClampNeg]? = some (.int i1) := H3.at hin3 rfl
    refine X2.iaload hx (j := (1 : Int32)) (v := (.int i1)) (by rw [show T2.heap = h2 from e2]; exact Ar3.1) (State.isArrayOf_alike hZ.alike Ar3.2.1) Ar3.2.2 hin3 hat3 (g := (mkF m 107 #[rv o0, oJ j0, oS, oU, oJ (0 : Int64), oS, iv (1 : Int32), rv b2, iv (((j0.toUInt64 >>> ((32 : Int32) &&& 0x3f).toInt64.toUInt64).toInt64).toInt32), oU, oU] [(.int (1 : Int32)), (.ref o0)])) rfl rfl (hb hby d28_107) _ ?_
    show Steps p.tables e below (T2.setTop (mkF m 108 #[rv o0, oJ j0, oS, oU, oJ (0 : Int64), oS, iv (1 : Int32), rv b2, iv (((j0.toUInt64 >>> ((32 : Int32) &&& 0x3f).toInt64.toUInt64).toInt64).toInt32), oU, oU] [(.int i1)])) _
    refine XS.i2l X2.here hx rfl (hb hby d28_108) rfl ?_
    show Steps p.tables e below (T2.setTop (mkF m 109 #[rv o0, oJ j0, oS, oU, oJ (0 : Int64), oS, iv (1 : Int32), rv b2, iv (((j0.toUInt64 >>> ((32 : Int32) &&& 0x3f).toInt64.toUInt64).toInt64).toInt32), oU, oU] [(.long (i1.toInt64))])) _
    refine X2.ldc2Long hx hown (mvT hZ (hw _ (List.mem_of_getElem? (i := 150) rfl))) (g := (mkF m 109 #[rv o0, oJ j0, oS, oU, oJ (0 : Int64), oS, iv (1 : Int32), rv b2, iv (((j0.toUInt64 >>> ((32 : Int32) &&& 0x3f).toInt64.toUInt64).toInt64).toInt32), oU, oU] [(.long (i1.toInt64))])) rfl (hb hby d28_109) _ ?_
    show Steps p.tables e below (T2.setTop (mkF m 112 #[rv o0, oJ j0, oS, oU, oJ (0 : Int64), oS, iv (1 : Int32), rv b2, iv (((j0.toUInt64 >>> ((32 : Int32) &&& 0x3f).toInt64.toUInt64).toInt64).toInt32), oU, oU] [(.long (4294967295 : Int64)), (.long (i1.toInt64))])) _
    refine XS.land X2.here hx rfl (hb hby d28_112) rfl ?_
    show Steps p.tables e below (T2.setTop (mkF m 113 #[rv o0, oJ j0, oS, oU, oJ (0 : Int64), oS, iv (1 : Int32), rv b2, iv (((j0.toUInt64 >>> ((32 : Int32) &&& 0x3f).toInt64.toUInt64).toInt64).toInt32), oU, oU] [(.long ((i1.toInt64) &&& (4294967295 : Int64)))])) _
    refine XS.lloadN X2.here hx rfl (hb hby d28_113) rfl ?_
    show Steps p.tables e below (T2.setTop (mkF m 114 #[rv o0, oJ j0, oS, oU, oJ (0 : Int64), oS, iv (1 : Int32), rv b2, iv (((j0.toUInt64 >>> ((32 : Int32) &&& 0x3f).toInt64.toUInt64).toInt64).toInt32), oU, oU] [(.long j0), (.long ((i1.toInt64) &&& (4294967295 : Int64)))])) _
    refine X2.ldc2Long hx hown (mvT hZ (hw _ (List.mem_of_getElem? (i := 150) rfl))) (g := (mkF m 114 #[rv o0, oJ j0, oS, oU, oJ (0 : Int64), oS, iv (1 : Int32), rv b2, iv (((j0.toUInt64 >>> ((32 : Int32) &&& 0x3f).toInt64.toUInt64).toInt64).toInt32), oU, oU] [(.long j0), (.long ((i1.toInt64) &&& (4294967295 : Int64)))])) rfl (hb hby d28_114) _ ?_
    show Steps p.tables e below (T2.setTop (mkF m 117 #[rv o0, oJ j0, oS, oU, oJ (0 : Int64), oS, iv (1 : Int32), rv b2, iv (((j0.toUInt64 >>> ((32 : Int32) &&& 0x3f).toInt64.toUInt64).toInt64).toInt32), oU, oU] [(.long (4294967295 : Int64)), (.long j0), (.long ((i1.toInt64) &&& (4294967295 : Int64)))])) _
    refine XS.land X2.here hx rfl (hb hby d28_117) rfl ?_
    show Steps p.tables e below (T2.setTop (mkF m 118 #[rv o0, oJ j0, oS, oU, oJ (0 : Int64), oS, iv (1 : Int32), rv b2, iv (((j0.toUInt64 >>> ((32 : Int32) &&& 0x3f).toInt64.toUInt64).toInt64).toInt32), oU, oU] [(.long (j0 &&& (4294967295 : Int64))), (.long ((i1.toInt64) &&& (4294967295 : Int64)))])) _
    refine XS.ladd X2.here hx rfl (hb hby d28_118) rfl ?_
    show Steps p.tables e below (T2.setTop (mkF m 119 #[rv o0, oJ j0, oS, oU, oJ (0 : Int64), oS, iv (1 : Int32), rv b2, iv (((j0.toUInt64 >>> ((32 : Int32) &&& 0x3f).toInt64.toUInt64).toInt64).toInt32), oU, oU] [(.long (((i1.toInt64) &&& (4294967295 : Int64)) + (j0 &&& (4294967295 : Int64))))])) _
    refine XS.lstore X2.here hx rfl (hb hby d28_119) rfl (l' := #[rv o0, oJ j0, oS, oU, oJ (((i1.toInt64) &&& (4294967295 : Int64)) + (j0 &&& (4294967295 : Int64))), oS, iv (1 : Int32), rv b2, iv (((j0.toUInt64 >>> ((32 : Int32) &&& 0x3f).toInt64.toUInt64).toInt64).toInt32), oU, oU]) rfl ?_
    show Steps p.tables e below (T2.setTop (mkF m 121 #[rv o0, oJ j0, oS, oU, oJ (((i1.toInt64) &&& (4294967295 : Int64)) + (j0 &&& (4294967295 : Int64))), oS, iv (1 : Int32), rv b2, iv (((j0.toUInt64 >>> ((32 : Int32) &&& 0x3f).toInt64.toUInt64).toInt64).toInt32), oU, oU] [])) _
    refine XS.aload X2.here hx rfl (hb hby d28_121) rfl rfl ?_
    show Steps p.tables e below (T2.setTop (mkF m 123 #[rv o0, oJ j0, oS, oU, oJ (((i1.toInt64) &&& (4294967295 : Int64)) + (j0 &&& (4294967295 : Int64))), oS, iv (1 : Int32), rv b2, iv (((j0.toUInt64 >>> ((32 : Int32) &&& 0x3f).toInt64.toUInt64).toInt64).toInt32), oU, oU] [(.ref b2)])) _
    refine XS.iload X2.here hx rfl (hb hby d28_123) rfl ?_
    show Steps p.tables e below (T2.setTop (mkF m 125 #[rv o0, oJ j0, oS, oU, oJ (((i1.toInt64) &&& (4294967295 : Int64)) + (j0 &&& (4294967295 : Int64))), oS, iv (1 : Int32), rv b2, iv (((j0.toUInt64 >>> ((32 : Int32) &&& 0x3f).toInt64.toUInt64).toInt64).toInt32), oU, oU] [(.int (1 : Int32)), (.ref b2)])) _
    refine XS.lload X2.here hx rfl (hb hby d28_125) rfl ?_
    show Steps p.tables e below (T2.setTop (mkF m 127 #[rv o0, oJ j0, oS, oU, oJ (((i1.toInt64) &&& (4294967295 : Int64)) + (j0 &&& (4294967295 : Int64))), oS, iv (1 : Int32), rv b2, iv (((j0.toUInt64 >>> ((32 : Int32) &&& 0x3f).toInt64.toUInt64).toInt64).toInt32), oU, oU] [(.long (((i1.toInt64) &&& (4294967295 : Int64)) + (j0 &&& (4294967295 : Int64)))), (.int (1 : Int32)), (.ref b2)])) _
    refine XS.l2i X2.here hx rfl (hb hby d28_127) rfl ?_
    show Steps p.tables e below (T2.setTop (mkF m 128 #[rv o0, oJ j0, oS, oU, oJ (((i1.toInt64) &&& (4294967295 : Int64)) + (j0 &&& (4294967295 : Int64))), oS, iv (1 : Int32), rv b2, iv (((j0.toUInt64 >>> ((32 : Int32) &&& 0x3f).toInt64.toUInt64).toInt64).toInt32), oU, oU] [(.int ((((i1.toInt64) &&& (4294967295 : Int64)) + (j0 &&& (4294967295 : Int64))).toInt32)), (.int (1 : Int32)), (.ref b2)])) _
    exact k
  replace V_b2 : Arv Z h2 b2 k2 .int (2 : Int32) [(.int (0 : Int32)), (.int (0 : Int32))] (.int (0 : Int32)) := V_b2.pad (pad_rep [] (.int (0 : Int32)) 2)
  obtain ⟨cl4, Ar4, q4, S4, N4, H4, G4⟩ := V_b2
  have hin4 : ¬ ((1 : Int32) < 0 ∨ cl4.slots.size ≤ ((1 : Int32)).toNatClampNeg) := inb_of S4 ⟨by decide, by decide⟩
  refine own_c2 (stI X2 hx hZ e2 Ar4 (j := (1 : Int32)) hin4 rfl rfl (hb hby d28_128)) fun T4 h4 X4 e4 W4 => ?_
  replace V_b2 : Arv Z h4 b2 k2 .int (2 : Int32) [(.int (0 : Int32)), (.int ((((i1.toInt64) &&& (4294967295 : Int64)) + (j0 &&& (4294967295 : Int64))).toInt32))] (.int (0 : Int32)) := Arv.set Ar4 q4 S4 N4 H4 G4 rfl W4 1 rfl (Nat.le_of_ble_eq_true rfl)
  replace V_o0 := V_o0.other W4 ne_o0_b2
  replace K0 := K0.wr W4 (Or.inr sz_b2)
  replace Z0 := Nat.le_trans Z0 (Keep.of_wr W4).1
  replace N0 := Fr.snoc X4 N0 g_b2
  show own_Go p e below _ (T4.setTop (mkF m 129 #[rv o0, oJ j0, oS, oU, oJ (((i1.toInt64) &&& (4294967295 : Int64)) + (j0 &&& (4294967295 : Int64))), oS, iv (1 : Int32), rv b2, iv (((j0.toUInt64 >>> ((32 : Int32) &&& 0x3f).toInt64.toUInt64).toInt64).toInt32), oU, oU] []))
  refine own_by (B := T4.setTop (mkF m 164 #[rv o0, oJ j0, oS, oU, oJ ((((i0.toInt64) &&& (4294967295 : Int64)) + (((((j0.toUInt64 >>> ((32 : Int32) &&& 0x3f).toInt64.toUInt64).toInt64).toInt32).toInt64) &&& (4294967295 : Int64))) + (((((i1.toInt64) &&& (4294967295 : Int64)) + (j0 &&& (4294967295 : Int64))).toUInt64 >>> ((32 : Int32) &&& 0x3f).toInt64.toUInt64).toInt64)), oS, iv (0 : Int32), rv b2, iv (((j0.toUInt64 >>> ((32 : Int32) &&& 0x3f).toInt64.toUInt64).toInt64).toInt32), oU, oU] [(.int (((((i0.toInt64) &&& (4294967295 : Int64)) + (((((j0.toUInt64 >>> ((32 : Int32) &&& 0x3f).toInt64.toUInt64).toInt64).toInt32).toInt64) &&& (4294967295 : Int64))) + (((((i1.toInt64) &&& (4294967295 : Int64)) + (j0 &&& (4294967295 : Int64))).toUInt64 >>> ((32 : Int32) &&& 0x3f).toInt64.toUInt64).toInt64)).toInt32)), (.int (0 : Int32)), (.ref b2)])) (fun t k => ?_) ?_
  · show Steps p.tables e below (T4.setTop (mkF m 129 #[rv o0, oJ j0, oS, oU, oJ (((i1.toInt64) &&& (4294967295 : Int64)) + (j0 &&& (4294967295 : Int64))), oS, iv (1 : Int32), rv b2, iv (((j0.toUInt64 >>> ((32 : Int32) &&& 0x3f).toInt64.toUInt64).toInt64).toInt32), oU, oU] [])) _
    refine XS.aloadN X4.here hx rfl (hb hby d28_129) rfl rfl ?_
    show Steps p.tables e below (T4.setTop (mkF m 130 #[rv o0, oJ j0, oS, oU, oJ (((i1.toInt64) &&& (4294967295 : Int64)) + (j0 &&& (4294967295 : Int64))), oS, iv (1 : Int32), rv b2, iv (((j0.toUInt64 >>> ((32 : Int32) &&& 0x3f).toInt64.toUInt64).toInt64).toInt32), oU, oU] [(.ref o0)])) _
    refine XS.iinc X4.here hx rfl (hb hby d28_130) rfl (l' := #[rv o0, oJ j0, oS, oU, oJ (((i1.toInt64) &&& (4294967295 : Int64)) + (j0 &&& (4294967295 : Int64))), oS, iv (0 : Int32), rv b2, iv (((j0.toUInt64 >>> ((32 : Int32) &&& 0x3f).toInt64.toUInt64).toInt64).toInt32), oU, oU]) rfl ?_
    show Steps p.tables e below (T4.setTop (mkF m 133 #[rv o0, oJ j0, oS, oU, oJ (((i1.toInt64) &&& (4294967295 : Int64)) + (j0 &&& (4294967295 : Int64))), oS, iv (0 : Int32), rv b2, iv (((j0.toUInt64 >>> ((32 : Int32) &&& 0x3f).toInt64.toUInt64).toInt64).toInt32), oU, oU] [(.ref o0)])) _
    refine XS.iload X4.here hx rfl (hb hby d28_133) rfl ?_
    show Steps p.tables e below (T4.setTop (mkF m 135 #[rv o0, oJ j0, oS, oU, oJ (((i1.toInt64) &&& (4294967295 : Int64)) + (j0 &&& (4294967295 : Int64))), oS, iv (0 : Int32), rv b2, iv (((j0.toUInt64 >>> ((32 : Int32) &&& 0x3f).toInt64.toUInt64).toInt64).toInt32), oU, oU] [(.int (0 : Int32)), (.ref o0)])) _
    obtain ⟨cl5, Ar5, q5, S5, N5, H5, G5⟩ := id V_o0
    have hin5 : ¬ ((0 : Int32) < 0 ∨ cl5.slots.size ≤ ((0 : Int32)).toNatClampNeg) := inb_of S5 ⟨by decide, by decide⟩
    have hat5 : cl5.slots[((0 : Int32)).toNatClampNeg]? = some (.int i0) := H5.at hin5 rfl
    refine X4.iaload hx (j := (0 : Int32)) (v := (.int i0)) (by rw [show T4.heap = h4 from e4]; exact Ar5.1) (State.isArrayOf_alike hZ.alike Ar5.2.1) Ar5.2.2 hin5 hat5 (g := (mkF m 135 #[rv o0, oJ j0, oS, oU, oJ (((i1.toInt64) &&& (4294967295 : Int64)) + (j0 &&& (4294967295 : Int64))), oS, iv (0 : Int32), rv b2, iv (((j0.toUInt64 >>> ((32 : Int32) &&& 0x3f).toInt64.toUInt64).toInt64).toInt32), oU, oU] [(.int (0 : Int32)), (.ref o0)])) rfl rfl (hb hby d28_135) _ ?_
    show Steps p.tables e below (T4.setTop (mkF m 136 #[rv o0, oJ j0, oS, oU, oJ (((i1.toInt64) &&& (4294967295 : Int64)) + (j0 &&& (4294967295 : Int64))), oS, iv (0 : Int32), rv b2, iv (((j0.toUInt64 >>> ((32 : Int32) &&& 0x3f).toInt64.toUInt64).toInt64).toInt32), oU, oU] [(.int i0)])) _
    refine XS.i2l X4.here hx rfl (hb hby d28_136) rfl ?_
    show Steps p.tables e below (T4.setTop (mkF m 137 #[rv o0, oJ j0, oS, oU, oJ (((i1.toInt64) &&& (4294967295 : Int64)) + (j0 &&& (4294967295 : Int64))), oS, iv (0 : Int32), rv b2, iv (((j0.toUInt64 >>> ((32 : Int32) &&& 0x3f).toInt64.toUInt64).toInt64).toInt32), oU, oU] [(.long (i0.toInt64))])) _
    refine X4.ldc2Long hx hown (mvT hZ (hw _ (List.mem_of_getElem? (i := 150) rfl))) (g := (mkF m 137 #[rv o0, oJ j0, oS, oU, oJ (((i1.toInt64) &&& (4294967295 : Int64)) + (j0 &&& (4294967295 : Int64))), oS, iv (0 : Int32), rv b2, iv (((j0.toUInt64 >>> ((32 : Int32) &&& 0x3f).toInt64.toUInt64).toInt64).toInt32), oU, oU] [(.long (i0.toInt64))])) rfl (hb hby d28_137) _ ?_
    show Steps p.tables e below (T4.setTop (mkF m 140 #[rv o0, oJ j0, oS, oU, oJ (((i1.toInt64) &&& (4294967295 : Int64)) + (j0 &&& (4294967295 : Int64))), oS, iv (0 : Int32), rv b2, iv (((j0.toUInt64 >>> ((32 : Int32) &&& 0x3f).toInt64.toUInt64).toInt64).toInt32), oU, oU] [(.long (4294967295 : Int64)), (.long (i0.toInt64))])) _
    refine XS.land X4.here hx rfl (hb hby d28_140) rfl ?_
    show Steps p.tables e below (T4.setTop (mkF m 141 #[rv o0, oJ j0, oS, oU, oJ (((i1.toInt64) &&& (4294967295 : Int64)) + (j0 &&& (4294967295 : Int64))), oS, iv (0 : Int32), rv b2, iv (((j0.toUInt64 >>> ((32 : Int32) &&& 0x3f).toInt64.toUInt64).toInt64).toInt32), oU, oU] [(.long ((i0.toInt64) &&& (4294967295 : Int64)))])) _
    refine XS.iload X4.here hx rfl (hb hby d28_141) rfl ?_
    show Steps p.tables e below (T4.setTop (mkF m 143 #[rv o0, oJ j0, oS, oU, oJ (((i1.toInt64) &&& (4294967295 : Int64)) + (j0 &&& (4294967295 : Int64))), oS, iv (0 : Int32), rv b2, iv (((j0.toUInt64 >>> ((32 : Int32) &&& 0x3f).toInt64.toUInt64).toInt64).toInt32), oU, oU] [(.int (((j0.toUInt64 >>> ((32 : Int32) &&& 0x3f).toInt64.toUInt64).toInt64).toInt32)), (.long ((i0.toInt64) &&& (4294967295 : Int64)))])) _
    refine XS.i2l X4.here hx rfl (hb hby d28_143) rfl ?_
    show Steps p.tables e below (T4.setTop (mkF m 144 #[rv o0, oJ j0, oS, oU, oJ (((i1.toInt64) &&& (4294967295 : Int64)) + (j0 &&& (4294967295 : Int64))), oS, iv (0 : Int32), rv b2, iv (((j0.toUInt64 >>> ((32 : Int32) &&& 0x3f).toInt64.toUInt64).toInt64).toInt32), oU, oU] [(.long ((((j0.toUInt64 >>> ((32 : Int32) &&& 0x3f).toInt64.toUInt64).toInt64).toInt32).toInt64)), (.long ((i0.toInt64) &&& (4294967295 : Int64)))])) _
    refine X4.ldc2Long hx hown (mvT hZ (hw _ (List.mem_of_getElem? (i := 150) rfl))) (g := (mkF m 144 #[rv o0, oJ j0, oS, oU, oJ (((i1.toInt64) &&& (4294967295 : Int64)) + (j0 &&& (4294967295 : Int64))), oS, iv (0 : Int32), rv b2, iv (((j0.toUInt64 >>> ((32 : Int32) &&& 0x3f).toInt64.toUInt64).toInt64).toInt32), oU, oU] [(.long ((((j0.toUInt64 >>> ((32 : Int32) &&& 0x3f).toInt64.toUInt64).toInt64).toInt32).toInt64)), (.long ((i0.toInt64) &&& (4294967295 : Int64)))])) rfl (hb hby d28_144) _ ?_
    show Steps p.tables e below (T4.setTop (mkF m 147 #[rv o0, oJ j0, oS, oU, oJ (((i1.toInt64) &&& (4294967295 : Int64)) + (j0 &&& (4294967295 : Int64))), oS, iv (0 : Int32), rv b2, iv (((j0.toUInt64 >>> ((32 : Int32) &&& 0x3f).toInt64.toUInt64).toInt64).toInt32), oU, oU] [(.long (4294967295 : Int64)), (.long ((((j0.toUInt64 >>> ((32 : Int32) &&& 0x3f).toInt64.toUInt64).toInt64).toInt32).toInt64)), (.long ((i0.toInt64) &&& (4294967295 : Int64)))])) _
    refine XS.land X4.here hx rfl (hb hby d28_147) rfl ?_
    show Steps p.tables e below (T4.setTop (mkF m 148 #[rv o0, oJ j0, oS, oU, oJ (((i1.toInt64) &&& (4294967295 : Int64)) + (j0 &&& (4294967295 : Int64))), oS, iv (0 : Int32), rv b2, iv (((j0.toUInt64 >>> ((32 : Int32) &&& 0x3f).toInt64.toUInt64).toInt64).toInt32), oU, oU] [(.long (((((j0.toUInt64 >>> ((32 : Int32) &&& 0x3f).toInt64.toUInt64).toInt64).toInt32).toInt64) &&& (4294967295 : Int64))), (.long ((i0.toInt64) &&& (4294967295 : Int64)))])) _
    refine XS.ladd X4.here hx rfl (hb hby d28_148) rfl ?_
    show Steps p.tables e below (T4.setTop (mkF m 149 #[rv o0, oJ j0, oS, oU, oJ (((i1.toInt64) &&& (4294967295 : Int64)) + (j0 &&& (4294967295 : Int64))), oS, iv (0 : Int32), rv b2, iv (((j0.toUInt64 >>> ((32 : Int32) &&& 0x3f).toInt64.toUInt64).toInt64).toInt32), oU, oU] [(.long (((i0.toInt64) &&& (4294967295 : Int64)) + (((((j0.toUInt64 >>> ((32 : Int32) &&& 0x3f).toInt64.toUInt64).toInt64).toInt32).toInt64) &&& (4294967295 : Int64))))])) _
    refine XS.lload X4.here hx rfl (hb hby d28_149) rfl ?_
    show Steps p.tables e below (T4.setTop (mkF m 151 #[rv o0, oJ j0, oS, oU, oJ (((i1.toInt64) &&& (4294967295 : Int64)) + (j0 &&& (4294967295 : Int64))), oS, iv (0 : Int32), rv b2, iv (((j0.toUInt64 >>> ((32 : Int32) &&& 0x3f).toInt64.toUInt64).toInt64).toInt32), oU, oU] [(.long (((i1.toInt64) &&& (4294967295 : Int64)) + (j0 &&& (4294967295 : Int64)))), (.long (((i0.toInt64) &&& (4294967295 : Int64)) + (((((j0.toUInt64 >>> ((32 : Int32) &&& 0x3f).toInt64.toUInt64).toInt64).toInt32).toInt64) &&& (4294967295 : Int64))))])) _
    refine XS.bipush X4.here hx rfl (hb hby d28_151) ?_
    show Steps p.tables e below (T4.setTop (mkF m 153 #[rv o0, oJ j0, oS, oU, oJ (((i1.toInt64) &&& (4294967295 : Int64)) + (j0 &&& (4294967295 : Int64))), oS, iv (0 : Int32), rv b2, iv (((j0.toUInt64 >>> ((32 : Int32) &&& 0x3f).toInt64.toUInt64).toInt64).toInt32), oU, oU] [(.int (32 : Int32)), (.long (((i1.toInt64) &&& (4294967295 : Int64)) + (j0 &&& (4294967295 : Int64)))), (.long (((i0.toInt64) &&& (4294967295 : Int64)) + (((((j0.toUInt64 >>> ((32 : Int32) &&& 0x3f).toInt64.toUInt64).toInt64).toInt32).toInt64) &&& (4294967295 : Int64))))])) _
    refine XS.lushr X4.here hx rfl (hb hby d28_153) rfl ?_
    show Steps p.tables e below (T4.setTop (mkF m 154 #[rv o0, oJ j0, oS, oU, oJ (((i1.toInt64) &&& (4294967295 : Int64)) + (j0 &&& (4294967295 : Int64))), oS, iv (0 : Int32), rv b2, iv (((j0.toUInt64 >>> ((32 : Int32) &&& 0x3f).toInt64.toUInt64).toInt64).toInt32), oU, oU] [(.long (((((i1.toInt64) &&& (4294967295 : Int64)) + (j0 &&& (4294967295 : Int64))).toUInt64 >>> ((32 : Int32) &&& 0x3f).toInt64.toUInt64).toInt64)), (.long (((i0.toInt64) &&& (4294967295 : Int64)) + (((((j0.toUInt64 >>> ((32 : Int32) &&& 0x3f).toInt64.toUInt64).toInt64).toInt32).toInt64) &&& (4294967295 : Int64))))])) _
    refine XS.ladd X4.here hx rfl (hb hby d28_154) rfl ?_
    show Steps p.tables e below (T4.setTop (mkF m 155 #[rv o0, oJ j0, oS, oU, oJ (((i1.toInt64) &&& (4294967295 : Int64)) + (j0 &&& (4294967295 : Int64))), oS, iv (0 : Int32), rv b2, iv (((j0.toUInt64 >>> ((32 : Int32) &&& 0x3f).toInt64.toUInt64).toInt64).toInt32), oU, oU] [(.long ((((i0.toInt64) &&& (4294967295 : Int64)) + (((((j0.toUInt64 >>> ((32 : Int32) &&& 0x3f).toInt64.toUInt64).toInt64).toInt32).toInt64) &&& (4294967295 : Int64))) + (((((i1.toInt64) &&& (4294967295 : Int64)) + (j0 &&& (4294967295 : Int64))).toUInt64 >>> ((32 : Int32) &&& 0x3f).toInt64.toUInt64).toInt64)))])) _
    refine XS.lstore X4.here hx rfl (hb hby d28_155) rfl (l' := #[rv o0, oJ j0, oS, oU, oJ ((((i0.toInt64) &&& (4294967295 : Int64)) + (((((j0.toUInt64 >>> ((32 : Int32) &&& 0x3f).toInt64.toUInt64).toInt64).toInt32).toInt64) &&& (4294967295 : Int64))) + (((((i1.toInt64) &&& (4294967295 : Int64)) + (j0 &&& (4294967295 : Int64))).toUInt64 >>> ((32 : Int32) &&& 0x3f).toInt64.toUInt64).toInt64)), oS, iv (0 : Int32), rv b2, iv (((j0.toUInt64 >>> ((32 : Int32) &&& 0x3f).toInt64.toUInt64).toInt64).toInt32), oU, oU]) rfl ?_
    show Steps p.tables e below (T4.setTop (mkF m 157 #[rv o0, oJ j0, oS, oU, oJ ((((i0.toInt64) &&& (4294967295 : Int64)) + (((((j0.toUInt64 >>> ((32 : Int32) &&& 0x3f).toInt64.toUInt64).toInt64).toInt32).toInt64) &&& (4294967295 : Int64))) + (((((i1.toInt64) &&& (4294967295 : Int64)) + (j0 &&& (4294967295 : Int64))).toUInt64 >>> ((32 : Int32) &&& 0x3f).toInt64.toUInt64).toInt64)), oS, iv (0 : Int32), rv b2, iv (((j0.toUInt64 >>> ((32 : Int32) &&& 0x3f).toInt64.toUInt64).toInt64).toInt32), oU, oU] [])) _
    refine XS.aload X4.here hx rfl (hb hby d28_157) rfl rfl ?_
    show Steps p.tables e below (T4.setTop (mkF m 159 #[rv o0, oJ j0, oS, oU, oJ ((((i0.toInt64) &&& (4294967295 : Int64)) + (((((j0.toUInt64 >>> ((32 : Int32) &&& 0x3f).toInt64.toUInt64).toInt64).toInt32).toInt64) &&& (4294967295 : Int64))) + (((((i1.toInt64) &&& (4294967295 : Int64)) + (j0 &&& (4294967295 : Int64))).toUInt64 >>> ((32 : Int32) &&& 0x3f).toInt64.toUInt64).toInt64)), oS, iv (0 : Int32), rv b2, iv (((j0.toUInt64 >>> ((32 : Int32) &&& 0x3f).toInt64.toUInt64).toInt64).toInt32), oU, oU] [(.ref b2)])) _
    refine XS.iload X4.here hx rfl (hb hby d28_159) rfl ?_
    show Steps p.tables e below (T4.setTop (mkF m 161 #[rv o0, oJ j0, oS, oU, oJ ((((i0.toInt64) &&& (4294967295 : Int64)) + (((((j0.toUInt64 >>> ((32 : Int32) &&& 0x3f).toInt64.toUInt64).toInt64).toInt32).toInt64) &&& (4294967295 : Int64))) + (((((i1.toInt64) &&& (4294967295 : Int64)) + (j0 &&& (4294967295 : Int64))).toUInt64 >>> ((32 : Int32) &&& 0x3f).toInt64.toUInt64).toInt64)), oS, iv (0 : Int32), rv b2, iv (((j0.toUInt64 >>> ((32 : Int32) &&& 0x3f).toInt64.toUInt64).toInt64).toInt32), oU, oU] [(.int (0 : Int32)), (.ref b2)])) _
    refine XS.lload X4.here hx rfl (hb hby d28_161) rfl ?_
    show Steps p.tables e below (T4.setTop (mkF m 163 #[rv o0, oJ j0, oS, oU, oJ ((((i0.toInt64) &&& (4294967295 : Int64)) + (((((j0.toUInt64 >>> ((32 : Int32) &&& 0x3f).toInt64.toUInt64).toInt64).toInt32).toInt64) &&& (4294967295 : Int64))) + (((((i1.toInt64) &&& (4294967295 : Int64)) + (j0 &&& (4294967295 : Int64))).toUInt64 >>> ((32 : Int32) &&& 0x3f).toInt64.toUInt64).toInt64)), oS, iv (0 : Int32), rv b2, iv (((j0.toUInt64 >>> ((32 : Int32) &&& 0x3f).toInt64.toUInt64).toInt64).toInt32), oU, oU] [(.long ((((i0.toInt64) &&& (4294967295 : Int64)) + (((((j0.toUInt64 >>> ((32 : Int32) &&& 0x3f).toInt64.toUInt64).toInt64).toInt32).toInt64) &&& (4294967295 : Int64))) + (((((i1.toInt64) &&& (4294967295 : Int64)) + (j0 &&& (4294967295 : Int64))).toUInt64 >>> ((32 : Int32) &&& 0x3f).toInt64.toUInt64).toInt64))), (.int (0 : Int32)), (.ref b2)])) _
    refine XS.l2i X4.here hx rfl (hb hby d28_163) rfl ?_
    show Steps p.tables e below (T4.setTop (mkF m 164 #[rv o0, oJ j0, oS, oU, oJ ((((i0.toInt64) &&& (4294967295 : Int64)) + (((((j0.toUInt64 >>> ((32 : Int32) &&& 0x3f).toInt64.toUInt64).toInt64).toInt32).toInt64) &&& (4294967295 : Int64))) + (((((i1.toInt64) &&& (4294967295 : Int64)) + (j0 &&& (4294967295 : Int64))).toUInt64 >>> ((32 : Int32) &&& 0x3f).toInt64.toUInt64).toInt64)), oS, iv (0 : Int32), rv b2, iv (((j0.toUInt64 >>> ((32 : Int32) &&& 0x3f).toInt64.toUInt64).toInt64).toInt32), oU, oU] [(.int (((((i0.toInt64) &&& (4294967295 : Int64)) + (((((j0.toUInt64 >>> ((32 : Int32) &&& 0x3f).toInt64.toUInt64).toInt64).toInt32).toInt64) &&& (4294967295 : Int64))) + (((((i1.toInt64) &&& (4294967295 : Int64)) + (j0 &&& (4294967295 : Int64))).toUInt64 >>> ((32 : Int32) &&& 0x3f).toInt64.toUInt64).toInt64)).toInt32)), (.int (0 : Int32)), (.ref b2)])) _
    exact k
  obtain ⟨cl6, Ar6, q6, S6, N6, H6, G6⟩ := V_b2
  have hin6 : ¬ ((0 : Int32) < 0 ∨ cl6.slots.size ≤ ((0 : Int32)).toNatClampNeg) := inb_of S6 ⟨by decide, by decide⟩
  refine own_c2 (stI X4 hx hZ e4 Ar6 (j := (0 : Int32)) hin6 rfl rfl (hb hby d28_164)) fun T6 h6 X6 e6 W6 => ?_
  replace V_b2 : Arv Z h6 b2 k2 .int (2 : Int32) [(.int (((((i0.toInt64) &&& (4294967295 : Int64)) + (((((j0.toUInt64 >>> ((32 : Int32) &&& 0x3f).toInt64.toUInt64).toInt64).toInt32).toInt64) &&& (4294967295 : Int64))) + (((((i1.toInt64) &&& (4294967295 : Int64)) + (j0 &&& (4294967295 : Int64))).toUInt64 >>> ((32 : Int32) &&& 0x3f).toInt64.toUInt64).toInt64)).toInt32)), (.int ((((i1.toInt64) &&& (4294967295 : Int64)) + (j0 &&& (4294967295 : Int64))).toInt32))] (.int (0 : Int32)) := Arv.set Ar6 q6 S6 N6 H6 G6 rfl W6 0 rfl (Nat.le_of_ble_eq_true rfl)
  replace V_o0 := V_o0.other W6 ne_o0_b2
  replace K0 := K0.wr W6 (Or.inr sz_b2)
  replace Z0 := Nat.le_trans Z0 (Keep.of_wr W6).1
  replace N0 := Fr.snoc X6 N0 g_b2
  show own_Go p e below _ (T6.setTop (mkF m 165 #[rv o0, oJ j0, oS, oU, oJ ((((i0.toInt64) &&& (4294967295 : Int64)) + (((((j0.toUInt64 >>> ((32 : Int32) &&& 0x3f).toInt64.toUInt64).toInt64).toInt32).toInt64) &&& (4294967295 : Int64))) + (((((i1.toInt64) &&& (4294967295 : Int64)) + (j0 &&& (4294967295 : Int64))).toUInt64 >>> ((32 : Int32) &&& 0x3f).toInt64.toUInt64).toInt64)), oS, iv (0 : Int32), rv b2, iv (((j0.toUInt64 >>> ((32 : Int32) &&& 0x3f).toInt64.toUInt64).toInt64).toInt32), oU, oU] []))
  refine own_by (B := T6.setTop (mkF m 276 #[rv o0, oJ j0, oS, oU, oJ ((((i0.toInt64) &&& (4294967295 : Int64)) + (((((j0.toUInt64 >>> ((32 : Int32) &&& 0x3f).toInt64.toUInt64).toInt64).toInt32).toInt64) &&& (4294967295 : Int64))) + (((((i1.toInt64) &&& (4294967295 : Int64)) + (j0 &&& (4294967295 : Int64))).toUInt64 >>> ((32 : Int32) &&& 0x3f).toInt64.toUInt64).toInt64)), oS, iv (0 : Int32), rv b2, iv (((j0.toUInt64 >>> ((32 : Int32) &&& 0x3f).toInt64.toUInt64).toInt64).toInt32), iv (0 : Int32), oU] [(.ref b2)])) (fun t k => ?_) ?_
  · show Steps p.tables e below (T6.setTop (mkF m 165 #[rv o0, oJ j0, oS, oU, oJ ((((i0.toInt64) &&& (4294967295 : Int64)) + (((((j0.toUInt64 >>> ((32 : Int32) &&& 0x3f).toInt64.toUInt64).toInt64).toInt32).toInt64) &&& (4294967295 : Int64))) + (((((i1.toInt64) &&& (4294967295 : Int64)) + (j0 &&& (4294967295 : Int64))).toUInt64 >>> ((32 : Int32) &&& 0x3f).toInt64.toUInt64).toInt64)), oS, iv (0 : Int32), rv b2, iv (((j0.toUInt64 >>> ((32 : Int32) &&& 0x3f).toInt64.toUInt64).toInt64).toInt32), oU, oU] [])) _
    refine XS.lload X6.here hx rfl (hb hby d28_165) rfl ?_
    show Steps p.tables e below (T6.setTop (mkF m 167 #[rv o0, oJ j0, oS, oU, oJ ((((i0.toInt64) &&& (4294967295 : Int64)) + (((((j0.toUInt64 >>> ((32 : Int32) &&& 0x3f).toInt64.toUInt64).toInt64).toInt32).toInt64) &&& (4294967295 : Int64))) + (((((i1.toInt64) &&& (4294967295 : Int64)) + (j0 &&& (4294967295 : Int64))).toUInt64 >>> ((32 : Int32) &&& 0x3f).toInt64.toUInt64).toInt64)), oS, iv (0 : Int32), rv b2, iv (((j0.toUInt64 >>> ((32 : Int32) &&& 0x3f).toInt64.toUInt64).toInt64).toInt32), oU, oU] [(.long ((((i0.toInt64) &&& (4294967295 : Int64)) + (((((j0.toUInt64 >>> ((32 : Int32) &&& 0x3f).toInt64.toUInt64).toInt64).toInt32).toInt64) &&& (4294967295 : Int64))) + (((((i1.toInt64) &&& (4294967295 : Int64)) + (j0 &&& (4294967295 : Int64))).toUInt64 >>> ((32 : Int32) &&& 0x3f).toInt64.toUInt64).toInt64)))])) _
    refine XS.bipush X6.here hx rfl (hb hby d28_167) ?_
    show Steps p.tables e below (T6.setTop (mkF m 169 #[rv o0, oJ j0, oS, oU, oJ ((((i0.toInt64) &&& (4294967295 : Int64)) + (((((j0.toUInt64 >>> ((32 : Int32) &&& 0x3f).toInt64.toUInt64).toInt64).toInt32).toInt64) &&& (4294967295 : Int64))) + (((((i1.toInt64) &&& (4294967295 : Int64)) + (j0 &&& (4294967295 : Int64))).toUInt64 >>> ((32 : Int32) &&& 0x3f).toInt64.toUInt64).toInt64)), oS, iv (0 : Int32), rv b2, iv (((j0.toUInt64 >>> ((32 : Int32) &&& 0x3f).toInt64.toUInt64).toInt64).toInt32), oU, oU] [(.int (32 : Int32)), (.long ((((i0.toInt64) &&& (4294967295 : Int64)) + (((((j0.toUInt64 >>> ((32 : Int32) &&& 0x3f).toInt64.toUInt64).toInt64).toInt32).toInt64) &&& (4294967295 : Int64))) + (((((i1.toInt64) &&& (4294967295 : Int64)) + (j0 &&& (4294967295 : Int64))).toUInt64 >>> ((32 : Int32) &&& 0x3f).toInt64.toUInt64).toInt64)))])) _
    refine XS.lushr X6.here hx rfl (hb hby d28_169) rfl ?_
    show Steps p.tables e below (T6.setTop (mkF m 170 #[rv o0, oJ j0, oS, oU, oJ ((((i0.toInt64) &&& (4294967295 : Int64)) + (((((j0.toUInt64 >>> ((32 : Int32) &&& 0x3f).toInt64.toUInt64).toInt64).toInt32).toInt64) &&& (4294967295 : Int64))) + (((((i1.toInt64) &&& (4294967295 : Int64)) + (j0 &&& (4294967295 : Int64))).toUInt64 >>> ((32 : Int32) &&& 0x3f).toInt64.toUInt64).toInt64)), oS, iv (0 : Int32), rv b2, iv (((j0.toUInt64 >>> ((32 : Int32) &&& 0x3f).toInt64.toUInt64).toInt64).toInt32), oU, oU] [(.long ((((((i0.toInt64) &&& (4294967295 : Int64)) + (((((j0.toUInt64 >>> ((32 : Int32) &&& 0x3f).toInt64.toUInt64).toInt64).toInt32).toInt64) &&& (4294967295 : Int64))) + (((((i1.toInt64) &&& (4294967295 : Int64)) + (j0 &&& (4294967295 : Int64))).toUInt64 >>> ((32 : Int32) &&& 0x3f).toInt64.toUInt64).toInt64)).toUInt64 >>> ((32 : Int32) &&& 0x3f).toInt64.toUInt64).toInt64))])) _
    refine XS.lconst X6.here hx rfl (hb hby d28_170) ?_
    show Steps p.tables e below (T6.setTop (mkF m 171 #[rv o0, oJ j0, oS, oU, oJ ((((i0.toInt64) &&& (4294967295 : Int64)) + (((((j0.toUInt64 >>> ((32 : Int32) &&& 0x3f).toInt64.toUInt64).toInt64).toInt32).toInt64) &&& (4294967295 : Int64))) + (((((i1.toInt64) &&& (4294967295 : Int64)) + (j0 &&& (4294967295 : Int64))).toUInt64 >>> ((32 : Int32) &&& 0x3f).toInt64.toUInt64).toInt64)), oS, iv (0 : Int32), rv b2, iv (((j0.toUInt64 >>> ((32 : Int32) &&& 0x3f).toInt64.toUInt64).toInt64).toInt32), oU, oU] [(.long (0 : Int64)), (.long ((((((i0.toInt64) &&& (4294967295 : Int64)) + (((((j0.toUInt64 >>> ((32 : Int32) &&& 0x3f).toInt64.toUInt64).toInt64).toInt32).toInt64) &&& (4294967295 : Int64))) + (((((i1.toInt64) &&& (4294967295 : Int64)) + (j0 &&& (4294967295 : Int64))).toUInt64 >>> ((32 : Int32) &&& 0x3f).toInt64.toUInt64).toInt64)).toUInt64 >>> ((32 : Int32) &&& 0x3f).toInt64.toUInt64).toInt64))])) _
    refine XS.lcmp X6.here hx rfl (hb hby d28_171) rfl ?_
    show Steps p.tables e below (T6.setTop (mkF m 172 #[rv o0, oJ j0, oS, oU, oJ ((((i0.toInt64) &&& (4294967295 : Int64)) + (((((j0.toUInt64 >>> ((32 : Int32) &&& 0x3f).toInt64.toUInt64).toInt64).toInt32).toInt64) &&& (4294967295 : Int64))) + (((((i1.toInt64) &&& (4294967295 : Int64)) + (j0 &&& (4294967295 : Int64))).toUInt64 >>> ((32 : Int32) &&& 0x3f).toInt64.toUInt64).toInt64)), oS, iv (0 : Int32), rv b2, iv (((j0.toUInt64 >>> ((32 : Int32) &&& 0x3f).toInt64.toUInt64).toInt64).toInt32), oU, oU] [(.int (lcmpW ((((((i0.toInt64) &&& (4294967295 : Int64)) + (((((j0.toUInt64 >>> ((32 : Int32) &&& 0x3f).toInt64.toUInt64).toInt64).toInt32).toInt64) &&& (4294967295 : Int64))) + (((((i1.toInt64) &&& (4294967295 : Int64)) + (j0 &&& (4294967295 : Int64))).toUInt64 >>> ((32 : Int32) &&& 0x3f).toInt64.toUInt64).toInt64)).toUInt64 >>> ((32 : Int32) &&& 0x3f).toInt64.toUInt64).toInt64) (0 : Int64)))])) _
    refine XS.ifYes X6.here hx rfl (pc0 := 172) (pc' := 179) rfl (hb hby d28_172) rfl ((if0 _ _).trans (teq ((lw_eq _ _).mpr hp1)).1) (by decide) (by decide) ?_
    show Steps p.tables e below (T6.setTop (mkF m 179 #[rv o0, oJ j0, oS, oU, oJ ((((i0.toInt64) &&& (4294967295 : Int64)) + (((((j0.toUInt64 >>> ((32 : Int32) &&& 0x3f).toInt64.toUInt64).toInt64).toInt32).toInt64) &&& (4294967295 : Int64))) + (((((i1.toInt64) &&& (4294967295 : Int64)) + (j0 &&& (4294967295 : Int64))).toUInt64 >>> ((32 : Int32) &&& 0x3f).toInt64.toUInt64).toInt64)), oS, iv (0 : Int32), rv b2, iv (((j0.toUInt64 >>> ((32 : Int32) &&& 0x3f).toInt64.toUInt64).toInt64).toInt32), oU, oU] [])) _
    refine XS.iconst X6.here hx rfl (hb hby d28_179) ?_
    show Steps p.tables e below (T6.setTop (mkF m 180 #[rv o0, oJ j0, oS, oU, oJ ((((i0.toInt64) &&& (4294967295 : Int64)) + (((((j0.toUInt64 >>> ((32 : Int32) &&& 0x3f).toInt64.toUInt64).toInt64).toInt32).toInt64) &&& (4294967295 : Int64))) + (((((i1.toInt64) &&& (4294967295 : Int64)) + (j0 &&& (4294967295 : Int64))).toUInt64 >>> ((32 : Int32) &&& 0x3f).toInt64.toUInt64).toInt64)), oS, iv (0 : Int32), rv b2, iv (((j0.toUInt64 >>> ((32 : Int32) &&& 0x3f).toInt64.toUInt64).toInt64).toInt32), oU, oU] [(.int (0 : Int32))])) _
    refine XS.istore X6.here hx rfl (hb hby d28_180) rfl (l' := #[rv o0, oJ j0, oS, oU, oJ ((((i0.toInt64) &&& (4294967295 : Int64)) + (((((j0.toUInt64 >>> ((32 : Int32) &&& 0x3f).toInt64.toUInt64).toInt64).toInt32).toInt64) &&& (4294967295 : Int64))) + (((((i1.toInt64) &&& (4294967295 : Int64)) + (j0 &&& (4294967295 : Int64))).toUInt64 >>> ((32 : Int32) &&& 0x3f).toInt64.toUInt64).toInt64)), oS, iv (0 : Int32), rv b2, iv (((j0.toUInt64 >>> ((32 : Int32) &&& 0x3f).toInt64.toUInt64).toInt64).toInt32), iv (0 : Int32), oU]) rfl ?_
    show Steps p.tables e below (T6.setTop (mkF m 182 #[rv o0, oJ j0, oS, oU, oJ ((((i0.toInt64) &&& (4294967295 : Int64)) + (((((j0.toUInt64 >>> ((32 : Int32) &&& 0x3f).toInt64.toUInt64).toInt64).toInt32).toInt64) &&& (4294967295 : Int64))) + (((((i1.toInt64) &&& (4294967295 : Int64)) + (j0 &&& (4294967295 : Int64))).toUInt64 >>> ((32 : Int32) &&& 0x3f).toInt64.toUInt64).toInt64)), oS, iv (0 : Int32), rv b2, iv (((j0.toUInt64 >>> ((32 : Int32) &&& 0x3f).toInt64.toUInt64).toInt64).toInt32), iv (0 : Int32), oU] [])) _
    refine XS.iload X6.here hx rfl (hb hby d28_182) rfl ?_
    show Steps p.tables e below (T6.setTop (mkF m 184 #[rv o0, oJ j0, oS, oU, oJ ((((i0.toInt64) &&& (4294967295 : Int64)) + (((((j0.toUInt64 >>> ((32 : Int32) &&& 0x3f).toInt64.toUInt64).toInt64).toInt32).toInt64) &&& (4294967295 : Int64))) + (((((i1.toInt64) &&& (4294967295 : Int64)) + (j0 &&& (4294967295 : Int64))).toUInt64 >>> ((32 : Int32) &&& 0x3f).toInt64.toUInt64).toInt64)), oS, iv (0 : Int32), rv b2, iv (((j0.toUInt64 >>> ((32 : Int32) &&& 0x3f).toInt64.toUInt64).toInt64).toInt32), iv (0 : Int32), oU] [(.int (0 : Int32))])) _
    refine XS.ifYes X6.here hx rfl (pc0 := 184) (pc' := 220) rfl (hb hby d28_184) rfl ((if0 _ _).trans (flt (by decide : ¬ ((0 : Int32) < (0 : Int32)))).2.2.2) (by decide) (by decide) ?_
    show Steps p.tables e below (T6.setTop (mkF m 220 #[rv o0, oJ j0, oS, oU, oJ ((((i0.toInt64) &&& (4294967295 : Int64)) + (((((j0.toUInt64 >>> ((32 : Int32) &&& 0x3f).toInt64.toUInt64).toInt64).toInt32).toInt64) &&& (4294967295 : Int64))) + (((((i1.toInt64) &&& (4294967295 : Int64)) + (j0 &&& (4294967295 : Int64))).toUInt64 >>> ((32 : Int32) &&& 0x3f).toInt64.toUInt64).toInt64)), oS, iv (0 : Int32), rv b2, iv (((j0.toUInt64 >>> ((32 : Int32) &&& 0x3f).toInt64.toUInt64).toInt64).toInt32), iv (0 : Int32), oU] [])) _
    refine XS.iload X6.here hx rfl (hb hby d28_220) rfl ?_
    show Steps p.tables e below (T6.setTop (mkF m 222 #[rv o0, oJ j0, oS, oU, oJ ((((i0.toInt64) &&& (4294967295 : Int64)) + (((((j0.toUInt64 >>> ((32 : Int32) &&& 0x3f).toInt64.toUInt64).toInt64).toInt32).toInt64) &&& (4294967295 : Int64))) + (((((i1.toInt64) &&& (4294967295 : Int64)) + (j0 &&& (4294967295 : Int64))).toUInt64 >>> ((32 : Int32) &&& 0x3f).toInt64.toUInt64).toInt64)), oS, iv (0 : Int32), rv b2, iv (((j0.toUInt64 >>> ((32 : Int32) &&& 0x3f).toInt64.toUInt64).toInt64).toInt32), iv (0 : Int32), oU] [(.int (0 : Int32))])) _
    refine XS.ifYes X6.here hx rfl (pc0 := 222) (pc' := 240) rfl (hb hby d28_222) rfl ((if0 _ _).trans (flt (by decide : ¬ ((0 : Int32) < (0 : Int32)))).2.2.2) (by decide) (by decide) ?_
    show Steps p.tables e below (T6.setTop (mkF m 240 #[rv o0, oJ j0, oS, oU, oJ ((((i0.toInt64) &&& (4294967295 : Int64)) + (((((j0.toUInt64 >>> ((32 : Int32) &&& 0x3f).toInt64.toUInt64).toInt64).toInt32).toInt64) &&& (4294967295 : Int64))) + (((((i1.toInt64) &&& (4294967295 : Int64)) + (j0 &&& (4294967295 : Int64))).toUInt64 >>> ((32 : Int32) &&& 0x3f).toInt64.toUInt64).toInt64)), oS, iv (0 : Int32), rv b2, iv (((j0.toUInt64 >>> ((32 : Int32) &&& 0x3f).toInt64.toUInt64).toInt64).toInt32), iv (0 : Int32), oU] [])) _
    refine XS.iload X6.here hx rfl (hb hby d28_240) rfl ?_
    show Steps p.tables e below (T6.setTop (mkF m 242 #[rv o0, oJ j0, oS, oU, oJ ((((i0.toInt64) &&& (4294967295 : Int64)) + (((((j0.toUInt64 >>> ((32 : Int32) &&& 0x3f).toInt64.toUInt64).toInt64).toInt32).toInt64) &&& (4294967295 : Int64))) + (((((i1.toInt64) &&& (4294967295 : Int64)) + (j0 &&& (4294967295 : Int64))).toUInt64 >>> ((32 : Int32) &&& 0x3f).toInt64.toUInt64).toInt64)), oS, iv (0 : Int32), rv b2, iv (((j0.toUInt64 >>> ((32 : Int32) &&& 0x3f).toInt64.toUInt64).toInt64).toInt32), iv (0 : Int32), oU] [(.int (0 : Int32))])) _
    refine XS.ifYes X6.here hx rfl (pc0 := 242) (pc' := 274) rfl (hb hby d28_242) rfl ((if0 _ _).trans (teq (by decide : (0 : Int32) = (0 : Int32))).1) (by decide) (by decide) ?_
    show Steps p.tables e below (T6.setTop (mkF m 274 #[rv o0, oJ j0, oS, oU, oJ ((((i0.toInt64) &&& (4294967295 : Int64)) + (((((j0.toUInt64 >>> ((32 : Int32) &&& 0x3f).toInt64.toUInt64).toInt64).toInt32).toInt64) &&& (4294967295 : Int64))) + (((((i1.toInt64) &&& (4294967295 : Int64)) + (j0 &&& (4294967295 : Int64))).toUInt64 >>> ((32 : Int32) &&& 0x3f).toInt64.toUInt64).toInt64)), oS, iv (0 : Int32), rv b2, iv (((j0.toUInt64 >>> ((32 : Int32) &&& 0x3f).toInt64.toUInt64).toInt64).toInt32), iv (0 : Int32), oU] [])) _
    refine XS.aload X6.here hx rfl (hb hby d28_274) rfl rfl ?_
    show Steps p.tables e below (T6.setTop (mkF m 276 #[rv o0, oJ j0, oS, oU, oJ ((((i0.toInt64) &&& (4294967295 : Int64)) + (((((j0.toUInt64 >>> ((32 : Int32) &&& 0x3f).toInt64.toUInt64).toInt64).toInt32).toInt64) &&& (4294967295 : Int64))) + (((((i1.toInt64) &&& (4294967295 : Int64)) + (j0 &&& (4294967295 : Int64))).toUInt64 >>> ((32 : Int32) &&& 0x3f).toInt64.toUInt64).toInt64)), oS, iv (0 : Int32), rv b2, iv (((j0.toUInt64 >>> ((32 : Int32) &&& 0x3f).toInt64.toUInt64).toInt64).toInt32), iv (0 : Int32), oU] [(.ref b2)])) _
    exact k
  exact own_retR X6 Bd.notSynchronized hx Bd.returns rfl rfl rfl (hb hby d28_276) (by
      rw [show T6.heap = h6 from e6]
      exact ⟨b2, k2, rfl, N0, K0, V_b2, sz_b2⟩) (by decide) (by decide)

theorem d29_0 : decode jdk_2097_method_25_code 0 = .ok (.aload_n 0, 1) := by decide +kernel
theorem d29_1 : decode jdk_2097_method_25_code 1 = .ok (.invokespecial 3, 3) := by decide +kernel
theorem d29_4 : decode jdk_2097_method_25_code 4 = .ok (.aload_n 0, 1) := by decide +kernel
theorem d29_5 : decode jdk_2097_method_25_code 5 = .ok (.aload_n 1, 1) := by decide +kernel
theorem d29_6 : decode jdk_2097_method_25_code 6 = .ok (.arraylength, 1) := by decide +kernel
theorem d29_7 : decode jdk_2097_method_25_code 7 = .ok (.ifCond .ne 7, 3) := by decide +kernel
theorem d29_14 : decode jdk_2097_method_25_code 14 = .ok (.iload_n 2, 1) := by decide +kernel
theorem d29_15 : decode jdk_2097_method_25_code 15 = .ok (.putfield 32, 3) := by decide +kernel
theorem d29_18 : decode jdk_2097_method_25_code 18 = .ok (.aload_n 0, 1) := by decide +kernel
theorem d29_19 : decode jdk_2097_method_25_code 19 = .ok (.aload_n 1, 1) := by decide +kernel
theorem d29_20 : decode jdk_2097_method_25_code 20 = .ok (.putfield 28, 3) := by decide +kernel
theorem d29_23 : decode jdk_2097_method_25_code 23 = .ok (.aload_n 0, 1) := by decide +kernel
theorem d29_24 : decode jdk_2097_method_25_code 24 = .ok (.getfield 28, 3) := by decide +kernel
theorem d29_27 : decode jdk_2097_method_25_code 27 = .ok (.arraylength, 1) := by decide +kernel
theorem d29_28 : decode jdk_2097_method_25_code 28 = .ok (.ldc 43, 2) := by decide +kernel
theorem d29_30 : decode jdk_2097_method_25_code 30 = .ok (.if_icmp .lt 7, 3) := by decide +kernel
theorem d29_37 : decode jdk_2097_method_25_code 37 = .ok (.return_, 1) := by decide +kernel
theorem pn_29 : plainName "java/math/BigInteger" = true := by first | (simp [plainName, overriddenIn]; done) | decide +kernel
theorem ef_29 (m : MethodId) (x0 : Addr) (x1 : Addr) (x2 : Int32) : entryFrame m #[(.ref x0), (.ref x1), (.int x2)] 3 = mkF m 0 #[rv x0, rv x1, iv x2] [] := by first | (simp [entryFrame, mkF, argsToLocals, Value.category]; done) | rfl
def Q29_17 (Z : State) (o0 : Addr) (o1 : Addr) (i0 : Int32) (i1 : Int32) (k0 : ClassId) (i2 : Int32) (i3 : Int32) (h0 : Heap) (n0 : Nat) (v : Option Value) (h : Heap) (L : List Loc) : Prop := v = none ∧ Fr n0 L ∧ Keep h0 h [o0] ∧ Exa Z h o0 "java/math/BigInteger" ∧ Fld Z h o0 "java/math/BigInteger" "signum" "I" (.int i0) ∧ Fld Z h o0 "java/math/BigInteger" "mag" "[I" (.ref o1)
set_option maxRecDepth 65536 in
set_option maxHeartbeats 40000000 in
theorem rm29_17 (l : Launch) (Z : State) (a0 : Array Value) (hw : ∀ d ∈ tables_1, d.before a0 Z = true) (ws : List Jvm.Cond) (o0 : Addr) (o1 : Addr) (i0 : Int32) (i1 : Int32) (k0 : ClassId) (i2 : Int32) (i3 : Int32) (h0 : Heap) (n0 : Nat) (Z0 : n0 ≤ h0.size) (g_o0 : n0 ≤ o0) (E_o0 : Exa Z h0 o0 "java/math/BigInteger") (F_signum_o0 : Fld Z h0 o0 "java/math/BigInteger" "signum" "I" (.int i1)) (F_mag_o0 : Fld Z h0 o0 "java/math/BigInteger" "mag" "[I" .null) (V_o1 : Arv Z h0 o1 k0 .int (2 : Int32) [(.int i2), (.int i3)] (.int (0 : Int32))) :
    MetFree l (⟨"java/math/BigInteger", "<init>", "([II)V"⟩ : MethodName) (head1 (Jvm.Cond.code (⟨"java/math/BigInteger", "<init>", "([II)V"⟩ : MethodName) jdk_2097_method_25_code 3 none :: ws) ({ frames := 2, cells := 0, slots := 0, locals := 24 } : Room)) (fun a U => a = #[(.ref o0), (.ref o1), (.int i0)] ∧ Z.Warmed39 U.vm ∧ U.heap = h0) (fun _ _ _ _ _ => True) (fun _ U o U' => ∃ v L, o = .returned v ∧ Q29_17 Z o0 o1 i0 i1 k0 i2 i3 h0 n0 v U'.heap L ∧ FrameEnd U o U' L ({ frames := 2, cells := 0, slots := 0, locals := 24 } : Room).cells ({ frames := 2, cells := 0, slots := 0, locals := 24 } : Room).slots) := by
  refine MetFree.of_bodySF (plainFor_of_name pn_29) hisR ?_
  intro p e s m args below meth c s₁ Bd hml0 hP hK
  obtain ⟨rfl, hZ, hh⟩ := hP
  have hx := Bd.exec
  have hby := Bd.bytes
  have hml : c.maxLocals = 3 := hml0
  have hown : s.vm.findClass "java/math/BigInteger" = some m.cls := findClass_of_methodNamed Bd.named
  have hnm := (name_of_methodNamed Bd.named Bd.method).1
  have X0 : Stand p l e ({ frames := 2, cells := 0, slots := 0, locals := 24 } : Room) s m #[(.ref o0), (.ref o1), (.int i0)] below meth c s₁ [] 0 0 := Stand.of_body Bd
  have e0 : s₁.heap = h0 := by rw [← hh, Bd.state]; rfl
  have N0 := Fr.nil n0
  have K0 : Keep h0 h0 [o0] := Keep.refl h0 _
  change own_Go p e below (own_Post s (Q29_17 Z o0 o1 i0 i1 k0 i2 i3 h0 n0) ({ frames := 2, cells := 0, slots := 0, locals := 24 } : Room).cells ({ frames := 2, cells := 0, slots := 0, locals := 24 } : Room).slots) (s₁.setTop (entryFrame m #[(.ref o0), (.ref o1), (.int i0)] 3))
  refine own_by (fun t k => castTop (ef_29 m o0 o1 i0) k) ?_
  show own_Go p e below _ (s₁.setTop (mkF m 0 #[rv o0, rv o1, iv i0] []))
  refine own_by (B := s₁.setTop (mkF m 1 #[rv o0, rv o1, iv i0] [(.ref o0)])) (fun t k => ?_) ?_
  · show Steps p.tables e below (s₁.setTop (mkF m 0 #[rv o0, rv o1, iv i0] [])) _
    refine XS.aloadN X0.here hx rfl (hb hby d29_0) rfl rfl ?_
    show Steps p.tables e below (s₁.setTop (mkF m 1 #[rv o0, rv o1, iv i0] [(.ref o0)])) _
    exact k
  refine own_cc (own_callI X0 hx hZ (y := (⟨"java/lang/Number", "<init>", "()V"⟩ : MethodName)) rfl hown (hw _ (List.mem_of_getElem? (i := 131) rfl)) (hw _ (List.mem_of_getElem? (i := 92) rfl)) (hw _ (List.mem_of_getElem? (i := 95) rfl)) (hw _ (List.mem_of_getElem? (i := 96) rfl)) (by decide) (rm19_9 l Z a0 hw [] o0 h0 n0 Z0 ) e0 0 (by decide) (by decide) (by decide) (by decide) rfl (by rw [hml]; rfl) o0 [] [] rfl (lenOf pd_0 rfl) rfl (by show 2 * 0 + _ ≤ _; exact Nat.le_of_eq rfl) (hb hby d29_1)) fun T2 L2 v2 X2 hQ2 => ?_
  obtain ⟨rfl, N2, e2⟩ := hQ2
  replace N0 := Fr.app N0 N2
  show own_Go p e below _ (T2.setTop (mkF m 4 #[rv o0, rv o1, iv i0] []))
  refine own_by (B := T2.setTop (mkF m 15 #[rv o0, rv o1, iv i0] [(.int i0), (.ref o0)])) (fun t k => ?_) ?_
  · show Steps p.tables e below (T2.setTop (mkF m 4 #[rv o0, rv o1, iv i0] [])) _
    refine XS.aloadN X2.here hx rfl (hb hby d29_4) rfl rfl ?_
    show Steps p.tables e below (T2.setTop (mkF m 5 #[rv o0, rv o1, iv i0] [(.ref o0)])) _
    refine XS.aloadN X2.here hx rfl (hb hby d29_5) rfl rfl ?_
    show Steps p.tables e below (T2.setTop (mkF m 6 #[rv o0, rv o1, iv i0] [(.ref o1), (.ref o0)])) _
    obtain ⟨cl3, Ar3, -, S3, N3, -, -⟩ := id V_o1
    refine X2.arraylength hx (by rw [show T2.heap = h0 from e2]; exact Ar3.1) (State.isArrayOf_alike hZ.alike Ar3.2.1) (g := (mkF m 6 #[rv o0, rv o1, iv i0] [(.ref o1), (.ref o0)])) rfl rfl (hb hby d29_6) _ ?_
    rw [len_of S3 N3]
    show Steps p.tables e below (T2.setTop (mkF m 7 #[rv o0, rv o1, iv i0] [(.int (2 : Int32)), (.ref o0)])) _
    refine XS.ifYes X2.here hx rfl (pc0 := 7) (pc' := 14) rfl (hb hby d29_7) rfl ((if0 _ _).trans (feq (by decide : ¬ ((2 : Int32) = (0 : Int32)))).2) (by decide) (by decide) ?_
    show Steps p.tables e below (T2.setTop (mkF m 14 #[rv o0, rv o1, iv i0] [(.ref o0)])) _
    refine XS.iloadN X2.here hx rfl (hb hby d29_14) rfl ?_
    show Steps p.tables e below (T2.setTop (mkF m 15 #[rv o0, rv o1, iv i0] [(.int i0), (.ref o0)])) _
    exact k
  refine own_c2 (putF X2 hx hZ hown (host := "") (Or.inl (hw _ (List.mem_of_getElem? (i := 133) rfl))) Via.refl e2 F_signum_o0 E_o0 (Or.inr ⟨(hw _ (List.mem_of_getElem? (i := 134) rfl)), rfl, hnm⟩) (hw _ (List.mem_of_getElem? (i := 126) rfl)) (ty := .int) (by decide) rfl rfl rfl rfl (hb hby d29_15)) fun T4 h4 X4 e4 W4 => ?_
  replace F_signum_o0 := F_signum_o0.same W4
  have nx1 : o1 ≠ o0 := (Ne.symm (own_nev E_o0 (hw _ (List.mem_of_getElem? (i := 126) rfl)) V_o1))
  replace E_o0 := E_o0.wr W4
  replace F_mag_o0 := F_mag_o0.other W4 (Or.inr (sn18 hw))
  replace V_o1 := V_o1.other W4 nx1
  replace K0 := K0.wr W4 (Or.inl (List.mem_of_getElem? (i := 0) rfl))
  replace Z0 := Nat.le_trans Z0 (Keep.of_wr W4).1
  replace N0 := Fr.snoc X4 N0 g_o0
  show own_Go p e below _ (T4.setTop (mkF m 18 #[rv o0, rv o1, iv i0] []))
  refine own_by (B := T4.setTop (mkF m 20 #[rv o0, rv o1, iv i0] [(.ref o1), (.ref o0)])) (fun t k => ?_) ?_
  · show Steps p.tables e below (T4.setTop (mkF m 18 #[rv o0, rv o1, iv i0] [])) _
    refine XS.aloadN X4.here hx rfl (hb hby d29_18) rfl rfl ?_
    show Steps p.tables e below (T4.setTop (mkF m 19 #[rv o0, rv o1, iv i0] [(.ref o0)])) _
    refine XS.aloadN X4.here hx rfl (hb hby d29_19) rfl rfl ?_
    show Steps p.tables e below (T4.setTop (mkF m 20 #[rv o0, rv o1, iv i0] [(.ref o1), (.ref o0)])) _
    exact k
  refine own_c2 (putF X4 hx hZ hown (host := "") (Or.inl (hw _ (List.mem_of_getElem? (i := 136) rfl))) Via.refl e4 F_mag_o0 E_o0 (Or.inr ⟨(hw _ (List.mem_of_getElem? (i := 137) rfl)), rfl, hnm⟩) (hw _ (List.mem_of_getElem? (i := 126) rfl)) (ty := (.array .int)) (by decide) rfl rfl rfl rfl (hb hby d29_20)) fun T5 h5 X5 e5 W5 => ?_
  replace F_mag_o0 := F_mag_o0.same W5
  replace E_o0 := E_o0.wr W5
  replace F_signum_o0 := F_signum_o0.other W5 (Or.inr (sn19 hw))
  replace V_o1 := V_o1.other W5 nx1
  replace K0 := K0.wr W5 (Or.inl (List.mem_of_getElem? (i := 0) rfl))
  replace Z0 := Nat.le_trans Z0 (Keep.of_wr W5).1
  replace N0 := Fr.snoc X5 N0 g_o0
  show own_Go p e below _ (T5.setTop (mkF m 23 #[rv o0, rv o1, iv i0] []))
  refine own_by (B := T5.setTop (mkF m 24 #[rv o0, rv o1, iv i0] [(.ref o0)])) (fun t k => ?_) ?_
  · show Steps p.tables e below (T5.setTop (mkF m 23 #[rv o0, rv o1, iv i0] [])) _
    refine XS.aloadN X5.here hx rfl (hb hby d29_23) rfl rfl ?_
    show Steps p.tables e below (T5.setTop (mkF m 24 #[rv o0, rv o1, iv i0] [(.ref o0)])) _
    exact k
  refine own_c1 (getF X5 hx hZ hown (host := "") (Or.inl (hw _ (List.mem_of_getElem? (i := 136) rfl))) Via.refl e5 F_mag_o0 rfl rfl (hb hby d29_24)) fun T6 X6 e6 => ?_
  show own_Go p e below _ (T6.setTop (mkF m 27 #[rv o0, rv o1, iv i0] [(.ref o1)]))
  refine own_by (B := T6.setTop (mkF m 37 #[rv o0, rv o1, iv i0] [])) (fun t k => ?_) ?_
  · show Steps p.tables e below (T6.setTop (mkF m 27 #[rv o0, rv o1, iv i0] [(.ref o1)])) _
    obtain ⟨cl7, Ar7, -, S7, N7, -, -⟩ := id V_o1
    refine X6.arraylength hx (by rw [show T6.heap = h5 from e6]; exact Ar7.1) (State.isArrayOf_alike hZ.alike Ar7.2.1) (g := (mkF m 27 #[rv o0, rv o1, iv i0] [(.ref o1)])) rfl rfl (hb hby d29_27) _ ?_
    rw [len_of S7 N7]
    show Steps p.tables e below (T6.setTop (mkF m 28 #[rv o0, rv o1, iv i0] [(.int (2 : Int32))])) _
    refine X6.ldcInt hx hown (mvT hZ (hw _ (List.mem_of_getElem? (i := 154) rfl))) (g := (mkF m 28 #[rv o0, rv o1, iv i0] [(.int (2 : Int32))])) rfl (hb hby d29_28) _ ?_
    show Steps p.tables e below (T6.setTop (mkF m 30 #[rv o0, rv o1, iv i0] [(.int (67108864 : Int32)), (.int (2 : Int32))])) _
    refine XS.icmpYes X6.here hx rfl (pc0 := 30) (pc' := 37) rfl (hb hby d29_30) rfl (tlt (by decide : (2 : Int32) < (67108864 : Int32))).1 (by decide) (by decide) ?_
    show Steps p.tables e below (T6.setTop (mkF m 37 #[rv o0, rv o1, iv i0] [])) _
    exact k
  exact own_retV X6 Bd.notSynchronized hx Bd.returns (hb hby d29_37) (by
      rw [show T6.heap = h5 from e6]
      exact ⟨rfl, N0, K0, E_o0, F_signum_o0, F_mag_o0⟩) (by decide) (by decide)

theorem d26_0 : decode jdk_2097_method_33_code 0 = .ok (.lload_n 1, 1) := by decide +kernel
theorem d26_1 : decode jdk_2097_method_33_code 1 = .ok (.lconst 0, 1) := by decide +kernel
theorem d26_2 : decode jdk_2097_method_33_code 2 = .ok (.lcmp, 1) := by decide +kernel
theorem d26_3 : decode jdk_2097_method_33_code 3 = .ok (.ifCond .ne 5, 3) := by decide +kernel
theorem d26_8 : decode jdk_2097_method_33_code 8 = .ok (.aload_n 0, 1) := by decide +kernel
theorem d26_9 : decode jdk_2097_method_33_code 9 = .ok (.getfield 32, 3) := by decide +kernel
theorem d26_12 : decode jdk_2097_method_33_code 12 = .ok (.ifCond .ne 8, 3) := by decide +kernel
theorem d26_20 : decode jdk_2097_method_33_code 20 = .ok (.lload_n 1, 1) := by decide +kernel
theorem d26_21 : decode jdk_2097_method_33_code 21 = .ok (.invokestatic 370, 3) := by decide +kernel
theorem d26_24 : decode jdk_2097_method_33_code 24 = .ok (.aload_n 0, 1) := by decide +kernel
theorem d26_25 : decode jdk_2097_method_33_code 25 = .ok (.getfield 32, 3) := by decide +kernel
theorem d26_28 : decode jdk_2097_method_33_code 28 = .ok (.if_icmp .ne 26, 3) := by decide +kernel
theorem d26_31 : decode jdk_2097_method_33_code 31 = .ok (.new 23, 3) := by decide +kernel
theorem d26_34 : decode jdk_2097_method_33_code 34 = .ok (.dup, 1) := by decide +kernel
theorem d26_35 : decode jdk_2097_method_33_code 35 = .ok (.aload_n 0, 1) := by decide +kernel
theorem d26_36 : decode jdk_2097_method_33_code 36 = .ok (.getfield 28, 3) := by decide +kernel
theorem d26_39 : decode jdk_2097_method_33_code 39 = .ok (.lload_n 1, 1) := by decide +kernel
theorem d26_40 : decode jdk_2097_method_33_code 40 = .ok (.invokestatic 375, 3) := by decide +kernel
theorem d26_43 : decode jdk_2097_method_33_code 43 = .ok (.invokestatic 378, 3) := by decide +kernel
theorem d26_46 : decode jdk_2097_method_33_code 46 = .ok (.aload_n 0, 1) := by decide +kernel
theorem d26_47 : decode jdk_2097_method_33_code 47 = .ok (.getfield 32, 3) := by decide +kernel
theorem d26_50 : decode jdk_2097_method_33_code 50 = .ok (.invokespecial 175, 3) := by decide +kernel
theorem d26_53 : decode jdk_2097_method_33_code 53 = .ok (.areturn, 1) := by decide +kernel
theorem pn_26 : plainName "java/math/BigInteger" = true := by first | (simp [plainName, overriddenIn]; done) | decide +kernel
theorem pd_20 : parseMethodDescriptor "(J)J" = some ⟨[.long], some .long⟩ := by decide +kernel
theorem pd_21 : parseMethodDescriptor "([IJ)[I" = some ⟨[(.array .int), .long], some (.array .int)⟩ := by decide +kernel
theorem pd_22 : parseMethodDescriptor "([II)V" = some ⟨[(.array .int), .int], none⟩ := by decide +kernel
theorem ef_26 (m : MethodId) (x0 : Addr) (x1 : Int64) : entryFrame m #[(.ref x0), (.long x1)] 5 = mkF m 0 #[rv x0, oJ x1, oS, oU, oU] [] := by first | (simp [entryFrame, mkF, argsToLocals, Value.category]; done) | rfl
def Q26_18 (Z : State) (o0 : Addr) (j0 : Int64) (o3 : Addr) (i0 : Int32) (k2 : ClassId) (i1 : Int32) (i2 : Int32) (h0 : Heap) (n0 : Nat) (v : Option Value) (h : Heap) (L : List Loc) : Prop := ∃ b5 : Addr, ∃ b2_10 : Addr, ∃ k2_10 : ClassId, v = some (.ref b5) ∧ Fr n0 L ∧ Keep h0 h [] ∧ Exa Z h b5 "java/math/BigInteger" ∧ Fld Z h b5 "java/math/BigInteger" "signum" "I" (.int i0) ∧ Fld Z h b5 "java/math/BigInteger" "mag" "[I" (.ref b2_10) ∧ Arv Z h b2_10 k2_10 .int (2 : Int32) [(.int (((((i1.toInt64) &&& (4294967295 : Int64)) + ((((((fabs j0).toUInt64 >>> (32 : Int32).toInt64.toUInt64).toInt64).toInt32).toInt64) &&& (4294967295 : Int64))) + (((((i2.toInt64) &&& (4294967295 : Int64)) + ((fabs j0) &&& (4294967295 : Int64))).toUInt64 >>> (32 : Int32).toInt64.toUInt64).toInt64)).toInt32)), (.int ((((i2.toInt64) &&& (4294967295 : Int64)) + ((fabs j0) &&& (4294967295 : Int64))).toInt32))] (.int (0 : Int32)) ∧ h0.size ≤ b5 ∧ h0.size ≤ b2_10 ∧ b5 ≠ b2_10
set_option maxRecDepth 65536 in
set_option maxHeartbeats 40000000 in
theorem rm26_18 (l : Launch) (Z : State) (a0 : Array Value) (hw : ∀ d ∈ tables_1, d.before a0 Z = true) (ws : List Jvm.Cond) (o0 : Addr) (j0 : Int64) (o3 : Addr) (i0 : Int32) (k2 : ClassId) (i1 : Int32) (i2 : Int32) (h0 : Heap) (n0 : Nat) (Z0 : n0 ≤ h0.size) (F_signum_o0 : Fld Z h0 o0 "java/math/BigInteger" "signum" "I" (.int i0)) (F_mag_o0 : Fld Z h0 o0 "java/math/BigInteger" "mag" "[I" (.ref o3)) (V_o3 : Arv Z h0 o3 k2 .int (2 : Int32) [(.int i1), (.int i2)] (.int (0 : Int32))) (hp0 : ¬ (j0 = (0 : Int64))) (hp1 : ¬ (i0 = (0 : Int32))) (hp2 : (fsgn j0) = i0) (hp3 : ¬ (((((fabs j0).toUInt64 >>> (32 : Int32).toInt64.toUInt64).toInt64).toInt32) = (0 : Int32))) (hp4 : ((((((i1.toInt64) &&& (4294967295 : Int64)) + ((((((fabs j0).toUInt64 >>> (32 : Int32).toInt64.toUInt64).toInt64).toInt32).toInt64) &&& (4294967295 : Int64))) + (((((i2.toInt64) &&& (4294967295 : Int64)) + ((fabs j0) &&& (4294967295 : Int64))).toUInt64 >>> (32 : Int32).toInt64.toUInt64).toInt64)).toUInt64 >>> (32 : Int32).toInt64.toUInt64).toInt64) = (0 : Int64)) :
    MetFree l (⟨"java/math/BigInteger", "add", "(J)Ljava/math/BigInteger;"⟩ : MethodName) (head1 (Jvm.Cond.code (⟨"java/math/BigInteger", "add", "(J)Ljava/math/BigInteger;"⟩ : MethodName) jdk_2097_method_33_code 5 (some (.object "java/math/BigInteger")) :: ws) ({ frames := 3, cells := 2, slots := 8, locals := 39 } : Room)) (fun a U => a = #[(.ref o0), (.long j0)] ∧ Z.Warmed39 U.vm ∧ U.heap = h0) (fun _ _ _ _ _ => True) (fun _ U o U' => ∃ v L, o = .returned v ∧ Q26_18 Z o0 j0 o3 i0 k2 i1 i2 h0 n0 v U'.heap L ∧ FrameEnd U o U' L ({ frames := 3, cells := 2, slots := 8, locals := 39 } : Room).cells ({ frames := 3, cells := 2, slots := 8, locals := 39 } : Room).slots) := by
  refine MetFree.of_bodySF (plainFor_of_name pn_26) hisR ?_
  intro p e s m args below meth c s₁ Bd hml0 hP hK
  obtain ⟨rfl, hZ, hh⟩ := hP
  have hx := Bd.exec
  have hby := Bd.bytes
  have hml : c.maxLocals = 5 := hml0
  have hown : s.vm.findClass "java/math/BigInteger" = some m.cls := findClass_of_methodNamed Bd.named
  have hnm := (name_of_methodNamed Bd.named Bd.method).1
  have X0 : Stand p l e ({ frames := 3, cells := 2, slots := 8, locals := 39 } : Room) s m #[(.ref o0), (.long j0)] below meth c s₁ [] 0 0 := Stand.of_body Bd
  have e0 : s₁.heap = h0 := by rw [← hh, Bd.state]; rfl
  have N0 := Fr.nil n0
  have K0 : Keep h0 h0 [] := Keep.refl h0 _
  change own_Go p e below (own_Post s (Q26_18 Z o0 j0 o3 i0 k2 i1 i2 h0 n0) ({ frames := 3, cells := 2, slots := 8, locals := 39 } : Room).cells ({ frames := 3, cells := 2, slots := 8, locals := 39 } : Room).slots) (s₁.setTop (entryFrame m #[(.ref o0), (.long j0)] 5))
  refine own_by (fun t k => castTop (ef_26 m o0 j0) k) ?_
  show own_Go p e below _ (s₁.setTop (mkF m 0 #[rv o0, oJ j0, oS, oU, oU] []))
  refine own_by (B := s₁.setTop (mkF m 9 #[rv o0, oJ j0, oS, oU, oU] [(.ref o0)])) (fun t k => ?_) ?_
  · show Steps p.tables e below (s₁.setTop (mkF m 0 #[rv o0, oJ j0, oS, oU, oU] [])) _
    refine XS.lloadN X0.here hx rfl (hb hby d26_0) rfl ?_
    show Steps p.tables e below (s₁.setTop (mkF m 1 #[rv o0, oJ j0, oS, oU, oU] [(.long j0)])) _
    refine XS.lconst X0.here hx rfl (hb hby d26_1) ?_
    show Steps p.tables e below (s₁.setTop (mkF m 2 #[rv o0, oJ j0, oS, oU, oU] [(.long (0 : Int64)), (.long j0)])) _
    refine XS.lcmp X0.here hx rfl (hb hby d26_2) rfl ?_
    show Steps p.tables e below (s₁.setTop (mkF m 3 #[rv o0, oJ j0, oS, oU, oU] [(.int (lcmpW j0 (0 : Int64)))])) _
    refine XS.ifYes X0.here hx rfl (pc0 := 3) (pc' := 8) rfl (hb hby d26_3) rfl ((if0 _ _).trans (feq (fun q => hp0 ((lw_eq _ _).mp q))).2) (by decide) (by decide) ?_
    show Steps p.tables e below (s₁.setTop (mkF m 8 #[rv o0, oJ j0, oS, oU, oU] [])) _
    refine XS.aloadN X0.here hx rfl (hb hby d26_8) rfl rfl ?_
    show Steps p.tables e below (s₁.setTop (mkF m 9 #[rv o0, oJ j0, oS, oU, oU] [(.ref o0)])) _
    exact k
  refine own_c1 (getF X0 hx hZ hown (host := "") (Or.inl (hw _ (List.mem_of_getElem? (i := 133) rfl))) Via.refl e0 F_signum_o0 rfl rfl (hb hby d26_9)) fun T1 X1 e1 => ?_
  show own_Go p e below _ (T1.setTop (mkF m 12 #[rv o0, oJ j0, oS, oU, oU] [(.int i0)]))
  refine own_by (B := T1.setTop (mkF m 21 #[rv o0, oJ j0, oS, oU, oU] [(.long j0)])) (fun t k => ?_) ?_
  · show Steps p.tables e below (T1.setTop (mkF m 12 #[rv o0, oJ j0, oS, oU, oU] [(.int i0)])) _
    refine XS.ifYes X1.here hx rfl (pc0 := 12) (pc' := 20) rfl (hb hby d26_12) rfl ((if0 _ _).trans (feq hp1).2) (by decide) (by decide) ?_
    show Steps p.tables e below (T1.setTop (mkF m 20 #[rv o0, oJ j0, oS, oU, oU] [])) _
    refine XS.lloadN X1.here hx rfl (hb hby d26_20) rfl ?_
    show Steps p.tables e below (T1.setTop (mkF m 21 #[rv o0, oJ j0, oS, oU, oU] [(.long j0)])) _
    exact k
  refine own_cc (own_callS X1 hx hZ (y := (⟨"java/lang/Long", "signum", "(J)I"⟩ : MethodName)) hown (hw _ (List.mem_of_getElem? (i := 143) rfl)) (hw _ (List.mem_of_getElem? (i := 33) rfl)) (hw _ (List.mem_of_getElem? (i := 34) rfl)) (hw _ (List.mem_of_getElem? (i := 35) rfl)) (by decide) (rm6 l Z a0 hw [] j0 h0 n0 Z0 ) e1 0 (by decide) (by decide) (by decide) (by decide) rfl (by rw [hml]; rfl) [(.long j0)] [] rfl (lenOf pd_3 rfl) rfl (by show 2 * 0 + _ ≤ _; exact Nat.le_of_eq rfl) (hb hby d26_21)) fun T3 L3 v3 X3 hQ3 => ?_
  obtain ⟨rfl, N3, e3⟩ := hQ3
  replace N0 := Fr.app N0 N3
  show own_Go p e below _ (T3.setTop (mkF m 24 #[rv o0, oJ j0, oS, oU, oU] [(.int (fsgn j0))]))
  refine own_by (B := T3.setTop (mkF m 25 #[rv o0, oJ j0, oS, oU, oU] [(.ref o0), (.int (fsgn j0))])) (fun t k => ?_) ?_
  · show Steps p.tables e below (T3.setTop (mkF m 24 #[rv o0, oJ j0, oS, oU, oU] [(.int (fsgn j0))])) _
    refine XS.aloadN X3.here hx rfl (hb hby d26_24) rfl rfl ?_
    show Steps p.tables e below (T3.setTop (mkF m 25 #[rv o0, oJ j0, oS, oU, oU] [(.ref o0), (.int (fsgn j0))])) _
    exact k
  refine own_c1 (getF X3 hx hZ hown (host := "") (Or.inl (hw _ (List.mem_of_getElem? (i := 133) rfl))) Via.refl e3 F_signum_o0 rfl rfl (hb hby d26_25)) fun T4 X4 e4 => ?_
  show own_Go p e below _ (T4.setTop (mkF m 28 #[rv o0, oJ j0, oS, oU, oU] [(.int i0), (.int (fsgn j0))]))
  refine own_by (B := T4.setTop (mkF m 31 #[rv o0, oJ j0, oS, oU, oU] [])) (fun t k => ?_) ?_
  · show Steps p.tables e below (T4.setTop (mkF m 28 #[rv o0, oJ j0, oS, oU, oU] [(.int i0), (.int (fsgn j0))])) _
    refine XS.icmpNo X4.here hx rfl (hb hby d26_28) rfl (teq hp2).2 ?_
    show Steps p.tables e below (T4.setTop (mkF m 31 #[rv o0, oJ j0, oS, oU, oU] [])) _
    exact k
  obtain ⟨T5, h5, X5, e5, E5, A5, D5, -, st5⟩ := newO X4 hx hZ hown (hw _ (List.mem_of_getElem? (i := 125) rfl)) (hw _ (List.mem_of_getElem? (i := 126) rfl)) (hw _ (List.mem_of_getElem? (i := 122) rfl)) e4 (g := (mkF m 31 #[rv o0, oJ j0, oS, oU, oU] [])) rfl (hb hby d26_31) (by decide) (by decide)
  obtain ⟨b5, g5⟩ : ∃ z, z = h0.size := ⟨_, rfl⟩
  rw [← g5] at A5 D5 st5
  have g_b5 : n0 ≤ b5 := Nat.le_trans Z0 (Nat.le_of_eq g5.symm)
  have sz_b5 : h0.size ≤ b5 := Nat.le_trans K0.1 (Nat.le_of_eq g5.symm)
  have ne_o0_b5 : o0 ≠ b5 := Nat.ne_of_lt (Nat.lt_of_lt_of_le F_signum_o0.lt (Nat.le_of_eq g5.symm))
  have ne_o3_b5 : o3 ≠ b5 := Nat.ne_of_lt (Nat.lt_of_lt_of_le V_o3.lt (Nat.le_of_eq g5.symm))
  replace F_signum_o0 := F_signum_o0.ext E5
  replace F_mag_o0 := F_mag_o0.ext E5
  replace V_o3 := V_o3.ext E5
  replace K0 := K0.ext E5
  replace Z0 := Nat.le_trans Z0 E5.1
  have E_b5 := A5
  have F_signum_b5 : Fld Z h5 b5 "java/math/BigInteger" "signum" "I" (.int (0 : Int32)) := D5 (Or.inr (hw _ (List.mem_of_getElem? (i := 134) rfl))) (ty := .int) (by decide)
  have F_mag_b5 : Fld Z h5 b5 "java/math/BigInteger" "mag" "[I" .null := D5 (Or.inr (hw _ (List.mem_of_getElem? (i := 137) rfl))) (ty := (.array .int)) (by decide)
  refine own_by st5 ?_
  show own_Go p e below _ (T5.setTop (mkF m 34 #[rv o0, oJ j0, oS, oU, oU] [(.ref b5)]))
  refine own_by (B := T5.setTop (mkF m 36 #[rv o0, oJ j0, oS, oU, oU] [(.ref o0), (.ref b5), (.ref b5)])) (fun t k => ?_) ?_
  · show Steps p.tables e below (T5.setTop (mkF m 34 #[rv o0, oJ j0, oS, oU, oU] [(.ref b5)])) _
    refine XS.dup X5.here hx rfl (hb hby d26_34) rfl rfl ?_
    show Steps p.tables e below (T5.setTop (mkF m 35 #[rv o0, oJ j0, oS, oU, oU] [(.ref b5), (.ref b5)])) _
    refine XS.aloadN X5.here hx rfl (hb hby d26_35) rfl rfl ?_
    show Steps p.tables e below (T5.setTop (mkF m 36 #[rv o0, oJ j0, oS, oU, oU] [(.ref o0), (.ref b5), (.ref b5)])) _
    exact k
  refine own_c1 (getF X5 hx hZ hown (host := "") (Or.inl (hw _ (List.mem_of_getElem? (i := 136) rfl))) Via.refl e5 F_mag_o0 rfl rfl (hb hby d26_36)) fun T6 X6 e6 => ?_
  show own_Go p e below _ (T6.setTop (mkF m 39 #[rv o0, oJ j0, oS, oU, oU] [(.ref o3), (.ref b5), (.ref b5)]))
  refine own_by (B := T6.setTop (mkF m 40 #[rv o0, oJ j0, oS, oU, oU] [(.long j0), (.ref o3), (.ref b5), (.ref b5)])) (fun t k => ?_) ?_
  · show Steps p.tables e below (T6.setTop (mkF m 39 #[rv o0, oJ j0, oS, oU, oU] [(.ref o3), (.ref b5), (.ref b5)])) _
    refine XS.lloadN X6.here hx rfl (hb hby d26_39) rfl ?_
    show Steps p.tables e below (T6.setTop (mkF m 40 #[rv o0, oJ j0, oS, oU, oU] [(.long j0), (.ref o3), (.ref b5), (.ref b5)])) _
    exact k
  refine own_cc (own_callS X6 hx hZ (y := (⟨"java/lang/Math", "abs", "(J)J"⟩ : MethodName)) hown (hw _ (List.mem_of_getElem? (i := 144) rfl)) (hw _ (List.mem_of_getElem? (i := 145) rfl)) (hw _ (List.mem_of_getElem? (i := 54) rfl)) (hw _ (List.mem_of_getElem? (i := 146) rfl)) (by decide) (rm27 l Z a0 hw [] j0 h5 n0 Z0 ) e6 3 (by decide) (by decide) (by decide) (by decide) rfl (by rw [hml]; rfl) [(.long j0)] [(.ref o3), (.ref b5), (.ref b5)] rfl (lenOf pd_20 rfl) rfl (by show 2 * 0 + _ ≤ _; exact Nat.le_of_eq rfl) (hb hby d26_40)) fun T8 L8 v8 X8 hQ8 => ?_
  obtain ⟨rfl, N8, e8⟩ := hQ8
  replace N0 := Fr.app N0 N8
  show own_Go p e below _ (T8.setTop (mkF m 43 #[rv o0, oJ j0, oS, oU, oU] [(.long (fabs j0)), (.ref o3), (.ref b5), (.ref b5)]))
  refine own_cc (own_callS X8 hx hZ (y := (⟨"java/math/BigInteger", "add", "([IJ)[I"⟩ : MethodName)) hown (hw _ (List.mem_of_getElem? (i := 147) rfl)) (hw _ (List.mem_of_getElem? (i := 148) rfl)) (hw _ (List.mem_of_getElem? (i := 122) rfl)) (hw _ (List.mem_of_getElem? (i := 149) rfl)) (by decide) (rm28_16 l Z a0 hw [] o3 (fabs j0) k2 i1 i2 h5 n0 Z0 V_o3 hp3 hp4) e8 2 (by decide) (by decide) (by decide) (by decide) rfl (by rw [hml]; rfl) [(.ref o3), (.long (fabs j0))] [(.ref b5), (.ref b5)] rfl (lenOf pd_21 rfl) rfl (by show 2 * 0 + _ ≤ _; exact Nat.le_of_eq rfl) (hb hby d26_43)) fun T10 L10 v10 X10 hQ10 => ?_
  obtain ⟨b2_10, k2_10, rfl, N10, K10, V_b2_10', sz_b2_10'⟩ := hQ10
  replace N0 := Fr.app N0 N10
  have g_b2_10 : n0 ≤ b2_10 := Nat.le_trans Z0 sz_b2_10'
  have sz_b2_10 : h0.size ≤ b2_10 := Nat.le_trans K0.1 sz_b2_10'
  have ne_o0_b2_10 : o0 ≠ b2_10 := Nat.ne_of_lt (Nat.lt_of_lt_of_le F_signum_o0.lt sz_b2_10')
  have ne_o3_b2_10 : o3 ≠ b2_10 := Nat.ne_of_lt (Nat.lt_of_lt_of_le V_o3.lt sz_b2_10')
  have ne_b5_b2_10 : b5 ≠ b2_10 := Nat.ne_of_lt (Nat.lt_of_lt_of_le E_b5.lt sz_b2_10')
  replace F_signum_o0 := F_signum_o0.keep K10 nin0
  replace F_mag_o0 := F_mag_o0.keep K10 nin0
  replace V_o3 := V_o3.keep K10 nin0
  replace E_b5 := E_b5.keep K10
  replace F_signum_b5 := F_signum_b5.keep K10 nin0
  replace F_mag_b5 := F_mag_b5.keep K10 nin0
  replace K0 := K0.trans K10 all0
  replace Z0 := Nat.le_trans Z0 K10.1
  have V_b2_10 : Arv Z T10.heap b2_10 k2_10 .int (2 : Int32) [(.int (((((i1.toInt64) &&& (4294967295 : Int64)) + ((((((fabs j0).toUInt64 >>> (32 : Int32).toInt64.toUInt64).toInt64).toInt32).toInt64) &&& (4294967295 : Int64))) + (((((i2.toInt64) &&& (4294967295 : Int64)) + ((fabs j0) &&& (4294967295 : Int64))).toUInt64 >>> (32 : Int32).toInt64.toUInt64).toInt64)).toInt32)), (.int ((((i2.toInt64) &&& (4294967295 : Int64)) + ((fabs j0) &&& (4294967295 : Int64))).toInt32))] (.int (0 : Int32)) := V_b2_10'
  show own_Go p e below _ (T10.setTop (mkF m 46 #[rv o0, oJ j0, oS, oU, oU] [(.ref b2_10), (.ref b5), (.ref b5)]))
  refine own_by (B := T10.setTop (mkF m 47 #[rv o0, oJ j0, oS, oU, oU] [(.ref o0), (.ref b2_10), (.ref b5), (.ref b5)])) (fun t k => ?_) ?_
  · show Steps p.tables e below (T10.setTop (mkF m 46 #[rv o0, oJ j0, oS, oU, oU] [(.ref b2_10), (.ref b5), (.ref b5)])) _
    refine XS.aloadN X10.here hx rfl (hb hby d26_46) rfl rfl ?_
    show Steps p.tables e below (T10.setTop (mkF m 47 #[rv o0, oJ j0, oS, oU, oU] [(.ref o0), (.ref b2_10), (.ref b5), (.ref b5)])) _
    exact k
  refine own_c1 (getF X10 hx hZ hown (host := "") (Or.inl (hw _ (List.mem_of_getElem? (i := 133) rfl))) Via.refl rfl F_signum_o0 rfl rfl (hb hby d26_47)) fun T11 X11 e11 => ?_
  show own_Go p e below _ (T11.setTop (mkF m 50 #[rv o0, oJ j0, oS, oU, oU] [(.int i0), (.ref b2_10), (.ref b5), (.ref b5)]))
  refine own_cc (own_callI X11 hx hZ (y := (⟨"java/math/BigInteger", "<init>", "([II)V"⟩ : MethodName)) rfl hown (hw _ (List.mem_of_getElem? (i := 151) rfl)) (hw _ (List.mem_of_getElem? (i := 152) rfl)) (hw _ (List.mem_of_getElem? (i := 122) rfl)) (hw _ (List.mem_of_getElem? (i := 153) rfl)) (by decide) (rm29_17 l Z a0 hw [] b5 b2_10 i0 (0 : Int32) k2_10 (((((i1.toInt64) &&& (4294967295 : Int64)) + ((((((fabs j0).toUInt64 >>> (32 : Int32).toInt64.toUInt64).toInt64).toInt32).toInt64) &&& (4294967295 : Int64))) + (((((i2.toInt64) &&& (4294967295 : Int64)) + ((fabs j0) &&& (4294967295 : Int64))).toUInt64 >>> (32 : Int32).toInt64.toUInt64).toInt64)).toInt32) ((((i2.toInt64) &&& (4294967295 : Int64)) + ((fabs j0) &&& (4294967295 : Int64))).toInt32) T10.heap n0 Z0 g_b5 E_b5 F_signum_b5 F_mag_b5 V_b2_10) e11 1 (by decide) (by decide) (by decide) (by decide) rfl (by rw [hml]; rfl) b5 [(.ref b2_10), (.int i0)] [(.ref b5)] rfl (lenOf pd_22 rfl) rfl (by show 2 * 0 + _ ≤ _; exact Nat.le_of_eq rfl) (hb hby d26_50)) fun T13 L13 v13 X13 hQ13 => ?_
  obtain ⟨rfl, N13, K13, E_b5', F_signum_b5', F_mag_b5'⟩ := hQ13
  replace N0 := Fr.app N0 N13
  replace F_signum_o0 := F_signum_o0.keep K13 (ninS ne_o0_b5 nin0)
  replace F_mag_o0 := F_mag_o0.keep K13 (ninS ne_o0_b5 nin0)
  replace V_o3 := V_o3.keep K13 (ninS ne_o3_b5 nin0)
  replace E_b5 := E_b5.keep K13
  replace V_b2_10 := V_b2_10.keep K13 (ninS (Ne.symm ne_b5_b2_10) nin0)
  replace K0 := K0.trans K13 (allS (Or.inr sz_b5) all0)
  replace Z0 := Nat.le_trans Z0 K13.1
  replace E_b5 := E_b5'
  have F_signum_b5 := F_signum_b5'
  have F_mag_b5 := F_mag_b5'
  show own_Go p e below _ (T13.setTop (mkF m 53 #[rv o0, oJ j0, oS, oU, oU] [(.ref b5)]))
  exact own_retR X13 Bd.notSynchronized hx Bd.returns rfl rfl rfl (hb hby d26_53) ⟨b5, b2_10, k2_10, rfl, N0, K0, E_b5, F_signum_b5, F_mag_b5, V_b2_10, sz_b5, sz_b2_10, ne_b5_b2_10⟩ (by decide) (by decide)

theorem d32_0 : decode jdk_17_method_107_code 0 = .ok (.aload_n 0, 1) := by decide +kernel
theorem d32_1 : decode jdk_17_method_107_code 1 = .ok (.getfield 878, 3) := by decide +kernel
theorem d32_4 : decode jdk_17_method_107_code 4 = .ok (.astore_n 1, 1) := by decide +kernel
theorem d32_5 : decode jdk_17_method_107_code 5 = .ok (.aload_n 1, 1) := by decide +kernel
theorem d32_6 : decode jdk_17_method_107_code 6 = .ok (.arraylength, 1) := by decide +kernel
theorem d32_7 : decode jdk_17_method_107_code 7 = .ok (.istore_n 2, 1) := by decide +kernel
theorem d32_8 : decode jdk_17_method_107_code 8 = .ok (.iload_n 2, 1) := by decide +kernel
theorem d32_9 : decode jdk_17_method_107_code 9 = .ok (.ifCond .ne 5, 3) := by decide +kernel
theorem d32_14 : decode jdk_17_method_107_code 14 = .ok (.aload_n 1, 1) := by decide +kernel
theorem d32_15 : decode jdk_17_method_107_code 15 = .ok (.iconst 0, 1) := by decide +kernel
theorem d32_16 : decode jdk_17_method_107_code 16 = .ok (.iaload, 1) := by decide +kernel
theorem d32_17 : decode jdk_17_method_107_code 17 = .ok (.istore_n 3, 1) := by decide +kernel
theorem d32_18 : decode jdk_17_method_107_code 18 = .ok (.iload_n 2, 1) := by decide +kernel
theorem d32_19 : decode jdk_17_method_107_code 19 = .ok (.iconst 2, 1) := by decide +kernel
theorem d32_20 : decode jdk_17_method_107_code 20 = .ok (.if_icmp .gt 12, 3) := by decide +kernel
theorem d32_23 : decode jdk_17_method_107_code 23 = .ok (.iload_n 2, 1) := by decide +kernel
theorem d32_24 : decode jdk_17_method_107_code 24 = .ok (.iconst 2, 1) := by decide +kernel
theorem d32_25 : decode jdk_17_method_107_code 25 = .ok (.if_icmp .ne 11, 3) := by decide +kernel
theorem d32_28 : decode jdk_17_method_107_code 28 = .ok (.iload_n 3, 1) := by decide +kernel
theorem d32_29 : decode jdk_17_method_107_code 29 = .ok (.ifCond .ge 7, 3) := by decide +kernel
theorem d32_32 : decode jdk_17_method_107_code 32 = .ok (.ldc2_w 125, 3) := by decide +kernel
theorem d32_35 : decode jdk_17_method_107_code 35 = .ok (.lreturn, 1) := by decide +kernel
theorem pn_32 : plainName "java/math/BigDecimal" = true := by first | (simp [plainName, overriddenIn]; done) | decide +kernel
theorem ef_32 (m : MethodId) (x0 : Addr) : entryFrame m #[(.ref x0)] 6 = mkF m 0 #[rv x0, oU, oU, oU, oU, oU] [] := by first | (simp [entryFrame, mkF, argsToLocals, Value.category]; done) | rfl
def Q32_19 (Z : State) (o0 : Addr) (o3 : Addr) (k2 : ClassId) (i1 : Int32) (i2 : Int32) (h0 : Heap) (n0 : Nat) (v : Option Value) (h : Heap) (L : List Loc) : Prop := v = some (.long (-9223372036854775808 : Int64)) ∧ Fr n0 L ∧ h = h0
set_option maxRecDepth 65536 in
set_option maxHeartbeats 40000000 in
theorem rm32_19 (l : Launch) (Z : State) (a0 : Array Value) (hw : ∀ d ∈ tables_1, d.before a0 Z = true) (ws : List Jvm.Cond) (o0 : Addr) (o3 : Addr) (k2 : ClassId) (i1 : Int32) (i2 : Int32) (h0 : Heap) (n0 : Nat) (Z0 : n0 ≤ h0.size) (F_mag_o0 : Fld Z h0 o0 "java/math/BigInteger" "mag" "[I" (.ref o3)) (V_o3 : Arv Z h0 o3 k2 .int (2 : Int32) [(.int i1), (.int i2)] (.int (0 : Int32))) (hp0 : i1 < (0 : Int32)) :
    MetFree l (⟨"java/math/BigDecimal", "compactValFor", "(Ljava/math/BigInteger;)J"⟩ : MethodName) (head1 (Jvm.Cond.code (⟨"java/math/BigDecimal", "compactValFor", "(Ljava/math/BigInteger;)J"⟩ : MethodName) jdk_17_method_107_code 6 (some .long) :: ws) ({ frames := 0, cells := 0, slots := 0, locals := 0 } : Room)) (fun a U => a = #[(.ref o0)] ∧ Z.Warmed39 U.vm ∧ U.heap = h0) (fun _ _ _ _ _ => True) (fun _ U o U' => ∃ v L, o = .returned v ∧ Q32_19 Z o0 o3 k2 i1 i2 h0 n0 v U'.heap L ∧ FrameEnd U o U' L ({ frames := 0, cells := 0, slots := 0, locals := 0 } : Room).cells ({ frames := 0, cells := 0, slots := 0, locals := 0 } : Room).slots) := by
  refine MetFree.of_bodySF (plainFor_of_name pn_32) hisR ?_
  intro p e s m args below meth c s₁ Bd hml0 hP hK
  obtain ⟨rfl, hZ, hh⟩ := hP
  have hx := Bd.exec
  have hby := Bd.bytes
  have hml : c.maxLocals = 6 := hml0
  have hown : s.vm.findClass "java/math/BigDecimal" = some m.cls := findClass_of_methodNamed Bd.named
  have hnm := (name_of_methodNamed Bd.named Bd.method).1
  have X0 : Stand p l e ({ frames := 0, cells := 0, slots := 0, locals := 0 } : Room) s m #[(.ref o0)] below meth c s₁ [] 0 0 := Stand.of_body Bd
  have e0 : s₁.heap = h0 := by rw [← hh, Bd.state]; rfl
  have N0 := Fr.nil n0
  change own_Go p e below (own_Post s (Q32_19 Z o0 o3 k2 i1 i2 h0 n0) ({ frames := 0, cells := 0, slots := 0, locals := 0 } : Room).cells ({ frames := 0, cells := 0, slots := 0, locals := 0 } : Room).slots) (s₁.setTop (entryFrame m #[(.ref o0)] 6))
  refine own_by (fun t k => castTop (ef_32 m o0) k) ?_
  show own_Go p e below _ (s₁.setTop (mkF m 0 #[rv o0, oU, oU, oU, oU, oU] []))
  refine own_by (B := s₁.setTop (mkF m 1 #[rv o0, oU, oU, oU, oU, oU] [(.ref o0)])) (fun t k => ?_) ?_
  · show Steps p.tables e below (s₁.setTop (mkF m 0 #[rv o0, oU, oU, oU, oU, oU] [])) _
    refine XS.aloadN X0.here hx rfl (hb hby d32_0) rfl rfl ?_
    show Steps p.tables e below (s₁.setTop (mkF m 1 #[rv o0, oU, oU, oU, oU, oU] [(.ref o0)])) _
    exact k
  refine own_c1 (getF X0 hx hZ hown (host := "") (Or.inl (hw _ (List.mem_of_getElem? (i := 170) rfl))) Via.refl e0 F_mag_o0 rfl rfl (hb hby d32_1)) fun T1 X1 e1 => ?_
  show own_Go p e below _ (T1.setTop (mkF m 4 #[rv o0, oU, oU, oU, oU, oU] [(.ref o3)]))
  refine own_by (B := T1.setTop (mkF m 35 #[rv o0, rv o3, iv (2 : Int32), iv i1, oU, oU] [(.long (-9223372036854775808 : Int64))])) (fun t k => ?_) ?_
  · show Steps p.tables e below (T1.setTop (mkF m 4 #[rv o0, oU, oU, oU, oU, oU] [(.ref o3)])) _
    refine XS.astoreN X1.here hx rfl (hb hby d32_4) rfl rfl (l' := #[rv o0, rv o3, oU, oU, oU, oU]) rfl ?_
    show Steps p.tables e below (T1.setTop (mkF m 5 #[rv o0, rv o3, oU, oU, oU, oU] [])) _
    refine XS.aloadN X1.here hx rfl (hb hby d32_5) rfl rfl ?_
    show Steps p.tables e below (T1.setTop (mkF m 6 #[rv o0, rv o3, oU, oU, oU, oU] [(.ref o3)])) _
    obtain ⟨cl2, Ar2, -, S2, N2, -, -⟩ := id V_o3
    refine X1.arraylength hx (by rw [show T1.heap = h0 from e1]; exact Ar2.1) (State.isArrayOf_alike hZ.alike Ar2.2.1) (g := (mkF m 6 #[rv o0, rv o3, oU, oU, oU, oU] [(.ref o3)])) rfl rfl (hb hby d32_6) _ ?_
    rw [len_of S2 N2]
    show Steps p.tables e below (T1.setTop (mkF m 7 #[rv o0, rv o3, oU, oU, oU, oU] [(.int (2 : Int32))])) _
    refine XS.istoreN X1.here hx rfl (hb hby d32_7) rfl (l' := #[rv o0, rv o3, iv (2 : Int32), oU, oU, oU]) rfl ?_
    show Steps p.tables e below (T1.setTop (mkF m 8 #[rv o0, rv o3, iv (2 : Int32), oU, oU, oU] [])) _
    refine XS.iloadN X1.here hx rfl (hb hby d32_8) rfl ?_
    show Steps p.tables e below (T1.setTop (mkF m 9 #[rv o0, rv o3, iv (2 : Int32), oU, oU, oU] [(.int (2 : Int32))])) _
    refine XS.ifYes X1.here hx rfl (pc0 := 9) (pc' := 14) rfl (hb hby d32_9) rfl ((if0 _ _).trans (feq (by decide : ¬ ((2 : Int32) = (0 : Int32)))).2) (by decide) (by decide) ?_
    show Steps p.tables e below (T1.setTop (mkF m 14 #[rv o0, rv o3, iv (2 : Int32), oU, oU, oU] [])) _
    refine XS.aloadN X1.here hx rfl (hb hby d32_14) rfl rfl ?_
    show Steps p.tables e below (T1.setTop (mkF m 15 #[rv o0, rv o3, iv (2 : Int32), oU, oU, oU] [(.ref o3)])) _
    refine XS.iconst X1.here hx rfl (hb hby d32_15) ?_
    show Steps p.tables e below (T1.setTop (mkF m 16 #[rv o0, rv o3, iv (2 : Int32), oU, oU, oU] [(.int (0 : Int32)), (.ref o3)])) _
    obtain ⟨cl3, Ar3, q3, S3, N3, H3, G3⟩ := id V_o3
    have hin3 : ¬ ((0 : Int32) < 0 ∨ cl3.slots.size ≤ ((0 : Int32)).toNatClampNeg) := inb_of S3 ⟨by decide, by decide⟩
    have hat3 : cl3.slots[((0 : Int32)).toNatClampNeg]? = some (.int i1) := H3.at hin3 rfl
    refine X1.iaload hx (j := (0 : Int32)) (v := (.int i1)) (by rw [show T1.heap = h0 from e1]; exact Ar3.1) (State.isArrayOf_alike hZ.alike Ar3.2.1) Ar3.2.2 hin3 hat3 (g := (mkF m 16 #[rv o0, rv o3, iv (2 : Int32), oU, oU, oU] [(.int (0 : Int32)), (.ref o3)])) rfl rfl (hb hby d32_16) _ ?_
    show Steps p.tables e below (T1.setTop (mkF m 17 #[rv o0, rv o3, iv (2 : Int32), oU, oU, oU] [(.int i1)])) _
    refine XS.istoreN X1.here hx rfl (hb hby d32_17) rfl (l' := #[rv o0, rv o3, iv (2 : Int32), iv i1, oU, oU]) rfl ?_
    show Steps p.tables e below (T1.setTop (mkF m 18 #[rv o0, rv o3, iv (2 : Int32), iv i1, oU, oU] [])) _
    refine XS.iloadN X1.here hx rfl (hb hby d32_18) rfl ?_
    show Steps p.tables e below (T1.setTop (mkF m 19 #[rv o0, rv o3, iv (2 : Int32), iv i1, oU, oU] [(.int (2 : Int32))])) _
    refine XS.iconst X1.here hx rfl (hb hby d32_19) ?_
    show Steps p.tables e below (T1.setTop (mkF m 20 #[rv o0, rv o3, iv (2 : Int32), iv i1, oU, oU] [(.int (2 : Int32)), (.int (2 : Int32))])) _
    refine XS.icmpNo X1.here hx rfl (hb hby d32_20) rfl (flt (by decide : ¬ ((2 : Int32) < (2 : Int32)))).2.2.1 ?_
    show Steps p.tables e below (T1.setTop (mkF m 23 #[rv o0, rv o3, iv (2 : Int32), iv i1, oU, oU] [])) _
    refine XS.iloadN X1.here hx rfl (hb hby d32_23) rfl ?_
    show Steps p.tables e below (T1.setTop (mkF m 24 #[rv o0, rv o3, iv (2 : Int32), iv i1, oU, oU] [(.int (2 : Int32))])) _
    refine XS.iconst X1.here hx rfl (hb hby d32_24) ?_
    show Steps p.tables e below (T1.setTop (mkF m 25 #[rv o0, rv o3, iv (2 : Int32), iv i1, oU, oU] [(.int (2 : Int32)), (.int (2 : Int32))])) _
    refine XS.icmpNo X1.here hx rfl (hb hby d32_25) rfl (teq (by decide : (2 : Int32) = (2 : Int32))).2 ?_
    show Steps p.tables e below (T1.setTop (mkF m 28 #[rv o0, rv o3, iv (2 : Int32), iv i1, oU, oU] [])) _
    refine XS.iloadN X1.here hx rfl (hb hby d32_28) rfl ?_
    show Steps p.tables e below (T1.setTop (mkF m 29 #[rv o0, rv o3, iv (2 : Int32), iv i1, oU, oU] [(.int i1)])) _
    refine XS.ifNo X1.here hx rfl (hb hby d32_29) rfl ((if0 _ _).trans (tlt hp0).2.1) ?_
    show Steps p.tables e below (T1.setTop (mkF m 32 #[rv o0, rv o3, iv (2 : Int32), iv i1, oU, oU] [])) _
    refine X1.ldc2Long hx hown (mvT hZ (hw _ (List.mem_of_getElem? (i := 84) rfl))) (g := (mkF m 32 #[rv o0, rv o3, iv (2 : Int32), iv i1, oU, oU] [])) rfl (hb hby d32_32) _ ?_
    show Steps p.tables e below (T1.setTop (mkF m 35 #[rv o0, rv o3, iv (2 : Int32), iv i1, oU, oU] [(.long (-9223372036854775808 : Int64))])) _
    exact k
  exact own_retL X1 Bd.notSynchronized hx Bd.returns (hb hby d32_35) (by
      rw [show T1.heap = h0 from e1]
      exact ⟨rfl, N0, rfl⟩) (by decide) (by decide)

theorem d30_0 : decode jdk_17_method_14_code 0 = .ok (.aload_n 0, 1) := by decide +kernel
theorem d30_1 : decode jdk_17_method_14_code 1 = .ok (.invokespecial 11, 3) := by decide +kernel
theorem d30_4 : decode jdk_17_method_14_code 4 = .ok (.aload_n 0, 1) := by decide +kernel
theorem d30_5 : decode jdk_17_method_14_code 5 = .ok (.aload_n 1, 1) := by decide +kernel
theorem d30_6 : decode jdk_17_method_14_code 6 = .ok (.invokestatic 229, 3) := by decide +kernel
theorem d30_9 : decode jdk_17_method_14_code 9 = .ok (.putfield 28, 3) := by decide +kernel
theorem d30_12 : decode jdk_17_method_14_code 12 = .ok (.aload_n 0, 1) := by decide +kernel
theorem d30_13 : decode jdk_17_method_14_code 13 = .ok (.aload_n 0, 1) := by decide +kernel
theorem d30_14 : decode jdk_17_method_14_code 14 = .ok (.getfield 28, 3) := by decide +kernel
theorem d30_17 : decode jdk_17_method_14_code 17 = .ok (.invokestatic 121, 3) := by decide +kernel
theorem d30_20 : decode jdk_17_method_14_code 20 = .ok (.putfield 24, 3) := by decide +kernel
theorem d30_23 : decode jdk_17_method_14_code 23 = .ok (.aload_n 0, 1) := by decide +kernel
theorem d30_24 : decode jdk_17_method_14_code 24 = .ok (.iload_n 2, 1) := by decide +kernel
theorem d30_25 : decode jdk_17_method_14_code 25 = .ok (.putfield 17, 3) := by decide +kernel
theorem d30_28 : decode jdk_17_method_14_code 28 = .ok (.return_, 1) := by decide +kernel
theorem pn_30 : plainName "java/math/BigDecimal" = true := by first | (simp [plainName, overriddenIn]; done) | decide +kernel
theorem pd_24 : parseMethodDescriptor "(Ljava/math/BigInteger;)Ljava/math/BigInteger;" = some ⟨[(.object "java/math/BigInteger")], some (.object "java/math/BigInteger")⟩ := by decide +kernel
theorem pd_26 : parseMethodDescriptor "(Ljava/math/BigInteger;)J" = some ⟨[(.object "java/math/BigInteger")], some .long⟩ := by decide +kernel
theorem ef_30 (m : MethodId) (x0 : Addr) (x1 : Addr) (x2 : Int32) : entryFrame m #[(.ref x0), (.ref x1), (.int x2)] 3 = mkF m 0 #[rv x0, rv x1, iv x2] [] := by first | (simp [entryFrame, mkF, argsToLocals, Value.category]; done) | rfl
def Q30_20 (Z : State) (o0 : Addr) (o1 : Addr) (i0 : Int32) (o4 : Addr) (i1 : Int32) (i2 : Int32) (j0 : Int64) (k2 : ClassId) (i4 : Int32) (i5 : Int32) (h0 : Heap) (n0 : Nat) (v : Option Value) (h : Heap) (L : List Loc) : Prop := v = none ∧ Fr n0 L ∧ Keep h0 h [o0] ∧ Exa Z h o0 "java/math/BigDecimal" ∧ Fld Z h o0 "java/math/BigDecimal" "scale" "I" (.int i0) ∧ Fld Z h o0 "java/math/BigDecimal" "precision" "I" (.int i2) ∧ Fld Z h o0 "java/math/BigDecimal" "intCompact" "J" (.long (-9223372036854775808 : Int64)) ∧ Fld Z h o0 "java/math/BigDecimal" "intVal" "Ljava/math/BigInteger;" (.ref o1)
set_option maxRecDepth 65536 in
set_option maxHeartbeats 40000000 in
theorem rm30_20 (l : Launch) (Z : State) (a0 : Array Value) (hw : ∀ d ∈ tables_1, d.before a0 Z = true) (ws : List Jvm.Cond) (o0 : Addr) (o1 : Addr) (i0 : Int32) (o4 : Addr) (i1 : Int32) (i2 : Int32) (j0 : Int64) (k2 : ClassId) (i4 : Int32) (i5 : Int32) (h0 : Heap) (n0 : Nat) (Z0 : n0 ≤ h0.size) (g_o0 : n0 ≤ o0) (E_o0 : Exa Z h0 o0 "java/math/BigDecimal") (F_scale_o0 : Fld Z h0 o0 "java/math/BigDecimal" "scale" "I" (.int i1)) (F_precision_o0 : Fld Z h0 o0 "java/math/BigDecimal" "precision" "I" (.int i2)) (F_intCompact_o0 : Fld Z h0 o0 "java/math/BigDecimal" "intCompact" "J" (.long j0)) (F_intVal_o0 : Fld Z h0 o0 "java/math/BigDecimal" "intVal" "Ljava/math/BigInteger;" .null) (E_o1 : Exa Z h0 o1 "java/math/BigInteger") (F_mag_o1 : Fld Z h0 o1 "java/math/BigInteger" "mag" "[I" (.ref o4)) (V_o4 : Arv Z h0 o4 k2 .int (2 : Int32) [(.int i4), (.int i5)] (.int (0 : Int32))) (hMB : own_MB Z) (OZ : Old Z n0 h0) (hp0 : i4 < (0 : Int32)) :
    MetFree l (⟨"java/math/BigDecimal", "<init>", "(Ljava/math/BigInteger;I)V"⟩ : MethodName) (head1 (Jvm.Cond.code (⟨"java/math/BigDecimal", "<init>", "(Ljava/math/BigInteger;I)V"⟩ : MethodName) jdk_17_method_14_code 3 none :: ws) ({ frames := 2, cells := 0, slots := 0, locals := 77 } : Room)) (fun a U => a = #[(.ref o0), (.ref o1), (.int i0)] ∧ Z.Warmed39 U.vm ∧ U.heap = h0) (fun _ _ _ _ _ => True) (fun _ U o U' => ∃ v L, o = .returned v ∧ Q30_20 Z o0 o1 i0 o4 i1 i2 j0 k2 i4 i5 h0 n0 v U'.heap L ∧ FrameEnd U o U' L ({ frames := 2, cells := 0, slots := 0, locals := 77 } : Room).cells ({ frames := 2, cells := 0, slots := 0, locals := 77 } : Room).slots) := by
  refine MetFree.of_bodySF (plainFor_of_name pn_30) hisR ?_
  intro p e s m args below meth c s₁ Bd hml0 hP hK
  obtain ⟨rfl, hZ, hh⟩ := hP
  have hx := Bd.exec
  have hby := Bd.bytes
  have hml : c.maxLocals = 3 := hml0
  have hown : s.vm.findClass "java/math/BigDecimal" = some m.cls := findClass_of_methodNamed Bd.named
  have hnm := (name_of_methodNamed Bd.named Bd.method).1
  have X0 : Stand p l e ({ frames := 2, cells := 0, slots := 0, locals := 77 } : Room) s m #[(.ref o0), (.ref o1), (.int i0)] below meth c s₁ [] 0 0 := Stand.of_body Bd
  have e0 : s₁.heap = h0 := by rw [← hh, Bd.state]; rfl
  have N0 := Fr.nil n0
  have K0 : Keep h0 h0 [o0] := Keep.refl h0 _
  change own_Go p e below (own_Post s (Q30_20 Z o0 o1 i0 o4 i1 i2 j0 k2 i4 i5 h0 n0) ({ frames := 2, cells := 0, slots := 0, locals := 77 } : Room).cells ({ frames := 2, cells := 0, slots := 0, locals := 77 } : Room).slots) (s₁.setTop (entryFrame m #[(.ref o0), (.ref o1), (.int i0)] 3))
  refine own_by (fun t k => castTop (ef_30 m o0 o1 i0) k) ?_
  show own_Go p e below _ (s₁.setTop (mkF m 0 #[rv o0, rv o1, iv i0] []))
  refine own_by (B := s₁.setTop (mkF m 1 #[rv o0, rv o1, iv i0] [(.ref o0)])) (fun t k => ?_) ?_
  · show Steps p.tables e below (s₁.setTop (mkF m 0 #[rv o0, rv o1, iv i0] [])) _
    refine XS.aloadN X0.here hx rfl (hb hby d30_0) rfl rfl ?_
    show Steps p.tables e below (s₁.setTop (mkF m 1 #[rv o0, rv o1, iv i0] [(.ref o0)])) _
    exact k
  refine own_cc (own_callI X0 hx hZ (y := (⟨"java/lang/Number", "<init>", "()V"⟩ : MethodName)) rfl hown (hw _ (List.mem_of_getElem? (i := 91) rfl)) (hw _ (List.mem_of_getElem? (i := 92) rfl)) (hw _ (List.mem_of_getElem? (i := 95) rfl)) (hw _ (List.mem_of_getElem? (i := 96) rfl)) (by decide) (rm19_9 l Z a0 hw [] o0 h0 n0 Z0 ) e0 0 (by decide) (by decide) (by decide) (by decide) rfl (by rw [hml]; rfl) o0 [] [] rfl (lenOf pd_0 rfl) rfl (by show 2 * 0 + _ ≤ _; exact Nat.le_of_eq rfl) (hb hby d30_1)) fun T2 L2 v2 X2 hQ2 => ?_
  obtain ⟨rfl, N2, e2⟩ := hQ2
  replace N0 := Fr.app N0 N2
  show own_Go p e below _ (T2.setTop (mkF m 4 #[rv o0, rv o1, iv i0] []))
  refine own_by (B := T2.setTop (mkF m 6 #[rv o0, rv o1, iv i0] [(.ref o1), (.ref o0)])) (fun t k => ?_) ?_
  · show Steps p.tables e below (T2.setTop (mkF m 4 #[rv o0, rv o1, iv i0] [])) _
    refine XS.aloadN X2.here hx rfl (hb hby d30_4) rfl rfl ?_
    show Steps p.tables e below (T2.setTop (mkF m 5 #[rv o0, rv o1, iv i0] [(.ref o0)])) _
    refine XS.aloadN X2.here hx rfl (hb hby d30_5) rfl rfl ?_
    show Steps p.tables e below (T2.setTop (mkF m 6 #[rv o0, rv o1, iv i0] [(.ref o1), (.ref o0)])) _
    exact k
  refine own_cc (own_callS X2 hx hZ (y := (⟨"java/math/BigDecimal", "toStrictBigInteger", "(Ljava/math/BigInteger;)Ljava/math/BigInteger;"⟩ : MethodName)) hown (hw _ (List.mem_of_getElem? (i := 158) rfl)) (hw _ (List.mem_of_getElem? (i := 159) rfl)) (hw _ (List.mem_of_getElem? (i := 78) rfl)) (hw _ (List.mem_of_getElem? (i := 160) rfl)) (by decide) (rm31 l Z a0 hw [] o1 h0 n0 Z0 E_o1 hMB) e2 1 (by decide) (by decide) (by decide) (by decide) rfl (by rw [hml]; rfl) [(.ref o1)] [(.ref o0)] rfl (lenOf pd_24 rfl) rfl (by show 2 * 0 + _ ≤ _; exact Nat.le_of_eq rfl) (hb hby d30_6)) fun T4 L4 v4 X4 hQ4 => ?_
  obtain ⟨rfl, N4, e4⟩ := hQ4
  replace N0 := Fr.app N0 N4
  show own_Go p e below _ (T4.setTop (mkF m 9 #[rv o0, rv o1, iv i0] [(.ref o1), (.ref o0)]))
  refine own_c2 (putF X4 hx hZ hown (host := "") (Or.inl (hw _ (List.mem_of_getElem? (i := 104) rfl))) Via.refl e4 F_intVal_o0 E_o0 (Or.inr ⟨(hw _ (List.mem_of_getElem? (i := 105) rfl)), rfl, hnm⟩) (hw _ (List.mem_of_getElem? (i := 86) rfl)) (ty := (.object "java/math/BigInteger")) (by decide) rfl rfl rfl rfl (hb hby d30_9)) fun T5 h5 X5 e5 W5 => ?_
  replace F_intVal_o0 := F_intVal_o0.same W5
  have nx1 : o1 ≠ o0 := (ne_exa E_o1 E_o0 (by decide))
  have nx2 : o4 ≠ o0 := (Ne.symm (own_nev E_o0 (hw _ (List.mem_of_getElem? (i := 86) rfl)) V_o4))
  replace E_o0 := E_o0.wr W5
  replace F_scale_o0 := F_scale_o0.other W5 (Or.inr (sn15 hw))
  replace F_precision_o0 := F_precision_o0.other W5 (Or.inr (sn16 hw))
  replace F_intCompact_o0 := F_intCompact_o0.other W5 (Or.inr (sn17 hw))
  replace E_o1 := E_o1.wr W5
  replace F_mag_o1 := F_mag_o1.other W5 (Or.inl nx1)
  replace V_o4 := V_o4.other W5 nx2
  replace OZ := OZ.wr W5 g_o0
  replace K0 := K0.wr W5 (Or.inl (List.mem_of_getElem? (i := 0) rfl))
  replace Z0 := Nat.le_trans Z0 (Keep.of_wr W5).1
  replace N0 := Fr.snoc X5 N0 g_o0
  show own_Go p e below _ (T5.setTop (mkF m 12 #[rv o0, rv o1, iv i0] []))
  refine own_by (B := T5.setTop (mkF m 14 #[rv o0, rv o1, iv i0] [(.ref o0), (.ref o0)])) (fun t k => ?_) ?_
  · show Steps p.tables e below (T5.setTop (mkF m 12 #[rv o0, rv o1, iv i0] [])) _
    refine XS.aloadN X5.here hx rfl (hb hby d30_12) rfl rfl ?_
    show Steps p.tables e below (T5.setTop (mkF m 13 #[rv o0, rv o1, iv i0] [(.ref o0)])) _
    refine XS.aloadN X5.here hx rfl (hb hby d30_13) rfl rfl ?_
    show Steps p.tables e below (T5.setTop (mkF m 14 #[rv o0, rv o1, iv i0] [(.ref o0), (.ref o0)])) _
    exact k
  refine own_c1 (getF X5 hx hZ hown (host := "") (Or.inl (hw _ (List.mem_of_getElem? (i := 104) rfl))) Via.refl e5 F_intVal_o0 rfl rfl (hb hby d30_14)) fun T6 X6 e6 => ?_
  show own_Go p e below _ (T6.setTop (mkF m 17 #[rv o0, rv o1, iv i0] [(.ref o1), (.ref o0)]))
  refine own_cc (own_callS X6 hx hZ (y := (⟨"java/math/BigDecimal", "compactValFor", "(Ljava/math/BigInteger;)J"⟩ : MethodName)) hown (hw _ (List.mem_of_getElem? (i := 167) rfl)) (hw _ (List.mem_of_getElem? (i := 168) rfl)) (hw _ (List.mem_of_getElem? (i := 78) rfl)) (hw _ (List.mem_of_getElem? (i := 169) rfl)) (by decide) (rm32_19 l Z a0 hw [] o1 o4 k2 i4 i5 h5 n0 Z0 F_mag_o1 V_o4 hp0) e6 1 (by decide) (by decide) (by decide) (by decide) rfl (by rw [hml]; rfl) [(.ref o1)] [(.ref o0)] rfl (lenOf pd_26 rfl) rfl (by show 2 * 0 + _ ≤ _; exact Nat.le_of_eq rfl) (hb hby d30_17)) fun T8 L8 v8 X8 hQ8 => ?_
  obtain ⟨rfl, N8, e8⟩ := hQ8
  replace N0 := Fr.app N0 N8
  show own_Go p e below _ (T8.setTop (mkF m 20 #[rv o0, rv o1, iv i0] [(.long (-9223372036854775808 : Int64)), (.ref o0)]))
  refine own_c2 (putF X8 hx hZ hown (host := "") (Or.inl (hw _ (List.mem_of_getElem? (i := 102) rfl))) Via.refl e8 F_intCompact_o0 E_o0 (Or.inr ⟨(hw _ (List.mem_of_getElem? (i := 103) rfl)), rfl, hnm⟩) (hw _ (List.mem_of_getElem? (i := 86) rfl)) (ty := .long) (by decide) rfl rfl rfl rfl (hb hby d30_20)) fun T9 h9 X9 e9 W9 => ?_
  replace F_intCompact_o0 := F_intCompact_o0.same W9
  replace E_o0 := E_o0.wr W9
  replace F_scale_o0 := F_scale_o0.other W9 (Or.inr (sn12 hw))
  replace F_precision_o0 := F_precision_o0.other W9 (Or.inr (sn13 hw))
  replace F_intVal_o0 := F_intVal_o0.other W9 (Or.inr (sn14 hw))
  replace E_o1 := E_o1.wr W9
  replace F_mag_o1 := F_mag_o1.other W9 (Or.inl nx1)
  replace V_o4 := V_o4.other W9 nx2
  replace OZ := OZ.wr W9 g_o0
  replace K0 := K0.wr W9 (Or.inl (List.mem_of_getElem? (i := 0) rfl))
  replace Z0 := Nat.le_trans Z0 (Keep.of_wr W9).1
  replace N0 := Fr.snoc X9 N0 g_o0
  show own_Go p e below _ (T9.setTop (mkF m 23 #[rv o0, rv o1, iv i0] []))
  refine own_by (B := T9.setTop (mkF m 25 #[rv o0, rv o1, iv i0] [(.int i0), (.ref o0)])) (fun t k => ?_) ?_
  · show Steps p.tables e below (T9.setTop (mkF m 23 #[rv o0, rv o1, iv i0] [])) _
    refine XS.aloadN X9.here hx rfl (hb hby d30_23) rfl rfl ?_
    show Steps p.tables e below (T9.setTop (mkF m 24 #[rv o0, rv o1, iv i0] [(.ref o0)])) _
    refine XS.iloadN X9.here hx rfl (hb hby d30_24) rfl ?_
    show Steps p.tables e below (T9.setTop (mkF m 25 #[rv o0, rv o1, iv i0] [(.int i0), (.ref o0)])) _
    exact k
  refine own_c2 (putF X9 hx hZ hown (host := "") (Or.inl (hw _ (List.mem_of_getElem? (i := 98) rfl))) Via.refl e9 F_scale_o0 E_o0 (Or.inr ⟨(hw _ (List.mem_of_getElem? (i := 99) rfl)), rfl, hnm⟩) (hw _ (List.mem_of_getElem? (i := 86) rfl)) (ty := .int) (by decide) rfl rfl rfl rfl (hb hby d30_25)) fun T10 h10 X10 e10 W10 => ?_
  replace F_scale_o0 := F_scale_o0.same W10
  replace E_o0 := E_o0.wr W10
  replace F_precision_o0 := F_precision_o0.other W10 (Or.inr (sn6 hw))
  replace F_intCompact_o0 := F_intCompact_o0.other W10 (Or.inr (sn7 hw))
  replace F_intVal_o0 := F_intVal_o0.other W10 (Or.inr (sn8 hw))
  replace E_o1 := E_o1.wr W10
  replace F_mag_o1 := F_mag_o1.other W10 (Or.inl nx1)
  replace V_o4 := V_o4.other W10 nx2
  replace OZ := OZ.wr W10 g_o0
  replace K0 := K0.wr W10 (Or.inl (List.mem_of_getElem? (i := 0) rfl))
  replace Z0 := Nat.le_trans Z0 (Keep.of_wr W10).1
  replace N0 := Fr.snoc X10 N0 g_o0
  show own_Go p e below _ (T10.setTop (mkF m 28 #[rv o0, rv o1, iv i0] []))
  exact own_retV X10 Bd.notSynchronized hx Bd.returns (hb hby d30_28) (by
      rw [show T10.heap = h10 from e10]
      exact ⟨rfl, N0, K0, E_o0, F_scale_o0, F_precision_o0, F_intCompact_o0, F_intVal_o0⟩) (by decide) (by decide)

theorem d22_0 : decode jdk_17_method_133_code 0 = .ok (.lload_n 0, 1) := by decide +kernel
theorem d22_1 : decode jdk_17_method_133_code 1 = .ok (.lload_n 2, 1) := by decide +kernel
theorem d22_2 : decode jdk_17_method_133_code 2 = .ok (.invokestatic 996, 3) := by decide +kernel
theorem d22_5 : decode jdk_17_method_133_code 5 = .ok (.lstore 5, 2) := by decide +kernel
theorem d22_7 : decode jdk_17_method_133_code 7 = .ok (.lload 5, 2) := by decide +kernel
theorem d22_9 : decode jdk_17_method_133_code 9 = .ok (.ldc2_w 125, 3) := by decide +kernel
theorem d22_12 : decode jdk_17_method_133_code 12 = .ok (.lcmp, 1) := by decide +kernel
theorem d22_13 : decode jdk_17_method_133_code 13 = .ok (.ifCond .eq 11, 3) := by decide +kernel
theorem d22_24 : decode jdk_17_method_133_code 24 = .ok (.new 3, 3) := by decide +kernel
theorem d22_27 : decode jdk_17_method_133_code 27 = .ok (.dup, 1) := by decide +kernel
theorem d22_28 : decode jdk_17_method_133_code 28 = .ok (.lload_n 0, 1) := by decide +kernel
theorem d22_29 : decode jdk_17_method_133_code 29 = .ok (.invokestatic 193, 3) := by decide +kernel
theorem d22_32 : decode jdk_17_method_133_code 32 = .ok (.lload_n 2, 1) := by decide +kernel
theorem d22_33 : decode jdk_17_method_133_code 33 = .ok (.invokevirtual 998, 3) := by decide +kernel
theorem d22_36 : decode jdk_17_method_133_code 36 = .ok (.iload 4, 2) := by decide +kernel
theorem d22_38 : decode jdk_17_method_133_code 38 = .ok (.invokespecial 577, 3) := by decide +kernel
theorem d22_41 : decode jdk_17_method_133_code 41 = .ok (.areturn, 1) := by decide +kernel
theorem pn_22 : plainName "java/math/BigDecimal" = true := by first | (simp [plainName, overriddenIn]; done) | decide +kernel
theorem pd_18 : parseMethodDescriptor "(J)Ljava/math/BigInteger;" = some ⟨[.long], some (.object "java/math/BigInteger")⟩ := by decide +kernel
theorem pd_23 : parseMethodDescriptor "(Ljava/math/BigInteger;I)V" = some ⟨[(.object "java/math/BigInteger"), .int], none⟩ := by decide +kernel
theorem ef_22 (m : MethodId) (x0 : Int64) (x1 : Int64) (x2 : Int32) : entryFrame m #[(.long x0), (.long x1), (.int x2)] 7 = mkF m 0 #[oJ x0, oS, oJ x1, oS, iv x2, oU, oU] [] := by first | (simp [entryFrame, mkF, argsToLocals, Value.category]; done) | rfl
def Q22_21 (Z : State) (j0 : Int64) (i0 : Int32) (h0 : Heap) (n0 : Nat) (v : Option Value) (h : Heap) (L : List Loc) : Prop := ∃ b3 : Addr, ∃ b5_7 : Addr, ∃ b2_10_7 : Addr, ∃ k2_10_7 : ClassId, v = some (.ref b3) ∧ Fr n0 L ∧ Keep h0 h [] ∧ Exa Z h b3 "java/math/BigDecimal" ∧ Fld Z h b3 "java/math/BigDecimal" "scale" "I" (.int i0) ∧ Fld Z h b3 "java/math/BigDecimal" "precision" "I" (.int (0 : Int32)) ∧ Fld Z h b3 "java/math/BigDecimal" "intCompact" "J" (.long (-9223372036854775808 : Int64)) ∧ Fld Z h b3 "java/math/BigDecimal" "intVal" "Ljava/math/BigInteger;" (.ref b5_7) ∧ Exa Z h b5_7 "java/math/BigInteger" ∧ Fld Z h b5_7 "java/math/BigInteger" "signum" "I" (.int (1 : Int32)) ∧ Fld Z h b5_7 "java/math/BigInteger" "mag" "[I" (.ref b2_10_7) ∧ Arv Z h b2_10_7 k2_10_7 .int (2 : Int32) [(.int ((((((((j0.toUInt64 >>> (32 : Int32).toInt64.toUInt64).toInt64).toInt32).toInt64) &&& (4294967295 : Int64)) + ((((((fabs j0).toUInt64 >>> (32 : Int32).toInt64.toUInt64).toInt64).toInt32).toInt64) &&& (4294967295 : Int64))) + ((((((j0.toInt32).toInt64) &&& (4294967295 : Int64)) + ((fabs j0) &&& (4294967295 : Int64))).toUInt64 >>> (32 : Int32).toInt64.toUInt64).toInt64)).toInt32)), (.int (((((j0.toInt32).toInt64) &&& (4294967295 : Int64)) + ((fabs j0) &&& (4294967295 : Int64))).toInt32))] (.int (0 : Int32)) ∧ h0.size ≤ b3 ∧ h0.size ≤ b5_7 ∧ h0.size ≤ b2_10_7 ∧ b3 ≠ b5_7 ∧ b3 ≠ b2_10_7 ∧ b5_7 ≠ b2_10_7
set_option maxRecDepth 65536 in
set_option maxHeartbeats 40000000 in
theorem rm22_21 (l : Launch) (Z : State) (a0 : Array Value) (hw : ∀ d ∈ tables_1, d.before a0 Z = true) (ws : List Jvm.Cond) (j0 : Int64) (i0 : Int32) (h0 : Heap) (n0 : Nat) (Z0 : n0 ≤ h0.size) (hMB : own_MB Z) (OZ : Old Z n0 h0) (hp0 : (fadd2 j0 j0) = (-9223372036854775808 : Int64)) (hp1 : ¬ (j0 = (0 : Int64))) (hp2 : (0 : Int64) < j0) (hp3 : (16 : Int64) < j0) (hp4 : ¬ (j0 < (0 : Int64))) (hp5 : ¬ ((((j0.toUInt64 >>> (32 : Int32).toInt64.toUInt64).toInt64).toInt32) = (0 : Int32))) (hp6 : (fsgn j0) = (1 : Int32)) (hp7 : ¬ (((((fabs j0).toUInt64 >>> (32 : Int32).toInt64.toUInt64).toInt64).toInt32) = (0 : Int32))) (hp8 : (((((((((j0.toUInt64 >>> (32 : Int32).toInt64.toUInt64).toInt64).toInt32).toInt64) &&& (4294967295 : Int64)) + ((((((fabs j0).toUInt64 >>> (32 : Int32).toInt64.toUInt64).toInt64).toInt32).toInt64) &&& (4294967295 : Int64))) + ((((((j0.toInt32).toInt64) &&& (4294967295 : Int64)) + ((fabs j0) &&& (4294967295 : Int64))).toUInt64 >>> (32 : Int32).toInt64.toUInt64).toInt64)).toUInt64 >>> (32 : Int32).toInt64.toUInt64).toInt64) = (0 : Int64)) (hp9 : ((((((((j0.toUInt64 >>> (32 : Int32).toInt64.toUInt64).toInt64).toInt32).toInt64) &&& (4294967295 : Int64)) + ((((((fabs j0).toUInt64 >>> (32 : Int32).toInt64.toUInt64).toInt64).toInt32).toInt64) &&& (4294967295 : Int64))) + ((((((j0.toInt32).toInt64) &&& (4294967295 : Int64)) + ((fabs j0) &&& (4294967295 : Int64))).toUInt64 >>> (32 : Int32).toInt64.toUInt64).toInt64)).toInt32) < (0 : Int32)) :
    MetFree l (⟨"java/math/BigDecimal", "add", "(JJI)Ljava/math/BigDecimal;"⟩ : MethodName) (head1 (Jvm.Cond.code (⟨"java/math/BigDecimal", "add", "(JJI)Ljava/math/BigDecimal;"⟩ : MethodName) jdk_17_method_133_code 7 (some (.object "java/math/BigDecimal")) :: ws) ({ frames := 4, cells := 5, slots := 21, locals := 92 } : Room)) (fun a U => a = #[(.long j0), (.long j0), (.int i0)] ∧ Z.Warmed39 U.vm ∧ U.heap = h0) (fun _ _ _ _ _ => True) (fun _ U o U' => ∃ v L, o = .returned v ∧ Q22_21 Z j0 i0 h0 n0 v U'.heap L ∧ FrameEnd U o U' L ({ frames := 4, cells := 5, slots := 21, locals := 92 } : Room).cells ({ frames := 4, cells := 5, slots := 21, locals := 92 } : Room).slots) := by
  refine MetFree.of_bodySF (plainFor_of_name pn_22) hisR ?_
  intro p e s m args below meth c s₁ Bd hml0 hP hK
  obtain ⟨rfl, hZ, hh⟩ := hP
  have hx := Bd.exec
  have hby := Bd.bytes
  have hml : c.maxLocals = 7 := hml0
  have hown : s.vm.findClass "java/math/BigDecimal" = some m.cls := findClass_of_methodNamed Bd.named
  have hnm := (name_of_methodNamed Bd.named Bd.method).1
  have X0 : Stand p l e ({ frames := 4, cells := 5, slots := 21, locals := 92 } : Room) s m #[(.long j0), (.long j0), (.int i0)] below meth c s₁ [] 0 0 := Stand.of_body Bd
  have e0 : s₁.heap = h0 := by rw [← hh, Bd.state]; rfl
  have N0 := Fr.nil n0
  have K0 : Keep h0 h0 [] := Keep.refl h0 _
  change own_Go p e below (own_Post s (Q22_21 Z j0 i0 h0 n0) ({ frames := 4, cells := 5, slots := 21, locals := 92 } : Room).cells ({ frames := 4, cells := 5, slots := 21, locals := 92 } : Room).slots) (s₁.setTop (entryFrame m #[(.long j0), (.long j0), (.int i0)] 7))
  refine own_by (fun t k => castTop (ef_22 m j0 j0 i0) k) ?_
  show own_Go p e below _ (s₁.setTop (mkF m 0 #[oJ j0, oS, oJ j0, oS, iv i0, oU, oU] []))
  refine own_by (B := s₁.setTop (mkF m 2 #[oJ j0, oS, oJ j0, oS, iv i0, oU, oU] [(.long j0), (.long j0)])) (fun t k => ?_) ?_
  · show Steps p.tables e below (s₁.setTop (mkF m 0 #[oJ j0, oS, oJ j0, oS, iv i0, oU, oU] [])) _
    refine XS.lloadN X0.here hx rfl (hb hby d22_0) rfl ?_
    show Steps p.tables e below (s₁.setTop (mkF m 1 #[oJ j0, oS, oJ j0, oS, iv i0, oU, oU] [(.long j0)])) _
    refine XS.lloadN X0.here hx rfl (hb hby d22_1) rfl ?_
    show Steps p.tables e below (s₁.setTop (mkF m 2 #[oJ j0, oS, oJ j0, oS, iv i0, oU, oU] [(.long j0), (.long j0)])) _
    exact k
  refine own_cc (own_callS X0 hx hZ (y := (⟨"java/math/BigDecimal", "add", "(JJ)J"⟩ : MethodName)) hown (hw _ (List.mem_of_getElem? (i := 117) rfl)) (hw _ (List.mem_of_getElem? (i := 118) rfl)) (hw _ (List.mem_of_getElem? (i := 78) rfl)) (hw _ (List.mem_of_getElem? (i := 119) rfl)) (by decide) (rm23 l Z a0 hw [] j0 j0 h0 n0 Z0 ) e0 0 (by decide) (by decide) (by decide) (by decide) rfl (by rw [hml]; rfl) [(.long j0), (.long j0)] [] rfl (lenOf pd_7 rfl) rfl (by show 2 * 0 + _ ≤ _; exact Nat.le_of_eq rfl) (hb hby d22_2)) fun T2 L2 v2 X2 hQ2 => ?_
  obtain ⟨rfl, N2, e2⟩ := hQ2
  replace N0 := Fr.app N0 N2
  show own_Go p e below _ (T2.setTop (mkF m 5 #[oJ j0, oS, oJ j0, oS, iv i0, oU, oU] [(.long (fadd2 j0 j0))]))
  refine own_by (B := T2.setTop (mkF m 24 #[oJ j0, oS, oJ j0, oS, iv i0, oJ (fadd2 j0 j0), oS] [])) (fun t k => ?_) ?_
  · show Steps p.tables e below (T2.setTop (mkF m 5 #[oJ j0, oS, oJ j0, oS, iv i0, oU, oU] [(.long (fadd2 j0 j0))])) _
    refine XS.lstore X2.here hx rfl (hb hby d22_5) rfl (l' := #[oJ j0, oS, oJ j0, oS, iv i0, oJ (fadd2 j0 j0), oS]) rfl ?_
    show Steps p.tables e below (T2.setTop (mkF m 7 #[oJ j0, oS, oJ j0, oS, iv i0, oJ (fadd2 j0 j0), oS] [])) _
    refine XS.lload X2.here hx rfl (hb hby d22_7) rfl ?_
    show Steps p.tables e below (T2.setTop (mkF m 9 #[oJ j0, oS, oJ j0, oS, iv i0, oJ (fadd2 j0 j0), oS] [(.long (fadd2 j0 j0))])) _
    refine X2.ldc2Long hx hown (mvT hZ (hw _ (List.mem_of_getElem? (i := 84) rfl))) (g := (mkF m 9 #[oJ j0, oS, oJ j0, oS, iv i0, oJ (fadd2 j0 j0), oS] [(.long (fadd2 j0 j0))])) rfl (hb hby d22_9) _ ?_
    show Steps p.tables e below (T2.setTop (mkF m 12 #[oJ j0, oS, oJ j0, oS, iv i0, oJ (fadd2 j0 j0), oS] [(.long (-9223372036854775808 : Int64)), (.long (fadd2 j0 j0))])) _
    refine XS.lcmp X2.here hx rfl (hb hby d22_12) rfl ?_
    show Steps p.tables e below (T2.setTop (mkF m 13 #[oJ j0, oS, oJ j0, oS, iv i0, oJ (fadd2 j0 j0), oS] [(.int (lcmpW (fadd2 j0 j0) (-9223372036854775808 : Int64)))])) _
    refine XS.ifYes X2.here hx rfl (pc0 := 13) (pc' := 24) rfl (hb hby d22_13) rfl ((if0 _ _).trans (teq ((lw_eq _ _).mpr hp0)).1) (by decide) (by decide) ?_
    show Steps p.tables e below (T2.setTop (mkF m 24 #[oJ j0, oS, oJ j0, oS, iv i0, oJ (fadd2 j0 j0), oS] [])) _
    exact k
  obtain ⟨T3, h3, X3, e3, E3, A3, D3, -, st3⟩ := newO X2 hx hZ hown (hw _ (List.mem_of_getElem? (i := 85) rfl)) (hw _ (List.mem_of_getElem? (i := 86) rfl)) (hw _ (List.mem_of_getElem? (i := 78) rfl)) e2 (g := (mkF m 24 #[oJ j0, oS, oJ j0, oS, iv i0, oJ (fadd2 j0 j0), oS] [])) rfl (hb hby d22_24) (by decide) (by decide)
  obtain ⟨b3, g3⟩ : ∃ z, z = h0.size := ⟨_, rfl⟩
  rw [← g3] at A3 D3 st3
  have g_b3 : n0 ≤ b3 := Nat.le_trans Z0 (Nat.le_of_eq g3.symm)
  have sz_b3 : h0.size ≤ b3 := Nat.le_trans K0.1 (Nat.le_of_eq g3.symm)
  replace OZ := OZ.ext E3
  replace K0 := K0.ext E3
  replace Z0 := Nat.le_trans Z0 E3.1
  have E_b3 := A3
  have F_scale_b3 : Fld Z h3 b3 "java/math/BigDecimal" "scale" "I" (.int (0 : Int32)) := D3 (Or.inr (hw _ (List.mem_of_getElem? (i := 99) rfl))) (ty := .int) (by decide)
  have F_precision_b3 : Fld Z h3 b3 "java/math/BigDecimal" "precision" "I" (.int (0 : Int32)) := D3 (Or.inl (hw _ (List.mem_of_getElem? (i := 101) rfl))) (ty := .int) (by decide)
  have F_intCompact_b3 : Fld Z h3 b3 "java/math/BigDecimal" "intCompact" "J" (.long (0 : Int64)) := D3 (Or.inr (hw _ (List.mem_of_getElem? (i := 103) rfl))) (ty := .long) (by decide)
  have F_intVal_b3 : Fld Z h3 b3 "java/math/BigDecimal" "intVal" "Ljava/math/BigInteger;" .null := D3 (Or.inr (hw _ (List.mem_of_getElem? (i := 105) rfl))) (ty := (.object "java/math/BigInteger")) (by decide)
  refine own_by st3 ?_
  show own_Go p e below _ (T3.setTop (mkF m 27 #[oJ j0, oS, oJ j0, oS, iv i0, oJ (fadd2 j0 j0), oS] [(.ref b3)]))
  refine own_by (B := T3.setTop (mkF m 29 #[oJ j0, oS, oJ j0, oS, iv i0, oJ (fadd2 j0 j0), oS] [(.long j0), (.ref b3), (.ref b3)])) (fun t k => ?_) ?_
  · show Steps p.tables e below (T3.setTop (mkF m 27 #[oJ j0, oS, oJ j0, oS, iv i0, oJ (fadd2 j0 j0), oS] [(.ref b3)])) _
    refine XS.dup X3.here hx rfl (hb hby d22_27) rfl rfl ?_
    show Steps p.tables e below (T3.setTop (mkF m 28 #[oJ j0, oS, oJ j0, oS, iv i0, oJ (fadd2 j0 j0), oS] [(.ref b3), (.ref b3)])) _
    refine XS.lloadN X3.here hx rfl (hb hby d22_28) rfl ?_
    show Steps p.tables e below (T3.setTop (mkF m 29 #[oJ j0, oS, oJ j0, oS, iv i0, oJ (fadd2 j0 j0), oS] [(.long j0), (.ref b3), (.ref b3)])) _
    exact k
  refine own_cc (own_callS X3 hx hZ (y := (⟨"java/math/BigInteger", "valueOf", "(J)Ljava/math/BigInteger;"⟩ : MethodName)) hown (hw _ (List.mem_of_getElem? (i := 120) rfl)) (hw _ (List.mem_of_getElem? (i := 121) rfl)) (hw _ (List.mem_of_getElem? (i := 122) rfl)) (hw _ (List.mem_of_getElem? (i := 123) rfl)) (by decide) (rm24_15 l Z a0 hw [] j0 h3 n0 Z0 hp1 hp2 hp3 hp4 hp5) e3 2 (by decide) (by decide) (by decide) (by decide) rfl (by rw [hml]; rfl) [(.long j0)] [(.ref b3), (.ref b3)] rfl (lenOf pd_18 rfl) rfl (by show 2 * 0 + _ ≤ _; exact Nat.le_of_eq rfl) (hb hby d22_29)) fun T5 L5 v5 X5 hQ5 => ?_
  obtain ⟨b1_5, b4_3_5, k4_3_5, rfl, N5, K5, E_b1_5', F_signum_b1_5', F_mag_b1_5', V_b4_3_5', sz_b1_5', sz_b4_3_5', ne_b1_5_b4_3_5'⟩ := hQ5
  replace N0 := Fr.app N0 N5
  have g_b1_5 : n0 ≤ b1_5 := Nat.le_trans Z0 sz_b1_5'
  have sz_b1_5 : h0.size ≤ b1_5 := Nat.le_trans K0.1 sz_b1_5'
  have ne_b3_b1_5 : b3 ≠ b1_5 := Nat.ne_of_lt (Nat.lt_of_lt_of_le E_b3.lt sz_b1_5')
  have g_b4_3_5 : n0 ≤ b4_3_5 := Nat.le_trans Z0 sz_b4_3_5'
  have sz_b4_3_5 : h0.size ≤ b4_3_5 := Nat.le_trans K0.1 sz_b4_3_5'
  have ne_b3_b4_3_5 : b3 ≠ b4_3_5 := Nat.ne_of_lt (Nat.lt_of_lt_of_le E_b3.lt sz_b4_3_5')
  replace E_b3 := E_b3.keep K5
  replace F_scale_b3 := F_scale_b3.keep K5 nin0
  replace F_precision_b3 := F_precision_b3.keep K5 nin0
  replace F_intCompact_b3 := F_intCompact_b3.keep K5 nin0
  replace F_intVal_b3 := F_intVal_b3.keep K5 nin0
  replace OZ := OZ.keep K5 all0
  replace K0 := K0.trans K5 all0
  replace Z0 := Nat.le_trans Z0 K5.1
  have E_b1_5 := E_b1_5'
  have F_signum_b1_5 := F_signum_b1_5'
  have F_mag_b1_5 := F_mag_b1_5'
  have V_b4_3_5 := V_b4_3_5'
  have ne_b1_5_b4_3_5 := ne_b1_5_b4_3_5'
  show own_Go p e below _ (T5.setTop (mkF m 32 #[oJ j0, oS, oJ j0, oS, iv i0, oJ (fadd2 j0 j0), oS] [(.ref b1_5), (.ref b3), (.ref b3)]))
  refine own_by (B := T5.setTop (mkF m 33 #[oJ j0, oS, oJ j0, oS, iv i0, oJ (fadd2 j0 j0), oS] [(.long j0), (.ref b1_5), (.ref b3), (.ref b3)])) (fun t k => ?_) ?_
  · show Steps p.tables e below (T5.setTop (mkF m 32 #[oJ j0, oS, oJ j0, oS, iv i0, oJ (fadd2 j0 j0), oS] [(.ref b1_5), (.ref b3), (.ref b3)])) _
    refine XS.lloadN X5.here hx rfl (hb hby d22_32) rfl ?_
    show Steps p.tables e below (T5.setTop (mkF m 33 #[oJ j0, oS, oJ j0, oS, iv i0, oJ (fadd2 j0 j0), oS] [(.long j0), (.ref b1_5), (.ref b3), (.ref b3)])) _
    exact k
  refine own_cc (own_callV X5 hx hZ (y := (⟨"java/math/BigInteger", "add", "(J)Ljava/math/BigInteger;"⟩ : MethodName)) (z := (⟨"java/math/BigInteger", "add", "(J)Ljava/math/BigInteger;"⟩ : MethodName)) hown (hw _ (List.mem_of_getElem? (i := 138) rfl)) (hw _ (List.mem_of_getElem? (i := 139) rfl)) (notFace_of_selects (args := #[]) (mvT hZ (hw _ (List.mem_of_getElem? (i := 141) rfl)))) (hw _ (List.mem_of_getElem? (i := 141) rfl)) (hw _ (List.mem_of_getElem? (i := 140) rfl)) (hw _ (List.mem_of_getElem? (i := 122) rfl)) (hw _ (List.mem_of_getElem? (i := 142) rfl)) (by decide) (rm26_18 l Z a0 hw [] b1_5 j0 b4_3_5 (1 : Int32) k4_3_5 (((j0.toUInt64 >>> (32 : Int32).toInt64.toUInt64).toInt64).toInt32) (j0.toInt32) T5.heap n0 Z0 F_signum_b1_5 F_mag_b1_5 V_b4_3_5 hp1 (by decide : ¬ ((1 : Int32) = (0 : Int32))) hp6 hp7 hp8) (rfl : T5.heap = _) 2 (by decide) (by decide) (by decide) (by decide) rfl (by rw [hml]; rfl) b1_5 E_b1_5 [(.long j0)] [(.ref b3), (.ref b3)] rfl (lenOf pd_18 rfl) rfl (by show 2 * 0 + _ ≤ _; exact Nat.le_of_eq rfl) (hb hby d22_33)) fun T7 L7 v7 X7 hQ7 => ?_
  obtain ⟨b5_7, b2_10_7, k2_10_7, rfl, N7, K7, E_b5_7', F_signum_b5_7', F_mag_b5_7', V_b2_10_7', sz_b5_7', sz_b2_10_7', ne_b5_7_b2_10_7'⟩ := hQ7
  replace N0 := Fr.app N0 N7
  have g_b5_7 : n0 ≤ b5_7 := Nat.le_trans Z0 sz_b5_7'
  have sz_b5_7 : h0.size ≤ b5_7 := Nat.le_trans K0.1 sz_b5_7'
  have ne_b3_b5_7 : b3 ≠ b5_7 := Nat.ne_of_lt (Nat.lt_of_lt_of_le E_b3.lt sz_b5_7')
  have ne_b1_5_b5_7 : b1_5 ≠ b5_7 := Nat.ne_of_lt (Nat.lt_of_lt_of_le E_b1_5.lt sz_b5_7')
  have ne_b4_3_5_b5_7 : b4_3_5 ≠ b5_7 := Nat.ne_of_lt (Nat.lt_of_lt_of_le V_b4_3_5.lt sz_b5_7')
  have g_b2_10_7 : n0 ≤ b2_10_7 := Nat.le_trans Z0 sz_b2_10_7'
  have sz_b2_10_7 : h0.size ≤ b2_10_7 := Nat.le_trans K0.1 sz_b2_10_7'
  have ne_b3_b2_10_7 : b3 ≠ b2_10_7 := Nat.ne_of_lt (Nat.lt_of_lt_of_le E_b3.lt sz_b2_10_7')
  have ne_b1_5_b2_10_7 : b1_5 ≠ b2_10_7 := Nat.ne_of_lt (Nat.lt_of_lt_of_le E_b1_5.lt sz_b2_10_7')
  have ne_b4_3_5_b2_10_7 : b4_3_5 ≠ b2_10_7 := Nat.ne_of_lt (Nat.lt_of_lt_of_le V_b4_3_5.lt sz_b2_10_7')
  replace E_b3 := E_b3.keep K7
  replace F_scale_b3 := F_scale_b3.keep K7 nin0
  replace F_precision_b3 := F_precision_b3.keep K7 nin0
  replace F_intCompact_b3 := F_intCompact_b3.keep K7 nin0
  replace F_intVal_b3 := F_intVal_b3.keep K7 nin0
  replace E_b1_5 := E_b1_5.keep K7
  replace F_signum_b1_5 := F_signum_b1_5.keep K7 nin0
  replace F_mag_b1_5 := F_mag_b1_5.keep K7 nin0
  replace V_b4_3_5 := V_b4_3_5.keep K7 nin0
  replace OZ := OZ.keep K7 all0
  replace K0 := K0.trans K7 all0
  replace Z0 := Nat.le_trans Z0 K7.1
  have E_b5_7 := E_b5_7'
  have F_signum_b5_7 := F_signum_b5_7'
  have F_mag_b5_7 := F_mag_b5_7'
  have V_b2_10_7 := V_b2_10_7'
  have ne_b5_7_b2_10_7 := ne_b5_7_b2_10_7'
  show own_Go p e below _ (T7.setTop (mkF m 36 #[oJ j0, oS, oJ j0, oS, iv i0, oJ (fadd2 j0 j0), oS] [(.ref b5_7), (.ref b3), (.ref b3)]))
  refine own_by (B := T7.setTop (mkF m 38 #[oJ j0, oS, oJ j0, oS, iv i0, oJ (fadd2 j0 j0), oS] [(.int i0), (.ref b5_7), (.ref b3), (.ref b3)])) (fun t k => ?_) ?_
  · show Steps p.tables e below (T7.setTop (mkF m 36 #[oJ j0, oS, oJ j0, oS, iv i0, oJ (fadd2 j0 j0), oS] [(.ref b5_7), (.ref b3), (.ref b3)])) _
    refine XS.iload X7.here hx rfl (hb hby d22_36) rfl ?_
    show Steps p.tables e below (T7.setTop (mkF m 38 #[oJ j0, oS, oJ j0, oS, iv i0, oJ (fadd2 j0 j0), oS] [(.int i0), (.ref b5_7), (.ref b3), (.ref b3)])) _
    exact k
  refine own_cc (own_callI X7 hx hZ (y := (⟨"java/math/BigDecimal", "<init>", "(Ljava/math/BigInteger;I)V"⟩ : MethodName)) rfl hown (hw _ (List.mem_of_getElem? (i := 155) rfl)) (hw _ (List.mem_of_getElem? (i := 156) rfl)) (hw _ (List.mem_of_getElem? (i := 78) rfl)) (hw _ (List.mem_of_getElem? (i := 157) rfl)) (by decide) (rm30_20 l Z a0 hw [] b3 b5_7 i0 b2_10_7 (0 : Int32) (0 : Int32) (0 : Int64) k2_10_7 ((((((((j0.toUInt64 >>> (32 : Int32).toInt64.toUInt64).toInt64).toInt32).toInt64) &&& (4294967295 : Int64)) + ((((((fabs j0).toUInt64 >>> (32 : Int32).toInt64.toUInt64).toInt64).toInt32).toInt64) &&& (4294967295 : Int64))) + ((((((j0.toInt32).toInt64) &&& (4294967295 : Int64)) + ((fabs j0) &&& (4294967295 : Int64))).toUInt64 >>> (32 : Int32).toInt64.toUInt64).toInt64)).toInt32) (((((j0.toInt32).toInt64) &&& (4294967295 : Int64)) + ((fabs j0) &&& (4294967295 : Int64))).toInt32) T7.heap n0 Z0 g_b3 E_b3 F_scale_b3 F_precision_b3 F_intCompact_b3 F_intVal_b3 E_b5_7 F_mag_b5_7 V_b2_10_7 hMB OZ hp9) (rfl : T7.heap = _) 1 (by decide) (by decide) (by decide) (by decide) rfl (by rw [hml]; rfl) b3 [(.ref b5_7), (.int i0)] [(.ref b3)] rfl (lenOf pd_23 rfl) rfl (by show 2 * 0 + _ ≤ _; exact Nat.le_of_eq rfl) (hb hby d22_38)) fun T9 L9 v9 X9 hQ9 => ?_
  obtain ⟨rfl, N9, K9, E_b3', F_scale_b3', F_precision_b3', F_intCompact_b3', F_intVal_b3'⟩ := hQ9
  replace N0 := Fr.app N0 N9
  replace E_b3 := E_b3.keep K9
  replace E_b1_5 := E_b1_5.keep K9
  replace F_signum_b1_5 := F_signum_b1_5.keep K9 (ninS (Ne.symm ne_b3_b1_5) nin0)
  replace F_mag_b1_5 := F_mag_b1_5.keep K9 (ninS (Ne.symm ne_b3_b1_5) nin0)
  replace V_b4_3_5 := V_b4_3_5.keep K9 (ninS (Ne.symm ne_b3_b4_3_5) nin0)
  replace E_b5_7 := E_b5_7.keep K9
  replace F_signum_b5_7 := F_signum_b5_7.keep K9 (ninS (Ne.symm ne_b3_b5_7) nin0)
  replace F_mag_b5_7 := F_mag_b5_7.keep K9 (ninS (Ne.symm ne_b3_b5_7) nin0)
  replace V_b2_10_7 := V_b2_10_7.keep K9 (ninS (Ne.symm ne_b3_b2_10_7) nin0)
  replace OZ := OZ.keep K9 (allS g_b3 all0)
  replace K0 := K0.trans K9 (allS (Or.inr sz_b3) all0)
  replace Z0 := Nat.le_trans Z0 K9.1
  replace E_b3 := E_b3'
  have F_scale_b3 := F_scale_b3'
  have F_precision_b3 := F_precision_b3'
  have F_intCompact_b3 := F_intCompact_b3'
  have F_intVal_b3 := F_intVal_b3'
  show own_Go p e below _ (T9.setTop (mkF m 41 #[oJ j0, oS, oJ j0, oS, iv i0, oJ (fadd2 j0 j0), oS] [(.ref b3)]))
  exact own_retR X9 Bd.notSynchronized hx Bd.returns rfl rfl rfl (hb hby d22_41) ⟨b3, b5_7, b2_10_7, k2_10_7, rfl, N0, K0, E_b3, F_scale_b3, F_precision_b3, F_intCompact_b3, F_intVal_b3, E_b5_7, F_signum_b5_7, F_mag_b5_7, V_b2_10_7, sz_b3, sz_b5_7, sz_b2_10_7, ne_b3_b5_7, ne_b3_b2_10_7, ne_b5_7_b2_10_7⟩ (by decide) (by decide)

theorem d21_0 : decode jdk_17_method_134_code 0 = .ok (.iload_n 2, 1) := by decide +kernel
theorem d21_1 : decode jdk_17_method_134_code 1 = .ok (.i2l, 1) := by decide +kernel
theorem d21_2 : decode jdk_17_method_134_code 2 = .ok (.iload 5, 2) := by decide +kernel
theorem d21_4 : decode jdk_17_method_134_code 4 = .ok (.i2l, 1) := by decide +kernel
theorem d21_5 : decode jdk_17_method_134_code 5 = .ok (.lsub, 1) := by decide +kernel
theorem d21_6 : decode jdk_17_method_134_code 6 = .ok (.lstore 6, 2) := by decide +kernel
theorem d21_8 : decode jdk_17_method_134_code 8 = .ok (.lload 6, 2) := by decide +kernel
theorem d21_10 : decode jdk_17_method_134_code 10 = .ok (.lconst 0, 1) := by decide +kernel
theorem d21_11 : decode jdk_17_method_134_code 11 = .ok (.lcmp, 1) := by decide +kernel
theorem d21_12 : decode jdk_17_method_134_code 12 = .ok (.ifCond .ne 10, 3) := by decide +kernel
theorem d21_15 : decode jdk_17_method_134_code 15 = .ok (.lload_n 0, 1) := by decide +kernel
theorem d21_16 : decode jdk_17_method_134_code 16 = .ok (.lload_n 3, 1) := by decide +kernel
theorem d21_17 : decode jdk_17_method_134_code 17 = .ok (.iload_n 2, 1) := by decide +kernel
theorem d21_18 : decode jdk_17_method_134_code 18 = .ok (.invokestatic 1000, 3) := by decide +kernel
theorem d21_21 : decode jdk_17_method_134_code 21 = .ok (.areturn, 1) := by decide +kernel
theorem pn_21 : plainName "java/math/BigDecimal" = true := by first | (simp [plainName, overriddenIn]; done) | decide +kernel
theorem pd_17 : parseMethodDescriptor "(JJI)Ljava/math/BigDecimal;" = some ⟨[.long, .long, .int], some (.object "java/math/BigDecimal")⟩ := by decide +kernel
theorem ef_21 (m : MethodId) (x0 : Int64) (x1 : Int32) (x2 : Int64) (x3 : Int32) : entryFrame m #[(.long x0), (.int x1), (.long x2), (.int x3)] 12 = mkF m 0 #[oJ x0, oS, iv x1, oJ x2, oS, iv x3, oU, oU, oU, oU, oU, oU] [] := by first | (simp [entryFrame, mkF, argsToLocals, Value.category]; done) | rfl
def Q21_22 (Z : State) (j0 : Int64) (i0 : Int32) (i1 : Int32) (h0 : Heap) (n0 : Nat) (v : Option Value) (h : Heap) (L : List Loc) : Prop := ∃ b3_2 : Addr, ∃ b5_7_2 : Addr, ∃ b2_10_7_2 : Addr, ∃ k2_10_7_2 : ClassId, v = some (.ref b3_2) ∧ Fr n0 L ∧ Keep h0 h [] ∧ Exa Z h b3_2 "java/math/BigDecimal" ∧ Fld Z h b3_2 "java/math/BigDecimal" "scale" "I" (.int i0) ∧ Fld Z h b3_2 "java/math/BigDecimal" "precision" "I" (.int (0 : Int32)) ∧ Fld Z h b3_2 "java/math/BigDecimal" "intCompact" "J" (.long (-9223372036854775808 : Int64)) ∧ Fld Z h b3_2 "java/math/BigDecimal" "intVal" "Ljava/math/BigInteger;" (.ref b5_7_2) ∧ Exa Z h b5_7_2 "java/math/BigInteger" ∧ Fld Z h b5_7_2 "java/math/BigInteger" "signum" "I" (.int (1 : Int32)) ∧ Fld Z h b5_7_2 "java/math/BigInteger" "mag" "[I" (.ref b2_10_7_2) ∧ Arv Z h b2_10_7_2 k2_10_7_2 .int (2 : Int32) [(.int ((((((((j0.toUInt64 >>> (32 : Int32).toInt64.toUInt64).toInt64).toInt32).toInt64) &&& (4294967295 : Int64)) + ((((((fabs j0).toUInt64 >>> (32 : Int32).toInt64.toUInt64).toInt64).toInt32).toInt64) &&& (4294967295 : Int64))) + ((((((j0.toInt32).toInt64) &&& (4294967295 : Int64)) + ((fabs j0) &&& (4294967295 : Int64))).toUInt64 >>> (32 : Int32).toInt64.toUInt64).toInt64)).toInt32)), (.int (((((j0.toInt32).toInt64) &&& (4294967295 : Int64)) + ((fabs j0) &&& (4294967295 : Int64))).toInt32))] (.int (0 : Int32)) ∧ h0.size ≤ b3_2 ∧ h0.size ≤ b5_7_2 ∧ h0.size ≤ b2_10_7_2 ∧ b3_2 ≠ b5_7_2 ∧ b3_2 ≠ b2_10_7_2 ∧ b5_7_2 ≠ b2_10_7_2
set_option maxRecDepth 65536 in
set_option maxHeartbeats 40000000 in
theorem rm21_22 (l : Launch) (Z : State) (a0 : Array Value) (hw : ∀ d ∈ tables_1, d.before a0 Z = true) (ws : List Jvm.Cond) (j0 : Int64) (i0 : Int32) (i1 : Int32) (h0 : Heap) (n0 : Nat) (Z0 : n0 ≤ h0.size) (hMB : own_MB Z) (OZ : Old Z n0 h0) (hp0 : ((i0.toInt64) - (i1.toInt64)) = (0 : Int64)) (hp1 : (fadd2 j0 j0) = (-9223372036854775808 : Int64)) (hp2 : ¬ (j0 = (0 : Int64))) (hp3 : (0 : Int64) < j0) (hp4 : (16 : Int64) < j0) (hp5 : ¬ (j0 < (0 : Int64))) (hp6 : ¬ ((((j0.toUInt64 >>> (32 : Int32).toInt64.toUInt64).toInt64).toInt32) = (0 : Int32))) (hp7 : (fsgn j0) = (1 : Int32)) (hp8 : ¬ (((((fabs j0).toUInt64 >>> (32 : Int32).toInt64.toUInt64).toInt64).toInt32) = (0 : Int32))) (hp9 : (((((((((j0.toUInt64 >>> (32 : Int32).toInt64.toUInt64).toInt64).toInt32).toInt64) &&& (4294967295 : Int64)) + ((((((fabs j0).toUInt64 >>> (32 : Int32).toInt64.toUInt64).toInt64).toInt32).toInt64) &&& (4294967295 : Int64))) + ((((((j0.toInt32).toInt64) &&& (4294967295 : Int64)) + ((fabs j0) &&& (4294967295 : Int64))).toUInt64 >>> (32 : Int32).toInt64.toUInt64).toInt64)).toUInt64 >>> (32 : Int32).toInt64.toUInt64).toInt64) = (0 : Int64)) (hp10 : ((((((((j0.toUInt64 >>> (32 : Int32).toInt64.toUInt64).toInt64).toInt32).toInt64) &&& (4294967295 : Int64)) + ((((((fabs j0).toUInt64 >>> (32 : Int32).toInt64.toUInt64).toInt64).toInt32).toInt64) &&& (4294967295 : Int64))) + ((((((j0.toInt32).toInt64) &&& (4294967295 : Int64)) + ((fabs j0) &&& (4294967295 : Int64))).toUInt64 >>> (32 : Int32).toInt64.toUInt64).toInt64)).toInt32) < (0 : Int32)) :
    MetFree l (⟨"java/math/BigDecimal", "add", "(JIJI)Ljava/math/BigDecimal;"⟩ : MethodName) (head1 (Jvm.Cond.code (⟨"java/math/BigDecimal", "add", "(JIJI)Ljava/math/BigDecimal;"⟩ : MethodName) jdk_17_method_134_code 12 (some (.object "java/math/BigDecimal")) :: ws) ({ frames := 5, cells := 5, slots := 21, locals := 110 } : Room)) (fun a U => a = #[(.long j0), (.int i0), (.long j0), (.int i1)] ∧ Z.Warmed39 U.vm ∧ U.heap = h0) (fun _ _ _ _ _ => True) (fun _ U o U' => ∃ v L, o = .returned v ∧ Q21_22 Z j0 i0 i1 h0 n0 v U'.heap L ∧ FrameEnd U o U' L ({ frames := 5, cells := 5, slots := 21, locals := 110 } : Room).cells ({ frames := 5, cells := 5, slots := 21, locals := 110 } : Room).slots) := by
  refine MetFree.of_bodySF (plainFor_of_name pn_21) hisR ?_
  intro p e s m args below meth c s₁ Bd hml0 hP hK
  obtain ⟨rfl, hZ, hh⟩ := hP
  have hx := Bd.exec
  have hby := Bd.bytes
  have hml : c.maxLocals = 12 := hml0
  have hown : s.vm.findClass "java/math/BigDecimal" = some m.cls := findClass_of_methodNamed Bd.named
  have hnm := (name_of_methodNamed Bd.named Bd.method).1
  have X0 : Stand p l e ({ frames := 5, cells := 5, slots := 21, locals := 110 } : Room) s m #[(.long j0), (.int i0), (.long j0), (.int i1)] below meth c s₁ [] 0 0 := Stand.of_body Bd
  have e0 : s₁.heap = h0 := by rw [← hh, Bd.state]; rfl
  have N0 := Fr.nil n0
  have K0 : Keep h0 h0 [] := Keep.refl h0 _
  change own_Go p e below (own_Post s (Q21_22 Z j0 i0 i1 h0 n0) ({ frames := 5, cells := 5, slots := 21, locals := 110 } : Room).cells ({ frames := 5, cells := 5, slots := 21, locals := 110 } : Room).slots) (s₁.setTop (entryFrame m #[(.long j0), (.int i0), (.long j0), (.int i1)] 12))
  refine own_by (fun t k => castTop (ef_21 m j0 i0 j0 i1) k) ?_
  show own_Go p e below _ (s₁.setTop (mkF m 0 #[oJ j0, oS, iv i0, oJ j0, oS, iv i1, oU, oU, oU, oU, oU, oU] []))
  refine own_by (B := s₁.setTop (mkF m 18 #[oJ j0, oS, iv i0, oJ j0, oS, iv i1, oJ ((i0.toInt64) - (i1.toInt64)), oS, oU, oU, oU, oU] [(.int i0), (.long j0), (.long j0)])) (fun t k => ?_) ?_
  · show Steps p.tables e below (s₁.setTop (mkF m 0 #[oJ j0, oS, iv i0, oJ j0, oS, iv i1, oU, oU, oU, oU, oU, oU] [])) _
    refine XS.iloadN X0.here hx rfl (hb hby d21_0) rfl ?_
    show Steps p.tables e below (s₁.setTop (mkF m 1 #[oJ j0, oS, iv i0, oJ j0, oS, iv i1, oU, oU, oU, oU, oU, oU] [(.int i0)])) _
    refine XS.i2l X0.here hx rfl (hb hby d21_1) rfl ?_
    show Steps p.tables e below (s₁.setTop (mkF m 2 #[oJ j0, oS, iv i0, oJ j0, oS, iv i1, oU, oU, oU, oU, oU, oU] [(.long (i0.toInt64))])) _
    refine XS.iload X0.here hx rfl (hb hby d21_2) rfl ?_
    show Steps p.tables e below (s₁.setTop (mkF m 4 #[oJ j0, oS, iv i0, oJ j0, oS, iv i1, oU, oU, oU, oU, oU, oU] [(.int i1), (.long (i0.toInt64))])) _
    refine XS.i2l X0.here hx rfl (hb hby d21_4) rfl ?_
    show Steps p.tables e below (s₁.setTop (mkF m 5 #[oJ j0, oS, iv i0, oJ j0, oS, iv i1, oU, oU, oU, oU, oU, oU] [(.long (i1.toInt64)), (.long (i0.toInt64))])) _
    refine XS.lsub X0.here hx rfl (hb hby d21_5) rfl ?_
    show Steps p.tables e below (s₁.setTop (mkF m 6 #[oJ j0, oS, iv i0, oJ j0, oS, iv i1, oU, oU, oU, oU, oU, oU] [(.long ((i0.toInt64) - (i1.toInt64)))])) _
    refine XS.lstore X0.here hx rfl (hb hby d21_6) rfl (l' := #[oJ j0, oS, iv i0, oJ j0, oS, iv i1, oJ ((i0.toInt64) - (i1.toInt64)), oS, oU, oU, oU, oU]) rfl ?_
    show Steps p.tables e below (s₁.setTop (mkF m 8 #[oJ j0, oS, iv i0, oJ j0, oS, iv i1, oJ ((i0.toInt64) - (i1.toInt64)), oS, oU, oU, oU, oU] [])) _
    refine XS.lload X0.here hx rfl (hb hby d21_8) rfl ?_
    show Steps p.tables e below (s₁.setTop (mkF m 10 #[oJ j0, oS, iv i0, oJ j0, oS, iv i1, oJ ((i0.toInt64) - (i1.toInt64)), oS, oU, oU, oU, oU] [(.long ((i0.toInt64) - (i1.toInt64)))])) _
    refine XS.lconst X0.here hx rfl (hb hby d21_10) ?_
    show Steps p.tables e below (s₁.setTop (mkF m 11 #[oJ j0, oS, iv i0, oJ j0, oS, iv i1, oJ ((i0.toInt64) - (i1.toInt64)), oS, oU, oU, oU, oU] [(.long (0 : Int64)), (.long ((i0.toInt64) - (i1.toInt64)))])) _
    refine XS.lcmp X0.here hx rfl (hb hby d21_11) rfl ?_
    show Steps p.tables e below (s₁.setTop (mkF m 12 #[oJ j0, oS, iv i0, oJ j0, oS, iv i1, oJ ((i0.toInt64) - (i1.toInt64)), oS, oU, oU, oU, oU] [(.int (lcmpW ((i0.toInt64) - (i1.toInt64)) (0 : Int64)))])) _
    refine XS.ifNo X0.here hx rfl (hb hby d21_12) rfl ((if0 _ _).trans (teq ((lw_eq _ _).mpr hp0)).2) ?_
    show Steps p.tables e below (s₁.setTop (mkF m 15 #[oJ j0, oS, iv i0, oJ j0, oS, iv i1, oJ ((i0.toInt64) - (i1.toInt64)), oS, oU, oU, oU, oU] [])) _
    refine XS.lloadN X0.here hx rfl (hb hby d21_15) rfl ?_
    show Steps p.tables e below (s₁.setTop (mkF m 16 #[oJ j0, oS, iv i0, oJ j0, oS, iv i1, oJ ((i0.toInt64) - (i1.toInt64)), oS, oU, oU, oU, oU] [(.long j0)])) _
    refine XS.lloadN X0.here hx rfl (hb hby d21_16) rfl ?_
    show Steps p.tables e below (s₁.setTop (mkF m 17 #[oJ j0, oS, iv i0, oJ j0, oS, iv i1, oJ ((i0.toInt64) - (i1.toInt64)), oS, oU, oU, oU, oU] [(.long j0), (.long j0)])) _
    refine XS.iloadN X0.here hx rfl (hb hby d21_17) rfl ?_
    show Steps p.tables e below (s₁.setTop (mkF m 18 #[oJ j0, oS, iv i0, oJ j0, oS, iv i1, oJ ((i0.toInt64) - (i1.toInt64)), oS, oU, oU, oU, oU] [(.int i0), (.long j0), (.long j0)])) _
    exact k
  refine own_cc (own_callS X0 hx hZ (y := (⟨"java/math/BigDecimal", "add", "(JJI)Ljava/math/BigDecimal;"⟩ : MethodName)) hown (hw _ (List.mem_of_getElem? (i := 114) rfl)) (hw _ (List.mem_of_getElem? (i := 115) rfl)) (hw _ (List.mem_of_getElem? (i := 78) rfl)) (hw _ (List.mem_of_getElem? (i := 116) rfl)) (by decide) (rm22_21 l Z a0 hw [] j0 i0 h0 n0 Z0 hMB OZ hp1 hp2 hp3 hp4 hp5 hp6 hp7 hp8 hp9 hp10) e0 0 (by decide) (by decide) (by decide) (by decide) rfl (by rw [hml]; rfl) [(.long j0), (.long j0), (.int i0)] [] rfl (lenOf pd_17 rfl) rfl (by show 2 * 0 + _ ≤ _; exact Nat.le_of_eq rfl) (hb hby d21_18)) fun T2 L2 v2 X2 hQ2 => ?_
  obtain ⟨b3_2, b5_7_2, b2_10_7_2, k2_10_7_2, rfl, N2, K2, E_b3_2', F_scale_b3_2', F_precision_b3_2', F_intCompact_b3_2', F_intVal_b3_2', E_b5_7_2', F_signum_b5_7_2', F_mag_b5_7_2', V_b2_10_7_2', sz_b3_2', sz_b5_7_2', sz_b2_10_7_2', ne_b3_2_b5_7_2', ne_b3_2_b2_10_7_2', ne_b5_7_2_b2_10_7_2'⟩ := hQ2
  replace N0 := Fr.app N0 N2
  have g_b3_2 : n0 ≤ b3_2 := Nat.le_trans Z0 sz_b3_2'
  have sz_b3_2 : h0.size ≤ b3_2 := Nat.le_trans K0.1 sz_b3_2'
  have g_b5_7_2 : n0 ≤ b5_7_2 := Nat.le_trans Z0 sz_b5_7_2'
  have sz_b5_7_2 : h0.size ≤ b5_7_2 := Nat.le_trans K0.1 sz_b5_7_2'
  have g_b2_10_7_2 : n0 ≤ b2_10_7_2 := Nat.le_trans Z0 sz_b2_10_7_2'
  have sz_b2_10_7_2 : h0.size ≤ b2_10_7_2 := Nat.le_trans K0.1 sz_b2_10_7_2'
  replace OZ := OZ.keep K2 all0
  replace K0 := K0.trans K2 all0
  replace Z0 := Nat.le_trans Z0 K2.1
  have E_b3_2 := E_b3_2'
  have F_scale_b3_2 := F_scale_b3_2'
  have F_precision_b3_2 := F_precision_b3_2'
  have F_intCompact_b3_2 := F_intCompact_b3_2'
  have F_intVal_b3_2 := F_intVal_b3_2'
  have E_b5_7_2 := E_b5_7_2'
  have F_signum_b5_7_2 := F_signum_b5_7_2'
  have F_mag_b5_7_2 := F_mag_b5_7_2'
  have V_b2_10_7_2 := V_b2_10_7_2'
  have ne_b3_2_b5_7_2 := ne_b3_2_b5_7_2'
  have ne_b3_2_b2_10_7_2 := ne_b3_2_b2_10_7_2'
  have ne_b5_7_2_b2_10_7_2 := ne_b5_7_2_b2_10_7_2'
  show own_Go p e below _ (T2.setTop (mkF m 21 #[oJ j0, oS, iv i0, oJ j0, oS, iv i1, oJ ((i0.toInt64) - (i1.toInt64)), oS, oU, oU, oU, oU] [(.ref b3_2)]))
  exact own_retR X2 Bd.notSynchronized hx Bd.returns rfl rfl rfl (hb hby d21_21) ⟨b3_2, b5_7_2, b2_10_7_2, k2_10_7_2, rfl, N0, K0, E_b3_2, F_scale_b3_2, F_precision_b3_2, F_intCompact_b3_2, F_intVal_b3_2, E_b5_7_2, F_signum_b5_7_2, F_mag_b5_7_2, V_b2_10_7_2, sz_b3_2, sz_b5_7_2, sz_b2_10_7_2, ne_b3_2_b5_7_2, ne_b3_2_b2_10_7_2, ne_b5_7_2_b2_10_7_2⟩ (by decide) (by decide)

theorem d20_0 : decode jdk_17_method_26_code 0 = .ok (.aload_n 0, 1) := by decide +kernel
theorem d20_1 : decode jdk_17_method_26_code 1 = .ok (.getfield 24, 3) := by decide +kernel
theorem d20_4 : decode jdk_17_method_26_code 4 = .ok (.ldc2_w 125, 3) := by decide +kernel
theorem d20_7 : decode jdk_17_method_26_code 7 = .ok (.lcmp, 1) := by decide +kernel
theorem d20_8 : decode jdk_17_method_26_code 8 = .ok (.ifCond .eq 54, 3) := by decide +kernel
theorem d20_11 : decode jdk_17_method_26_code 11 = .ok (.aload_n 1, 1) := by decide +kernel
theorem d20_12 : decode jdk_17_method_26_code 12 = .ok (.getfield 24, 3) := by decide +kernel
theorem d20_15 : decode jdk_17_method_26_code 15 = .ok (.ldc2_w 125, 3) := by decide +kernel
theorem d20_18 : decode jdk_17_method_26_code 18 = .ok (.lcmp, 1) := by decide +kernel
theorem d20_19 : decode jdk_17_method_26_code 19 = .ok (.ifCond .eq 23, 3) := by decide +kernel
theorem d20_22 : decode jdk_17_method_26_code 22 = .ok (.aload_n 0, 1) := by decide +kernel
theorem d20_23 : decode jdk_17_method_26_code 23 = .ok (.getfield 24, 3) := by decide +kernel
theorem d20_26 : decode jdk_17_method_26_code 26 = .ok (.aload_n 0, 1) := by decide +kernel
theorem d20_27 : decode jdk_17_method_26_code 27 = .ok (.getfield 17, 3) := by decide +kernel
theorem d20_30 : decode jdk_17_method_26_code 30 = .ok (.aload_n 1, 1) := by decide +kernel
theorem d20_31 : decode jdk_17_method_26_code 31 = .ok (.getfield 24, 3) := by decide +kernel
theorem d20_34 : decode jdk_17_method_26_code 34 = .ok (.aload_n 1, 1) := by decide +kernel
theorem d20_35 : decode jdk_17_method_26_code 35 = .ok (.getfield 17, 3) := by decide +kernel
theorem d20_38 : decode jdk_17_method_26_code 38 = .ok (.invokestatic 257, 3) := by decide +kernel
theorem d20_41 : decode jdk_17_method_26_code 41 = .ok (.areturn, 1) := by decide +kernel
theorem pn_20 : plainName "java/math/BigDecimal" = true := by first | (simp [plainName, overriddenIn]; done) | decide +kernel
theorem pd_16 : parseMethodDescriptor "(JIJI)Ljava/math/BigDecimal;" = some ⟨[.long, .int, .long, .int], some (.object "java/math/BigDecimal")⟩ := by decide +kernel
theorem ef_20 (m : MethodId) (x0 : Addr) (x1 : Addr) : entryFrame m #[(.ref x0), (.ref x1)] 2 = mkF m 0 #[rv x0, rv x1] [] := by first | (simp [entryFrame, mkF, argsToLocals, Value.category]; done) | rfl
def Q20_23 (Z : State) (o0 : Addr) (o1 : Addr) (i0 : Int32) (j0 : Int64) (i2 : Int32) (h0 : Heap) (n0 : Nat) (v : Option Value) (h : Heap) (L : List Loc) : Prop := ∃ b3_2_8 : Addr, ∃ b5_7_2_8 : Addr, ∃ b2_10_7_2_8 : Addr, ∃ k2_10_7_2_8 : ClassId, v = some (.ref b3_2_8) ∧ Fr n0 L ∧ Keep h0 h [] ∧ Exa Z h b3_2_8 "java/math/BigDecimal" ∧ Fld Z h b3_2_8 "java/math/BigDecimal" "scale" "I" (.int i0) ∧ Fld Z h b3_2_8 "java/math/BigDecimal" "precision" "I" (.int (0 : Int32)) ∧ Fld Z h b3_2_8 "java/math/BigDecimal" "intCompact" "J" (.long (-9223372036854775808 : Int64)) ∧ Fld Z h b3_2_8 "java/math/BigDecimal" "intVal" "Ljava/math/BigInteger;" (.ref b5_7_2_8) ∧ Exa Z h b5_7_2_8 "java/math/BigInteger" ∧ Fld Z h b5_7_2_8 "java/math/BigInteger" "signum" "I" (.int (1 : Int32)) ∧ Fld Z h b5_7_2_8 "java/math/BigInteger" "mag" "[I" (.ref b2_10_7_2_8) ∧ Arv Z h b2_10_7_2_8 k2_10_7_2_8 .int (2 : Int32) [(.int ((((((((j0.toUInt64 >>> (32 : Int32).toInt64.toUInt64).toInt64).toInt32).toInt64) &&& (4294967295 : Int64)) + ((((((fabs j0).toUInt64 >>> (32 : Int32).toInt64.toUInt64).toInt64).toInt32).toInt64) &&& (4294967295 : Int64))) + ((((((j0.toInt32).toInt64) &&& (4294967295 : Int64)) + ((fabs j0) &&& (4294967295 : Int64))).toUInt64 >>> (32 : Int32).toInt64.toUInt64).toInt64)).toInt32)), (.int (((((j0.toInt32).toInt64) &&& (4294967295 : Int64)) + ((fabs j0) &&& (4294967295 : Int64))).toInt32))] (.int (0 : Int32)) ∧ h0.size ≤ b3_2_8 ∧ h0.size ≤ b5_7_2_8 ∧ h0.size ≤ b2_10_7_2_8 ∧ b3_2_8 ≠ b5_7_2_8 ∧ b3_2_8 ≠ b2_10_7_2_8 ∧ b5_7_2_8 ≠ b2_10_7_2_8
set_option maxRecDepth 65536 in
set_option maxHeartbeats 40000000 in
theorem rm20_23 (l : Launch) (Z : State) (a0 : Array Value) (hw : ∀ d ∈ tables_1, d.before a0 Z = true) (ws : List Jvm.Cond) (o0 : Addr) (o1 : Addr) (i0 : Int32) (j0 : Int64) (i2 : Int32) (h0 : Heap) (n0 : Nat) (Z0 : n0 ≤ h0.size) (F_scale_o0 : Fld Z h0 o0 "java/math/BigDecimal" "scale" "I" (.int i0)) (F_intCompact_o0 : Fld Z h0 o0 "java/math/BigDecimal" "intCompact" "J" (.long j0)) (F_scale_o1 : Fld Z h0 o1 "java/math/BigDecimal" "scale" "I" (.int i2)) (F_intCompact_o1 : Fld Z h0 o1 "java/math/BigDecimal" "intCompact" "J" (.long j0)) (hMB : own_MB Z) (OZ : Old Z n0 h0) (hp0 : ¬ (j0 = (-9223372036854775808 : Int64))) (hp1 : ((i0.toInt64) - (i2.toInt64)) = (0 : Int64)) (hp2 : (fadd2 j0 j0) = (-9223372036854775808 : Int64)) (hp3 : ¬ (j0 = (0 : Int64))) (hp4 : (0 : Int64) < j0) (hp5 : (16 : Int64) < j0) (hp6 : ¬ (j0 < (0 : Int64))) (hp7 : ¬ ((((j0.toUInt64 >>> (32 : Int32).toInt64.toUInt64).toInt64).toInt32) = (0 : Int32))) (hp8 : (fsgn j0) = (1 : Int32)) (hp9 : ¬ (((((fabs j0).toUInt64 >>> (32 : Int32).toInt64.toUInt64).toInt64).toInt32) = (0 : Int32))) (hp10 : (((((((((j0.toUInt64 >>> (32 : Int32).toInt64.toUInt64).toInt64).toInt32).toInt64) &&& (4294967295 : Int64)) + ((((((fabs j0).toUInt64 >>> (32 : Int32).toInt64.toUInt64).toInt64).toInt32).toInt64) &&& (4294967295 : Int64))) + ((((((j0.toInt32).toInt64) &&& (4294967295 : Int64)) + ((fabs j0) &&& (4294967295 : Int64))).toUInt64 >>> (32 : Int32).toInt64.toUInt64).toInt64)).toUInt64 >>> (32 : Int32).toInt64.toUInt64).toInt64) = (0 : Int64)) (hp11 : ((((((((j0.toUInt64 >>> (32 : Int32).toInt64.toUInt64).toInt64).toInt32).toInt64) &&& (4294967295 : Int64)) + ((((((fabs j0).toUInt64 >>> (32 : Int32).toInt64.toUInt64).toInt64).toInt32).toInt64) &&& (4294967295 : Int64))) + ((((((j0.toInt32).toInt64) &&& (4294967295 : Int64)) + ((fabs j0) &&& (4294967295 : Int64))).toUInt64 >>> (32 : Int32).toInt64.toUInt64).toInt64)).toInt32) < (0 : Int32)) :
    MetFree l (⟨"java/math/BigDecimal", "add", "(Ljava/math/BigDecimal;)Ljava/math/BigDecimal;"⟩ : MethodName) (head1 (Jvm.Cond.code (⟨"java/math/BigDecimal", "add", "(Ljava/math/BigDecimal;)Ljava/math/BigDecimal;"⟩ : MethodName) jdk_17_method_26_code 2 (some (.object "java/math/BigDecimal")) :: ws) ({ frames := 6, cells := 5, slots := 21, locals := 133 } : Room)) (fun a U => a = #[(.ref o0), (.ref o1)] ∧ Z.Warmed39 U.vm ∧ U.heap = h0) (fun _ _ _ _ _ => True) (fun _ U o U' => ∃ v L, o = .returned v ∧ Q20_23 Z o0 o1 i0 j0 i2 h0 n0 v U'.heap L ∧ FrameEnd U o U' L ({ frames := 6, cells := 5, slots := 21, locals := 133 } : Room).cells ({ frames := 6, cells := 5, slots := 21, locals := 133 } : Room).slots) := by
  refine MetFree.of_bodySF (plainFor_of_name pn_20) hisR ?_
  intro p e s m args below meth c s₁ Bd hml0 hP hK
  obtain ⟨rfl, hZ, hh⟩ := hP
  have hx := Bd.exec
  have hby := Bd.bytes
  have hml : c.maxLocals = 2 := hml0
  have hown : s.vm.findClass "java/math/BigDecimal" = some m.cls := findClass_of_methodNamed Bd.named
  have hnm := (name_of_methodNamed Bd.named Bd.method).1
  have X0 : Stand p l e ({ frames := 6, cells := 5, slots := 21, locals := 133 } : Room) s m #[(.ref o0), (.ref o1)] below meth c s₁ [] 0 0 := Stand.of_body Bd
  have e0 : s₁.heap = h0 := by rw [← hh, Bd.state]; rfl
  have N0 := Fr.nil n0
  have K0 : Keep h0 h0 [] := Keep.refl h0 _
  change own_Go p e below (own_Post s (Q20_23 Z o0 o1 i0 j0 i2 h0 n0) ({ frames := 6, cells := 5, slots := 21, locals := 133 } : Room).cells ({ frames := 6, cells := 5, slots := 21, locals := 133 } : Room).slots) (s₁.setTop (entryFrame m #[(.ref o0), (.ref o1)] 2))
  refine own_by (fun t k => castTop (ef_20 m o0 o1) k) ?_
  show own_Go p e below _ (s₁.setTop (mkF m 0 #[rv o0, rv o1] []))
  refine own_by (B := s₁.setTop (mkF m 1 #[rv o0, rv o1] [(.ref o0)])) (fun t k => ?_) ?_
  · show Steps p.tables e below (s₁.setTop (mkF m 0 #[rv o0, rv o1] [])) _
    refine XS.aloadN X0.here hx rfl (hb hby d20_0) rfl rfl ?_
    show Steps p.tables e below (s₁.setTop (mkF m 1 #[rv o0, rv o1] [(.ref o0)])) _
    exact k
  refine own_c1 (getF X0 hx hZ hown (host := "") (Or.inl (hw _ (List.mem_of_getElem? (i := 102) rfl))) Via.refl e0 F_intCompact_o0 rfl rfl (hb hby d20_1)) fun T1 X1 e1 => ?_
  show own_Go p e below _ (T1.setTop (mkF m 4 #[rv o0, rv o1] [(.long j0)]))
  refine own_by (B := T1.setTop (mkF m 12 #[rv o0, rv o1] [(.ref o1)])) (fun t k => ?_) ?_
  · show Steps p.tables e below (T1.setTop (mkF m 4 #[rv o0, rv o1] [(.long j0)])) _
    refine X1.ldc2Long hx hown (mvT hZ (hw _ (List.mem_of_getElem? (i := 84) rfl))) (g := (mkF m 4 #[rv o0, rv o1] [(.long j0)])) rfl (hb hby d20_4) _ ?_
    show Steps p.tables e below (T1.setTop (mkF m 7 #[rv o0, rv o1] [(.long (-9223372036854775808 : Int64)), (.long j0)])) _
    refine XS.lcmp X1.here hx rfl (hb hby d20_7) rfl ?_
    show Steps p.tables e below (T1.setTop (mkF m 8 #[rv o0, rv o1] [(.int (lcmpW j0 (-9223372036854775808 : Int64)))])) _
    refine XS.ifNo X1.here hx rfl (hb hby d20_8) rfl ((if0 _ _).trans (feq (fun q => hp0 ((lw_eq _ _).mp q))).1) ?_
    show Steps p.tables e below (T1.setTop (mkF m 11 #[rv o0, rv o1] [])) _
    refine XS.aloadN X1.here hx rfl (hb hby d20_11) rfl rfl ?_
    show Steps p.tables e below (T1.setTop (mkF m 12 #[rv o0, rv o1] [(.ref o1)])) _
    exact k
  refine own_c1 (getF X1 hx hZ hown (host := "") (Or.inl (hw _ (List.mem_of_getElem? (i := 102) rfl))) Via.refl e1 F_intCompact_o1 rfl rfl (hb hby d20_12)) fun T2 X2 e2 => ?_
  show own_Go p e below _ (T2.setTop (mkF m 15 #[rv o0, rv o1] [(.long j0)]))
  refine own_by (B := T2.setTop (mkF m 23 #[rv o0, rv o1] [(.ref o0)])) (fun t k => ?_) ?_
  · show Steps p.tables e below (T2.setTop (mkF m 15 #[rv o0, rv o1] [(.long j0)])) _
    refine X2.ldc2Long hx hown (mvT hZ (hw _ (List.mem_of_getElem? (i := 84) rfl))) (g := (mkF m 15 #[rv o0, rv o1] [(.long j0)])) rfl (hb hby d20_15) _ ?_
    show Steps p.tables e below (T2.setTop (mkF m 18 #[rv o0, rv o1] [(.long (-9223372036854775808 : Int64)), (.long j0)])) _
    refine XS.lcmp X2.here hx rfl (hb hby d20_18) rfl ?_
    show Steps p.tables e below (T2.setTop (mkF m 19 #[rv o0, rv o1] [(.int (lcmpW j0 (-9223372036854775808 : Int64)))])) _
    refine XS.ifNo X2.here hx rfl (hb hby d20_19) rfl ((if0 _ _).trans (feq (fun q => hp0 ((lw_eq _ _).mp q))).1) ?_
    show Steps p.tables e below (T2.setTop (mkF m 22 #[rv o0, rv o1] [])) _
    refine XS.aloadN X2.here hx rfl (hb hby d20_22) rfl rfl ?_
    show Steps p.tables e below (T2.setTop (mkF m 23 #[rv o0, rv o1] [(.ref o0)])) _
    exact k
  refine own_c1 (getF X2 hx hZ hown (host := "") (Or.inl (hw _ (List.mem_of_getElem? (i := 102) rfl))) Via.refl e2 F_intCompact_o0 rfl rfl (hb hby d20_23)) fun T3 X3 e3 => ?_
  show own_Go p e below _ (T3.setTop (mkF m 26 #[rv o0, rv o1] [(.long j0)]))
  refine own_by (B := T3.setTop (mkF m 27 #[rv o0, rv o1] [(.ref o0), (.long j0)])) (fun t k => ?_) ?_
  · show Steps p.tables e below (T3.setTop (mkF m 26 #[rv o0, rv o1] [(.long j0)])) _
    refine XS.aloadN X3.here hx rfl (hb hby d20_26) rfl rfl ?_
    show Steps p.tables e below (T3.setTop (mkF m 27 #[rv o0, rv o1] [(.ref o0), (.long j0)])) _
    exact k
  refine own_c1 (getF X3 hx hZ hown (host := "") (Or.inl (hw _ (List.mem_of_getElem? (i := 98) rfl))) Via.refl e3 F_scale_o0 rfl rfl (hb hby d20_27)) fun T4 X4 e4 => ?_
  show own_Go p e below _ (T4.setTop (mkF m 30 #[rv o0, rv o1] [(.int i0), (.long j0)]))
  refine own_by (B := T4.setTop (mkF m 31 #[rv o0, rv o1] [(.ref o1), (.int i0), (.long j0)])) (fun t k => ?_) ?_
  · show Steps p.tables e below (T4.setTop (mkF m 30 #[rv o0, rv o1] [(.int i0), (.long j0)])) _
    refine XS.aloadN X4.here hx rfl (hb hby d20_30) rfl rfl ?_
    show Steps p.tables e below (T4.setTop (mkF m 31 #[rv o0, rv o1] [(.ref o1), (.int i0), (.long j0)])) _
    exact k
  refine own_c1 (getF X4 hx hZ hown (host := "") (Or.inl (hw _ (List.mem_of_getElem? (i := 102) rfl))) Via.refl e4 F_intCompact_o1 rfl rfl (hb hby d20_31)) fun T5 X5 e5 => ?_
  show own_Go p e below _ (T5.setTop (mkF m 34 #[rv o0, rv o1] [(.long j0), (.int i0), (.long j0)]))
  refine own_by (B := T5.setTop (mkF m 35 #[rv o0, rv o1] [(.ref o1), (.long j0), (.int i0), (.long j0)])) (fun t k => ?_) ?_
  · show Steps p.tables e below (T5.setTop (mkF m 34 #[rv o0, rv o1] [(.long j0), (.int i0), (.long j0)])) _
    refine XS.aloadN X5.here hx rfl (hb hby d20_34) rfl rfl ?_
    show Steps p.tables e below (T5.setTop (mkF m 35 #[rv o0, rv o1] [(.ref o1), (.long j0), (.int i0), (.long j0)])) _
    exact k
  refine own_c1 (getF X5 hx hZ hown (host := "") (Or.inl (hw _ (List.mem_of_getElem? (i := 98) rfl))) Via.refl e5 F_scale_o1 rfl rfl (hb hby d20_35)) fun T6 X6 e6 => ?_
  show own_Go p e below _ (T6.setTop (mkF m 38 #[rv o0, rv o1] [(.int i2), (.long j0), (.int i0), (.long j0)]))
  refine own_cc (own_callS X6 hx hZ (y := (⟨"java/math/BigDecimal", "add", "(JIJI)Ljava/math/BigDecimal;"⟩ : MethodName)) hown (hw _ (List.mem_of_getElem? (i := 111) rfl)) (hw _ (List.mem_of_getElem? (i := 112) rfl)) (hw _ (List.mem_of_getElem? (i := 78) rfl)) (hw _ (List.mem_of_getElem? (i := 113) rfl)) (by decide) (rm21_22 l Z a0 hw [] j0 i0 i2 h0 n0 Z0 hMB OZ hp1 hp2 hp3 hp4 hp5 hp6 hp7 hp8 hp9 hp10 hp11) e6 0 (by decide) (by decide) (by decide) (by decide) rfl (by rw [hml]; rfl) [(.long j0), (.int i0), (.long j0), (.int i2)] [] rfl (lenOf pd_16 rfl) rfl (by show 2 * 0 + _ ≤ _; exact Nat.le_of_eq rfl) (hb hby d20_38)) fun T8 L8 v8 X8 hQ8 => ?_
  obtain ⟨b3_2_8, b5_7_2_8, b2_10_7_2_8, k2_10_7_2_8, rfl, N8, K8, E_b3_2_8', F_scale_b3_2_8', F_precision_b3_2_8', F_intCompact_b3_2_8', F_intVal_b3_2_8', E_b5_7_2_8', F_signum_b5_7_2_8', F_mag_b5_7_2_8', V_b2_10_7_2_8', sz_b3_2_8', sz_b5_7_2_8', sz_b2_10_7_2_8', ne_b3_2_8_b5_7_2_8', ne_b3_2_8_b2_10_7_2_8', ne_b5_7_2_8_b2_10_7_2_8'⟩ := hQ8
  replace N0 := Fr.app N0 N8
  have g_b3_2_8 : n0 ≤ b3_2_8 := Nat.le_trans Z0 sz_b3_2_8'
  have sz_b3_2_8 : h0.size ≤ b3_2_8 := Nat.le_trans K0.1 sz_b3_2_8'
  have ne_o0_b3_2_8 : o0 ≠ b3_2_8 := Nat.ne_of_lt (Nat.lt_of_lt_of_le F_scale_o0.lt sz_b3_2_8')
  have ne_o1_b3_2_8 : o1 ≠ b3_2_8 := Nat.ne_of_lt (Nat.lt_of_lt_of_le F_scale_o1.lt sz_b3_2_8')
  have g_b5_7_2_8 : n0 ≤ b5_7_2_8 := Nat.le_trans Z0 sz_b5_7_2_8'
  have sz_b5_7_2_8 : h0.size ≤ b5_7_2_8 := Nat.le_trans K0.1 sz_b5_7_2_8'
  have ne_o0_b5_7_2_8 : o0 ≠ b5_7_2_8 := Nat.ne_of_lt (Nat.lt_of_lt_of_le F_scale_o0.lt sz_b5_7_2_8')
  have ne_o1_b5_7_2_8 : o1 ≠ b5_7_2_8 := Nat.ne_of_lt (Nat.lt_of_lt_of_le F_scale_o1.lt sz_b5_7_2_8')
  have g_b2_10_7_2_8 : n0 ≤ b2_10_7_2_8 := Nat.le_trans Z0 sz_b2_10_7_2_8'
  have sz_b2_10_7_2_8 : h0.size ≤ b2_10_7_2_8 := Nat.le_trans K0.1 sz_b2_10_7_2_8'
  have ne_o0_b2_10_7_2_8 : o0 ≠ b2_10_7_2_8 := Nat.ne_of_lt (Nat.lt_of_lt_of_le F_scale_o0.lt sz_b2_10_7_2_8')
  have ne_o1_b2_10_7_2_8 : o1 ≠ b2_10_7_2_8 := Nat.ne_of_lt (Nat.lt_of_lt_of_le F_scale_o1.lt sz_b2_10_7_2_8')
  replace F_scale_o0 := F_scale_o0.keep K8 nin0
  replace F_intCompact_o0 := F_intCompact_o0.keep K8 nin0
  replace F_scale_o1 := F_scale_o1.keep K8 nin0
  replace F_intCompact_o1 := F_intCompact_o1.keep K8 nin0
  replace OZ := OZ.keep K8 all0
  replace K0 := K0.trans K8 all0
  replace Z0 := Nat.le_trans Z0 K8.1
  have E_b3_2_8 := E_b3_2_8'
  have F_scale_b3_2_8 := F_scale_b3_2_8'
  have F_precision_b3_2_8 := F_precision_b3_2_8'
  have F_intCompact_b3_2_8 := F_intCompact_b3_2_8'
  have F_intVal_b3_2_8 := F_intVal_b3_2_8'
  have E_b5_7_2_8 := E_b5_7_2_8'
  have F_signum_b5_7_2_8 := F_signum_b5_7_2_8'
  have F_mag_b5_7_2_8 := F_mag_b5_7_2_8'
  have V_b2_10_7_2_8 := V_b2_10_7_2_8'
  have ne_b3_2_8_b5_7_2_8 := ne_b3_2_8_b5_7_2_8'
  have ne_b3_2_8_b2_10_7_2_8 := ne_b3_2_8_b2_10_7_2_8'
  have ne_b5_7_2_8_b2_10_7_2_8 := ne_b5_7_2_8_b2_10_7_2_8'
  show own_Go p e below _ (T8.setTop (mkF m 41 #[rv o0, rv o1] [(.ref b3_2_8)]))
  exact own_retR X8 Bd.notSynchronized hx Bd.returns rfl rfl rfl (hb hby d20_41) ⟨b3_2_8, b5_7_2_8, b2_10_7_2_8, k2_10_7_2_8, rfl, N0, K0, E_b3_2_8, F_scale_b3_2_8, F_precision_b3_2_8, F_intCompact_b3_2_8, F_intVal_b3_2_8, E_b5_7_2_8, F_signum_b5_7_2_8, F_mag_b5_7_2_8, V_b2_10_7_2_8, sz_b3_2_8, sz_b5_7_2_8, sz_b2_10_7_2_8, ne_b3_2_8_b5_7_2_8, ne_b3_2_8_b2_10_7_2_8, ne_b5_7_2_8_b2_10_7_2_8⟩ (by decide) (by decide)

theorem d13_0 : decode prog_7_method_12_code 0 = .ok (.aload_n 0, 1) := by decide +kernel
theorem d13_1 : decode prog_7_method_12_code 1 = .ok (.getfield 52, 3) := by decide +kernel
theorem d13_4 : decode prog_7_method_12_code 4 = .ok (.ifnonnull 119, 3) := by decide +kernel
theorem d13_7 : decode prog_7_method_12_code 7 = .ok (.aload_n 1, 1) := by decide +kernel
theorem d13_8 : decode prog_7_method_12_code 8 = .ok (.getfield 52, 3) := by decide +kernel
theorem d13_11 : decode prog_7_method_12_code 11 = .ok (.ifnonnull 112, 3) := by decide +kernel
theorem d13_14 : decode prog_7_method_12_code 14 = .ok (.aload_n 0, 1) := by decide +kernel
theorem d13_15 : decode prog_7_method_12_code 15 = .ok (.getfield 60, 3) := by decide +kernel
theorem d13_18 : decode prog_7_method_12_code 18 = .ok (.aload_n 1, 1) := by decide +kernel
theorem d13_19 : decode prog_7_method_12_code 19 = .ok (.getfield 60, 3) := by decide +kernel
theorem d13_22 : decode prog_7_method_12_code 22 = .ok (.invokestatic 77, 3) := by decide +kernel
theorem d13_25 : decode prog_7_method_12_code 25 = .ok (.istore_n 3, 1) := by decide +kernel
theorem d13_26 : decode prog_7_method_12_code 26 = .ok (.aload_n 0, 1) := by decide +kernel
theorem d13_27 : decode prog_7_method_12_code 27 = .ok (.getfield 56, 3) := by decide +kernel
theorem d13_30 : decode prog_7_method_12_code 30 = .ok (.iload_n 3, 1) := by decide +kernel
theorem d13_31 : decode prog_7_method_12_code 31 = .ok (.aload_n 0, 1) := by decide +kernel
theorem d13_32 : decode prog_7_method_12_code 32 = .ok (.getfield 60, 3) := by decide +kernel
theorem d13_35 : decode prog_7_method_12_code 35 = .ok (.isub, 1) := by decide +kernel
theorem d13_36 : decode prog_7_method_12_code 36 = .ok (.invokestatic 83, 3) := by decide +kernel
theorem d13_39 : decode prog_7_method_12_code 39 = .ok (.lstore 4, 2) := by decide +kernel
theorem d13_41 : decode prog_7_method_12_code 41 = .ok (.aload_n 1, 1) := by decide +kernel
theorem d13_42 : decode prog_7_method_12_code 42 = .ok (.getfield 56, 3) := by decide +kernel
theorem d13_45 : decode prog_7_method_12_code 45 = .ok (.iload_n 3, 1) := by decide +kernel
theorem d13_46 : decode prog_7_method_12_code 46 = .ok (.aload_n 1, 1) := by decide +kernel
theorem d13_47 : decode prog_7_method_12_code 47 = .ok (.getfield 60, 3) := by decide +kernel
theorem d13_50 : decode prog_7_method_12_code 50 = .ok (.isub, 1) := by decide +kernel
theorem d13_51 : decode prog_7_method_12_code 51 = .ok (.invokestatic 83, 3) := by decide +kernel
theorem d13_54 : decode prog_7_method_12_code 54 = .ok (.lstore 6, 2) := by decide +kernel
theorem d13_56 : decode prog_7_method_12_code 56 = .ok (.lload 4, 2) := by decide +kernel
theorem d13_58 : decode prog_7_method_12_code 58 = .ok (.ldc2_w 87, 3) := by decide +kernel
theorem d13_61 : decode prog_7_method_12_code 61 = .ok (.lcmp, 1) := by decide +kernel
theorem d13_62 : decode prog_7_method_12_code 62 = .ok (.ifCond .eq 61, 3) := by decide +kernel
theorem d13_65 : decode prog_7_method_12_code 65 = .ok (.lload 6, 2) := by decide +kernel
theorem d13_67 : decode prog_7_method_12_code 67 = .ok (.ldc2_w 87, 3) := by decide +kernel
theorem d13_70 : decode prog_7_method_12_code 70 = .ok (.lcmp, 1) := by decide +kernel
theorem d13_71 : decode prog_7_method_12_code 71 = .ok (.ifCond .eq 52, 3) := by decide +kernel
theorem d13_74 : decode prog_7_method_12_code 74 = .ok (.iload_n 2, 1) := by decide +kernel
theorem d13_75 : decode prog_7_method_12_code 75 = .ok (.ifCond .eq 8, 3) := by decide +kernel
theorem d13_83 : decode prog_7_method_12_code 83 = .ok (.lload 4, 2) := by decide +kernel
theorem d13_85 : decode prog_7_method_12_code 85 = .ok (.lload 6, 2) := by decide +kernel
theorem d13_87 : decode prog_7_method_12_code 87 = .ok (.ladd, 1) := by decide +kernel
theorem d13_88 : decode prog_7_method_12_code 88 = .ok (.lstore 8, 2) := by decide +kernel
theorem d13_90 : decode prog_7_method_12_code 90 = .ok (.lload 4, 2) := by decide +kernel
theorem d13_92 : decode prog_7_method_12_code 92 = .ok (.lload 8, 2) := by decide +kernel
theorem d13_94 : decode prog_7_method_12_code 94 = .ok (.lxor, 1) := by decide +kernel
theorem d13_95 : decode prog_7_method_12_code 95 = .ok (.lload 6, 2) := by decide +kernel
theorem d13_97 : decode prog_7_method_12_code 97 = .ok (.lload 8, 2) := by decide +kernel
theorem d13_99 : decode prog_7_method_12_code 99 = .ok (.lxor, 1) := by decide +kernel
theorem d13_100 : decode prog_7_method_12_code 100 = .ok (.land, 1) := by decide +kernel
theorem d13_101 : decode prog_7_method_12_code 101 = .ok (.lconst 0, 1) := by decide +kernel
theorem d13_102 : decode prog_7_method_12_code 102 = .ok (.lcmp, 1) := by decide +kernel
theorem d13_103 : decode prog_7_method_12_code 103 = .ok (.ifCond .lt 20, 3) := by decide +kernel
theorem d13_123 : decode prog_7_method_12_code 123 = .ok (.aload_n 1, 1) := by decide +kernel
theorem d13_124 : decode prog_7_method_12_code 124 = .ok (.invokevirtual 26, 3) := by decide +kernel
theorem d13_127 : decode prog_7_method_12_code 127 = .ok (.astore_n 3, 1) := by decide +kernel
theorem d13_128 : decode prog_7_method_12_code 128 = .ok (.aload_n 0, 1) := by decide +kernel
theorem d13_129 : decode prog_7_method_12_code 129 = .ok (.iload_n 2, 1) := by decide +kernel
theorem d13_130 : decode prog_7_method_12_code 130 = .ok (.ifCond .eq 14, 3) := by decide +kernel
theorem d13_144 : decode prog_7_method_12_code 144 = .ok (.aload_n 0, 1) := by decide +kernel
theorem d13_145 : decode prog_7_method_12_code 145 = .ok (.invokevirtual 26, 3) := by decide +kernel
theorem d13_148 : decode prog_7_method_12_code 148 = .ok (.aload_n 3, 1) := by decide +kernel
theorem d13_149 : decode prog_7_method_12_code 149 = .ok (.invokevirtual 93, 3) := by decide +kernel
theorem d13_152 : decode prog_7_method_12_code 152 = .ok (.putfield 52, 3) := by decide +kernel
theorem d13_155 : decode prog_7_method_12_code 155 = .ok (.return_, 1) := by decide +kernel
theorem pn_13 : plainName "com/example/exfactor/exfactor/core/MutableFigure" = true := by first | (simp [plainName, overriddenIn]; done) | decide +kernel
theorem pd_10 : parseMethodDescriptor "(II)I" = some ⟨[.int, .int], some .int⟩ := by decide +kernel
theorem pd_11 : parseMethodDescriptor "()Ljava/math/BigDecimal;" = some ⟨[], some (.object "java/math/BigDecimal")⟩ := by decide +kernel
theorem pd_15 : parseMethodDescriptor "(Ljava/math/BigDecimal;)Ljava/math/BigDecimal;" = some ⟨[(.object "java/math/BigDecimal")], some (.object "java/math/BigDecimal")⟩ := by decide +kernel
theorem ef_13 (m : MethodId) (x0 : Addr) (x1 : Addr) (x2 : Int32) : entryFrame m #[(.ref x0), (.ref x1), (.int x2)] 10 = mkF m 0 #[rv x0, rv x1, iv x2, oU, oU, oU, oU, oU, oU, oU] [] := by first | (simp [entryFrame, mkF, argsToLocals, Value.category]; done) | rfl
def Q13_24 (Z : State) (o0 : Addr) (i0 : Int32) (o1 : Addr) (o2 : Addr) (o3 : Addr) (o4 : Addr) (o5 : Addr) (o6 : Addr) (o7 : Addr) (o8 : Addr) (o9 : Addr) (o10 : Addr) (o11 : Addr) (o12 : Addr) (o13 : Addr) (j0 : Int64) (k0 : ClassId) (j1 : Int64) (j2 : Int64) (j3 : Int64) (j4 : Int64) (j5 : Int64) (j6 : Int64) (j7 : Int64) (j8 : Int64) (j9 : Int64) (j10 : Int64) (j11 : Int64) (j12 : Int64) (j13 : Int64) (j14 : Int64) (j15 : Int64) (j16 : Int64) (j17 : Int64) (j18 : Int64) (j19 : Int64) (k1 : ClassId) (h0 : Heap) (n0 : Nat) (v : Option Value) (h : Heap) (L : List Loc) : Prop := ∃ b3_2_8_20 : Addr, ∃ b5_7_2_8_20 : Addr, ∃ b2_10_7_2_8_20 : Addr, ∃ k2_10_7_2_8_20 : ClassId, v = none ∧ Fr n0 L ∧ Keep h0 h [o0] ∧ Exa Z h o0 "com/example/exfactor/exfactor/core/MutableFigure" ∧ Fld Z h o0 "com/example/exfactor/exfactor/core/MutableFigure" "unscaled" "J" (.long j0) ∧ Fld Z h o0 "com/example/exfactor/exfactor/core/MutableFigure" "scale" "I" (.int (0 : Int32)) ∧ Fld Z h o0 "com/example/exfactor/exfactor/core/MutableFigure" "big" "Ljava/math/BigDecimal;" (.ref b3_2_8_20) ∧ Exa Z h b3_2_8_20 "java/math/BigDecimal" ∧ Fld Z h b3_2_8_20 "java/math/BigDecimal" "scale" "I" (.int (0 : Int32)) ∧ Fld Z h b3_2_8_20 "java/math/BigDecimal" "precision" "I" (.int (0 : Int32)) ∧ Fld Z h b3_2_8_20 "java/math/BigDecimal" "intCompact" "J" (.long (-9223372036854775808 : Int64)) ∧ Fld Z h b3_2_8_20 "java/math/BigDecimal" "intVal" "Ljava/math/BigInteger;" (.ref b5_7_2_8_20) ∧ Exa Z h b5_7_2_8_20 "java/math/BigInteger" ∧ Fld Z h b5_7_2_8_20 "java/math/BigInteger" "signum" "I" (.int (1 : Int32)) ∧ Fld Z h b5_7_2_8_20 "java/math/BigInteger" "mag" "[I" (.ref b2_10_7_2_8_20) ∧ Arv Z h b2_10_7_2_8_20 k2_10_7_2_8_20 .int (2 : Int32) [(.int ((((((((j0.toUInt64 >>> (32 : Int32).toInt64.toUInt64).toInt64).toInt32).toInt64) &&& (4294967295 : Int64)) + ((((((fabs j0).toUInt64 >>> (32 : Int32).toInt64.toUInt64).toInt64).toInt32).toInt64) &&& (4294967295 : Int64))) + ((((((j0.toInt32).toInt64) &&& (4294967295 : Int64)) + ((fabs j0) &&& (4294967295 : Int64))).toUInt64 >>> (32 : Int32).toInt64.toUInt64).toInt64)).toInt32)), (.int (((((j0.toInt32).toInt64) &&& (4294967295 : Int64)) + ((fabs j0) &&& (4294967295 : Int64))).toInt32))] (.int (0 : Int32)) ∧ h0.size ≤ b3_2_8_20 ∧ h0.size ≤ b5_7_2_8_20 ∧ h0.size ≤ b2_10_7_2_8_20 ∧ b3_2_8_20 ≠ b5_7_2_8_20 ∧ b3_2_8_20 ≠ b2_10_7_2_8_20 ∧ b5_7_2_8_20 ≠ b2_10_7_2_8_20
set_option maxRecDepth 65536 in
set_option maxHeartbeats 40000000 in
theorem rm13_24 (l : Launch) (Z : State) (a0 : Array Value) (hw : ∀ d ∈ tables_1, d.before a0 Z = true) (ws : List Jvm.Cond) (o0 : Addr) (i0 : Int32) (o1 : Addr) (o2 : Addr) (o3 : Addr) (o4 : Addr) (o5 : Addr) (o6 : Addr) (o7 : Addr) (o8 : Addr) (o9 : Addr) (o10 : Addr) (o11 : Addr) (o12 : Addr) (o13 : Addr) (j0 : Int64) (k0 : ClassId) (j1 : Int64) (j2 : Int64) (j3 : Int64) (j4 : Int64) (j5 : Int64) (j6 : Int64) (j7 : Int64) (j8 : Int64) (j9 : Int64) (j10 : Int64) (j11 : Int64) (j12 : Int64) (j13 : Int64) (j14 : Int64) (j15 : Int64) (j16 : Int64) (j17 : Int64) (j18 : Int64) (j19 : Int64) (k1 : ClassId) (h0 : Heap) (n0 : Nat) (Z0 : n0 ≤ h0.size) (g_o0 : n0 ≤ o0) (E_o0 : Exa Z h0 o0 "com/example/exfactor/exfactor/core/MutableFigure") (F_unscaled_o0 : Fld Z h0 o0 "com/example/exfactor/exfactor/core/MutableFigure" "unscaled" "J" (.long j0)) (F_scale_o0 : Fld Z h0 o0 "com/example/exfactor/exfactor/core/MutableFigure" "scale" "I" (.int (0 : Int32))) (F_big_o0 : Fld Z h0 o0 "com/example/exfactor/exfactor/core/MutableFigure" "big" "Ljava/math/BigDecimal;" .null) (V_o1 : Arv Z h0 o1 k0 .long (19 : Int32) [(.long j1), (.long j2), (.long j3), (.long j4), (.long j5), (.long j6), (.long j7), (.long j8), (.long j9), (.long j10), (.long j11), (.long j12), (.long j13), (.long j14), (.long j15), (.long j16), (.long j17), (.long j18), (.long j19)] (.long (0 : Int64))) (V_o2 : Arv Z h0 o2 k1 (.object "java/math/BigDecimal") (11 : Int32) [(.ref o3), (.ref o4), (.ref o5), (.ref o6), (.ref o7), (.ref o8), (.ref o9), (.ref o10), (.ref o11), (.ref o12), (.ref o13)] .null) (S_POWERS_OF_TEN : Sta Z Z.heap "com/example/exfactor/exfactor/core/MutableFigure" "POWERS_OF_TEN" "[J" (.ref o1)) (S_ZERO_THROUGH_TEN : Sta Z Z.heap "java/math/BigDecimal" "ZERO_THROUGH_TEN" "[Ljava/math/BigDecimal;" (.ref o2)) (hMB : own_MB Z) (OZ : Old Z n0 h0) (hp0 : ¬ ((fme j0 j1) = (-9223372036854775808 : Int64))) (hp1 : i0 = (0 : Int32)) (hp2 : (((fme j0 j1) ^^^ ((fme j0 j1) + (fme j0 j1))) &&& ((fme j0 j1) ^^^ ((fme j0 j1) + (fme j0 j1)))) < (0 : Int64)) (hp3 : ¬ (j0 < (0 : Int64))) (hp4 : ¬ (j0 < (11 : Int64))) (hp5 : ¬ (j0 = (-9223372036854775808 : Int64))) (hp6 : (fadd2 j0 j0) = (-9223372036854775808 : Int64)) (hp7 : ¬ (j0 = (0 : Int64))) (hp8 : (0 : Int64) < j0) (hp9 : (16 : Int64) < j0) (hp10 : ¬ ((((j0.toUInt64 >>> (32 : Int32).toInt64.toUInt64).toInt64).toInt32) = (0 : Int32))) (hp11 : (fsgn j0) = (1 : Int32)) (hp12 : ¬ (((((fabs j0).toUInt64 >>> (32 : Int32).toInt64.toUInt64).toInt64).toInt32) = (0 : Int32))) (hp13 : (((((((((j0.toUInt64 >>> (32 : Int32).toInt64.toUInt64).toInt64).toInt32).toInt64) &&& (4294967295 : Int64)) + ((((((fabs j0).toUInt64 >>> (32 : Int32).toInt64.toUInt64).toInt64).toInt32).toInt64) &&& (4294967295 : Int64))) + ((((((j0.toInt32).toInt64) &&& (4294967295 : Int64)) + ((fabs j0) &&& (4294967295 : Int64))).toUInt64 >>> (32 : Int32).toInt64.toUInt64).toInt64)).toUInt64 >>> (32 : Int32).toInt64.toUInt64).toInt64) = (0 : Int64)) (hp14 : ((((((((j0.toUInt64 >>> (32 : Int32).toInt64.toUInt64).toInt64).toInt32).toInt64) &&& (4294967295 : Int64)) + ((((((fabs j0).toUInt64 >>> (32 : Int32).toInt64.toUInt64).toInt64).toInt32).toInt64) &&& (4294967295 : Int64))) + ((((((j0.toInt32).toInt64) &&& (4294967295 : Int64)) + ((fabs j0) &&& (4294967295 : Int64))).toUInt64 >>> (32 : Int32).toInt64.toUInt64).toInt64)).toInt32) < (0 : Int32)) :
    MetFree l (⟨"com/example/exfactor/exfactor/core/MutableFigure", "add", "(Lcom/example/exfactor/exfactor/core/MutableFigure;Z)V"⟩ : MethodName) (head1 (Jvm.Cond.code (⟨"com/example/exfactor/exfactor/core/MutableFigure", "add", "(Lcom/example/exfactor/exfactor/core/MutableFigure;Z)V"⟩ : MethodName) prog_7_method_12_code 10 none :: ws) ({ frames := 7, cells := 7, slots := 31, locals := 147 } : Room)) (fun a U => a = #[(.ref o0), (.ref o0), (.int i0)] ∧ Z.Warmed39 U.vm ∧ U.heap = h0) (fun _ _ _ _ _ => True) (fun _ U o U' => ∃ v L, o = .returned v ∧ Q13_24 Z o0 i0 o1 o2 o3 o4 o5 o6 o7 o8 o9 o10 o11 o12 o13 j0 k0 j1 j2 j3 j4 j5 j6 j7 j8 j9 j10 j11 j12 j13 j14 j15 j16 j17 j18 j19 k1 h0 n0 v U'.heap L ∧ FrameEnd U o U' L ({ frames := 7, cells := 7, slots := 31, locals := 147 } : Room).cells ({ frames := 7, cells := 7, slots := 31, locals := 147 } : Room).slots) := by
  refine MetFree.of_bodySF (plainFor_of_name pn_13) hisR ?_
  intro p e s m args below meth c s₁ Bd hml0 hP hK
  obtain ⟨rfl, hZ, hh⟩ := hP
  have hx := Bd.exec
  have hby := Bd.bytes
  have hml : c.maxLocals = 10 := hml0
  have hown : s.vm.findClass "com/example/exfactor/exfactor/core/MutableFigure" = some m.cls := findClass_of_methodNamed Bd.named
  have hnm := (name_of_methodNamed Bd.named Bd.method).1
  have X0 : Stand p l e ({ frames := 7, cells := 7, slots := 31, locals := 147 } : Room) s m #[(.ref o0), (.ref o0), (.int i0)] below meth c s₁ [] 0 0 := Stand.of_body Bd
  have e0 : s₁.heap = h0 := by rw [← hh, Bd.state]; rfl
  have N0 := Fr.nil n0
  have K0 : Keep h0 h0 [o0] := Keep.refl h0 _
  change own_Go p e below (own_Post s (Q13_24 Z o0 i0 o1 o2 o3 o4 o5 o6 o7 o8 o9 o10 o11 o12 o13 j0 k0 j1 j2 j3 j4 j5 j6 j7 j8 j9 j10 j11 j12 j13 j14 j15 j16 j17 j18 j19 k1 h0 n0) ({ frames := 7, cells := 7, slots := 31, locals := 147 } : Room).cells ({ frames := 7, cells := 7, slots := 31, locals := 147 } : Room).slots) (s₁.setTop (entryFrame m #[(.ref o0), (.ref o0), (.int i0)] 10))
  refine own_by (fun t k => castTop (ef_13 m o0 o0 i0) k) ?_
  show own_Go p e below _ (s₁.setTop (mkF m 0 #[rv o0, rv o0, iv i0, oU, oU, oU, oU, oU, oU, oU] []))
  refine own_by (B := s₁.setTop (mkF m 1 #[rv o0, rv o0, iv i0, oU, oU, oU, oU, oU, oU, oU] [(.ref o0)])) (fun t k => ?_) ?_
  · show Steps p.tables e below (s₁.setTop (mkF m 0 #[rv o0, rv o0, iv i0, oU, oU, oU, oU, oU, oU, oU] [])) _
    refine XS.aloadN X0.here hx rfl (hb hby d13_0) rfl rfl ?_
    show Steps p.tables e below (s₁.setTop (mkF m 1 #[rv o0, rv o0, iv i0, oU, oU, oU, oU, oU, oU, oU] [(.ref o0)])) _
    exact k
  refine own_c1 (getF X0 hx hZ hown (host := "") (Or.inl (hw _ (List.mem_of_getElem? (i := 20) rfl))) Via.refl e0 F_big_o0 rfl rfl (hb hby d13_1)) fun T1 X1 e1 => ?_
  show own_Go p e below _ (T1.setTop (mkF m 4 #[rv o0, rv o0, iv i0, oU, oU, oU, oU, oU, oU, oU] [.null]))
  refine own_by (fun t k => XS.ifnonnullNo X1.here hx rfl (hb hby d13_4) rfl k) ?_
  show own_Go p e below _ (T1.setTop (mkF m 7 #[rv o0, rv o0, iv i0, oU, oU, oU, oU, oU, oU, oU] []))
  refine own_by (B := T1.setTop (mkF m 8 #[rv o0, rv o0, iv i0, oU, oU, oU, oU, oU, oU, oU] [(.ref o0)])) (fun t k => ?_) ?_
  · show Steps p.tables e below (T1.setTop (mkF m 7 #[rv o0, rv o0, iv i0, oU, oU, oU, oU, oU, oU, oU] [])) _
    refine XS.aloadN X1.here hx rfl (hb hby d13_7) rfl rfl ?_
    show Steps p.tables e below (T1.setTop (mkF m 8 #[rv o0, rv o0, iv i0, oU, oU, oU, oU, oU, oU, oU] [(.ref o0)])) _
    exact k
  refine own_c1 (getF X1 hx hZ hown (host := "") (Or.inl (hw _ (List.mem_of_getElem? (i := 20) rfl))) Via.refl e1 F_big_o0 rfl rfl (hb hby d13_8)) fun T2 X2 e2 => ?_
  show own_Go p e below _ (T2.setTop (mkF m 11 #[rv o0, rv o0, iv i0, oU, oU, oU, oU, oU, oU, oU] [.null]))
  refine own_by (fun t k => XS.ifnonnullNo X2.here hx rfl (hb hby d13_11) rfl k) ?_
  show own_Go p e below _ (T2.setTop (mkF m 14 #[rv o0, rv o0, iv i0, oU, oU, oU, oU, oU, oU, oU] []))
  refine own_by (B := T2.setTop (mkF m 15 #[rv o0, rv o0, iv i0, oU, oU, oU, oU, oU, oU, oU] [(.ref o0)])) (fun t k => ?_) ?_
  · show Steps p.tables e below (T2.setTop (mkF m 14 #[rv o0, rv o0, iv i0, oU, oU, oU, oU, oU, oU, oU] [])) _
    refine XS.aloadN X2.here hx rfl (hb hby d13_14) rfl rfl ?_
    show Steps p.tables e below (T2.setTop (mkF m 15 #[rv o0, rv o0, iv i0, oU, oU, oU, oU, oU, oU, oU] [(.ref o0)])) _
    exact k
  refine own_c1 (getF X2 hx hZ hown (host := "") (Or.inl (hw _ (List.mem_of_getElem? (i := 18) rfl))) Via.refl e2 F_scale_o0 rfl rfl (hb hby d13_15)) fun T3 X3 e3 => ?_
  show own_Go p e below _ (T3.setTop (mkF m 18 #[rv o0, rv o0, iv i0, oU, oU, oU, oU, oU, oU, oU] [(.int (0 : Int32))]))
  refine own_by (B := T3.setTop (mkF m 19 #[rv o0, rv o0, iv i0, oU, oU, oU, oU, oU, oU, oU] [(.ref o0), (.int (0 : Int32))])) (fun t k => ?_) ?_
  · show Steps p.tables e below (T3.setTop (mkF m 18 #[rv o0, rv o0, iv i0, oU, oU, oU, oU, oU, oU, oU] [(.int (0 : Int32))])) _
    refine XS.aloadN X3.here hx rfl (hb hby d13_18) rfl rfl ?_
    show Steps p.tables e below (T3.setTop (mkF m 19 #[rv o0, rv o0, iv i0, oU, oU, oU, oU, oU, oU, oU] [(.ref o0), (.int (0 : Int32))])) _
    exact k
  refine own_c1 (getF X3 hx hZ hown (host := "") (Or.inl (hw _ (List.mem_of_getElem? (i := 18) rfl))) Via.refl e3 F_scale_o0 rfl rfl (hb hby d13_19)) fun T4 X4 e4 => ?_
  show own_Go p e below _ (T4.setTop (mkF m 22 #[rv o0, rv o0, iv i0, oU, oU, oU, oU, oU, oU, oU] [(.int (0 : Int32)), (.int (0 : Int32))]))
  refine own_cc (own_callS X4 hx hZ (y := (⟨"java/lang/Math", "max", "(II)I"⟩ : MethodName)) hown (hw _ (List.mem_of_getElem? (i := 67) rfl)) (hw _ (List.mem_of_getElem? (i := 68) rfl)) (hw _ (List.mem_of_getElem? (i := 54) rfl)) (hw _ (List.mem_of_getElem? (i := 69) rfl)) (by decide) (rm14_8 l Z a0 hw [] (0 : Int32) (0 : Int32) h0 n0 Z0 (by decide : ¬ ((0 : Int32) < (0 : Int32)))) e4 0 (by decide) (by decide) (by decide) (by decide) rfl (by rw [hml]; rfl) [(.int (0 : Int32)), (.int (0 : Int32))] [] rfl (lenOf pd_10 rfl) rfl (by show 2 * 0 + _ ≤ _; exact Nat.le_of_eq rfl) (hb hby d13_22)) fun T6 L6 v6 X6 hQ6 => ?_
  obtain ⟨rfl, N6, e6⟩ := hQ6
  replace N0 := Fr.app N0 N6
  show own_Go p e below _ (T6.setTop (mkF m 25 #[rv o0, rv o0, iv i0, oU, oU, oU, oU, oU, oU, oU] [(.int (0 : Int32))]))
  refine own_by (B := T6.setTop (mkF m 27 #[rv o0, rv o0, iv i0, iv (0 : Int32), oU, oU, oU, oU, oU, oU] [(.ref o0)])) (fun t k => ?_) ?_
  · show Steps p.tables e below (T6.setTop (mkF m 25 #[rv o0, rv o0, iv i0, oU, oU, oU, oU, oU, oU, oU] [(.int (0 : Int32))])) _
    refine XS.istoreN X6.here hx rfl (hb hby d13_25) rfl (l' := #[rv o0, rv o0, iv i0, iv (0 : Int32), oU, oU, oU, oU, oU, oU]) rfl ?_
    show Steps p.tables e below (T6.setTop (mkF m 26 #[rv o0, rv o0, iv i0, iv (0 : Int32), oU, oU, oU, oU, oU, oU] [])) _
    refine XS.aloadN X6.here hx rfl (hb hby d13_26) rfl rfl ?_
    show Steps p.tables e below (T6.setTop (mkF m 27 #[rv o0, rv o0, iv i0, iv (0 : Int32), oU, oU, oU, oU, oU, oU] [(.ref o0)])) _
    exact k
  refine own_c1 (getF X6 hx hZ hown (host := "") (Or.inl (hw _ (List.mem_of_getElem? (i := 16) rfl))) Via.refl e6 F_unscaled_o0 rfl rfl (hb hby d13_27)) fun T7 X7 e7 => ?_
  show own_Go p e below _ (T7.setTop (mkF m 30 #[rv o0, rv o0, iv i0, iv (0 : Int32), oU, oU, oU, oU, oU, oU] [(.long j0)]))
  refine own_by (B := T7.setTop (mkF m 32 #[rv o0, rv o0, iv i0, iv (0 : Int32), oU, oU, oU, oU, oU, oU] [(.ref o0), (.int (0 : Int32)), (.long j0)])) (fun t k => ?_) ?_
  · show Steps p.tables e below (T7.setTop (mkF m 30 #[rv o0, rv o0, iv i0, iv (0 : Int32), oU, oU, oU, oU, oU, oU] [(.long j0)])) _
    refine XS.iloadN X7.here hx rfl (hb hby d13_30) rfl ?_
    show Steps p.tables e below (T7.setTop (mkF m 31 #[rv o0, rv o0, iv i0, iv (0 : Int32), oU, oU, oU, oU, oU, oU] [(.int (0 : Int32)), (.long j0)])) _
    refine XS.aloadN X7.here hx rfl (hb hby d13_31) rfl rfl ?_
    show Steps p.tables e below (T7.setTop (mkF m 32 #[rv o0, rv o0, iv i0, iv (0 : Int32), oU, oU, oU, oU, oU, oU] [(.ref o0), (.int (0 : Int32)), (.long j0)])) _
    exact k
  refine own_c1 (getF X7 hx hZ hown (host := "") (Or.inl (hw _ (List.mem_of_getElem? (i := 18) rfl))) Via.refl e7 F_scale_o0 rfl rfl (hb hby d13_32)) fun T8 X8 e8 => ?_
  show own_Go p e below _ (T8.setTop (mkF m 35 #[rv o0, rv o0, iv i0, iv (0 : Int32), oU, oU, oU, oU, oU, oU] [(.int (0 : Int32)), (.int (0 : Int32)), (.long j0)]))
  refine own_by (B := T8.setTop (mkF m 36 #[rv o0, rv o0, iv i0, iv (0 : Int32), oU, oU, oU, oU, oU, oU] [(.int (0 : Int32)), (.long j0)])) (fun t k => ?_) ?_
  · show Steps p.tables e below (T8.setTop (mkF m 35 #[rv o0, rv o0, iv i0, iv (0 : Int32), oU, oU, oU, oU, oU, oU] [(.int (0 : Int32)), (.int (0 : Int32)), (.long j0)])) _
    refine XS.isub X8.here hx rfl (hb hby d13_35) rfl ?_
    show Steps p.tables e below (T8.setTop (mkF m 36 #[rv o0, rv o0, iv i0, iv (0 : Int32), oU, oU, oU, oU, oU, oU] [(.int (0 : Int32)), (.long j0)])) _
    exact k
  refine own_cc (own_callS X8 hx hZ (y := (⟨"com/example/exfactor/exfactor/core/MutableFigure", "scaleUp", "(JI)J"⟩ : MethodName)) hown (hw _ (List.mem_of_getElem? (i := 44) rfl)) (hw _ (List.mem_of_getElem? (i := 45) rfl)) (hw _ (List.mem_of_getElem? (i := 4) rfl)) (hw _ (List.mem_of_getElem? (i := 46) rfl)) (by decide) (rm9_5 l Z a0 hw [] j0 o1 k0 j1 j2 j3 j4 j5 j6 j7 j8 j9 j10 j11 j12 j13 j14 j15 j16 j17 j18 j19 h0 n0 Z0 V_o1 S_POWERS_OF_TEN OZ) e8 0 (by decide) (by decide) (by decide) (by decide) rfl (by rw [hml]; rfl) [(.long j0), (.int (0 : Int32))] [] rfl (lenOf pd_6 rfl) rfl (by show 2 * 0 + _ ≤ _; exact Nat.le_of_eq rfl) (hb hby d13_36)) fun T10 L10 v10 X10 hQ10 => ?_
  obtain ⟨rfl, N10, e10⟩ := hQ10
  replace N0 := Fr.app N0 N10
  show own_Go p e below _ (T10.setTop (mkF m 39 #[rv o0, rv o0, iv i0, iv (0 : Int32), oU, oU, oU, oU, oU, oU] [(.long (fme j0 j1))]))
  refine own_by (B := T10.setTop (mkF m 42 #[rv o0, rv o0, iv i0, iv (0 : Int32), oJ (fme j0 j1), oS, oU, oU, oU, oU] [(.ref o0)])) (fun t k => ?_) ?_
  · show Steps p.tables e below (T10.setTop (mkF m 39 #[rv o0, rv o0, iv i0, iv (0 : Int32), oU, oU, oU, oU, oU, oU] [(.long (fme j0 j1))])) _
    refine XS.lstore X10.here hx rfl (hb hby d13_39) rfl (l' := #[rv o0, rv o0, iv i0, iv (0 : Int32), oJ (fme j0 j1), oS, oU, oU, oU, oU]) rfl ?_
    show Steps p.tables e below (T10.setTop (mkF m 41 #[rv o0, rv o0, iv i0, iv (0 : Int32), oJ (fme j0 j1), oS, oU, oU, oU, oU] [])) _
    refine XS.aloadN X10.here hx rfl (hb hby d13_41) rfl rfl ?_
    show Steps p.tables e below (T10.setTop (mkF m 42 #[rv o0, rv o0, iv i0, iv (0 : Int32), oJ (fme j0 j1), oS, oU, oU, oU, oU] [(.ref o0)])) _
    exact k
  refine own_c1 (getF X10 hx hZ hown (host := "") (Or.inl (hw _ (List.mem_of_getElem? (i := 16) rfl))) Via.refl e10 F_unscaled_o0 rfl rfl (hb hby d13_42)) fun T11 X11 e11 => ?_
  show own_Go p e below _ (T11.setTop (mkF m 45 #[rv o0, rv o0, iv i0, iv (0 : Int32), oJ (fme j0 j1), oS, oU, oU, oU, oU] [(.long j0)]))
  refine own_by (B := T11.setTop (mkF m 47 #[rv o0, rv o0, iv i0, iv (0 : Int32), oJ (fme j0 j1), oS, oU, oU, oU, oU] [(.ref o0), (.int (0 : Int32)), (.long j0)])) (fun t k => ?_) ?_
  · show Steps p.tables e below (T11.setTop (mkF m 45 #[rv o0, rv o0, iv i0, iv (0 : Int32), oJ (fme j0 j1), oS, oU, oU, oU, oU] [(.long j0)])) _
    refine XS.iloadN X11.here hx rfl (hb hby d13_45) rfl ?_
    show Steps p.tables e below (T11.setTop (mkF m 46 #[rv o0, rv o0, iv i0, iv (0 : Int32), oJ (fme j0 j1), oS, oU, oU, oU, oU] [(.int (0 : Int32)), (.long j0)])) _
    refine XS.aloadN X11.here hx rfl (hb hby d13_46) rfl rfl ?_
    show Steps p.tables e below (T11.setTop (mkF m 47 #[rv o0, rv o0, iv i0, iv (0 : Int32), oJ (fme j0 j1), oS, oU, oU, oU, oU] [(.ref o0), (.int (0 : Int32)), (.long j0)])) _
    exact k
  refine own_c1 (getF X11 hx hZ hown (host := "") (Or.inl (hw _ (List.mem_of_getElem? (i := 18) rfl))) Via.refl e11 F_scale_o0 rfl rfl (hb hby d13_47)) fun T12 X12 e12 => ?_
  show own_Go p e below _ (T12.setTop (mkF m 50 #[rv o0, rv o0, iv i0, iv (0 : Int32), oJ (fme j0 j1), oS, oU, oU, oU, oU] [(.int (0 : Int32)), (.int (0 : Int32)), (.long j0)]))
  refine own_by (B := T12.setTop (mkF m 51 #[rv o0, rv o0, iv i0, iv (0 : Int32), oJ (fme j0 j1), oS, oU, oU, oU, oU] [(.int (0 : Int32)), (.long j0)])) (fun t k => ?_) ?_
  · show Steps p.tables e below (T12.setTop (mkF m 50 #[rv o0, rv o0, iv i0, iv (0 : Int32), oJ (fme j0 j1), oS, oU, oU, oU, oU] [(.int (0 : Int32)), (.int (0 : Int32)), (.long j0)])) _
    refine XS.isub X12.here hx rfl (hb hby d13_50) rfl ?_
    show Steps p.tables e below (T12.setTop (mkF m 51 #[rv o0, rv o0, iv i0, iv (0 : Int32), oJ (fme j0 j1), oS, oU, oU, oU, oU] [(.int (0 : Int32)), (.long j0)])) _
    exact k
  refine own_cc (own_callS X12 hx hZ (y := (⟨"com/example/exfactor/exfactor/core/MutableFigure", "scaleUp", "(JI)J"⟩ : MethodName)) hown (hw _ (List.mem_of_getElem? (i := 44) rfl)) (hw _ (List.mem_of_getElem? (i := 45) rfl)) (hw _ (List.mem_of_getElem? (i := 4) rfl)) (hw _ (List.mem_of_getElem? (i := 46) rfl)) (by decide) (rm9_5 l Z a0 hw [] j0 o1 k0 j1 j2 j3 j4 j5 j6 j7 j8 j9 j10 j11 j12 j13 j14 j15 j16 j17 j18 j19 h0 n0 Z0 V_o1 S_POWERS_OF_TEN OZ) e12 0 (by decide) (by decide) (by decide) (by decide) rfl (by rw [hml]; rfl) [(.long j0), (.int (0 : Int32))] [] rfl (lenOf pd_6 rfl) rfl (by show 2 * 0 + _ ≤ _; exact Nat.le_of_eq rfl) (hb hby d13_51)) fun T14 L14 v14 X14 hQ14 => ?_
  obtain ⟨rfl, N14, e14⟩ := hQ14
  replace N0 := Fr.app N0 N14
  show own_Go p e below _ (T14.setTop (mkF m 54 #[rv o0, rv o0, iv i0, iv (0 : Int32), oJ (fme j0 j1), oS, oU, oU, oU, oU] [(.long (fme j0 j1))]))
  refine own_by (B := T14.setTop (mkF m 124 #[rv o0, rv o0, iv i0, iv (0 : Int32), oJ (fme j0 j1), oS, oJ (fme j0 j1), oS, oJ ((fme j0 j1) + (fme j0 j1)), oS] [(.ref o0)])) (fun t k => ?_) ?_
  · show Steps p.tables e below (T14.setTop (mkF m 54 #[rv o0, rv o0, iv i0, iv (0 : Int32), oJ (fme j0 j1), oS, oU, oU, oU, oU] [(.long (fme j0 j1))])) _
    refine XS.lstore X14.here hx rfl (hb hby d13_54) rfl (l' := #[rv o0, rv o0, iv i0, iv (0 : Int32), oJ (fme j0 j1), oS, oJ (fme j0 j1), oS, oU, oU]) rfl ?_
    show Steps p.tables e below (T14.setTop (mkF m 56 #[rv o0, rv o0, iv i0, iv (0 : Int32), oJ (fme j0 j1), oS, oJ (fme j0 j1), oS, oU, oU] [])) _
    refine XS.lload X14.here hx rfl (hb hby d13_56) rfl ?_
    show Steps p.tables e below (T14.setTop (mkF m 58 #[rv o0, rv o0, iv i0, iv (0 : Int32), oJ (fme j0 j1), oS, oJ (fme j0 j1), oS, oU, oU] [(.long (fme j0 j1))])) _
    refine X14.ldc2Long hx hown (mvT hZ (hw _ (List.mem_of_getElem? (i := 70) rfl))) (g := (mkF m 58 #[rv o0, rv o0, iv i0, iv (0 : Int32), oJ (fme j0 j1), oS, oJ (fme j0 j1), oS, oU, oU] [(.long (fme j0 j1))])) rfl (hb hby d13_58) _ ?_
    show Steps p.tables e below (T14.setTop (mkF m 61 #[rv o0, rv o0, iv i0, iv (0 : Int32), oJ (fme j0 j1), oS, oJ (fme j0 j1), oS, oU, oU] [(.long (-9223372036854775808 : Int64)), (.long (fme j0 j1))])) _
    refine XS.lcmp X14.here hx rfl (hb hby d13_61) rfl ?_
    show Steps p.tables e below (T14.setTop (mkF m 62 #[rv o0, rv o0, iv i0, iv (0 : Int32), oJ (fme j0 j1), oS, oJ (fme j0 j1), oS, oU, oU] [(.int (lcmpW (fme j0 j1) (-9223372036854775808 : Int64)))])) _
    refine XS.ifNo X14.here hx rfl (hb hby d13_62) rfl ((if0 _ _).trans (feq (fun q => hp0 ((lw_eq _ _).mp q))).1) ?_
    show Steps p.tables e below (T14.setTop (mkF m 65 #[rv o0, rv o0, iv i0, iv (0 : Int32), oJ (fme j0 j1), oS, oJ (fme j0 j1), oS, oU, oU] [])) _
    refine XS.lload X14.here hx rfl (hb hby d13_65) rfl ?_
    show Steps p.tables e below (T14.setTop (mkF m 67 #[rv o0, rv o0, iv i0, iv (0 : Int32), oJ (fme j0 j1), oS, oJ (fme j0 j1), oS, oU, oU] [(.long (fme j0 j1))])) _
    refine X14.ldc2Long hx hown (mvT hZ (hw _ (List.mem_of_getElem? (i := 70) rfl))) (g := (mkF m 67 #[rv o0, rv o0, iv i0, iv (0 : Int32), oJ (fme j0 j1), oS, oJ (fme j0 j1), oS, oU, oU] [(.long (fme j0 j1))])) rfl (hb hby d13_67) _ ?_
    show Steps p.tables e below (T14.setTop (mkF m 70 #[rv o0, rv o0, iv i0, iv (0 : Int32), oJ (fme j0 j1), oS, oJ (fme j0 j1), oS, oU, oU] [(.long (-9223372036854775808 : Int64)), (.long (fme j0 j1))])) _
    refine XS.lcmp X14.here hx rfl (hb hby d13_70) rfl ?_
    show Steps p.tables e below (T14.setTop (mkF m 71 #[rv o0, rv o0, iv i0, iv (0 : Int32), oJ (fme j0 j1), oS, oJ (fme j0 j1), oS, oU, oU] [(.int (lcmpW (fme j0 j1) (-9223372036854775808 : Int64)))])) _
    refine XS.ifNo X14.here hx rfl (hb hby d13_71) rfl ((if0 _ _).trans (feq (fun q => hp0 ((lw_eq _ _).mp q))).1) ?_
    show Steps p.tables e below (T14.setTop (mkF m 74 #[rv o0, rv o0, iv i0, iv (0 : Int32), oJ (fme j0 j1), oS, oJ (fme j0 j1), oS, oU, oU] [])) _
    refine XS.iloadN X14.here hx rfl (hb hby d13_74) rfl ?_
    show Steps p.tables e below (T14.setTop (mkF m 75 #[rv o0, rv o0, iv i0, iv (0 : Int32), oJ (fme j0 j1), oS, oJ (fme j0 j1), oS, oU, oU] [(.int i0)])) _
    refine XS.ifYes X14.here hx rfl (pc0 := 75) (pc' := 83) rfl (hb hby d13_75) rfl ((if0 _ _).trans (teq hp1).1) (by decide) (by decide) ?_
    show Steps p.tables e below (T14.setTop (mkF m 83 #[rv o0, rv o0, iv i0, iv (0 : Int32), oJ (fme j0 j1), oS, oJ (fme j0 j1), oS, oU, oU] [])) _
    refine XS.lload X14.here hx rfl (hb hby d13_83) rfl ?_
    show Steps p.tables e below (T14.setTop (mkF m 85 #[rv o0, rv o0, iv i0, iv (0 : Int32), oJ (fme j0 j1), oS, oJ (fme j0 j1), oS, oU, oU] [(.long (fme j0 j1))])) _
    refine XS.lload X14.here hx rfl (hb hby d13_85) rfl ?_
    show Steps p.tables e below (T14.setTop (mkF m 87 #[rv o0, rv o0, iv i0, iv (0 : Int32), oJ (fme j0 j1), oS, oJ (fme j0 j1), oS, oU, oU] [(.long (fme j0 j1)), (.long (fme j0 j1))])) _
    refine XS.ladd X14.here hx rfl (hb hby d13_87) rfl ?_
    show Steps p.tables e below (T14.setTop (mkF m 88 #[rv o0, rv o0, iv i0, iv (0 : Int32), oJ (fme j0 j1), oS, oJ (fme j0 j1), oS, oU, oU] [(.long ((fme j0 j1) + (fme j0 j1)))])) _
    refine XS.lstore X14.here hx rfl (hb hby d13_88) rfl (l' := #[rv o0, rv o0, iv i0, iv (0 : Int32), oJ (fme j0 j1), oS, oJ (fme j0 j1), oS, oJ ((fme j0 j1) + (fme j0 j1)), oS]) rfl ?_
    show Steps p.tables e below (T14.setTop (mkF m 90 #[rv o0, rv o0, iv i0, iv (0 : Int32), oJ (fme j0 j1), oS, oJ (fme j0 j1), oS, oJ ((fme j0 j1) + (fme j0 j1)), oS] [])) _
    refine XS.lload X14.here hx rfl (hb hby d13_90) rfl ?_
    show Steps p.tables e below (T14.setTop (mkF m 92 #[rv o0, rv o0, iv i0, iv (0 : Int32), oJ (fme j0 j1), oS, oJ (fme j0 j1), oS, oJ ((fme j0 j1) + (fme j0 j1)), oS] [(.long (fme j0 j1))])) _
    refine XS.lload X14.here hx rfl (hb hby d13_92) rfl ?_
    show Steps p.tables e below (T14.setTop (mkF m 94 #[rv o0, rv o0, iv i0, iv (0 : Int32), oJ (fme j0 j1), oS, oJ (fme j0 j1), oS, oJ ((fme j0 j1) + (fme j0 j1)), oS] [(.long ((fme j0 j1) + (fme j0 j1))), (.long (fme j0 j1))])) _
    refine XS.lxor X14.here hx rfl (hb hby d13_94) rfl ?_
    show Steps p.tables e below (T14.setTop (mkF m 95 #[rv o0, rv o0, iv i0, iv (0 : Int32), oJ (fme j0 j1), oS, oJ (fme j0 j1), oS, oJ ((fme j0 j1) + (fme j0 j1)), oS] [(.long ((fme j0 j1) ^^^ ((fme j0 j1) + (fme j0 j1))))])) _
    refine XS.lload X14.here hx rfl (hb hby d13_95) rfl ?_
    show Steps p.tables e below (T14.setTop (mkF m 97 #[rv o0, rv o0, iv i0, iv (0 : Int32), oJ (fme j0 j1), oS, oJ (fme j0 j1), oS, oJ ((fme j0 j1) + (fme j0 j1)), oS] [(.long (fme j0 j1)), (.long ((fme j0 j1) ^^^ ((fme j0 j1) + (fme j0 j1))))])) _
    refine XS.lload X14.here hx rfl (hb hby d13_97) rfl ?_
    show Steps p.tables e below (T14.setTop (mkF m 99 #[rv o0, rv o0, iv i0, iv (0 : Int32), oJ (fme j0 j1), oS, oJ (fme j0 j1), oS, oJ ((fme j0 j1) + (fme j0 j1)), oS] [(.long ((fme j0 j1) + (fme j0 j1))), (.long (fme j0 j1)), (.long ((fme j0 j1) ^^^ ((fme j0 j1) + (fme j0 j1))))])) _
    refine XS.lxor X14.here hx rfl (hb hby d13_99) rfl ?_
    show Steps p.tables e below (T14.setTop (mkF m 100 #[rv o0, rv o0, iv i0, iv (0 : Int32), oJ (fme j0 j1), oS, oJ (fme j0 j1), oS, oJ ((fme j0 j1) + (fme j0 j1)), oS] [(.long ((fme j0 j1) ^^^ ((fme j0 j1) + (fme j0 j1)))), (.long ((fme j0 j1) ^^^ ((fme j0 j1) + (fme j0 j1))))])) _
    refine XS.land X14.here hx rfl (hb hby d13_100) rfl ?_
    show Steps p.tables e below (T14.setTop (mkF m 101 #[rv o0, rv o0, iv i0, iv (0 : Int32), oJ (fme j0 j1), oS, oJ (fme j0 j1), oS, oJ ((fme j0 j1) + (fme j0 j1)), oS] [(.long (((fme j0 j1) ^^^ ((fme j0 j1) + (fme j0 j1))) &&& ((fme j0 j1) ^^^ ((fme j0 j1) + (fme j0 j1)))))])) _
    refine XS.lconst X14.here hx rfl (hb hby d13_101) ?_
    show Steps p.tables e below (T14.setTop (mkF m 102 #[rv o0, rv o0, iv i0, iv (0 : Int32), oJ (fme j0 j1), oS, oJ (fme j0 j1), oS, oJ ((fme j0 j1) + (fme j0 j1)), oS] [(.long (0 : Int64)), (.long (((fme j0 j1) ^^^ ((fme j0 j1) + (fme j0 j1))) &&& ((fme j0 j1) ^^^ ((fme j0 j1) + (fme j0 j1)))))])) _
    refine XS.lcmp X14.here hx rfl (hb hby d13_102) rfl ?_
    show Steps p.tables e below (T14.setTop (mkF m 103 #[rv o0, rv o0, iv i0, iv (0 : Int32), oJ (fme j0 j1), oS, oJ (fme j0 j1), oS, oJ ((fme j0 j1) + (fme j0 j1)), oS] [(.int (lcmpW (((fme j0 j1) ^^^ ((fme j0 j1) + (fme j0 j1))) &&& ((fme j0 j1) ^^^ ((fme j0 j1) + (fme j0 j1)))) (0 : Int64)))])) _
    refine XS.ifYes X14.here hx rfl (pc0 := 103) (pc' := 123) rfl (hb hby d13_103) rfl ((if0 _ _).trans (tlt ((lw_lt _ _).mpr hp2)).1) (by decide) (by decide) ?_
    show Steps p.tables e below (T14.setTop (mkF m 123 #[rv o0, rv o0, iv i0, iv (0 : Int32), oJ (fme j0 j1), oS, oJ (fme j0 j1), oS, oJ ((fme j0 j1) + (fme j0 j1)), oS] [])) _
    refine XS.aloadN X14.here hx rfl (hb hby d13_123) rfl rfl ?_
    show Steps p.tables e below (T14.setTop (mkF m 124 #[rv o0, rv o0, iv i0, iv (0 : Int32), oJ (fme j0 j1), oS, oJ (fme j0 j1), oS, oJ ((fme j0 j1) + (fme j0 j1)), oS] [(.ref o0)])) _
    exact k
  refine own_cc (own_callV X14 hx hZ (y := (⟨"com/example/exfactor/exfactor/core/MutableFigure", "toBigDecimal", "()Ljava/math/BigDecimal;"⟩ : MethodName)) (z := (⟨"com/example/exfactor/exfactor/core/MutableFigure", "toBigDecimal", "()Ljava/math/BigDecimal;"⟩ : MethodName)) hown (hw _ (List.mem_of_getElem? (i := 71) rfl)) (hw _ (List.mem_of_getElem? (i := 72) rfl)) (notFace_of_selects (args := #[]) (mvT hZ (hw _ (List.mem_of_getElem? (i := 74) rfl)))) (hw _ (List.mem_of_getElem? (i := 74) rfl)) (hw _ (List.mem_of_getElem? (i := 73) rfl)) (hw _ (List.mem_of_getElem? (i := 4) rfl)) (hw _ (List.mem_of_getElem? (i := 75) rfl)) (by decide) (rm15_13 l Z a0 hw [] o0 o2 o3 o4 o5 o6 o7 o8 o9 o10 o11 o12 o13 j0 (0 : Int32) k1 h0 n0 Z0 F_unscaled_o0 F_scale_o0 F_big_o0 V_o2 S_ZERO_THROUGH_TEN OZ (by decide : (0 : Int32) = (0 : Int32)) hp3 hp4 hp5) e14 0 (by decide) (by decide) (by decide) (by decide) rfl (by rw [hml]; rfl) o0 E_o0 [] [] rfl (lenOf pd_11 rfl) rfl (by show 2 * 0 + _ ≤ _; exact Nat.le_of_eq rfl) (hb hby d13_124)) fun T16 L16 v16 X16 hQ16 => ?_
  obtain ⟨b3_2_5_16, rfl, N16, K16, E_b3_2_5_16', F_scale_b3_2_5_16', F_precision_b3_2_5_16', F_intCompact_b3_2_5_16', F_intVal_b3_2_5_16', sz_b3_2_5_16'⟩ := hQ16
  replace N0 := Fr.app N0 N16
  have g_b3_2_5_16 : n0 ≤ b3_2_5_16 := Nat.le_trans Z0 sz_b3_2_5_16'
  have sz_b3_2_5_16 : h0.size ≤ b3_2_5_16 := Nat.le_trans K0.1 sz_b3_2_5_16'
  have ne_o0_b3_2_5_16 : o0 ≠ b3_2_5_16 := Nat.ne_of_lt (Nat.lt_of_lt_of_le E_o0.lt sz_b3_2_5_16')
  have ne_o1_b3_2_5_16 : o1 ≠ b3_2_5_16 := Nat.ne_of_lt (Nat.lt_of_lt_of_le V_o1.lt sz_b3_2_5_16')
  have ne_o2_b3_2_5_16 : o2 ≠ b3_2_5_16 := Nat.ne_of_lt (Nat.lt_of_lt_of_le V_o2.lt sz_b3_2_5_16')
  replace E_o0 := E_o0.keep K16
  replace F_unscaled_o0 := F_unscaled_o0.keep K16 nin0
  replace F_scale_o0 := F_scale_o0.keep K16 nin0
  replace F_big_o0 := F_big_o0.keep K16 nin0
  replace V_o1 := V_o1.keep K16 nin0
  replace V_o2 := V_o2.keep K16 nin0
  replace OZ := OZ.keep K16 all0
  replace K0 := K0.trans K16 all0
  replace Z0 := Nat.le_trans Z0 K16.1
  have E_b3_2_5_16 := E_b3_2_5_16'
  have F_scale_b3_2_5_16 := F_scale_b3_2_5_16'
  have F_precision_b3_2_5_16 := F_precision_b3_2_5_16'
  have F_intCompact_b3_2_5_16 := F_intCompact_b3_2_5_16'
  have F_intVal_b3_2_5_16 := F_intVal_b3_2_5_16'
  show own_Go p e below _ (T16.setTop (mkF m 127 #[rv o0, rv o0, iv i0, iv (0 : Int32), oJ (fme j0 j1), oS, oJ (fme j0 j1), oS, oJ ((fme j0 j1) + (fme j0 j1)), oS] [(.ref b3_2_5_16)]))
  refine own_by (B := T16.setTop (mkF m 145 #[rv o0, rv o0, iv i0, rv b3_2_5_16, oJ (fme j0 j1), oS, oJ (fme j0 j1), oS, oJ ((fme j0 j1) + (fme j0 j1)), oS] [(.ref o0), (.ref o0)])) (fun t k => ?_) ?_
  · show Steps p.tables e below (T16.setTop (mkF m 127 #[rv o0, rv o0, iv i0, iv (0 : Int32), oJ (fme j0 j1), oS, oJ (fme j0 j1), oS, oJ ((fme j0 j1) + (fme j0 j1)), oS] [(.ref b3_2_5_16)])) _
    refine XS.astoreN X16.here hx rfl (hb hby d13_127) rfl rfl (l' := #[rv o0, rv o0, iv i0, rv b3_2_5_16, oJ (fme j0 j1), oS, oJ (fme j0 j1), oS, oJ ((fme j0 j1) + (fme j0 j1)), oS]) rfl ?_
    show Steps p.tables e below (T16.setTop (mkF m 128 #[rv o0, rv o0, iv i0, rv b3_2_5_16, oJ (fme j0 j1), oS, oJ (fme j0 j1), oS, oJ ((fme j0 j1) + (fme j0 j1)), oS] [])) _
    refine XS.aloadN X16.here hx rfl (hb hby d13_128) rfl rfl ?_
    show Steps p.tables e below (T16.setTop (mkF m 129 #[rv o0, rv o0, iv i0, rv b3_2_5_16, oJ (fme j0 j1), oS, oJ (fme j0 j1), oS, oJ ((fme j0 j1) + (fme j0 j1)), oS] [(.ref o0)])) _
    refine XS.iloadN X16.here hx rfl (hb hby d13_129) rfl ?_
    show Steps p.tables e below (T16.setTop (mkF m 130 #[rv o0, rv o0, iv i0, rv b3_2_5_16, oJ (fme j0 j1), oS, oJ (fme j0 j1), oS, oJ ((fme j0 j1) + (fme j0 j1)), oS] [(.int i0), (.ref o0)])) _
    refine XS.ifYes X16.here hx rfl (pc0 := 130) (pc' := 144) rfl (hb hby d13_130) rfl ((if0 _ _).trans (teq hp1).1) (by decide) (by decide) ?_
    show Steps p.tables e below (T16.setTop (mkF m 144 #[rv o0, rv o0, iv i0, rv b3_2_5_16, oJ (fme j0 j1), oS, oJ (fme j0 j1), oS, oJ ((fme j0 j1) + (fme j0 j1)), oS] [(.ref o0)])) _
    refine XS.aloadN X16.here hx rfl (hb hby d13_144) rfl rfl ?_
    show Steps p.tables e below (T16.setTop (mkF m 145 #[rv o0, rv o0, iv i0, rv b3_2_5_16, oJ (fme j0 j1), oS, oJ (fme j0 j1), oS, oJ ((fme j0 j1) + (fme j0 j1)), oS] [(.ref o0), (.ref o0)])) _
    exact k
  refine own_cc (own_callV X16 hx hZ (y := (⟨"com/example/exfactor/exfactor/core/MutableFigure", "toBigDecimal", "()Ljava/math/BigDecimal;"⟩ : MethodName)) (z := (⟨"com/example/exfactor/exfactor/core/MutableFigure", "toBigDecimal", "()Ljava/math/BigDecimal;"⟩ : MethodName)) hown (hw _ (List.mem_of_getElem? (i := 71) rfl)) (hw _ (List.mem_of_getElem? (i := 72) rfl)) (notFace_of_selects (args := #[]) (mvT hZ (hw _ (List.mem_of_getElem? (i := 74) rfl)))) (hw _ (List.mem_of_getElem? (i := 74) rfl)) (hw _ (List.mem_of_getElem? (i := 73) rfl)) (hw _ (List.mem_of_getElem? (i := 4) rfl)) (hw _ (List.mem_of_getElem? (i := 75) rfl)) (by decide) (rm15_13 l Z a0 hw [] o0 o2 o3 o4 o5 o6 o7 o8 o9 o10 o11 o12 o13 j0 (0 : Int32) k1 T16.heap n0 Z0 F_unscaled_o0 F_scale_o0 F_big_o0 V_o2 S_ZERO_THROUGH_TEN OZ (by decide : (0 : Int32) = (0 : Int32)) hp3 hp4 hp5) (rfl : T16.heap = _) 1 (by decide) (by decide) (by decide) (by decide) rfl (by rw [hml]; rfl) o0 E_o0 [] [(.ref o0)] rfl (lenOf pd_11 rfl) rfl (by show 2 * 0 + _ ≤ _; exact Nat.le_of_eq rfl) (hb hby d13_145)) fun T18 L18 v18 X18 hQ18 => ?_
  obtain ⟨b3_2_5_18, rfl, N18, K18, E_b3_2_5_18', F_scale_b3_2_5_18', F_precision_b3_2_5_18', F_intCompact_b3_2_5_18', F_intVal_b3_2_5_18', sz_b3_2_5_18'⟩ := hQ18
  replace N0 := Fr.app N0 N18
  have g_b3_2_5_18 : n0 ≤ b3_2_5_18 := Nat.le_trans Z0 sz_b3_2_5_18'
  have sz_b3_2_5_18 : h0.size ≤ b3_2_5_18 := Nat.le_trans K0.1 sz_b3_2_5_18'
  have ne_o0_b3_2_5_18 : o0 ≠ b3_2_5_18 := Nat.ne_of_lt (Nat.lt_of_lt_of_le E_o0.lt sz_b3_2_5_18')
  have ne_o1_b3_2_5_18 : o1 ≠ b3_2_5_18 := Nat.ne_of_lt (Nat.lt_of_lt_of_le V_o1.lt sz_b3_2_5_18')
  have ne_o2_b3_2_5_18 : o2 ≠ b3_2_5_18 := Nat.ne_of_lt (Nat.lt_of_lt_of_le V_o2.lt sz_b3_2_5_18')
  have ne_b3_2_5_16_b3_2_5_18 : b3_2_5_16 ≠ b3_2_5_18 := Nat.ne_of_lt (Nat.lt_of_lt_of_le E_b3_2_5_16.lt sz_b3_2_5_18')
  replace E_o0 := E_o0.keep K18
  replace F_unscaled_o0 := F_unscaled_o0.keep K18 nin0
  replace F_scale_o0 := F_scale_o0.keep K18 nin0
  replace F_big_o0 := F_big_o0.keep K18 nin0
  replace V_o1 := V_o1.keep K18 nin0
  replace V_o2 := V_o2.keep K18 nin0
  replace E_b3_2_5_16 := E_b3_2_5_16.keep K18
  replace F_scale_b3_2_5_16 := F_scale_b3_2_5_16.keep K18 nin0
  replace F_precision_b3_2_5_16 := F_precision_b3_2_5_16.keep K18 nin0
  replace F_intCompact_b3_2_5_16 := F_intCompact_b3_2_5_16.keep K18 nin0
  replace F_intVal_b3_2_5_16 := F_intVal_b3_2_5_16.keep K18 nin0
  replace OZ := OZ.keep K18 all0
  replace K0 := K0.trans K18 all0
  replace Z0 := Nat.le_trans Z0 K18.1
  have E_b3_2_5_18 := E_b3_2_5_18'
  have F_scale_b3_2_5_18 := F_scale_b3_2_5_18'
  have F_precision_b3_2_5_18 := F_precision_b3_2_5_18'
  have F_intCompact_b3_2_5_18 := F_intCompact_b3_2_5_18'
  have F_intVal_b3_2_5_18 := F_intVal_b3_2_5_18'
  show own_Go p e below _ (T18.setTop (mkF m 148 #[rv o0, rv o0, iv i0, rv b3_2_5_16, oJ (fme j0 j1), oS, oJ (fme j0 j1), oS, oJ ((fme j0 j1) + (fme j0 j1)), oS] [(.ref b3_2_5_18), (.ref o0)]))
  refine own_by (B := T18.setTop (mkF m 149 #[rv o0, rv o0, iv i0, rv b3_2_5_16, oJ (fme j0 j1), oS, oJ (fme j0 j1), oS, oJ ((fme j0 j1) + (fme j0 j1)), oS] [(.ref b3_2_5_16), (.ref b3_2_5_18), (.ref o0)])) (fun t k => ?_) ?_
  · show Steps p.tables e below (T18.setTop (mkF m 148 #[rv o0, rv o0, iv i0, rv b3_2_5_16, oJ (fme j0 j1), oS, oJ (fme j0 j1), oS, oJ ((fme j0 j1) + (fme j0 j1)), oS] [(.ref b3_2_5_18), (.ref o0)])) _
    refine XS.aloadN X18.here hx rfl (hb hby d13_148) rfl rfl ?_
    show Steps p.tables e below (T18.setTop (mkF m 149 #[rv o0, rv o0, iv i0, rv b3_2_5_16, oJ (fme j0 j1), oS, oJ (fme j0 j1), oS, oJ ((fme j0 j1) + (fme j0 j1)), oS] [(.ref b3_2_5_16), (.ref b3_2_5_18), (.ref o0)])) _
    exact k
  refine own_cc (own_callV X18 hx hZ (y := (⟨"java/math/BigDecimal", "add", "(Ljava/math/BigDecimal;)Ljava/math/BigDecimal;"⟩ : MethodName)) (z := (⟨"java/math/BigDecimal", "add", "(Ljava/math/BigDecimal;)Ljava/math/BigDecimal;"⟩ : MethodName)) hown (hw _ (List.mem_of_getElem? (i := 106) rfl)) (hw _ (List.mem_of_getElem? (i := 107) rfl)) (notFace_of_selects (args := #[]) (mvT hZ (hw _ (List.mem_of_getElem? (i := 109) rfl)))) (hw _ (List.mem_of_getElem? (i := 109) rfl)) (hw _ (List.mem_of_getElem? (i := 108) rfl)) (hw _ (List.mem_of_getElem? (i := 78) rfl)) (hw _ (List.mem_of_getElem? (i := 110) rfl)) (by decide) (rm20_23 l Z a0 hw [] b3_2_5_18 b3_2_5_16 (0 : Int32) j0 (0 : Int32) T18.heap n0 Z0 F_scale_b3_2_5_18 F_intCompact_b3_2_5_18 F_scale_b3_2_5_16 F_intCompact_b3_2_5_16 hMB OZ hp5 (by decide : (0 : Int64) = (0 : Int64)) hp6 hp7 hp8 hp9 hp3 hp10 hp11 hp12 hp13 hp14) (rfl : T18.heap = _) 1 (by decide) (by decide) (by decide) (by decide) rfl (by rw [hml]; rfl) b3_2_5_18 E_b3_2_5_18 [(.ref b3_2_5_16)] [(.ref o0)] rfl (lenOf pd_15 rfl) rfl (by show 2 * 0 + _ ≤ _; exact Nat.le_of_eq rfl) (hb hby d13_149)) fun T20 L20 v20 X20 hQ20 => ?_
  obtain ⟨b3_2_8_20, b5_7_2_8_20, b2_10_7_2_8_20, k2_10_7_2_8_20, rfl, N20, K20, E_b3_2_8_20', F_scale_b3_2_8_20', F_precision_b3_2_8_20', F_intCompact_b3_2_8_20', F_intVal_b3_2_8_20', E_b5_7_2_8_20', F_signum_b5_7_2_8_20', F_mag_b5_7_2_8_20', V_b2_10_7_2_8_20', sz_b3_2_8_20', sz_b5_7_2_8_20', sz_b2_10_7_2_8_20', ne_b3_2_8_20_b5_7_2_8_20', ne_b3_2_8_20_b2_10_7_2_8_20', ne_b5_7_2_8_20_b2_10_7_2_8_20'⟩ := hQ20
  replace N0 := Fr.app N0 N20
  have g_b3_2_8_20 : n0 ≤ b3_2_8_20 := Nat.le_trans Z0 sz_b3_2_8_20'
  have sz_b3_2_8_20 : h0.size ≤ b3_2_8_20 := Nat.le_trans K0.1 sz_b3_2_8_20'
  have ne_o0_b3_2_8_20 : o0 ≠ b3_2_8_20 := Nat.ne_of_lt (Nat.lt_of_lt_of_le E_o0.lt sz_b3_2_8_20')
  have ne_o1_b3_2_8_20 : o1 ≠ b3_2_8_20 := Nat.ne_of_lt (Nat.lt_of_lt_of_le V_o1.lt sz_b3_2_8_20')
  have ne_o2_b3_2_8_20 : o2 ≠ b3_2_8_20 := Nat.ne_of_lt (Nat.lt_of_lt_of_le V_o2.lt sz_b3_2_8_20')
  have ne_b3_2_5_16_b3_2_8_20 : b3_2_5_16 ≠ b3_2_8_20 := Nat.ne_of_lt (Nat.lt_of_lt_of_le E_b3_2_5_16.lt sz_b3_2_8_20')
  have ne_b3_2_5_18_b3_2_8_20 : b3_2_5_18 ≠ b3_2_8_20 := Nat.ne_of_lt (Nat.lt_of_lt_of_le E_b3_2_5_18.lt sz_b3_2_8_20')
  have g_b5_7_2_8_20 : n0 ≤ b5_7_2_8_20 := Nat.le_trans Z0 sz_b5_7_2_8_20'
  have sz_b5_7_2_8_20 : h0.size ≤ b5_7_2_8_20 := Nat.le_trans K0.1 sz_b5_7_2_8_20'
  have ne_o0_b5_7_2_8_20 : o0 ≠ b5_7_2_8_20 := Nat.ne_of_lt (Nat.lt_of_lt_of_le E_o0.lt sz_b5_7_2_8_20')
  have ne_o1_b5_7_2_8_20 : o1 ≠ b5_7_2_8_20 := Nat.ne_of_lt (Nat.lt_of_lt_of_le V_o1.lt sz_b5_7_2_8_20')
  have ne_o2_b5_7_2_8_20 : o2 ≠ b5_7_2_8_20 := Nat.ne_of_lt (Nat.lt_of_lt_of_le V_o2.lt sz_b5_7_2_8_20')
  have ne_b3_2_5_16_b5_7_2_8_20 : b3_2_5_16 ≠ b5_7_2_8_20 := Nat.ne_of_lt (Nat.lt_of_lt_of_le E_b3_2_5_16.lt sz_b5_7_2_8_20')
  have ne_b3_2_5_18_b5_7_2_8_20 : b3_2_5_18 ≠ b5_7_2_8_20 := Nat.ne_of_lt (Nat.lt_of_lt_of_le E_b3_2_5_18.lt sz_b5_7_2_8_20')
  have g_b2_10_7_2_8_20 : n0 ≤ b2_10_7_2_8_20 := Nat.le_trans Z0 sz_b2_10_7_2_8_20'
  have sz_b2_10_7_2_8_20 : h0.size ≤ b2_10_7_2_8_20 := Nat.le_trans K0.1 sz_b2_10_7_2_8_20'
  have ne_o0_b2_10_7_2_8_20 : o0 ≠ b2_10_7_2_8_20 := Nat.ne_of_lt (Nat.lt_of_lt_of_le E_o0.lt sz_b2_10_7_2_8_20')
  have ne_o1_b2_10_7_2_8_20 : o1 ≠ b2_10_7_2_8_20 := Nat.ne_of_lt (Nat.lt_of_lt_of_le V_o1.lt sz_b2_10_7_2_8_20')
  have ne_o2_b2_10_7_2_8_20 : o2 ≠ b2_10_7_2_8_20 := Nat.ne_of_lt (Nat.lt_of_lt_of_le V_o2.lt sz_b2_10_7_2_8_20')
  have ne_b3_2_5_16_b2_10_7_2_8_20 : b3_2_5_16 ≠ b2_10_7_2_8_20 := Nat.ne_of_lt (Nat.lt_of_lt_of_le E_b3_2_5_16.lt sz_b2_10_7_2_8_20')
  have ne_b3_2_5_18_b2_10_7_2_8_20 : b3_2_5_18 ≠ b2_10_7_2_8_20 := Nat.ne_of_lt (Nat.lt_of_lt_of_le E_b3_2_5_18.lt sz_b2_10_7_2_8_20')
  replace E_o0 := E_o0.keep K20
  replace F_unscaled_o0 := F_unscaled_o0.keep K20 nin0
  replace F_scale_o0 := F_scale_o0.keep K20 nin0
  replace F_big_o0 := F_big_o0.keep K20 nin0
  replace V_o1 := V_o1.keep K20 nin0
  replace V_o2 := V_o2.keep K20 nin0
  replace E_b3_2_5_16 := E_b3_2_5_16.keep K20
  replace F_scale_b3_2_5_16 := F_scale_b3_2_5_16.keep K20 nin0
  replace F_precision_b3_2_5_16 := F_precision_b3_2_5_16.keep K20 nin0
  replace F_intCompact_b3_2_5_16 := F_intCompact_b3_2_5_16.keep K20 nin0
  replace F_intVal_b3_2_5_16 := F_intVal_b3_2_5_16.keep K20 nin0
  replace E_b3_2_5_18 := E_b3_2_5_18.keep K20
  replace F_scale_b3_2_5_18 := F_scale_b3_2_5_18.keep K20 nin0
  replace F_precision_b3_2_5_18 := F_precision_b3_2_5_18.keep K20 nin0
  replace F_intCompact_b3_2_5_18 := F_intCompact_b3_2_5_18.keep K20 nin0
  replace F_intVal_b3_2_5_18 := F_intVal_b3_2_5_18.keep K20 nin0
  replace OZ := OZ.keep K20 all0
  replace K0 := K0.trans K20 all0
  replace Z0 := Nat.le_trans Z0 K20.1
  have E_b3_2_8_20 := E_b3_2_8_20'
  have F_scale_b3_2_8_20 := F_scale_b3_2_8_20'
  have F_precision_b3_2_8_20 := F_precision_b3_2_8_20'
  have F_intCompact_b3_2_8_20 := F_intCompact_b3_2_8_20'
  have F_intVal_b3_2_8_20 := F_intVal_b3_2_8_20'
  have E_b5_7_2_8_20 := E_b5_7_2_8_20'
  have F_signum_b5_7_2_8_20 := F_signum_b5_7_2_8_20'
  have F_mag_b5_7_2_8_20 := F_mag_b5_7_2_8_20'
  have V_b2_10_7_2_8_20 := V_b2_10_7_2_8_20'
  have ne_b3_2_8_20_b5_7_2_8_20 := ne_b3_2_8_20_b5_7_2_8_20'
  have ne_b3_2_8_20_b2_10_7_2_8_20 := ne_b3_2_8_20_b2_10_7_2_8_20'
  have ne_b5_7_2_8_20_b2_10_7_2_8_20 := ne_b5_7_2_8_20_b2_10_7_2_8_20'
  show own_Go p e below _ (T20.setTop (mkF m 152 #[rv o0, rv o0, iv i0, rv b3_2_5_16, oJ (fme j0 j1), oS, oJ (fme j0 j1), oS, oJ ((fme j0 j1) + (fme j0 j1)), oS] [(.ref b3_2_8_20), (.ref o0)]))
  refine own_c2 (putF X20 hx hZ hown (host := "") (Or.inl (hw _ (List.mem_of_getElem? (i := 20) rfl))) Via.refl rfl F_big_o0 E_o0 (Or.inl (hw _ (List.mem_of_getElem? (i := 21) rfl))) (hw _ (List.mem_of_getElem? (i := 3) rfl)) (ty := (.object "java/math/BigDecimal")) (by decide) rfl rfl rfl rfl (hb hby d13_152)) fun T21 h21 X21 e21 W21 => ?_
  replace F_big_o0 := F_big_o0.same W21
  have nx1 : o1 ≠ o0 := (Ne.symm (own_nev E_o0 (hw _ (List.mem_of_getElem? (i := 3) rfl)) V_o1))
  have nx2 : o2 ≠ o0 := (Ne.symm (own_nev E_o0 (hw _ (List.mem_of_getElem? (i := 3) rfl)) V_o2))
  replace E_o0 := E_o0.wr W21
  replace F_unscaled_o0 := F_unscaled_o0.other W21 (Or.inr (sn4 hw))
  replace F_scale_o0 := F_scale_o0.other W21 (Or.inr (sn5 hw))
  replace V_o1 := V_o1.other W21 nx1
  replace V_o2 := V_o2.other W21 nx2
  replace E_b3_2_5_16 := E_b3_2_5_16.wr W21
  replace F_scale_b3_2_5_16 := F_scale_b3_2_5_16.other W21 (Or.inl (Ne.symm ne_o0_b3_2_5_16))
  replace F_precision_b3_2_5_16 := F_precision_b3_2_5_16.other W21 (Or.inl (Ne.symm ne_o0_b3_2_5_16))
  replace F_intCompact_b3_2_5_16 := F_intCompact_b3_2_5_16.other W21 (Or.inl (Ne.symm ne_o0_b3_2_5_16))
  replace F_intVal_b3_2_5_16 := F_intVal_b3_2_5_16.other W21 (Or.inl (Ne.symm ne_o0_b3_2_5_16))
  replace E_b3_2_5_18 := E_b3_2_5_18.wr W21
  replace F_scale_b3_2_5_18 := F_scale_b3_2_5_18.other W21 (Or.inl (Ne.symm ne_o0_b3_2_5_18))
  replace F_precision_b3_2_5_18 := F_precision_b3_2_5_18.other W21 (Or.inl (Ne.symm ne_o0_b3_2_5_18))
  replace F_intCompact_b3_2_5_18 := F_intCompact_b3_2_5_18.other W21 (Or.inl (Ne.symm ne_o0_b3_2_5_18))
  replace F_intVal_b3_2_5_18 := F_intVal_b3_2_5_18.other W21 (Or.inl (Ne.symm ne_o0_b3_2_5_18))
  replace E_b3_2_8_20 := E_b3_2_8_20.wr W21
  replace F_scale_b3_2_8_20 := F_scale_b3_2_8_20.other W21 (Or.inl (Ne.symm ne_o0_b3_2_8_20))
  replace F_precision_b3_2_8_20 := F_precision_b3_2_8_20.other W21 (Or.inl (Ne.symm ne_o0_b3_2_8_20))
  replace F_intCompact_b3_2_8_20 := F_intCompact_b3_2_8_20.other W21 (Or.inl (Ne.symm ne_o0_b3_2_8_20))
  replace F_intVal_b3_2_8_20 := F_intVal_b3_2_8_20.other W21 (Or.inl (Ne.symm ne_o0_b3_2_8_20))
  replace E_b5_7_2_8_20 := E_b5_7_2_8_20.wr W21
  replace F_signum_b5_7_2_8_20 := F_signum_b5_7_2_8_20.other W21 (Or.inl (Ne.symm ne_o0_b5_7_2_8_20))
  replace F_mag_b5_7_2_8_20 := F_mag_b5_7_2_8_20.other W21 (Or.inl (Ne.symm ne_o0_b5_7_2_8_20))
  replace V_b2_10_7_2_8_20 := V_b2_10_7_2_8_20.other W21 (Ne.symm ne_o0_b2_10_7_2_8_20)
  replace OZ := OZ.wr W21 g_o0
  replace K0 := K0.wr W21 (Or.inl (List.mem_of_getElem? (i := 0) rfl))
  replace Z0 := Nat.le_trans Z0 (Keep.of_wr W21).1
  replace N0 := Fr.snoc X21 N0 g_o0
  show own_Go p e below _ (T21.setTop (mkF m 155 #[rv o0, rv o0, iv i0, rv b3_2_5_16, oJ (fme j0 j1), oS, oJ (fme j0 j1), oS, oJ ((fme j0 j1) + (fme j0 j1)), oS] []))
  exact own_retV X21 Bd.notSynchronized hx Bd.returns (hb hby d13_155) (by
      rw [show T21.heap = h21 from e21]
      exact ⟨b3_2_8_20, b5_7_2_8_20, b2_10_7_2_8_20, k2_10_7_2_8_20, rfl, N0, K0, E_o0, F_unscaled_o0, F_scale_o0, F_big_o0, E_b3_2_8_20, F_scale_b3_2_8_20, F_precision_b3_2_8_20, F_intCompact_b3_2_8_20, F_intVal_b3_2_8_20, E_b5_7_2_8_20, F_signum_b5_7_2_8_20, F_mag_b5_7_2_8_20, V_b2_10_7_2_8_20, sz_b3_2_8_20, sz_b5_7_2_8_20, sz_b2_10_7_2_8_20, ne_b3_2_8_20_b5_7_2_8_20, ne_b3_2_8_20_b2_10_7_2_8_20, ne_b5_7_2_8_20_b2_10_7_2_8_20⟩) (by decide) (by decide)

theorem d12_0 : decode prog_7_method_10_code 0 = .ok (.aload_n 0, 1) := by decide +kernel
theorem d12_1 : decode prog_7_method_10_code 1 = .ok (.aload_n 1, 1) := by decide +kernel
theorem d12_2 : decode prog_7_method_10_code 2 = .ok (.iconst 0, 1) := by decide +kernel
theorem d12_3 : decode prog_7_method_10_code 3 = .ok (.invokevirtual 73, 3) := by decide +kernel
theorem d12_6 : decode prog_7_method_10_code 6 = .ok (.return_, 1) := by decide +kernel
theorem pn_12 : plainName "com/example/exfactor/exfactor/core/MutableFigure" = true := by first | (simp [plainName, overriddenIn]; done) | decide +kernel
theorem pd_9 : parseMethodDescriptor "(Lcom/example/exfactor/exfactor/core/MutableFigure;Z)V" = some ⟨[(.object "com/example/exfactor/exfactor/core/MutableFigure"), .boolean], none⟩ := by decide +kernel
theorem ef_12 (m : MethodId) (x0 : Addr) (x1 : Addr) : entryFrame m #[(.ref x0), (.ref x1)] 2 = mkF m 0 #[rv x0, rv x1] [] := by first | (simp [entryFrame, mkF, argsToLocals, Value.category]; done) | rfl
def Q12_25 (Z : State) (o0 : Addr) (o1 : Addr) (o2 : Addr) (o3 : Addr) (o4 : Addr) (o5 : Addr) (o6 : Addr) (o7 : Addr) (o8 : Addr) (o9 : Addr) (o10 : Addr) (o11 : Addr) (o12 : Addr) (o13 : Addr) (j0 : Int64) (k0 : ClassId) (j1 : Int64) (j2 : Int64) (j3 : Int64) (j4 : Int64) (j5 : Int64) (j6 : Int64) (j7 : Int64) (j8 : Int64) (j9 : Int64) (j10 : Int64) (j11 : Int64) (j12 : Int64) (j13 : Int64) (j14 : Int64) (j15 : Int64) (j16 : Int64) (j17 : Int64) (j18 : Int64) (j19 : Int64) (k1 : ClassId) (h0 : Heap) (n0 : Nat) (v : Option Value) (h : Heap) (L : List Loc) : Prop := ∃ b3_2_8_20_2 : Addr, ∃ b5_7_2_8_20_2 : Addr, ∃ b2_10_7_2_8_20_2 : Addr, ∃ k2_10_7_2_8_20_2 : ClassId, v = none ∧ Fr n0 L ∧ Keep h0 h [o0] ∧ Exa Z h o0 "com/example/exfactor/exfactor/core/MutableFigure" ∧ Fld Z h o0 "com/example/exfactor/exfactor/core/MutableFigure" "unscaled" "J" (.long j0) ∧ Fld Z h o0 "com/example/exfactor/exfactor/core/MutableFigure" "scale" "I" (.int (0 : Int32)) ∧ Fld Z h o0 "com/example/exfactor/exfactor/core/MutableFigure" "big" "Ljava/math/BigDecimal;" (.ref b3_2_8_20_2) ∧ Exa Z h b3_2_8_20_2 "java/math/BigDecimal" ∧ Fld Z h b3_2_8_20_2 "java/math/BigDecimal" "scale" "I" (.int (0 : Int32)) ∧ Fld Z h b3_2_8_20_2 "java/math/BigDecimal" "precision" "I" (.int (0 : Int32)) ∧ Fld Z h b3_2_8_20_2 "java/math/BigDecimal" "intCompact" "J" (.long (-9223372036854775808 : Int64)) ∧ Fld Z h b3_2_8_20_2 "java/math/BigDecimal" "intVal" "Ljava/math/BigInteger;" (.ref b5_7_2_8_20_2) ∧ Exa Z h b5_7_2_8_20_2 "java/math/BigInteger" ∧ Fld Z h b5_7_2_8_20_2 "java/math/BigInteger" "signum" "I" (.int (1 : Int32)) ∧ Fld Z h b5_7_2_8_20_2 "java/math/BigInteger" "mag" "[I" (.ref b2_10_7_2_8_20_2) ∧ Arv Z h b2_10_7_2_8_20_2 k2_10_7_2_8_20_2 .int (2 : Int32) [(.int ((((((((j0.toUInt64 >>> (32 : Int32).toInt64.toUInt64).toInt64).toInt32).toInt64) &&& (4294967295 : Int64)) + ((((((fabs j0).toUInt64 >>> (32 : Int32).toInt64.toUInt64).toInt64).toInt32).toInt64) &&& (4294967295 : Int64))) + ((((((j0.toInt32).toInt64) &&& (4294967295 : Int64)) + ((fabs j0) &&& (4294967295 : Int64))).toUInt64 >>> (32 : Int32).toInt64.toUInt64).toInt64)).toInt32)), (.int (((((j0.toInt32).toInt64) &&& (4294967295 : Int64)) + ((fabs j0) &&& (4294967295 : Int64))).toInt32))] (.int (0 : Int32)) ∧ h0.size ≤ b3_2_8_20_2 ∧ h0.size ≤ b5_7_2_8_20_2 ∧ h0.size ≤ b2_10_7_2_8_20_2 ∧ b3_2_8_20_2 ≠ b5_7_2_8_20_2 ∧ b3_2_8_20_2 ≠ b2_10_7_2_8_20_2 ∧ b5_7_2_8_20_2 ≠ b2_10_7_2_8_20_2
set_option maxRecDepth 65536 in
set_option maxHeartbeats 40000000 in
theorem rm12_25 (l : Launch) (Z : State) (a0 : Array Value) (hw : ∀ d ∈ tables_1, d.before a0 Z = true) (ws : List Jvm.Cond) (o0 : Addr) (o1 : Addr) (o2 : Addr) (o3 : Addr) (o4 : Addr) (o5 : Addr) (o6 : Addr) (o7 : Addr) (o8 : Addr) (o9 : Addr) (o10 : Addr) (o11 : Addr) (o12 : Addr) (o13 : Addr) (j0 : Int64) (k0 : ClassId) (j1 : Int64) (j2 : Int64) (j3 : Int64) (j4 : Int64) (j5 : Int64) (j6 : Int64) (j7 : Int64) (j8 : Int64) (j9 : Int64) (j10 : Int64) (j11 : Int64) (j12 : Int64) (j13 : Int64) (j14 : Int64) (j15 : Int64) (j16 : Int64) (j17 : Int64) (j18 : Int64) (j19 : Int64) (k1 : ClassId) (h0 : Heap) (n0 : Nat) (Z0 : n0 ≤ h0.size) (g_o0 : n0 ≤ o0) (E_o0 : Exa Z h0 o0 "com/example/exfactor/exfactor/core/MutableFigure") (F_unscaled_o0 : Fld Z h0 o0 "com/example/exfactor/exfactor/core/MutableFigure" "unscaled" "J" (.long j0)) (F_scale_o0 : Fld Z h0 o0 "com/example/exfactor/exfactor/core/MutableFigure" "scale" "I" (.int (0 : Int32))) (F_big_o0 : Fld Z h0 o0 "com/example/exfactor/exfactor/core/MutableFigure" "big" "Ljava/math/BigDecimal;" .null) (V_o1 : Arv Z h0 o1 k0 .long (19 : Int32) [(.long j1), (.long j2), (.long j3), (.long j4), (.long j5), (.long j6), (.long j7), (.long j8), (.long j9), (.long j10), (.long j11), (.long j12), (.long j13), (.long j14), (.long j15), (.long j16), (.long j17), (.long j18), (.long j19)] (.long (0 : Int64))) (V_o2 : Arv Z h0 o2 k1 (.object "java/math/BigDecimal") (11 : Int32) [(.ref o3), (.ref o4), (.ref o5), (.ref o6), (.ref o7), (.ref o8), (.ref o9), (.ref o10), (.ref o11), (.ref o12), (.ref o13)] .null) (S_POWERS_OF_TEN : Sta Z Z.heap "com/example/exfactor/exfactor/core/MutableFigure" "POWERS_OF_TEN" "[J" (.ref o1)) (S_ZERO_THROUGH_TEN : Sta Z Z.heap "java/math/BigDecimal" "ZERO_THROUGH_TEN" "[Ljava/math/BigDecimal;" (.ref o2)) (hMB : own_MB Z) (OZ : Old Z n0 h0) (hp0 : ¬ ((fme j0 j1) = (-9223372036854775808 : Int64))) (hp1 : (((fme j0 j1) ^^^ ((fme j0 j1) + (fme j0 j1))) &&& ((fme j0 j1) ^^^ ((fme j0 j1) + (fme j0 j1)))) < (0 : Int64)) (hp2 : ¬ (j0 < (0 : Int64))) (hp3 : ¬ (j0 < (11 : Int64))) (hp4 : ¬ (j0 = (-9223372036854775808 : Int64))) (hp5 : (fadd2 j0 j0) = (-9223372036854775808 : Int64)) (hp6 : ¬ (j0 = (0 : Int64))) (hp7 : (0 : Int64) < j0) (hp8 : (16 : Int64) < j0) (hp9 : ¬ ((((j0.toUInt64 >>> (32 : Int32).toInt64.toUInt64).toInt64).toInt32) = (0 : Int32))) (hp10 : (fsgn j0) = (1 : Int32)) (hp11 : ¬ (((((fabs j0).toUInt64 >>> (32 : Int32).toInt64.toUInt64).toInt64).toInt32) = (0 : Int32))) (hp12 : (((((((((j0.toUInt64 >>> (32 : Int32).toInt64.toUInt64).toInt64).toInt32).toInt64) &&& (4294967295 : Int64)) + ((((((fabs j0).toUInt64 >>> (32 : Int32).toInt64.toUInt64).toInt64).toInt32).toInt64) &&& (4294967295 : Int64))) + ((((((j0.toInt32).toInt64) &&& (4294967295 : Int64)) + ((fabs j0) &&& (4294967295 : Int64))).toUInt64 >>> (32 : Int32).toInt64.toUInt64).toInt64)).toUInt64 >>> (32 : Int32).toInt64.toUInt64).toInt64) = (0 : Int64)) (hp13 : ((((((((j0.toUInt64 >>> (32 : Int32).toInt64.toUInt64).toInt64).toInt32).toInt64) &&& (4294967295 : Int64)) + ((((((fabs j0).toUInt64 >>> (32 : Int32).toInt64.toUInt64).toInt64).toInt32).toInt64) &&& (4294967295 : Int64))) + ((((((j0.toInt32).toInt64) &&& (4294967295 : Int64)) + ((fabs j0) &&& (4294967295 : Int64))).toUInt64 >>> (32 : Int32).toInt64.toUInt64).toInt64)).toInt32) < (0 : Int32)) :
    MetFree l (⟨"com/example/exfactor/exfactor/core/MutableFigure", "add", "(Lcom/example/exfactor/exfactor/core/MutableFigure;)V"⟩ : MethodName) (head1 (Jvm.Cond.code (⟨"com/example/exfactor/exfactor/core/MutableFigure", "add", "(Lcom/example/exfactor/exfactor/core/MutableFigure;)V"⟩ : MethodName) prog_7_method_10_code 2 none :: ws) ({ frames := 8, cells := 7, slots := 31, locals := 168 } : Room)) (fun a U => a = #[(.ref o0), (.ref o0)] ∧ Z.Warmed39 U.vm ∧ U.heap = h0) (fun _ _ _ _ _ => True) (fun _ U o U' => ∃ v L, o = .returned v ∧ Q12_25 Z o0 o1 o2 o3 o4 o5 o6 o7 o8 o9 o10 o11 o12 o13 j0 k0 j1 j2 j3 j4 j5 j6 j7 j8 j9 j10 j11 j12 j13 j14 j15 j16 j17 j18 j19 k1 h0 n0 v U'.heap L ∧ FrameEnd U o U' L ({ frames := 8, cells := 7, slots := 31, locals := 168 } : Room).cells ({ frames := 8, cells := 7, slots := 31, locals := 168 } : Room).slots) := by
  refine MetFree.of_bodySF (plainFor_of_name pn_12) hisR ?_
  intro p e s m args below meth c s₁ Bd hml0 hP hK
  obtain ⟨rfl, hZ, hh⟩ := hP
  have hx := Bd.exec
  have hby := Bd.bytes
  have hml : c.maxLocals = 2 := hml0
  have hown : s.vm.findClass "com/example/exfactor/exfactor/core/MutableFigure" = some m.cls := findClass_of_methodNamed Bd.named
  have hnm := (name_of_methodNamed Bd.named Bd.method).1
  have X0 : Stand p l e ({ frames := 8, cells := 7, slots := 31, locals := 168 } : Room) s m #[(.ref o0), (.ref o0)] below meth c s₁ [] 0 0 := Stand.of_body Bd
  have e0 : s₁.heap = h0 := by rw [← hh, Bd.state]; rfl
  have N0 := Fr.nil n0
  have K0 : Keep h0 h0 [o0] := Keep.refl h0 _
  change own_Go p e below (own_Post s (Q12_25 Z o0 o1 o2 o3 o4 o5 o6 o7 o8 o9 o10 o11 o12 o13 j0 k0 j1 j2 j3 j4 j5 j6 j7 j8 j9 j10 j11 j12 j13 j14 j15 j16 j17 j18 j19 k1 h0 n0) ({ frames := 8, cells := 7, slots := 31, locals := 168 } : Room).cells ({ frames := 8, cells := 7, slots := 31, locals := 168 } : Room).slots) (s₁.setTop (entryFrame m #[(.ref o0), (.ref o0)] 2))
  refine own_by (fun t k => castTop (ef_12 m o0 o0) k) ?_
  show own_Go p e below _ (s₁.setTop (mkF m 0 #[rv o0, rv o0] []))
  refine own_by (B := s₁.setTop (mkF m 3 #[rv o0, rv o0] [(.int (0 : Int32)), (.ref o0), (.ref o0)])) (fun t k => ?_) ?_
  · show Steps p.tables e below (s₁.setTop (mkF m 0 #[rv o0, rv o0] [])) _
    refine XS.aloadN X0.here hx rfl (hb hby d12_0) rfl rfl ?_
    show Steps p.tables e below (s₁.setTop (mkF m 1 #[rv o0, rv o0] [(.ref o0)])) _
    refine XS.aloadN X0.here hx rfl (hb hby d12_1) rfl rfl ?_
    show Steps p.tables e below (s₁.setTop (mkF m 2 #[rv o0, rv o0] [(.ref o0), (.ref o0)])) _
    refine XS.iconst X0.here hx rfl (hb hby d12_2) ?_
    show Steps p.tables e below (s₁.setTop (mkF m 3 #[rv o0, rv o0] [(.int (0 : Int32)), (.ref o0), (.ref o0)])) _
    exact k
  refine own_cc (own_callP X0 hx hZ (y := (⟨"com/example/exfactor/exfactor/core/MutableFigure", "add", "(Lcom/example/exfactor/exfactor/core/MutableFigure;Z)V"⟩ : MethodName)) hown (hw _ (List.mem_of_getElem? (i := 63) rfl)) (hw _ (List.mem_of_getElem? (i := 64) rfl)) (hw _ (List.mem_of_getElem? (i := 4) rfl)) (hw _ (List.mem_of_getElem? (i := 66) rfl)) (hw _ (List.mem_of_getElem? (i := 65) rfl)) (hw _ (List.mem_of_getElem? (i := 3) rfl)) (by decide) (rm13_24 l Z a0 hw [] o0 (0 : Int32) o1 o2 o3 o4 o5 o6 o7 o8 o9 o10 o11 o12 o13 j0 k0 j1 j2 j3 j4 j5 j6 j7 j8 j9 j10 j11 j12 j13 j14 j15 j16 j17 j18 j19 k1 h0 n0 Z0 g_o0 E_o0 F_unscaled_o0 F_scale_o0 F_big_o0 V_o1 V_o2 S_POWERS_OF_TEN S_ZERO_THROUGH_TEN hMB OZ hp0 (by decide : (0 : Int32) = (0 : Int32)) hp1 hp2 hp3 hp4 hp5 hp6 hp7 hp8 hp9 hp10 hp11 hp12 hp13) e0 0 (by decide) (by decide) (by decide) (by decide) rfl (by rw [hml]; rfl) o0 E_o0 [(.ref o0), (.int (0 : Int32))] [] rfl (lenOf pd_9 rfl) rfl (by show 2 * 0 + _ ≤ _; exact Nat.le_of_eq rfl) (hb hby d12_3)) fun T2 L2 v2 X2 hQ2 => ?_
  obtain ⟨b3_2_8_20_2, b5_7_2_8_20_2, b2_10_7_2_8_20_2, k2_10_7_2_8_20_2, rfl, N2, K2, E_o0', F_unscaled_o0', F_scale_o0', F_big_o0', E_b3_2_8_20_2', F_scale_b3_2_8_20_2', F_precision_b3_2_8_20_2', F_intCompact_b3_2_8_20_2', F_intVal_b3_2_8_20_2', E_b5_7_2_8_20_2', F_signum_b5_7_2_8_20_2', F_mag_b5_7_2_8_20_2', V_b2_10_7_2_8_20_2', sz_b3_2_8_20_2', sz_b5_7_2_8_20_2', sz_b2_10_7_2_8_20_2', ne_b3_2_8_20_2_b5_7_2_8_20_2', ne_b3_2_8_20_2_b2_10_7_2_8_20_2', ne_b5_7_2_8_20_2_b2_10_7_2_8_20_2'⟩ := hQ2
  replace N0 := Fr.app N0 N2
  have g_b3_2_8_20_2 : n0 ≤ b3_2_8_20_2 := Nat.le_trans Z0 sz_b3_2_8_20_2'
  have sz_b3_2_8_20_2 : h0.size ≤ b3_2_8_20_2 := Nat.le_trans K0.1 sz_b3_2_8_20_2'
  have ne_o0_b3_2_8_20_2 : o0 ≠ b3_2_8_20_2 := Nat.ne_of_lt (Nat.lt_of_lt_of_le E_o0.lt sz_b3_2_8_20_2')
  have ne_o1_b3_2_8_20_2 : o1 ≠ b3_2_8_20_2 := Nat.ne_of_lt (Nat.lt_of_lt_of_le V_o1.lt sz_b3_2_8_20_2')
  have ne_o2_b3_2_8_20_2 : o2 ≠ b3_2_8_20_2 := Nat.ne_of_lt (Nat.lt_of_lt_of_le V_o2.lt sz_b3_2_8_20_2')
  have g_b5_7_2_8_20_2 : n0 ≤ b5_7_2_8_20_2 := Nat.le_trans Z0 sz_b5_7_2_8_20_2'
  have sz_b5_7_2_8_20_2 : h0.size ≤ b5_7_2_8_20_2 := Nat.le_trans K0.1 sz_b5_7_2_8_20_2'
  have ne_o0_b5_7_2_8_20_2 : o0 ≠ b5_7_2_8_20_2 := Nat.ne_of_lt (Nat.lt_of_lt_of_le E_o0.lt sz_b5_7_2_8_20_2')
  have ne_o1_b5_7_2_8_20_2 : o1 ≠ b5_7_2_8_20_2 := Nat.ne_of_lt (Nat.lt_of_lt_of_le V_o1.lt sz_b5_7_2_8_20_2')
  have ne_o2_b5_7_2_8_20_2 : o2 ≠ b5_7_2_8_20_2 := Nat.ne_of_lt (Nat.lt_of_lt_of_le V_o2.lt sz_b5_7_2_8_20_2')
  have g_b2_10_7_2_8_20_2 : n0 ≤ b2_10_7_2_8_20_2 := Nat.le_trans Z0 sz_b2_10_7_2_8_20_2'
  have sz_b2_10_7_2_8_20_2 : h0.size ≤ b2_10_7_2_8_20_2 := Nat.le_trans K0.1 sz_b2_10_7_2_8_20_2'
  have ne_o0_b2_10_7_2_8_20_2 : o0 ≠ b2_10_7_2_8_20_2 := Nat.ne_of_lt (Nat.lt_of_lt_of_le E_o0.lt sz_b2_10_7_2_8_20_2')
  have ne_o1_b2_10_7_2_8_20_2 : o1 ≠ b2_10_7_2_8_20_2 := Nat.ne_of_lt (Nat.lt_of_lt_of_le V_o1.lt sz_b2_10_7_2_8_20_2')
  have ne_o2_b2_10_7_2_8_20_2 : o2 ≠ b2_10_7_2_8_20_2 := Nat.ne_of_lt (Nat.lt_of_lt_of_le V_o2.lt sz_b2_10_7_2_8_20_2')
  have nx1 : o1 ≠ o0 := (Ne.symm (own_nev E_o0 (hw _ (List.mem_of_getElem? (i := 3) rfl)) V_o1))
  have nx2 : o2 ≠ o0 := (Ne.symm (own_nev E_o0 (hw _ (List.mem_of_getElem? (i := 3) rfl)) V_o2))
  replace E_o0 := E_o0.keep K2
  replace V_o1 := V_o1.keep K2 (ninS nx1 nin0)
  replace V_o2 := V_o2.keep K2 (ninS nx2 nin0)
  replace OZ := OZ.keep K2 (allS g_o0 all0)
  replace K0 := K0.trans K2 (allS (Or.inl (List.mem_of_getElem? (i := 0) rfl)) all0)
  replace Z0 := Nat.le_trans Z0 K2.1
  replace E_o0 := E_o0'
  have F_unscaled_o0 := F_unscaled_o0'
  have F_scale_o0 := F_scale_o0'
  have F_big_o0 := F_big_o0'
  have E_b3_2_8_20_2 := E_b3_2_8_20_2'
  have F_scale_b3_2_8_20_2 := F_scale_b3_2_8_20_2'
  have F_precision_b3_2_8_20_2 := F_precision_b3_2_8_20_2'
  have F_intCompact_b3_2_8_20_2 := F_intCompact_b3_2_8_20_2'
  have F_intVal_b3_2_8_20_2 := F_intVal_b3_2_8_20_2'
  have E_b5_7_2_8_20_2 := E_b5_7_2_8_20_2'
  have F_signum_b5_7_2_8_20_2 := F_signum_b5_7_2_8_20_2'
  have F_mag_b5_7_2_8_20_2 := F_mag_b5_7_2_8_20_2'
  have V_b2_10_7_2_8_20_2 := V_b2_10_7_2_8_20_2'
  have ne_b3_2_8_20_2_b5_7_2_8_20_2 := ne_b3_2_8_20_2_b5_7_2_8_20_2'
  have ne_b3_2_8_20_2_b2_10_7_2_8_20_2 := ne_b3_2_8_20_2_b2_10_7_2_8_20_2'
  have ne_b5_7_2_8_20_2_b2_10_7_2_8_20_2 := ne_b5_7_2_8_20_2_b2_10_7_2_8_20_2'
  show own_Go p e below _ (T2.setTop (mkF m 6 #[rv o0, rv o0] []))
  exact own_retV X2 Bd.notSynchronized hx Bd.returns (hb hby d12_6) ⟨b3_2_8_20_2, b5_7_2_8_20_2, b2_10_7_2_8_20_2, k2_10_7_2_8_20_2, rfl, N0, K0, E_o0, F_unscaled_o0, F_scale_o0, F_big_o0, E_b3_2_8_20_2, F_scale_b3_2_8_20_2, F_precision_b3_2_8_20_2, F_intCompact_b3_2_8_20_2, F_intVal_b3_2_8_20_2, E_b5_7_2_8_20_2, F_signum_b5_7_2_8_20_2, F_mag_b5_7_2_8_20_2, V_b2_10_7_2_8_20_2, sz_b3_2_8_20_2, sz_b5_7_2_8_20_2, sz_b2_10_7_2_8_20_2, ne_b3_2_8_20_2_b5_7_2_8_20_2, ne_b3_2_8_20_2_b2_10_7_2_8_20_2, ne_b5_7_2_8_20_2_b2_10_7_2_8_20_2⟩ (by decide) (by decide)

def Q3_26 (Z : State) (o0 : Addr) (j0 : Int64) (i0 : Int32) (o3 : Addr) (j1 : Int64) (i1 : Int32) (h0 : Heap) (n0 : Nat) (v : Option Value) (h : Heap) (L : List Loc) : Prop := v = none ∧ Fr n0 L ∧ Keep h0 h [o0] ∧ Exa Z h o0 "com/example/exfactor/exfactor/core/MutableFigure" ∧ Fld Z h o0 "com/example/exfactor/exfactor/core/MutableFigure" "unscaled" "J" (.long j0) ∧ Fld Z h o0 "com/example/exfactor/exfactor/core/MutableFigure" "scale" "I" (.int i0) ∧ Fld Z h o0 "com/example/exfactor/exfactor/core/MutableFigure" "big" "Ljava/math/BigDecimal;" .null
set_option maxRecDepth 65536 in
set_option maxHeartbeats 40000000 in
theorem rm3_26 (l : Launch) (Z : State) (a0 : Array Value) (hw : ∀ d ∈ tables_1, d.before a0 Z = true) (ws : List Jvm.Cond) (o0 : Addr) (j0 : Int64) (i0 : Int32) (o3 : Addr) (j1 : Int64) (i1 : Int32) (h0 : Heap) (n0 : Nat) (Z0 : n0 ≤ h0.size) (g_o0 : n0 ≤ o0) (E_o0 : Exa Z h0 o0 "com/example/exfactor/exfactor/core/MutableFigure") (F_unscaled_o0 : Fld Z h0 o0 "com/example/exfactor/exfactor/core/MutableFigure" "unscaled" "J" (.long j1)) (F_scale_o0 : Fld Z h0 o0 "com/example/exfactor/exfactor/core/MutableFigure" "scale" "I" (.int i1)) (F_big_o0 : Fld Z h0 o0 "com/example/exfactor/exfactor/core/MutableFigure" "big" "Ljava/math/BigDecimal;" (.ref o3)) :
    MetFree l (⟨"com/example/exfactor/exfactor/core/MutableFigure", "set", "(JI)V"⟩ : MethodName) (head1 (Jvm.Cond.code (⟨"com/example/exfactor/exfactor/core/MutableFigure", "set", "(JI)V"⟩ : MethodName) prog_7_method_6_code 4 none :: ws) ({ frames := 0, cells := 0, slots := 0, locals := 0 } : Room)) (fun a U => a = #[(.ref o0), (.long j0), (.int i0)] ∧ Z.Warmed39 U.vm ∧ U.heap = h0) (fun _ _ _ _ _ => True) (fun _ U o U' => ∃ v L, o = .returned v ∧ Q3_26 Z o0 j0 i0 o3 j1 i1 h0 n0 v U'.heap L ∧ FrameEnd U o U' L ({ frames := 0, cells := 0, slots := 0, locals := 0 } : Room).cells ({ frames := 0, cells := 0, slots := 0, locals := 0 } : Room).slots) := by
  refine MetFree.of_bodySF (plainFor_of_name pn_3) hisR ?_
  intro p e s m args below meth c s₁ Bd hml0 hP hK
  obtain ⟨rfl, hZ, hh⟩ := hP
  have hx := Bd.exec
  have hby := Bd.bytes
  have hml : c.maxLocals = 4 := hml0
  have hown : s.vm.findClass "com/example/exfactor/exfactor/core/MutableFigure" = some m.cls := findClass_of_methodNamed Bd.named
  have hnm := (name_of_methodNamed Bd.named Bd.method).1
  have X0 : Stand p l e ({ frames := 0, cells := 0, slots := 0, locals := 0 } : Room) s m #[(.ref o0), (.long j0), (.int i0)] below meth c s₁ [] 0 0 := Stand.of_body Bd
  have e0 : s₁.heap = h0 := by rw [← hh, Bd.state]; rfl
  have N0 := Fr.nil n0
  have K0 : Keep h0 h0 [o0] := Keep.refl h0 _
  change own_Go p e below (own_Post s (Q3_26 Z o0 j0 i0 o3 j1 i1 h0 n0) ({ frames := 0, cells := 0, slots := 0, locals := 0 } : Room).cells ({ frames := 0, cells := 0, slots := 0, locals := 0 } : Room).slots) (s₁.setTop (entryFrame m #[(.ref o0), (.long j0), (.int i0)] 4))
  refine own_by (fun t k => castTop (ef_3 m o0 j0 i0) k) ?_
  show own_Go p e below _ (s₁.setTop (mkF m 0 #[rv o0, oJ j0, oS, iv i0] []))
  refine own_by (B := s₁.setTop (mkF m 2 #[rv o0, oJ j0, oS, iv i0] [(.long j0), (.ref o0)])) (fun t k => ?_) ?_
  · show Steps p.tables e below (s₁.setTop (mkF m 0 #[rv o0, oJ j0, oS, iv i0] [])) _
    refine XS.aloadN X0.here hx rfl (hb hby d3_0) rfl rfl ?_
    show Steps p.tables e below (s₁.setTop (mkF m 1 #[rv o0, oJ j0, oS, iv i0] [(.ref o0)])) _
    refine XS.lloadN X0.here hx rfl (hb hby d3_1) rfl ?_
    show Steps p.tables e below (s₁.setTop (mkF m 2 #[rv o0, oJ j0, oS, iv i0] [(.long j0), (.ref o0)])) _
    exact k
  refine own_c2 (putF X0 hx hZ hown (host := "") (Or.inl (hw _ (List.mem_of_getElem? (i := 16) rfl))) Via.refl e0 F_unscaled_o0 E_o0 (Or.inl (hw _ (List.mem_of_getElem? (i := 17) rfl))) (hw _ (List.mem_of_getElem? (i := 3) rfl)) (ty := .long) (by decide) rfl rfl rfl rfl (hb hby d3_2)) fun T1 h1 X1 e1 W1 => ?_
  replace F_unscaled_o0 := F_unscaled_o0.same W1
  replace E_o0 := E_o0.wr W1
  replace F_scale_o0 := F_scale_o0.other W1 (Or.inr (sn0 hw))
  replace F_big_o0 := F_big_o0.other W1 (Or.inr (sn1 hw))
  replace K0 := K0.wr W1 (Or.inl (List.mem_of_getElem? (i := 0) rfl))
  replace Z0 := Nat.le_trans Z0 (Keep.of_wr W1).1
  replace N0 := Fr.snoc X1 N0 g_o0
  show own_Go p e below _ (T1.setTop (mkF m 5 #[rv o0, oJ j0, oS, iv i0] []))
  refine own_by (B := T1.setTop (mkF m 7 #[rv o0, oJ j0, oS, iv i0] [(.int i0), (.ref o0)])) (fun t k => ?_) ?_
  · show Steps p.tables e below (T1.setTop (mkF m 5 #[rv o0, oJ j0, oS, iv i0] [])) _
    refine XS.aloadN X1.here hx rfl (hb hby d3_5) rfl rfl ?_
    show Steps p.tables e below (T1.setTop (mkF m 6 #[rv o0, oJ j0, oS, iv i0] [(.ref o0)])) _
    refine XS.iloadN X1.here hx rfl (hb hby d3_6) rfl ?_
    show Steps p.tables e below (T1.setTop (mkF m 7 #[rv o0, oJ j0, oS, iv i0] [(.int i0), (.ref o0)])) _
    exact k
  refine own_c2 (putF X1 hx hZ hown (host := "") (Or.inl (hw _ (List.mem_of_getElem? (i := 18) rfl))) Via.refl e1 F_scale_o0 E_o0 (Or.inl (hw _ (List.mem_of_getElem? (i := 19) rfl))) (hw _ (List.mem_of_getElem? (i := 3) rfl)) (ty := .int) (by decide) rfl rfl rfl rfl (hb hby d3_7)) fun T2 h2 X2 e2 W2 => ?_
  replace F_scale_o0 := F_scale_o0.same W2
  replace E_o0 := E_o0.wr W2
  replace F_unscaled_o0 := F_unscaled_o0.other W2 (Or.inr (sn2 hw))
  replace F_big_o0 := F_big_o0.other W2 (Or.inr (sn3 hw))
  replace K0 := K0.wr W2 (Or.inl (List.mem_of_getElem? (i := 0) rfl))
  replace Z0 := Nat.le_trans Z0 (Keep.of_wr W2).1
  replace N0 := Fr.snoc X2 N0 g_o0
  show own_Go p e below _ (T2.setTop (mkF m 10 #[rv o0, oJ j0, oS, iv i0] []))
  refine own_by (B := T2.setTop (mkF m 12 #[rv o0, oJ j0, oS, iv i0] [.null, (.ref o0)])) (fun t k => ?_) ?_
  · show Steps p.tables e below (T2.setTop (mkF m 10 #[rv o0, oJ j0, oS, iv i0] [])) _
    refine XS.aloadN X2.here hx rfl (hb hby d3_10) rfl rfl ?_
    show Steps p.tables e below (T2.setTop (mkF m 11 #[rv o0, oJ j0, oS, iv i0] [(.ref o0)])) _
    refine XS.aconstNull X2.here hx rfl (hb hby d3_11) ?_
    show Steps p.tables e below (T2.setTop (mkF m 12 #[rv o0, oJ j0, oS, iv i0] [.null, (.ref o0)])) _
    exact k
  refine own_c2 (putF X2 hx hZ hown (host := "") (Or.inl (hw _ (List.mem_of_getElem? (i := 20) rfl))) Via.refl e2 F_big_o0 E_o0 (Or.inl (hw _ (List.mem_of_getElem? (i := 21) rfl))) (hw _ (List.mem_of_getElem? (i := 3) rfl)) (ty := (.object "java/math/BigDecimal")) (by decide) rfl rfl rfl rfl (hb hby d3_12)) fun T3 h3 X3 e3 W3 => ?_
  replace F_big_o0 := F_big_o0.same W3
  replace E_o0 := E_o0.wr W3
  replace F_unscaled_o0 := F_unscaled_o0.other W3 (Or.inr (sn4 hw))
  replace F_scale_o0 := F_scale_o0.other W3 (Or.inr (sn5 hw))
  replace K0 := K0.wr W3 (Or.inl (List.mem_of_getElem? (i := 0) rfl))
  replace Z0 := Nat.le_trans Z0 (Keep.of_wr W3).1
  replace N0 := Fr.snoc X3 N0 g_o0
  show own_Go p e below _ (T3.setTop (mkF m 15 #[rv o0, oJ j0, oS, iv i0] []))
  exact own_retV X3 Bd.notSynchronized hx Bd.returns (hb hby d3_15) (by
      rw [show T3.heap = h3 from e3]
      exact ⟨rfl, N0, K0, E_o0, F_unscaled_o0, F_scale_o0, F_big_o0⟩) (by decide) (by decide)

theorem pn_0 : plainName "com/example/exfactor/exfactor/core/MutableFigureSet312PinLaw" = true := by first | (simp [plainName, overriddenIn]; done) | decide +kernel
theorem pd_1 : parseMethodDescriptor "(JI)V" = some ⟨[.long, .int], none⟩ := by decide +kernel
theorem pd_2 : parseMethodDescriptor "()I" = some ⟨[], some .int⟩ := by decide +kernel
theorem pd_4 : parseMethodDescriptor "(I)J" = some ⟨[.int], some .long⟩ := by decide +kernel
theorem pd_8 : parseMethodDescriptor "(Lcom/example/exfactor/exfactor/core/MutableFigure;)V" = some ⟨[(.object "com/example/exfactor/exfactor/core/MutableFigure")], none⟩ := by decide +kernel
theorem ef_0 (m : MethodId) (x0 : Int64) (x1 : Int32) (x2 : Int64) (x3 : Int32) (x4 : Int32) : entryFrame m #[(.long x0), (.int x1), (.long x2), (.int x3), (.int x4)] maxLocals = mkF m 0 #[oJ x0, oS, iv x1, oJ x2, oS, iv x3, iv x4, oU, oU, oU, oU] [] := by first | (simp [entryFrame, mkF, argsToLocals, Value.category, maxLocals]; done) | rfl
def Q0 (Z : State) (q0 : Int64) (p1 : Int32) (q2 : Int64) (p3 : Int32) (p4 : Int32) (pt : Addr) (kp : ClassId) (zt : Addr) (kt : ClassId) (w0 : Addr) (w1 : Addr) (w2 : Addr) (w3 : Addr) (w4 : Addr) (w5 : Addr) (w6 : Addr) (w7 : Addr) (w8 : Addr) (w9 : Addr) (w10 : Addr) (h0 : Heap) (n0 : Nat) (v : Option Value) (h : Heap) (L : List Loc) : Prop := v = some (.int (1 : Int32)) ∧ Fr n0 L
set_option maxRecDepth 65536 in
set_option maxHeartbeats 40000000 in
theorem rm0 (l : Launch) (Z : State) (a0 : Array Value) (hw : ∀ d ∈ tables_1, d.before a0 Z = true) (ws : List Jvm.Cond) (q0 : Int64) (p1 : Int32) (q2 : Int64) (p3 : Int32) (p4 : Int32) (pt : Addr) (kp : ClassId) (zt : Addr) (kt : ClassId) (w0 : Addr) (w1 : Addr) (w2 : Addr) (w3 : Addr) (w4 : Addr) (w5 : Addr) (w6 : Addr) (w7 : Addr) (w8 : Addr) (w9 : Addr) (w10 : Addr) (h0 : Heap) (n0 : Nat) (Z0 : n0 ≤ h0.size) (OZ : Old Z n0 h0) (S_POWERS_OF_TEN : Sta Z Z.heap "com/example/exfactor/exfactor/core/MutableFigure" "POWERS_OF_TEN" "[J" (.ref pt)) (V_pt : Arv Z h0 pt kp .long (19 : Int32) [(.long (1 : Int64)), (.long (10 : Int64)), (.long (100 : Int64)), (.long (1000 : Int64)), (.long (10000 : Int64)), (.long (100000 : Int64)), (.long (1000000 : Int64)), (.long (10000000 : Int64)), (.long (100000000 : Int64)), (.long (1000000000 : Int64)), (.long (10000000000 : Int64)), (.long (100000000000 : Int64)), (.long (1000000000000 : Int64)), (.long (10000000000000 : Int64)), (.long (100000000000000 : Int64)), (.long (1000000000000000 : Int64)), (.long (10000000000000000 : Int64)), (.long (100000000000000000 : Int64)), (.long (1000000000000000000 : Int64))] (.long (0 : Int64))) (S_ZERO_THROUGH_TEN : Sta Z Z.heap "java/math/BigDecimal" "ZERO_THROUGH_TEN" "[Ljava/math/BigDecimal;" (.ref zt)) (V_zt : Arv Z h0 zt kt (.object "java/math/BigDecimal") (11 : Int32) [(.ref w0), (.ref w1), (.ref w2), (.ref w3), (.ref w4), (.ref w5), (.ref w6), (.ref w7), (.ref w8), (.ref w9), (.ref w10)] .null) (hMB : own_MB Z) :
    MetFree l x (head1 (Jvm.Cond.code x code maxLocals ret :: ws) room_1) (fun a U => a = #[(.long q0), (.int p1), (.long q2), (.int p3), (.int p4)] ∧ Z.Warmed39 U.vm ∧ U.heap = h0) (fun _ _ _ _ _ => True) (fun _ U o U' => ∃ v L, o = .returned v ∧ Q0 Z q0 p1 q2 p3 p4 pt kp zt kt w0 w1 w2 w3 w4 w5 w6 w7 w8 w9 w10 h0 n0 v U'.heap L ∧ FrameEnd U o U' L room_1.cells room_1.slots) := by
  refine MetFree.of_bodySF (plainFor_of_name pn_0) hisR ?_
  intro p e s m args below meth c s₁ Bd hml0 hP hK
  obtain ⟨rfl, hZ, hh⟩ := hP
  have hx := Bd.exec
  have hby := Bd.bytes
  have hml : c.maxLocals = 11 := hml0
  have hown : s.vm.findClass "com/example/exfactor/exfactor/core/MutableFigureSet312PinLaw" = some m.cls := findClass_of_methodNamed Bd.named
  have hnm := (name_of_methodNamed Bd.named Bd.method).1
  have X0 : Stand p l e room_1 s m #[(.long q0), (.int p1), (.long q2), (.int p3), (.int p4)] below meth c s₁ [] 0 0 := Stand.of_body Bd
  have e0 : s₁.heap = h0 := by rw [← hh, Bd.state]; rfl
  have N0 := Fr.nil n0
  change own_Go p e below (own_Post s (Q0 Z q0 p1 q2 p3 p4 pt kp zt kt w0 w1 w2 w3 w4 w5 w6 w7 w8 w9 w10 h0 n0) room_1.cells room_1.slots) (s₁.setTop (entryFrame m #[(.long q0), (.int p1), (.long q2), (.int p3), (.int p4)] maxLocals))
  refine own_by (fun t k => castTop (ef_0 m q0 p1 q2 p3 p4) k) ?_
  show own_Go p e below _ (s₁.setTop (mkF m 0 #[oJ q0, oS, iv p1, oJ q2, oS, iv p3, iv p4, oU, oU, oU, oU] []))
  refine own_by (B := s₁.setTop (mkF m 5 #[oJ q0, oS, iv p1, oJ q2, oS, iv p3, iv p4, oU, oU, oU, oU] [(.int (lcmpW q0 (-9223372036854775808 : Int64)))])) (fun t k => ?_) ?_
  · show Steps p.tables e below (s₁.setTop (mkF m 0 #[oJ q0, oS, iv p1, oJ q2, oS, iv p3, iv p4, oU, oU, oU, oU] [])) _
    refine XS.lloadN X0.here hx rfl (hb hby at_0) rfl ?_
    show Steps p.tables e below (s₁.setTop (mkF m 1 #[oJ q0, oS, iv p1, oJ q2, oS, iv p3, iv p4, oU, oU, oU, oU] [(.long q0)])) _
    refine X0.ldc2Long hx hown (mvT hZ (hw _ (List.mem_of_getElem? (i := 0) rfl))) (g := (mkF m 1 #[oJ q0, oS, iv p1, oJ q2, oS, iv p3, iv p4, oU, oU, oU, oU] [(.long q0)])) rfl (hb hby at_1) _ ?_
    show Steps p.tables e below (s₁.setTop (mkF m 4 #[oJ q0, oS, iv p1, oJ q2, oS, iv p3, iv p4, oU, oU, oU, oU] [(.long (-9223372036854775808 : Int64)), (.long q0)])) _
    refine XS.lcmp X0.here hx rfl (hb hby at_4) rfl ?_
    show Steps p.tables e below (s₁.setTop (mkF m 5 #[oJ q0, oS, iv p1, oJ q2, oS, iv p3, iv p4, oU, oU, oU, oU] [(.int (lcmpW q0 (-9223372036854775808 : Int64)))])) _
    exact k
  by_cases hc1 : q0 = (-9223372036854775808 : Int64)
  · skip
    refine own_by (fun t k => XS.ifNo X0.here hx rfl (hb hby at_5) rfl ((if0 _ _).trans (teq ((lw_eq _ _).mpr hc1)).2) k) ?_
    show own_Go p e below _ (s₁.setTop (mkF m 8 #[oJ q0, oS, iv p1, oJ q2, oS, iv p3, iv p4, oU, oU, oU, oU] []))
    refine own_by (B := s₁.setTop (mkF m 9 #[oJ q0, oS, iv p1, oJ q2, oS, iv p3, iv p4, oU, oU, oU, oU] [(.int (1 : Int32))])) (fun t k => ?_) ?_
    · show Steps p.tables e below (s₁.setTop (mkF m 8 #[oJ q0, oS, iv p1, oJ q2, oS, iv p3, iv p4, oU, oU, oU, oU] [])) _
      refine XS.iconst X0.here hx rfl (hb hby at_8) ?_
      show Steps p.tables e below (s₁.setTop (mkF m 9 #[oJ q0, oS, iv p1, oJ q2, oS, iv p3, iv p4, oU, oU, oU, oU] [(.int (1 : Int32))])) _
      exact k
    exact own_retN X0 Bd.notSynchronized hx (t := .boolean) Bd.returns (by simp) (hb hby at_9) (by
        rw [show s₁.heap = h0 from e0]
        exact ⟨rfl, N0⟩) (by decide) (by decide)
  · skip
    refine own_by (fun t k => XS.ifYes X0.here hx rfl (pc0 := 5) (pc' := 10) rfl (hb hby at_5) rfl ((if0 _ _).trans (feq (fun q => hc1 ((lw_eq _ _).mp q))).2) (by decide) (by decide) k) ?_
    show own_Go p e below _ (s₁.setTop (mkF m 10 #[oJ q0, oS, iv p1, oJ q2, oS, iv p3, iv p4, oU, oU, oU, oU] []))
    refine own_by (B := s₁.setTop (mkF m 19 #[oJ q0, oS, iv p1, oJ q2, oS, iv p3, iv p4, iv ((p1 &&& (2147483647 : Int32)) % (19 : Int32)), oU, oU, oU] [])) (fun t k => ?_) ?_
    · show Steps p.tables e below (s₁.setTop (mkF m 10 #[oJ q0, oS, iv p1, oJ q2, oS, iv p3, iv p4, oU, oU, oU, oU] [])) _
      refine XS.iloadN X0.here hx rfl (hb hby at_10) rfl ?_
      show Steps p.tables e below (s₁.setTop (mkF m 11 #[oJ q0, oS, iv p1, oJ q2, oS, iv p3, iv p4, oU, oU, oU, oU] [(.int p1)])) _
      refine X0.ldcInt hx hown (mvT hZ (hw _ (List.mem_of_getElem? (i := 1) rfl))) (g := (mkF m 11 #[oJ q0, oS, iv p1, oJ q2, oS, iv p3, iv p4, oU, oU, oU, oU] [(.int p1)])) rfl (hb hby at_11) _ ?_
      show Steps p.tables e below (s₁.setTop (mkF m 13 #[oJ q0, oS, iv p1, oJ q2, oS, iv p3, iv p4, oU, oU, oU, oU] [(.int (2147483647 : Int32)), (.int p1)])) _
      refine XS.iand X0.here hx rfl (hb hby at_13) rfl ?_
      show Steps p.tables e below (s₁.setTop (mkF m 14 #[oJ q0, oS, iv p1, oJ q2, oS, iv p3, iv p4, oU, oU, oU, oU] [(.int (p1 &&& (2147483647 : Int32)))])) _
      refine XS.bipush X0.here hx rfl (hb hby at_14) ?_
      show Steps p.tables e below (s₁.setTop (mkF m 16 #[oJ q0, oS, iv p1, oJ q2, oS, iv p3, iv p4, oU, oU, oU, oU] [(.int (19 : Int32)), (.int (p1 &&& (2147483647 : Int32)))])) _
      refine iremM X0 hx rfl (hb hby at_16) rfl (by decide) ?_
      show Steps p.tables e below (s₁.setTop (mkF m 17 #[oJ q0, oS, iv p1, oJ q2, oS, iv p3, iv p4, oU, oU, oU, oU] [(.int ((p1 &&& (2147483647 : Int32)) % (19 : Int32)))])) _
      refine XS.istore X0.here hx rfl (hb hby at_17) rfl (l' := #[oJ q0, oS, iv p1, oJ q2, oS, iv p3, iv p4, iv ((p1 &&& (2147483647 : Int32)) % (19 : Int32)), oU, oU, oU]) rfl ?_
      show Steps p.tables e below (s₁.setTop (mkF m 19 #[oJ q0, oS, iv p1, oJ q2, oS, iv p3, iv p4, iv ((p1 &&& (2147483647 : Int32)) % (19 : Int32)), oU, oU, oU] [])) _
      exact k
    generalize hsc : ((p1 &&& (2147483647 : Int32)) % (19 : Int32)) = sc
    show own_Go p e below _ (s₁.setTop (mkF m 19 #[oJ q0, oS, iv p1, oJ q2, oS, iv p3, iv p4, iv sc, oU, oU, oU] []))
    obtain ⟨T2, h2, X2, e2, E2, A2, D2, -, st2⟩ := newO X0 hx hZ hown (hw _ (List.mem_of_getElem? (i := 2) rfl)) (hw _ (List.mem_of_getElem? (i := 3) rfl)) (hw _ (List.mem_of_getElem? (i := 4) rfl)) e0 (g := (mkF m 19 #[oJ q0, oS, iv p1, oJ q2, oS, iv p3, iv p4, iv sc, oU, oU, oU] [])) rfl (hb hby at_19) (by decide) (by decide)
    obtain ⟨b2, g2⟩ : ∃ z, z = h0.size := ⟨_, rfl⟩
    rw [← g2] at A2 D2 st2
    have g_b2 : n0 ≤ b2 := Nat.le_trans Z0 (Nat.le_of_eq g2.symm)
    have ne_pt_b2 : pt ≠ b2 := Nat.ne_of_lt (Nat.lt_of_lt_of_le V_pt.lt (Nat.le_of_eq g2.symm))
    have ne_zt_b2 : zt ≠ b2 := Nat.ne_of_lt (Nat.lt_of_lt_of_le V_zt.lt (Nat.le_of_eq g2.symm))
    replace V_pt := V_pt.ext E2
    replace V_zt := V_zt.ext E2
    replace OZ := OZ.ext E2
    replace Z0 := Nat.le_trans Z0 E2.1
    have E_b2 := A2
    have F_unscaled_b2 : Fld Z h2 b2 "com/example/exfactor/exfactor/core/MutableFigure" "unscaled" "J" (.long (0 : Int64)) := D2 (Or.inl (hw _ (List.mem_of_getElem? (i := 17) rfl))) (ty := .long) (by decide)
    have F_scale_b2 : Fld Z h2 b2 "com/example/exfactor/exfactor/core/MutableFigure" "scale" "I" (.int (0 : Int32)) := D2 (Or.inl (hw _ (List.mem_of_getElem? (i := 19) rfl))) (ty := .int) (by decide)
    have F_big_b2 : Fld Z h2 b2 "com/example/exfactor/exfactor/core/MutableFigure" "big" "Ljava/math/BigDecimal;" .null := D2 (Or.inl (hw _ (List.mem_of_getElem? (i := 21) rfl))) (ty := (.object "java/math/BigDecimal")) (by decide)
    refine own_by st2 ?_
    show own_Go p e below _ (T2.setTop (mkF m 22 #[oJ q0, oS, iv p1, oJ q2, oS, iv p3, iv p4, iv sc, oU, oU, oU] [(.ref b2)]))
    refine own_by (B := T2.setTop (mkF m 23 #[oJ q0, oS, iv p1, oJ q2, oS, iv p3, iv p4, iv sc, oU, oU, oU] [(.ref b2), (.ref b2)])) (fun t k => ?_) ?_
    · show Steps p.tables e below (T2.setTop (mkF m 22 #[oJ q0, oS, iv p1, oJ q2, oS, iv p3, iv p4, iv sc, oU, oU, oU] [(.ref b2)])) _
      refine XS.dup X2.here hx rfl (hb hby at_22) rfl rfl ?_
      show Steps p.tables e below (T2.setTop (mkF m 23 #[oJ q0, oS, iv p1, oJ q2, oS, iv p3, iv p4, iv sc, oU, oU, oU] [(.ref b2), (.ref b2)])) _
      exact k
    refine own_cc (own_callI X2 hx hZ (y := (⟨"com/example/exfactor/exfactor/core/MutableFigure", "<init>", "()V"⟩ : MethodName)) rfl hown (hw _ (List.mem_of_getElem? (i := 5) rfl)) (hw _ (List.mem_of_getElem? (i := 6) rfl)) (hw _ (List.mem_of_getElem? (i := 4) rfl)) (hw _ (List.mem_of_getElem? (i := 7) rfl)) (by decide) (rm1_1 l Z a0 hw [] b2 h2 n0 Z0 ) e2 1 (by decide) (by decide) (by decide) (by decide) rfl (by rw [hml]; rfl) b2 [] [(.ref b2)] rfl (lenOf pd_0 rfl) rfl (by show 2 * 0 + _ ≤ _; exact Nat.le_of_eq rfl) (hb hby at_23)) fun T4 L4 v4 X4 hQ4 => ?_
    obtain ⟨rfl, N4, e4⟩ := hQ4
    replace N0 := Fr.app N0 N4
    show own_Go p e below _ (T4.setTop (mkF m 26 #[oJ q0, oS, iv p1, oJ q2, oS, iv p3, iv p4, iv sc, oU, oU, oU] [(.ref b2)]))
    refine own_by (B := T4.setTop (mkF m 32 #[oJ q0, oS, iv p1, oJ q2, oS, iv p3, iv p4, iv sc, rv b2, oU, oU] [(.int (p4 &&& (1 : Int32)))])) (fun t k => ?_) ?_
    · show Steps p.tables e below (T4.setTop (mkF m 26 #[oJ q0, oS, iv p1, oJ q2, oS, iv p3, iv p4, iv sc, oU, oU, oU] [(.ref b2)])) _
      refine XS.astore X4.here hx rfl (hb hby at_26) rfl rfl (l' := #[oJ q0, oS, iv p1, oJ q2, oS, iv p3, iv p4, iv sc, rv b2, oU, oU]) rfl ?_
      show Steps p.tables e below (T4.setTop (mkF m 28 #[oJ q0, oS, iv p1, oJ q2, oS, iv p3, iv p4, iv sc, rv b2, oU, oU] [])) _
      refine XS.iload X4.here hx rfl (hb hby at_28) rfl ?_
      show Steps p.tables e below (T4.setTop (mkF m 30 #[oJ q0, oS, iv p1, oJ q2, oS, iv p3, iv p4, iv sc, rv b2, oU, oU] [(.int p4)])) _
      refine XS.iconst X4.here hx rfl (hb hby at_30) ?_
      show Steps p.tables e below (T4.setTop (mkF m 31 #[oJ q0, oS, iv p1, oJ q2, oS, iv p3, iv p4, iv sc, rv b2, oU, oU] [(.int (1 : Int32)), (.int p4)])) _
      refine XS.iand X4.here hx rfl (hb hby at_31) rfl ?_
      show Steps p.tables e below (T4.setTop (mkF m 32 #[oJ q0, oS, iv p1, oJ q2, oS, iv p3, iv p4, iv sc, rv b2, oU, oU] [(.int (p4 &&& (1 : Int32)))])) _
      exact k
    by_cases hc7 : (p4 &&& (1 : Int32)) = (0 : Int32)
    · skip
      refine own_by (fun t k => XS.ifYes X4.here hx rfl (pc0 := 32) (pc' := 54) rfl (hb hby at_32) rfl ((if0 _ _).trans (teq hc7).1) (by decide) (by decide) k) ?_
      show own_Go p e below _ (T4.setTop (mkF m 54 #[oJ q0, oS, iv p1, oJ q2, oS, iv p3, iv p4, iv sc, rv b2, oU, oU] []))
      refine own_by (B := T4.setTop (mkF m 81 #[oJ q0, oS, iv p1, oJ q2, oS, iv p3, iv p4, iv sc, rv b2, oJ (if q2 = (-9223372036854775808 : Int64) then (0 : Int64) else q2), oS] [(.int ((p3 &&& (2147483647 : Int32)) % (19 : Int32))), (.long (if q2 = (-9223372036854775808 : Int64) then (0 : Int64) else q2)), (.ref b2)])) (fun t k => ?_) ?_
      · show Steps p.tables e below (T4.setTop (mkF m 54 #[oJ q0, oS, iv p1, oJ q2, oS, iv p3, iv p4, iv sc, rv b2, oU, oU] [])) _
        refine XS.lloadN X4.here hx rfl (hb hby at_54) rfl ?_
        show Steps p.tables e below (T4.setTop (mkF m 55 #[oJ q0, oS, iv p1, oJ q2, oS, iv p3, iv p4, iv sc, rv b2, oU, oU] [(.long q2)])) _
        refine X4.ldc2Long hx hown (mvT hZ (hw _ (List.mem_of_getElem? (i := 0) rfl))) (g := (mkF m 55 #[oJ q0, oS, iv p1, oJ q2, oS, iv p3, iv p4, iv sc, rv b2, oU, oU] [(.long q2)])) rfl (hb hby at_55) _ ?_
        show Steps p.tables e below (T4.setTop (mkF m 58 #[oJ q0, oS, iv p1, oJ q2, oS, iv p3, iv p4, iv sc, rv b2, oU, oU] [(.long (-9223372036854775808 : Int64)), (.long q2)])) _
        refine XS.lcmp X4.here hx rfl (hb hby at_58) rfl ?_
        show Steps p.tables e below (T4.setTop (mkF m 59 #[oJ q0, oS, iv p1, oJ q2, oS, iv p3, iv p4, iv sc, rv b2, oU, oU] [(.int (lcmpW q2 (-9223372036854775808 : Int64)))])) _
        refine (fun t (k : Steps p.tables e below (T4.setTop (mkF m 67 #[oJ q0, oS, iv p1, oJ q2, oS, iv p3, iv p4, iv sc, rv b2, oU, oU] [(.long (if q2 = (-9223372036854775808 : Int64) then (0 : Int64) else q2))])) t) => (?_ : Steps p.tables e below _ t)) _ ?_
        · by_cases hc8 : q2 = (-9223372036854775808 : Int64)
          · simp only [if_pos hc8] at k
            refine XS.ifNo X4.here hx rfl (hb hby at_59) rfl ((if0 _ _).trans (teq ((lw_eq _ _).mpr hc8)).2) ?_
            show Steps p.tables e below (T4.setTop (mkF m 62 #[oJ q0, oS, iv p1, oJ q2, oS, iv p3, iv p4, iv sc, rv b2, oU, oU] [])) _
            refine XS.lconst X4.here hx rfl (hb hby at_62) ?_
            show Steps p.tables e below (T4.setTop (mkF m 63 #[oJ q0, oS, iv p1, oJ q2, oS, iv p3, iv p4, iv sc, rv b2, oU, oU] [(.long (0 : Int64))])) _
            refine XS.goto X4.here hx rfl (pc0 := 63) (pc' := 67) rfl (hb hby at_63) (by decide) (by decide) ?_
            show Steps p.tables e below (T4.setTop (mkF m 67 #[oJ q0, oS, iv p1, oJ q2, oS, iv p3, iv p4, iv sc, rv b2, oU, oU] [(.long (0 : Int64))])) _
            exact k
          · simp only [if_neg hc8] at k
            refine XS.ifYes X4.here hx rfl (pc0 := 59) (pc' := 66) rfl (hb hby at_59) rfl ((if0 _ _).trans (feq (fun q => hc8 ((lw_eq _ _).mp q))).2) (by decide) (by decide) ?_
            show Steps p.tables e below (T4.setTop (mkF m 66 #[oJ q0, oS, iv p1, oJ q2, oS, iv p3, iv p4, iv sc, rv b2, oU, oU] [])) _
            refine XS.lloadN X4.here hx rfl (hb hby at_66) rfl ?_
            show Steps p.tables e below (T4.setTop (mkF m 67 #[oJ q0, oS, iv p1, oJ q2, oS, iv p3, iv p4, iv sc, rv b2, oU, oU] [(.long q2)])) _
            exact k
        show Steps p.tables e below (T4.setTop (mkF m 67 #[oJ q0, oS, iv p1, oJ q2, oS, iv p3, iv p4, iv sc, rv b2, oU, oU] [(.long (if q2 = (-9223372036854775808 : Int64) then (0 : Int64) else q2))])) _
        refine XS.lstore X4.here hx rfl (hb hby at_67) rfl (l' := #[oJ q0, oS, iv p1, oJ q2, oS, iv p3, iv p4, iv sc, rv b2, oJ (if q2 = (-9223372036854775808 : Int64) then (0 : Int64) else q2), oS]) rfl ?_
        show Steps p.tables e below (T4.setTop (mkF m 69 #[oJ q0, oS, iv p1, oJ q2, oS, iv p3, iv p4, iv sc, rv b2, oJ (if q2 = (-9223372036854775808 : Int64) then (0 : Int64) else q2), oS] [])) _
        refine XS.aload X4.here hx rfl (hb hby at_69) rfl rfl ?_
        show Steps p.tables e below (T4.setTop (mkF m 71 #[oJ q0, oS, iv p1, oJ q2, oS, iv p3, iv p4, iv sc, rv b2, oJ (if q2 = (-9223372036854775808 : Int64) then (0 : Int64) else q2), oS] [(.ref b2)])) _
        refine XS.lload X4.here hx rfl (hb hby at_71) rfl ?_
        show Steps p.tables e below (T4.setTop (mkF m 73 #[oJ q0, oS, iv p1, oJ q2, oS, iv p3, iv p4, iv sc, rv b2, oJ (if q2 = (-9223372036854775808 : Int64) then (0 : Int64) else q2), oS] [(.long (if q2 = (-9223372036854775808 : Int64) then (0 : Int64) else q2)), (.ref b2)])) _
        refine XS.iload X4.here hx rfl (hb hby at_73) rfl ?_
        show Steps p.tables e below (T4.setTop (mkF m 75 #[oJ q0, oS, iv p1, oJ q2, oS, iv p3, iv p4, iv sc, rv b2, oJ (if q2 = (-9223372036854775808 : Int64) then (0 : Int64) else q2), oS] [(.int p3), (.long (if q2 = (-9223372036854775808 : Int64) then (0 : Int64) else q2)), (.ref b2)])) _
        refine X4.ldcInt hx hown (mvT hZ (hw _ (List.mem_of_getElem? (i := 1) rfl))) (g := (mkF m 75 #[oJ q0, oS, iv p1, oJ q2, oS, iv p3, iv p4, iv sc, rv b2, oJ (if q2 = (-9223372036854775808 : Int64) then (0 : Int64) else q2), oS] [(.int p3), (.long (if q2 = (-9223372036854775808 : Int64) then (0 : Int64) else q2)), (.ref b2)])) rfl (hb hby at_75) _ ?_
        show Steps p.tables e below (T4.setTop (mkF m 77 #[oJ q0, oS, iv p1, oJ q2, oS, iv p3, iv p4, iv sc, rv b2, oJ (if q2 = (-9223372036854775808 : Int64) then (0 : Int64) else q2), oS] [(.int (2147483647 : Int32)), (.int p3), (.long (if q2 = (-9223372036854775808 : Int64) then (0 : Int64) else q2)), (.ref b2)])) _
        refine XS.iand X4.here hx rfl (hb hby at_77) rfl ?_
        show Steps p.tables e below (T4.setTop (mkF m 78 #[oJ q0, oS, iv p1, oJ q2, oS, iv p3, iv p4, iv sc, rv b2, oJ (if q2 = (-9223372036854775808 : Int64) then (0 : Int64) else q2), oS] [(.int (p3 &&& (2147483647 : Int32))), (.long (if q2 = (-9223372036854775808 : Int64) then (0 : Int64) else q2)), (.ref b2)])) _
        refine XS.bipush X4.here hx rfl (hb hby at_78) ?_
        show Steps p.tables e below (T4.setTop (mkF m 80 #[oJ q0, oS, iv p1, oJ q2, oS, iv p3, iv p4, iv sc, rv b2, oJ (if q2 = (-9223372036854775808 : Int64) then (0 : Int64) else q2), oS] [(.int (19 : Int32)), (.int (p3 &&& (2147483647 : Int32))), (.long (if q2 = (-9223372036854775808 : Int64) then (0 : Int64) else q2)), (.ref b2)])) _
        refine iremM X4 hx rfl (hb hby at_80) rfl (by decide) ?_
        show Steps p.tables e below (T4.setTop (mkF m 81 #[oJ q0, oS, iv p1, oJ q2, oS, iv p3, iv p4, iv sc, rv b2, oJ (if q2 = (-9223372036854775808 : Int64) then (0 : Int64) else q2), oS] [(.int ((p3 &&& (2147483647 : Int32)) % (19 : Int32))), (.long (if q2 = (-9223372036854775808 : Int64) then (0 : Int64) else q2)), (.ref b2)])) _
        exact k
      refine own_cc (own_callV X4 hx hZ (y := (⟨"com/example/exfactor/exfactor/core/MutableFigure", "set", "(JI)V"⟩ : MethodName)) (z := (⟨"com/example/exfactor/exfactor/core/MutableFigure", "set", "(JI)V"⟩ : MethodName)) hown (hw _ (List.mem_of_getElem? (i := 11) rfl)) (hw _ (List.mem_of_getElem? (i := 12) rfl)) (notFace_of_selects (args := #[]) (mvT hZ (hw _ (List.mem_of_getElem? (i := 14) rfl)))) (hw _ (List.mem_of_getElem? (i := 14) rfl)) (hw _ (List.mem_of_getElem? (i := 13) rfl)) (hw _ (List.mem_of_getElem? (i := 4) rfl)) (hw _ (List.mem_of_getElem? (i := 15) rfl)) (by decide) (rm3_2 l Z a0 hw [] b2 (if q2 = (-9223372036854775808 : Int64) then (0 : Int64) else q2) ((p3 &&& (2147483647 : Int32)) % (19 : Int32)) (0 : Int64) (0 : Int32) h2 n0 Z0 g_b2 E_b2 F_unscaled_b2 F_scale_b2 F_big_b2) e4 0 (by decide) (by decide) (by decide) (by decide) rfl (by rw [hml]; rfl) b2 E_b2 [(.long (if q2 = (-9223372036854775808 : Int64) then (0 : Int64) else q2)), (.int ((p3 &&& (2147483647 : Int32)) % (19 : Int32)))] [] rfl (lenOf pd_1 rfl) rfl (by show 2 * 0 + _ ≤ _; exact Nat.le_of_eq rfl) (hb hby at_81)) fun T10 L10 v10 X10 hQ10 => ?_
      obtain ⟨rfl, N10, K10, E_b2', F_unscaled_b2', F_scale_b2', F_big_b2'⟩ := hQ10
      replace N0 := Fr.app N0 N10
      replace V_pt := V_pt.keep K10 (ninS ne_pt_b2 nin0)
      replace V_zt := V_zt.keep K10 (ninS ne_zt_b2 nin0)
      replace E_b2 := E_b2.keep K10
      replace OZ := OZ.keep K10 (allS g_b2 all0)
      replace Z0 := Nat.le_trans Z0 K10.1
      replace E_b2 := E_b2'
      have F_unscaled_b2 := F_unscaled_b2'
      have F_scale_b2 := F_scale_b2'
      have F_big_b2 := F_big_b2'
      show own_Go p e below _ (T10.setTop (mkF m 84 #[oJ q0, oS, iv p1, oJ q2, oS, iv p3, iv p4, iv sc, rv b2, oJ (if q2 = (-9223372036854775808 : Int64) then (0 : Int64) else q2), oS] []))
      refine own_by (B := T10.setTop (mkF m 89 #[oJ q0, oS, iv p1, oJ q2, oS, iv p3, iv p4, iv sc, rv b2, oJ (if q2 = (-9223372036854775808 : Int64) then (0 : Int64) else q2), oS] [(.int sc), (.long q0), (.ref b2)])) (fun t k => ?_) ?_
      · show Steps p.tables e below (T10.setTop (mkF m 84 #[oJ q0, oS, iv p1, oJ q2, oS, iv p3, iv p4, iv sc, rv b2, oJ (if q2 = (-9223372036854775808 : Int64) then (0 : Int64) else q2), oS] [])) _
        refine XS.aload X10.here hx rfl (hb hby at_84) rfl rfl ?_
        show Steps p.tables e below (T10.setTop (mkF m 86 #[oJ q0, oS, iv p1, oJ q2, oS, iv p3, iv p4, iv sc, rv b2, oJ (if q2 = (-9223372036854775808 : Int64) then (0 : Int64) else q2), oS] [(.ref b2)])) _
        refine XS.lloadN X10.here hx rfl (hb hby at_86) rfl ?_
        show Steps p.tables e below (T10.setTop (mkF m 87 #[oJ q0, oS, iv p1, oJ q2, oS, iv p3, iv p4, iv sc, rv b2, oJ (if q2 = (-9223372036854775808 : Int64) then (0 : Int64) else q2), oS] [(.long q0), (.ref b2)])) _
        refine XS.iload X10.here hx rfl (hb hby at_87) rfl ?_
        show Steps p.tables e below (T10.setTop (mkF m 89 #[oJ q0, oS, iv p1, oJ q2, oS, iv p3, iv p4, iv sc, rv b2, oJ (if q2 = (-9223372036854775808 : Int64) then (0 : Int64) else q2), oS] [(.int sc), (.long q0), (.ref b2)])) _
        exact k
      refine own_cc (own_callV X10 hx hZ (y := (⟨"com/example/exfactor/exfactor/core/MutableFigure", "set", "(JI)V"⟩ : MethodName)) (z := (⟨"com/example/exfactor/exfactor/core/MutableFigure", "set", "(JI)V"⟩ : MethodName)) hown (hw _ (List.mem_of_getElem? (i := 11) rfl)) (hw _ (List.mem_of_getElem? (i := 12) rfl)) (notFace_of_selects (args := #[]) (mvT hZ (hw _ (List.mem_of_getElem? (i := 14) rfl)))) (hw _ (List.mem_of_getElem? (i := 14) rfl)) (hw _ (List.mem_of_getElem? (i := 13) rfl)) (hw _ (List.mem_of_getElem? (i := 4) rfl)) (hw _ (List.mem_of_getElem? (i := 15) rfl)) (by decide) (rm3_2 l Z a0 hw [] b2 q0 sc (if q2 = (-9223372036854775808 : Int64) then (0 : Int64) else q2) ((p3 &&& (2147483647 : Int32)) % (19 : Int32)) T10.heap n0 Z0 g_b2 E_b2 F_unscaled_b2 F_scale_b2 F_big_b2) (rfl : T10.heap = _) 0 (by decide) (by decide) (by decide) (by decide) rfl (by rw [hml]; rfl) b2 E_b2 [(.long q0), (.int sc)] [] rfl (lenOf pd_1 rfl) rfl (by show 2 * 0 + _ ≤ _; exact Nat.le_of_eq rfl) (hb hby at_89)) fun T12 L12 v12 X12 hQ12 => ?_
      obtain ⟨rfl, N12, K12, E_b2', F_unscaled_b2', F_scale_b2', F_big_b2'⟩ := hQ12
      replace N0 := Fr.app N0 N12
      replace V_pt := V_pt.keep K12 (ninS ne_pt_b2 nin0)
      replace V_zt := V_zt.keep K12 (ninS ne_zt_b2 nin0)
      replace E_b2 := E_b2.keep K12
      replace OZ := OZ.keep K12 (allS g_b2 all0)
      replace Z0 := Nat.le_trans Z0 K12.1
      replace E_b2 := E_b2'
      have F_unscaled_b2 := F_unscaled_b2'
      have F_scale_b2 := F_scale_b2'
      have F_big_b2 := F_big_b2'
      show own_Go p e below _ (T12.setTop (mkF m 92 #[oJ q0, oS, iv p1, oJ q2, oS, iv p3, iv p4, iv sc, rv b2, oJ (if q2 = (-9223372036854775808 : Int64) then (0 : Int64) else q2), oS] []))
      refine own_by (B := T12.setTop (mkF m 117 #[oJ q0, oS, iv p1, oJ q2, oS, iv p3, iv p4, iv sc, rv b2, iv (if (0 : Int64) < q0 then (1 : Int32) else (if q0 < (0 : Int64) then (-1 : Int32) else (0 : Int32))), oU] [(.ref b2)])) (fun t k => ?_) ?_
      · show Steps p.tables e below (T12.setTop (mkF m 92 #[oJ q0, oS, iv p1, oJ q2, oS, iv p3, iv p4, iv sc, rv b2, oJ (if q2 = (-9223372036854775808 : Int64) then (0 : Int64) else q2), oS] [])) _
        refine XS.lloadN X12.here hx rfl (hb hby at_92) rfl ?_
        show Steps p.tables e below (T12.setTop (mkF m 93 #[oJ q0, oS, iv p1, oJ q2, oS, iv p3, iv p4, iv sc, rv b2, oJ (if q2 = (-9223372036854775808 : Int64) then (0 : Int64) else q2), oS] [(.long q0)])) _
        refine XS.lconst X12.here hx rfl (hb hby at_93) ?_
        show Steps p.tables e below (T12.setTop (mkF m 94 #[oJ q0, oS, iv p1, oJ q2, oS, iv p3, iv p4, iv sc, rv b2, oJ (if q2 = (-9223372036854775808 : Int64) then (0 : Int64) else q2), oS] [(.long (0 : Int64)), (.long q0)])) _
        refine XS.lcmp X12.here hx rfl (hb hby at_94) rfl ?_
        show Steps p.tables e below (T12.setTop (mkF m 95 #[oJ q0, oS, iv p1, oJ q2, oS, iv p3, iv p4, iv sc, rv b2, oJ (if q2 = (-9223372036854775808 : Int64) then (0 : Int64) else q2), oS] [(.int (lcmpW q0 (0 : Int64)))])) _
        refine (fun t (k : Steps p.tables e below (T12.setTop (mkF m 113 #[oJ q0, oS, iv p1, oJ q2, oS, iv p3, iv p4, iv sc, rv b2, oJ (if q2 = (-9223372036854775808 : Int64) then (0 : Int64) else q2), oS] [(.int (if (0 : Int64) < q0 then (1 : Int32) else (if q0 < (0 : Int64) then (-1 : Int32) else (0 : Int32))))])) t) => (?_ : Steps p.tables e below _ t)) _ ?_
        · by_cases hc13 : (0 : Int64) < q0
          · simp only [if_pos hc13] at k
            refine XS.ifNo X12.here hx rfl (hb hby at_95) rfl ((if0 _ _).trans (tlt ((lw_gt _ _).mpr hc13)).2.2.2) ?_
            show Steps p.tables e below (T12.setTop (mkF m 98 #[oJ q0, oS, iv p1, oJ q2, oS, iv p3, iv p4, iv sc, rv b2, oJ (if q2 = (-9223372036854775808 : Int64) then (0 : Int64) else q2), oS] [])) _
            refine XS.iconst X12.here hx rfl (hb hby at_98) ?_
            show Steps p.tables e below (T12.setTop (mkF m 99 #[oJ q0, oS, iv p1, oJ q2, oS, iv p3, iv p4, iv sc, rv b2, oJ (if q2 = (-9223372036854775808 : Int64) then (0 : Int64) else q2), oS] [(.int (1 : Int32))])) _
            refine XS.goto X12.here hx rfl (pc0 := 99) (pc' := 113) rfl (hb hby at_99) (by decide) (by decide) ?_
            show Steps p.tables e below (T12.setTop (mkF m 113 #[oJ q0, oS, iv p1, oJ q2, oS, iv p3, iv p4, iv sc, rv b2, oJ (if q2 = (-9223372036854775808 : Int64) then (0 : Int64) else q2), oS] [(.int (1 : Int32))])) _
            exact k
          · simp only [if_neg hc13] at k
            refine XS.ifYes X12.here hx rfl (pc0 := 95) (pc' := 102) rfl (hb hby at_95) rfl ((if0 _ _).trans (flt (fun q => hc13 ((lw_gt _ _).mp q))).2.2.2) (by decide) (by decide) ?_
            show Steps p.tables e below (T12.setTop (mkF m 102 #[oJ q0, oS, iv p1, oJ q2, oS, iv p3, iv p4, iv sc, rv b2, oJ (if q2 = (-9223372036854775808 : Int64) then (0 : Int64) else q2), oS] [])) _
            refine XS.lloadN X12.here hx rfl (hb hby at_102) rfl ?_
            show Steps p.tables e below (T12.setTop (mkF m 103 #[oJ q0, oS, iv p1, oJ q2, oS, iv p3, iv p4, iv sc, rv b2, oJ (if q2 = (-9223372036854775808 : Int64) then (0 : Int64) else q2), oS] [(.long q0)])) _
            refine XS.lconst X12.here hx rfl (hb hby at_103) ?_
            show Steps p.tables e below (T12.setTop (mkF m 104 #[oJ q0, oS, iv p1, oJ q2, oS, iv p3, iv p4, iv sc, rv b2, oJ (if q2 = (-9223372036854775808 : Int64) then (0 : Int64) else q2), oS] [(.long (0 : Int64)), (.long q0)])) _
            refine XS.lcmp X12.here hx rfl (hb hby at_104) rfl ?_
            show Steps p.tables e below (T12.setTop (mkF m 105 #[oJ q0, oS, iv p1, oJ q2, oS, iv p3, iv p4, iv sc, rv b2, oJ (if q2 = (-9223372036854775808 : Int64) then (0 : Int64) else q2), oS] [(.int (lcmpW q0 (0 : Int64)))])) _
            refine (fun t (k : Steps p.tables e below (T12.setTop (mkF m 113 #[oJ q0, oS, iv p1, oJ q2, oS, iv p3, iv p4, iv sc, rv b2, oJ (if q2 = (-9223372036854775808 : Int64) then (0 : Int64) else q2), oS] [(.int (if q0 < (0 : Int64) then (-1 : Int32) else (0 : Int32)))])) t) => (?_ : Steps p.tables e below _ t)) _ ?_
            · by_cases hc14 : q0 < (0 : Int64)
              · simp only [if_pos hc14] at k
                refine XS.ifNo X12.here hx rfl (hb hby at_105) rfl ((if0 _ _).trans (tlt ((lw_lt _ _).mpr hc14)).2.1) ?_
                show Steps p.tables e below (T12.setTop (mkF m 108 #[oJ q0, oS, iv p1, oJ q2, oS, iv p3, iv p4, iv sc, rv b2, oJ (if q2 = (-9223372036854775808 : Int64) then (0 : Int64) else q2), oS] [])) _
                refine XS.iconst X12.here hx rfl (hb hby at_108) ?_
                show Steps p.tables e below (T12.setTop (mkF m 109 #[oJ q0, oS, iv p1, oJ q2, oS, iv p3, iv p4, iv sc, rv b2, oJ (if q2 = (-9223372036854775808 : Int64) then (0 : Int64) else q2), oS] [(.int (-1 : Int32))])) _
                refine XS.goto X12.here hx rfl (pc0 := 109) (pc' := 113) rfl (hb hby at_109) (by decide) (by decide) ?_
                show Steps p.tables e below (T12.setTop (mkF m 113 #[oJ q0, oS, iv p1, oJ q2, oS, iv p3, iv p4, iv sc, rv b2, oJ (if q2 = (-9223372036854775808 : Int64) then (0 : Int64) else q2), oS] [(.int (-1 : Int32))])) _
                exact k
              · simp only [if_neg hc14] at k
                refine XS.ifYes X12.here hx rfl (pc0 := 105) (pc' := 112) rfl (hb hby at_105) rfl ((if0 _ _).trans (flt (fun q => hc14 ((lw_lt _ _).mp q))).2.1) (by decide) (by decide) ?_
                show Steps p.tables e below (T12.setTop (mkF m 112 #[oJ q0, oS, iv p1, oJ q2, oS, iv p3, iv p4, iv sc, rv b2, oJ (if q2 = (-9223372036854775808 : Int64) then (0 : Int64) else q2), oS] [])) _
                refine XS.iconst X12.here hx rfl (hb hby at_112) ?_
                show Steps p.tables e below (T12.setTop (mkF m 113 #[oJ q0, oS, iv p1, oJ q2, oS, iv p3, iv p4, iv sc, rv b2, oJ (if q2 = (-9223372036854775808 : Int64) then (0 : Int64) else q2), oS] [(.int (0 : Int32))])) _
                exact k
            show Steps p.tables e below (T12.setTop (mkF m 113 #[oJ q0, oS, iv p1, oJ q2, oS, iv p3, iv p4, iv sc, rv b2, oJ (if q2 = (-9223372036854775808 : Int64) then (0 : Int64) else q2), oS] [(.int (if q0 < (0 : Int64) then (-1 : Int32) else (0 : Int32)))])) _
            exact k
        show Steps p.tables e below (T12.setTop (mkF m 113 #[oJ q0, oS, iv p1, oJ q2, oS, iv p3, iv p4, iv sc, rv b2, oJ (if q2 = (-9223372036854775808 : Int64) then (0 : Int64) else q2), oS] [(.int (if (0 : Int64) < q0 then (1 : Int32) else (if q0 < (0 : Int64) then (-1 : Int32) else (0 : Int32))))])) _
        refine XS.istore X12.here hx rfl (hb hby at_113) rfl (l' := #[oJ q0, oS, iv p1, oJ q2, oS, iv p3, iv p4, iv sc, rv b2, iv (if (0 : Int64) < q0 then (1 : Int32) else (if q0 < (0 : Int64) then (-1 : Int32) else (0 : Int32))), oU]) rfl ?_
        show Steps p.tables e below (T12.setTop (mkF m 115 #[oJ q0, oS, iv p1, oJ q2, oS, iv p3, iv p4, iv sc, rv b2, iv (if (0 : Int64) < q0 then (1 : Int32) else (if q0 < (0 : Int64) then (-1 : Int32) else (0 : Int32))), oU] [])) _
        refine XS.aload X12.here hx rfl (hb hby at_115) rfl rfl ?_
        show Steps p.tables e below (T12.setTop (mkF m 117 #[oJ q0, oS, iv p1, oJ q2, oS, iv p3, iv p4, iv sc, rv b2, iv (if (0 : Int64) < q0 then (1 : Int32) else (if q0 < (0 : Int64) then (-1 : Int32) else (0 : Int32))), oU] [(.ref b2)])) _
        exact k
      refine own_cc (own_callV X12 hx hZ (y := (⟨"com/example/exfactor/exfactor/core/MutableFigure", "scale", "()I"⟩ : MethodName)) (z := (⟨"com/example/exfactor/exfactor/core/MutableFigure", "scale", "()I"⟩ : MethodName)) hown (hw _ (List.mem_of_getElem? (i := 22) rfl)) (hw _ (List.mem_of_getElem? (i := 23) rfl)) (notFace_of_selects (args := #[]) (mvT hZ (hw _ (List.mem_of_getElem? (i := 25) rfl)))) (hw _ (List.mem_of_getElem? (i := 25) rfl)) (hw _ (List.mem_of_getElem? (i := 24) rfl)) (hw _ (List.mem_of_getElem? (i := 4) rfl)) (hw _ (List.mem_of_getElem? (i := 26) rfl)) (by decide) (rm4_3 l Z a0 hw [] b2 sc T12.heap n0 Z0 F_scale_b2 F_big_b2) (rfl : T12.heap = _) 0 (by decide) (by decide) (by decide) (by decide) rfl (by rw [hml]; rfl) b2 E_b2 [] [] rfl (lenOf pd_2 rfl) rfl (by show 2 * 0 + _ ≤ _; exact Nat.le_of_eq rfl) (hb hby at_117)) fun T16 L16 v16 X16 hQ16 => ?_
      obtain ⟨rfl, N16, e16⟩ := hQ16
      replace N0 := Fr.app N0 N16
      show own_Go p e below _ (T16.setTop (mkF m 120 #[oJ q0, oS, iv p1, oJ q2, oS, iv p3, iv p4, iv sc, rv b2, iv (if (0 : Int64) < q0 then (1 : Int32) else (if q0 < (0 : Int64) then (-1 : Int32) else (0 : Int32))), oU] [(.int sc)]))
      refine own_by (B := T16.setTop (mkF m 127 #[oJ q0, oS, iv p1, oJ q2, oS, iv p3, iv p4, iv sc, rv b2, iv (if (0 : Int64) < q0 then (1 : Int32) else (if q0 < (0 : Int64) then (-1 : Int32) else (0 : Int32))), oU] [(.ref b2)])) (fun t k => ?_) ?_
      · show Steps p.tables e below (T16.setTop (mkF m 120 #[oJ q0, oS, iv p1, oJ q2, oS, iv p3, iv p4, iv sc, rv b2, iv (if (0 : Int64) < q0 then (1 : Int32) else (if q0 < (0 : Int64) then (-1 : Int32) else (0 : Int32))), oU] [(.int sc)])) _
        refine XS.iload X16.here hx rfl (hb hby at_120) rfl ?_
        show Steps p.tables e below (T16.setTop (mkF m 122 #[oJ q0, oS, iv p1, oJ q2, oS, iv p3, iv p4, iv sc, rv b2, iv (if (0 : Int64) < q0 then (1 : Int32) else (if q0 < (0 : Int64) then (-1 : Int32) else (0 : Int32))), oU] [(.int sc), (.int sc)])) _
        refine XS.icmpNo X16.here hx rfl (hb hby at_122) rfl (teq (rfl : sc = sc)).2 ?_
        show Steps p.tables e below (T16.setTop (mkF m 125 #[oJ q0, oS, iv p1, oJ q2, oS, iv p3, iv p4, iv sc, rv b2, iv (if (0 : Int64) < q0 then (1 : Int32) else (if q0 < (0 : Int64) then (-1 : Int32) else (0 : Int32))), oU] [])) _
        refine XS.aload X16.here hx rfl (hb hby at_125) rfl rfl ?_
        show Steps p.tables e below (T16.setTop (mkF m 127 #[oJ q0, oS, iv p1, oJ q2, oS, iv p3, iv p4, iv sc, rv b2, iv (if (0 : Int64) < q0 then (1 : Int32) else (if q0 < (0 : Int64) then (-1 : Int32) else (0 : Int32))), oU] [(.ref b2)])) _
        exact k
      refine own_cc (own_callV X16 hx hZ (y := (⟨"com/example/exfactor/exfactor/core/MutableFigure", "signum", "()I"⟩ : MethodName)) (z := (⟨"com/example/exfactor/exfactor/core/MutableFigure", "signum", "()I"⟩ : MethodName)) hown (hw _ (List.mem_of_getElem? (i := 27) rfl)) (hw _ (List.mem_of_getElem? (i := 28) rfl)) (notFace_of_selects (args := #[]) (mvT hZ (hw _ (List.mem_of_getElem? (i := 30) rfl)))) (hw _ (List.mem_of_getElem? (i := 30) rfl)) (hw _ (List.mem_of_getElem? (i := 29) rfl)) (hw _ (List.mem_of_getElem? (i := 4) rfl)) (hw _ (List.mem_of_getElem? (i := 31) rfl)) (by decide) (rm5_4 l Z a0 hw [] b2 q0 T12.heap n0 Z0 F_unscaled_b2 F_big_b2) e16 0 (by decide) (by decide) (by decide) (by decide) rfl (by rw [hml]; rfl) b2 E_b2 [] [] rfl (lenOf pd_2 rfl) rfl (by show 2 * 0 + _ ≤ _; exact Nat.le_of_eq rfl) (hb hby at_127)) fun T18 L18 v18 X18 hQ18 => ?_
      obtain ⟨rfl, N18, e18⟩ := hQ18
      replace N0 := Fr.app N0 N18
      show own_Go p e below _ (T18.setTop (mkF m 130 #[oJ q0, oS, iv p1, oJ q2, oS, iv p3, iv p4, iv sc, rv b2, iv (if (0 : Int64) < q0 then (1 : Int32) else (if q0 < (0 : Int64) then (-1 : Int32) else (0 : Int32))), oU] [(.int (fsgn q0))]))
      refine own_by (B := T18.setTop (mkF m 139 #[oJ q0, oS, iv p1, oJ q2, oS, iv p3, iv p4, iv sc, rv b2, iv (if (0 : Int64) < q0 then (1 : Int32) else (if q0 < (0 : Int64) then (-1 : Int32) else (0 : Int32))), oU] [(.int sc), (.ref b2)])) (fun t k => ?_) ?_
      · show Steps p.tables e below (T18.setTop (mkF m 130 #[oJ q0, oS, iv p1, oJ q2, oS, iv p3, iv p4, iv sc, rv b2, iv (if (0 : Int64) < q0 then (1 : Int32) else (if q0 < (0 : Int64) then (-1 : Int32) else (0 : Int32))), oU] [(.int (fsgn q0))])) _
        refine XS.iload X18.here hx rfl (hb hby at_130) rfl ?_
        show Steps p.tables e below (T18.setTop (mkF m 132 #[oJ q0, oS, iv p1, oJ q2, oS, iv p3, iv p4, iv sc, rv b2, iv (if (0 : Int64) < q0 then (1 : Int32) else (if q0 < (0 : Int64) then (-1 : Int32) else (0 : Int32))), oU] [(.int (if (0 : Int64) < q0 then (1 : Int32) else (if q0 < (0 : Int64) then (-1 : Int32) else (0 : Int32)))), (.int (fsgn q0))])) _
        refine XS.icmpNo X18.here hx rfl (hb hby at_132) rfl (teq (own_sgn q0)).2 ?_
        show Steps p.tables e below (T18.setTop (mkF m 135 #[oJ q0, oS, iv p1, oJ q2, oS, iv p3, iv p4, iv sc, rv b2, iv (if (0 : Int64) < q0 then (1 : Int32) else (if q0 < (0 : Int64) then (-1 : Int32) else (0 : Int32))), oU] [])) _
        refine XS.aload X18.here hx rfl (hb hby at_135) rfl rfl ?_
        show Steps p.tables e below (T18.setTop (mkF m 137 #[oJ q0, oS, iv p1, oJ q2, oS, iv p3, iv p4, iv sc, rv b2, iv (if (0 : Int64) < q0 then (1 : Int32) else (if q0 < (0 : Int64) then (-1 : Int32) else (0 : Int32))), oU] [(.ref b2)])) _
        refine XS.iload X18.here hx rfl (hb hby at_137) rfl ?_
        show Steps p.tables e below (T18.setTop (mkF m 139 #[oJ q0, oS, iv p1, oJ q2, oS, iv p3, iv p4, iv sc, rv b2, iv (if (0 : Int64) < q0 then (1 : Int32) else (if q0 < (0 : Int64) then (-1 : Int32) else (0 : Int32))), oU] [(.int sc), (.ref b2)])) _
        exact k
      refine own_cc (own_callV X18 hx hZ (y := (⟨"com/example/exfactor/exfactor/core/MutableFigure", "unscaledAt", "(I)J"⟩ : MethodName)) (z := (⟨"com/example/exfactor/exfactor/core/MutableFigure", "unscaledAt", "(I)J"⟩ : MethodName)) hown (hw _ (List.mem_of_getElem? (i := 36) rfl)) (hw _ (List.mem_of_getElem? (i := 37) rfl)) (notFace_of_selects (args := #[]) (mvT hZ (hw _ (List.mem_of_getElem? (i := 39) rfl)))) (hw _ (List.mem_of_getElem? (i := 39) rfl)) (hw _ (List.mem_of_getElem? (i := 38) rfl)) (hw _ (List.mem_of_getElem? (i := 4) rfl)) (hw _ (List.mem_of_getElem? (i := 40) rfl)) (by decide) (rm7_7 l Z a0 hw [] b2 sc pt q0 kp (1 : Int64) (10 : Int64) (100 : Int64) (1000 : Int64) (10000 : Int64) (100000 : Int64) (1000000 : Int64) (10000000 : Int64) (100000000 : Int64) (1000000000 : Int64) (10000000000 : Int64) (100000000000 : Int64) (1000000000000 : Int64) (10000000000000 : Int64) (100000000000000 : Int64) (1000000000000000 : Int64) (10000000000000000 : Int64) (100000000000000000 : Int64) (1000000000000000000 : Int64) T12.heap n0 Z0 F_unscaled_b2 F_scale_b2 F_big_b2 V_pt S_POWERS_OF_TEN OZ (by rw [← hsc]; exact (own_sc0 _).1) (by rw [← hsc]; exact (own_sc0 _).2)) e18 0 (by decide) (by decide) (by decide) (by decide) rfl (by rw [hml]; rfl) b2 E_b2 [(.int sc)] [] rfl (lenOf pd_4 rfl) rfl (by show 2 * 0 + _ ≤ _; exact Nat.le_of_eq rfl) (hb hby at_139)) fun T20 L20 v20 X20 hQ20 => ?_
      obtain ⟨rfl, N20, e20⟩ := hQ20
      replace N0 := Fr.app N0 N20
      show own_Go p e below _ (T20.setTop (mkF m 142 #[oJ q0, oS, iv p1, oJ q2, oS, iv p3, iv p4, iv sc, rv b2, iv (if (0 : Int64) < q0 then (1 : Int32) else (if q0 < (0 : Int64) then (-1 : Int32) else (0 : Int32))), oU] [(.long (fme q0 (1 : Int64)))]))
      refine own_by (B := T20.setTop (mkF m 152 #[oJ q0, oS, iv p1, oJ q2, oS, iv p3, iv p4, iv sc, rv b2, iv (if (0 : Int64) < q0 then (1 : Int32) else (if q0 < (0 : Int64) then (-1 : Int32) else (0 : Int32))), oU] [(.int (1 : Int32))])) (fun t k => ?_) ?_
      · show Steps p.tables e below (T20.setTop (mkF m 142 #[oJ q0, oS, iv p1, oJ q2, oS, iv p3, iv p4, iv sc, rv b2, iv (if (0 : Int64) < q0 then (1 : Int32) else (if q0 < (0 : Int64) then (-1 : Int32) else (0 : Int32))), oU] [(.long (fme q0 (1 : Int64)))])) _
        refine XS.lloadN X20.here hx rfl (hb hby at_142) rfl ?_
        show Steps p.tables e below (T20.setTop (mkF m 143 #[oJ q0, oS, iv p1, oJ q2, oS, iv p3, iv p4, iv sc, rv b2, iv (if (0 : Int64) < q0 then (1 : Int32) else (if q0 < (0 : Int64) then (-1 : Int32) else (0 : Int32))), oU] [(.long q0), (.long (fme q0 (1 : Int64)))])) _
        refine XS.lcmp X20.here hx rfl (hb hby at_143) rfl ?_
        show Steps p.tables e below (T20.setTop (mkF m 144 #[oJ q0, oS, iv p1, oJ q2, oS, iv p3, iv p4, iv sc, rv b2, iv (if (0 : Int64) < q0 then (1 : Int32) else (if q0 < (0 : Int64) then (-1 : Int32) else (0 : Int32))), oU] [(.int (lcmpW (fme q0 (1 : Int64)) q0))])) _
        refine XS.ifNo X20.here hx rfl (hb hby at_144) rfl ((if0 _ _).trans (teq ((lw_eq _ _).mpr (own_fme1 q0))).2) ?_
        show Steps p.tables e below (T20.setTop (mkF m 147 #[oJ q0, oS, iv p1, oJ q2, oS, iv p3, iv p4, iv sc, rv b2, iv (if (0 : Int64) < q0 then (1 : Int32) else (if q0 < (0 : Int64) then (-1 : Int32) else (0 : Int32))), oU] [])) _
        refine XS.iconst X20.here hx rfl (hb hby at_147) ?_
        show Steps p.tables e below (T20.setTop (mkF m 148 #[oJ q0, oS, iv p1, oJ q2, oS, iv p3, iv p4, iv sc, rv b2, iv (if (0 : Int64) < q0 then (1 : Int32) else (if q0 < (0 : Int64) then (-1 : Int32) else (0 : Int32))), oU] [(.int (1 : Int32))])) _
        refine XS.goto X20.here hx rfl (pc0 := 148) (pc' := 152) rfl (hb hby at_148) (by decide) (by decide) ?_
        show Steps p.tables e below (T20.setTop (mkF m 152 #[oJ q0, oS, iv p1, oJ q2, oS, iv p3, iv p4, iv sc, rv b2, iv (if (0 : Int64) < q0 then (1 : Int32) else (if q0 < (0 : Int64) then (-1 : Int32) else (0 : Int32))), oU] [(.int (1 : Int32))])) _
        exact k
      exact own_retN X20 Bd.notSynchronized hx (t := .boolean) Bd.returns (by simp) (hb hby at_152) (by
          rw [show T20.heap = T12.heap from e20]
          exact ⟨rfl, N0⟩) (by decide) (by decide)
    · skip
      refine own_by (fun t k => XS.ifNo X4.here hx rfl (hb hby at_32) rfl ((if0 _ _).trans (feq hc7).1) k) ?_
      show own_Go p e below _ (T4.setTop (mkF m 35 #[oJ q0, oS, iv p1, oJ q2, oS, iv p3, iv p4, iv sc, rv b2, oU, oU] []))
      refine own_by (B := T4.setTop (mkF m 41 #[oJ q0, oS, iv p1, oJ q2, oS, iv p3, iv p4, iv sc, rv b2, oU, oU] [(.int (0 : Int32)), (.long (9223372036854775807 : Int64)), (.ref b2)])) (fun t k => ?_) ?_
      · show Steps p.tables e below (T4.setTop (mkF m 35 #[oJ q0, oS, iv p1, oJ q2, oS, iv p3, iv p4, iv sc, rv b2, oU, oU] [])) _
        refine XS.aload X4.here hx rfl (hb hby at_35) rfl rfl ?_
        show Steps p.tables e below (T4.setTop (mkF m 37 #[oJ q0, oS, iv p1, oJ q2, oS, iv p3, iv p4, iv sc, rv b2, oU, oU] [(.ref b2)])) _
        refine X4.ldc2Long hx hown (mvT hZ (hw _ (List.mem_of_getElem? (i := 57) rfl))) (g := (mkF m 37 #[oJ q0, oS, iv p1, oJ q2, oS, iv p3, iv p4, iv sc, rv b2, oU, oU] [(.ref b2)])) rfl (hb hby at_37) _ ?_
        show Steps p.tables e below (T4.setTop (mkF m 40 #[oJ q0, oS, iv p1, oJ q2, oS, iv p3, iv p4, iv sc, rv b2, oU, oU] [(.long (9223372036854775807 : Int64)), (.ref b2)])) _
        refine XS.iconst X4.here hx rfl (hb hby at_40) ?_
        show Steps p.tables e below (T4.setTop (mkF m 41 #[oJ q0, oS, iv p1, oJ q2, oS, iv p3, iv p4, iv sc, rv b2, oU, oU] [(.int (0 : Int32)), (.long (9223372036854775807 : Int64)), (.ref b2)])) _
        exact k
      refine own_cc (own_callV X4 hx hZ (y := (⟨"com/example/exfactor/exfactor/core/MutableFigure", "set", "(JI)V"⟩ : MethodName)) (z := (⟨"com/example/exfactor/exfactor/core/MutableFigure", "set", "(JI)V"⟩ : MethodName)) hown (hw _ (List.mem_of_getElem? (i := 11) rfl)) (hw _ (List.mem_of_getElem? (i := 12) rfl)) (notFace_of_selects (args := #[]) (mvT hZ (hw _ (List.mem_of_getElem? (i := 14) rfl)))) (hw _ (List.mem_of_getElem? (i := 14) rfl)) (hw _ (List.mem_of_getElem? (i := 13) rfl)) (hw _ (List.mem_of_getElem? (i := 4) rfl)) (hw _ (List.mem_of_getElem? (i := 15) rfl)) (by decide) (rm3_2 l Z a0 hw [] b2 (9223372036854775807 : Int64) (0 : Int32) (0 : Int64) (0 : Int32) h2 n0 Z0 g_b2 E_b2 F_unscaled_b2 F_scale_b2 F_big_b2) e4 0 (by decide) (by decide) (by decide) (by decide) rfl (by rw [hml]; rfl) b2 E_b2 [(.long (9223372036854775807 : Int64)), (.int (0 : Int32))] [] rfl (lenOf pd_1 rfl) rfl (by show 2 * 0 + _ ≤ _; exact Nat.le_of_eq rfl) (hb hby at_41)) fun T22 L22 v22 X22 hQ22 => ?_
      obtain ⟨rfl, N22, K22, E_b2', F_unscaled_b2', F_scale_b2', F_big_b2'⟩ := hQ22
      replace N0 := Fr.app N0 N22
      replace V_pt := V_pt.keep K22 (ninS ne_pt_b2 nin0)
      replace V_zt := V_zt.keep K22 (ninS ne_zt_b2 nin0)
      replace E_b2 := E_b2.keep K22
      replace OZ := OZ.keep K22 (allS g_b2 all0)
      replace Z0 := Nat.le_trans Z0 K22.1
      replace E_b2 := E_b2'
      have F_unscaled_b2 := F_unscaled_b2'
      have F_scale_b2 := F_scale_b2'
      have F_big_b2 := F_big_b2'
      show own_Go p e below _ (T22.setTop (mkF m 44 #[oJ q0, oS, iv p1, oJ q2, oS, iv p3, iv p4, iv sc, rv b2, oU, oU] []))
      refine own_by (B := T22.setTop (mkF m 48 #[oJ q0, oS, iv p1, oJ q2, oS, iv p3, iv p4, iv sc, rv b2, oU, oU] [(.ref b2), (.ref b2)])) (fun t k => ?_) ?_
      · show Steps p.tables e below (T22.setTop (mkF m 44 #[oJ q0, oS, iv p1, oJ q2, oS, iv p3, iv p4, iv sc, rv b2, oU, oU] [])) _
        refine XS.aload X22.here hx rfl (hb hby at_44) rfl rfl ?_
        show Steps p.tables e below (T22.setTop (mkF m 46 #[oJ q0, oS, iv p1, oJ q2, oS, iv p3, iv p4, iv sc, rv b2, oU, oU] [(.ref b2)])) _
        refine XS.aload X22.here hx rfl (hb hby at_46) rfl rfl ?_
        show Steps p.tables e below (T22.setTop (mkF m 48 #[oJ q0, oS, iv p1, oJ q2, oS, iv p3, iv p4, iv sc, rv b2, oU, oU] [(.ref b2), (.ref b2)])) _
        exact k
      refine own_cc (own_callV X22 hx hZ (y := (⟨"com/example/exfactor/exfactor/core/MutableFigure", "add", "(Lcom/example/exfactor/exfactor/core/MutableFigure;)V"⟩ : MethodName)) (z := (⟨"com/example/exfactor/exfactor/core/MutableFigure", "add", "(Lcom/example/exfactor/exfactor/core/MutableFigure;)V"⟩ : MethodName)) hown (hw _ (List.mem_of_getElem? (i := 58) rfl)) (hw _ (List.mem_of_getElem? (i := 59) rfl)) (notFace_of_selects (args := #[]) (mvT hZ (hw _ (List.mem_of_getElem? (i := 61) rfl)))) (hw _ (List.mem_of_getElem? (i := 61) rfl)) (hw _ (List.mem_of_getElem? (i := 60) rfl)) (hw _ (List.mem_of_getElem? (i := 4) rfl)) (hw _ (List.mem_of_getElem? (i := 62) rfl)) (by decide) (rm12_25 l Z a0 hw [] b2 pt zt w0 w1 w2 w3 w4 w5 w6 w7 w8 w9 w10 (9223372036854775807 : Int64) kp (1 : Int64) (10 : Int64) (100 : Int64) (1000 : Int64) (10000 : Int64) (100000 : Int64) (1000000 : Int64) (10000000 : Int64) (100000000 : Int64) (1000000000 : Int64) (10000000000 : Int64) (100000000000 : Int64) (1000000000000 : Int64) (10000000000000 : Int64) (100000000000000 : Int64) (1000000000000000 : Int64) (10000000000000000 : Int64) (100000000000000000 : Int64) (1000000000000000000 : Int64) kt T22.heap n0 Z0 g_b2 E_b2 F_unscaled_b2 F_scale_b2 F_big_b2 V_pt V_zt S_POWERS_OF_TEN S_ZERO_THROUGH_TEN hMB OZ (by decide : ¬ ((9223372036854775807 : Int64) = (-9223372036854775808 : Int64))) (by decide : (-9223372036854775807 : Int64) < (0 : Int64)) (by decide : ¬ ((9223372036854775807 : Int64) < (0 : Int64))) (by decide : ¬ ((9223372036854775807 : Int64) < (11 : Int64))) (by decide : ¬ ((9223372036854775807 : Int64) = (-9223372036854775808 : Int64))) (by decide : (-9223372036854775808 : Int64) = (-9223372036854775808 : Int64)) (by decide : ¬ ((9223372036854775807 : Int64) = (0 : Int64))) (by decide : (0 : Int64) < (9223372036854775807 : Int64)) (by decide : (16 : Int64) < (9223372036854775807 : Int64)) (by decide : ¬ ((2147483647 : Int32) = (0 : Int32))) (by decide : (1 : Int32) = (1 : Int32)) (by decide : ¬ ((2147483647 : Int32) = (0 : Int32))) (by decide : (0 : Int64) = (0 : Int64)) (by decide : (-1 : Int32) < (0 : Int32))) (rfl : T22.heap = _) 0 (by decide) (by decide) (by decide) (by decide) rfl (by rw [hml]; rfl) b2 E_b2 [(.ref b2)] [] rfl (lenOf pd_8 rfl) rfl (by show 2 * 0 + _ ≤ _; exact Nat.le_of_eq rfl) (hb hby at_48)) fun T24 L24 v24 X24 hQ24 => ?_
      obtain ⟨b3_2_8_20_2_24, b5_7_2_8_20_2_24, b2_10_7_2_8_20_2_24, k2_10_7_2_8_20_2_24, rfl, N24, K24, E_b2', F_unscaled_b2', F_scale_b2', F_big_b2', E_b3_2_8_20_2_24', F_scale_b3_2_8_20_2_24', F_precision_b3_2_8_20_2_24', F_intCompact_b3_2_8_20_2_24', F_intVal_b3_2_8_20_2_24', E_b5_7_2_8_20_2_24', F_signum_b5_7_2_8_20_2_24', F_mag_b5_7_2_8_20_2_24', V_b2_10_7_2_8_20_2_24', sz_b3_2_8_20_2_24', sz_b5_7_2_8_20_2_24', sz_b2_10_7_2_8_20_2_24', ne_b3_2_8_20_2_24_b5_7_2_8_20_2_24', ne_b3_2_8_20_2_24_b2_10_7_2_8_20_2_24', ne_b5_7_2_8_20_2_24_b2_10_7_2_8_20_2_24'⟩ := hQ24
      replace N0 := Fr.app N0 N24
      have g_b3_2_8_20_2_24 : n0 ≤ b3_2_8_20_2_24 := Nat.le_trans Z0 sz_b3_2_8_20_2_24'
      have ne_pt_b3_2_8_20_2_24 : pt ≠ b3_2_8_20_2_24 := Nat.ne_of_lt (Nat.lt_of_lt_of_le V_pt.lt sz_b3_2_8_20_2_24')
      have ne_zt_b3_2_8_20_2_24 : zt ≠ b3_2_8_20_2_24 := Nat.ne_of_lt (Nat.lt_of_lt_of_le V_zt.lt sz_b3_2_8_20_2_24')
      have ne_b2_b3_2_8_20_2_24 : b2 ≠ b3_2_8_20_2_24 := Nat.ne_of_lt (Nat.lt_of_lt_of_le E_b2.lt sz_b3_2_8_20_2_24')
      have g_b5_7_2_8_20_2_24 : n0 ≤ b5_7_2_8_20_2_24 := Nat.le_trans Z0 sz_b5_7_2_8_20_2_24'
      have ne_pt_b5_7_2_8_20_2_24 : pt ≠ b5_7_2_8_20_2_24 := Nat.ne_of_lt (Nat.lt_of_lt_of_le V_pt.lt sz_b5_7_2_8_20_2_24')
      have ne_zt_b5_7_2_8_20_2_24 : zt ≠ b5_7_2_8_20_2_24 := Nat.ne_of_lt (Nat.lt_of_lt_of_le V_zt.lt sz_b5_7_2_8_20_2_24')
      have ne_b2_b5_7_2_8_20_2_24 : b2 ≠ b5_7_2_8_20_2_24 := Nat.ne_of_lt (Nat.lt_of_lt_of_le E_b2.lt sz_b5_7_2_8_20_2_24')
      have g_b2_10_7_2_8_20_2_24 : n0 ≤ b2_10_7_2_8_20_2_24 := Nat.le_trans Z0 sz_b2_10_7_2_8_20_2_24'
      have ne_pt_b2_10_7_2_8_20_2_24 : pt ≠ b2_10_7_2_8_20_2_24 := Nat.ne_of_lt (Nat.lt_of_lt_of_le V_pt.lt sz_b2_10_7_2_8_20_2_24')
      have ne_zt_b2_10_7_2_8_20_2_24 : zt ≠ b2_10_7_2_8_20_2_24 := Nat.ne_of_lt (Nat.lt_of_lt_of_le V_zt.lt sz_b2_10_7_2_8_20_2_24')
      have ne_b2_b2_10_7_2_8_20_2_24 : b2 ≠ b2_10_7_2_8_20_2_24 := Nat.ne_of_lt (Nat.lt_of_lt_of_le E_b2.lt sz_b2_10_7_2_8_20_2_24')
      replace V_pt := V_pt.keep K24 (ninS ne_pt_b2 nin0)
      replace V_zt := V_zt.keep K24 (ninS ne_zt_b2 nin0)
      replace E_b2 := E_b2.keep K24
      replace OZ := OZ.keep K24 (allS g_b2 all0)
      replace Z0 := Nat.le_trans Z0 K24.1
      replace E_b2 := E_b2'
      have F_unscaled_b2 := F_unscaled_b2'
      have F_scale_b2 := F_scale_b2'
      have F_big_b2 := F_big_b2'
      have E_b3_2_8_20_2_24 := E_b3_2_8_20_2_24'
      have F_scale_b3_2_8_20_2_24 := F_scale_b3_2_8_20_2_24'
      have F_precision_b3_2_8_20_2_24 := F_precision_b3_2_8_20_2_24'
      have F_intCompact_b3_2_8_20_2_24 := F_intCompact_b3_2_8_20_2_24'
      have F_intVal_b3_2_8_20_2_24 := F_intVal_b3_2_8_20_2_24'
      have E_b5_7_2_8_20_2_24 := E_b5_7_2_8_20_2_24'
      have F_signum_b5_7_2_8_20_2_24 := F_signum_b5_7_2_8_20_2_24'
      have F_mag_b5_7_2_8_20_2_24 := F_mag_b5_7_2_8_20_2_24'
      have V_b2_10_7_2_8_20_2_24 : Arv Z T24.heap b2_10_7_2_8_20_2_24 k2_10_7_2_8_20_2_24 .int (2 : Int32) [(.int (-1 : Int32)), (.int (-2 : Int32))] (.int (0 : Int32)) := V_b2_10_7_2_8_20_2_24'
      have ne_b3_2_8_20_2_24_b5_7_2_8_20_2_24 := ne_b3_2_8_20_2_24_b5_7_2_8_20_2_24'
      have ne_b3_2_8_20_2_24_b2_10_7_2_8_20_2_24 := ne_b3_2_8_20_2_24_b2_10_7_2_8_20_2_24'
      have ne_b5_7_2_8_20_2_24_b2_10_7_2_8_20_2_24 := ne_b5_7_2_8_20_2_24_b2_10_7_2_8_20_2_24'
      show own_Go p e below _ (T24.setTop (mkF m 51 #[oJ q0, oS, iv p1, oJ q2, oS, iv p3, iv p4, iv sc, rv b2, oU, oU] []))
      refine own_by (B := T24.setTop (mkF m 89 #[oJ q0, oS, iv p1, oJ q2, oS, iv p3, iv p4, iv sc, rv b2, oU, oU] [(.int sc), (.long q0), (.ref b2)])) (fun t k => ?_) ?_
      · show Steps p.tables e below (T24.setTop (mkF m 51 #[oJ q0, oS, iv p1, oJ q2, oS, iv p3, iv p4, iv sc, rv b2, oU, oU] [])) _
        refine XS.goto X24.here hx rfl (pc0 := 51) (pc' := 84) rfl (hb hby at_51) (by decide) (by decide) ?_
        show Steps p.tables e below (T24.setTop (mkF m 84 #[oJ q0, oS, iv p1, oJ q2, oS, iv p3, iv p4, iv sc, rv b2, oU, oU] [])) _
        refine XS.aload X24.here hx rfl (hb hby at_84) rfl rfl ?_
        show Steps p.tables e below (T24.setTop (mkF m 86 #[oJ q0, oS, iv p1, oJ q2, oS, iv p3, iv p4, iv sc, rv b2, oU, oU] [(.ref b2)])) _
        refine XS.lloadN X24.here hx rfl (hb hby at_86) rfl ?_
        show Steps p.tables e below (T24.setTop (mkF m 87 #[oJ q0, oS, iv p1, oJ q2, oS, iv p3, iv p4, iv sc, rv b2, oU, oU] [(.long q0), (.ref b2)])) _
        refine XS.iload X24.here hx rfl (hb hby at_87) rfl ?_
        show Steps p.tables e below (T24.setTop (mkF m 89 #[oJ q0, oS, iv p1, oJ q2, oS, iv p3, iv p4, iv sc, rv b2, oU, oU] [(.int sc), (.long q0), (.ref b2)])) _
        exact k
      refine own_cc (own_callV X24 hx hZ (y := (⟨"com/example/exfactor/exfactor/core/MutableFigure", "set", "(JI)V"⟩ : MethodName)) (z := (⟨"com/example/exfactor/exfactor/core/MutableFigure", "set", "(JI)V"⟩ : MethodName)) hown (hw _ (List.mem_of_getElem? (i := 11) rfl)) (hw _ (List.mem_of_getElem? (i := 12) rfl)) (notFace_of_selects (args := #[]) (mvT hZ (hw _ (List.mem_of_getElem? (i := 14) rfl)))) (hw _ (List.mem_of_getElem? (i := 14) rfl)) (hw _ (List.mem_of_getElem? (i := 13) rfl)) (hw _ (List.mem_of_getElem? (i := 4) rfl)) (hw _ (List.mem_of_getElem? (i := 15) rfl)) (by decide) (rm3_26 l Z a0 hw [] b2 q0 sc b3_2_8_20_2_24 (9223372036854775807 : Int64) (0 : Int32) T24.heap n0 Z0 g_b2 E_b2 F_unscaled_b2 F_scale_b2 F_big_b2) (rfl : T24.heap = _) 0 (by decide) (by decide) (by decide) (by decide) rfl (by rw [hml]; rfl) b2 E_b2 [(.long q0), (.int sc)] [] rfl (lenOf pd_1 rfl) rfl (by show 2 * 0 + _ ≤ _; exact Nat.le_of_eq rfl) (hb hby at_89)) fun T26 L26 v26 X26 hQ26 => ?_
      obtain ⟨rfl, N26, K26, E_b2', F_unscaled_b2', F_scale_b2', F_big_b2'⟩ := hQ26
      replace N0 := Fr.app N0 N26
      replace V_pt := V_pt.keep K26 (ninS ne_pt_b2 nin0)
      replace V_zt := V_zt.keep K26 (ninS ne_zt_b2 nin0)
      replace E_b2 := E_b2.keep K26
      replace E_b3_2_8_20_2_24 := E_b3_2_8_20_2_24.keep K26
      replace F_scale_b3_2_8_20_2_24 := F_scale_b3_2_8_20_2_24.keep K26 (ninS (Ne.symm ne_b2_b3_2_8_20_2_24) nin0)
      replace F_precision_b3_2_8_20_2_24 := F_precision_b3_2_8_20_2_24.keep K26 (ninS (Ne.symm ne_b2_b3_2_8_20_2_24) nin0)
      replace F_intCompact_b3_2_8_20_2_24 := F_intCompact_b3_2_8_20_2_24.keep K26 (ninS (Ne.symm ne_b2_b3_2_8_20_2_24) nin0)
      replace F_intVal_b3_2_8_20_2_24 := F_intVal_b3_2_8_20_2_24.keep K26 (ninS (Ne.symm ne_b2_b3_2_8_20_2_24) nin0)
      replace E_b5_7_2_8_20_2_24 := E_b5_7_2_8_20_2_24.keep K26
      replace F_signum_b5_7_2_8_20_2_24 := F_signum_b5_7_2_8_20_2_24.keep K26 (ninS (Ne.symm ne_b2_b5_7_2_8_20_2_24) nin0)
      replace F_mag_b5_7_2_8_20_2_24 := F_mag_b5_7_2_8_20_2_24.keep K26 (ninS (Ne.symm ne_b2_b5_7_2_8_20_2_24) nin0)
      replace V_b2_10_7_2_8_20_2_24 := V_b2_10_7_2_8_20_2_24.keep K26 (ninS (Ne.symm ne_b2_b2_10_7_2_8_20_2_24) nin0)
      replace OZ := OZ.keep K26 (allS g_b2 all0)
      replace Z0 := Nat.le_trans Z0 K26.1
      replace E_b2 := E_b2'
      have F_unscaled_b2 := F_unscaled_b2'
      have F_scale_b2 := F_scale_b2'
      have F_big_b2 := F_big_b2'
      show own_Go p e below _ (T26.setTop (mkF m 92 #[oJ q0, oS, iv p1, oJ q2, oS, iv p3, iv p4, iv sc, rv b2, oU, oU] []))
      refine own_by (B := T26.setTop (mkF m 117 #[oJ q0, oS, iv p1, oJ q2, oS, iv p3, iv p4, iv sc, rv b2, iv (if (0 : Int64) < q0 then (1 : Int32) else (if q0 < (0 : Int64) then (-1 : Int32) else (0 : Int32))), oU] [(.ref b2)])) (fun t k => ?_) ?_
      · show Steps p.tables e below (T26.setTop (mkF m 92 #[oJ q0, oS, iv p1, oJ q2, oS, iv p3, iv p4, iv sc, rv b2, oU, oU] [])) _
        refine XS.lloadN X26.here hx rfl (hb hby at_92) rfl ?_
        show Steps p.tables e below (T26.setTop (mkF m 93 #[oJ q0, oS, iv p1, oJ q2, oS, iv p3, iv p4, iv sc, rv b2, oU, oU] [(.long q0)])) _
        refine XS.lconst X26.here hx rfl (hb hby at_93) ?_
        show Steps p.tables e below (T26.setTop (mkF m 94 #[oJ q0, oS, iv p1, oJ q2, oS, iv p3, iv p4, iv sc, rv b2, oU, oU] [(.long (0 : Int64)), (.long q0)])) _
        refine XS.lcmp X26.here hx rfl (hb hby at_94) rfl ?_
        show Steps p.tables e below (T26.setTop (mkF m 95 #[oJ q0, oS, iv p1, oJ q2, oS, iv p3, iv p4, iv sc, rv b2, oU, oU] [(.int (lcmpW q0 (0 : Int64)))])) _
        refine (fun t (k : Steps p.tables e below (T26.setTop (mkF m 113 #[oJ q0, oS, iv p1, oJ q2, oS, iv p3, iv p4, iv sc, rv b2, oU, oU] [(.int (if (0 : Int64) < q0 then (1 : Int32) else (if q0 < (0 : Int64) then (-1 : Int32) else (0 : Int32))))])) t) => (?_ : Steps p.tables e below _ t)) _ ?_
        · by_cases hc27 : (0 : Int64) < q0
          · simp only [if_pos hc27] at k
            refine XS.ifNo X26.here hx rfl (hb hby at_95) rfl ((if0 _ _).trans (tlt ((lw_gt _ _).mpr hc27)).2.2.2) ?_
            show Steps p.tables e below (T26.setTop (mkF m 98 #[oJ q0, oS, iv p1, oJ q2, oS, iv p3, iv p4, iv sc, rv b2, oU, oU] [])) _
            refine XS.iconst X26.here hx rfl (hb hby at_98) ?_
            show Steps p.tables e below (T26.setTop (mkF m 99 #[oJ q0, oS, iv p1, oJ q2, oS, iv p3, iv p4, iv sc, rv b2, oU, oU] [(.int (1 : Int32))])) _
            refine XS.goto X26.here hx rfl (pc0 := 99) (pc' := 113) rfl (hb hby at_99) (by decide) (by decide) ?_
            show Steps p.tables e below (T26.setTop (mkF m 113 #[oJ q0, oS, iv p1, oJ q2, oS, iv p3, iv p4, iv sc, rv b2, oU, oU] [(.int (1 : Int32))])) _
            exact k
          · simp only [if_neg hc27] at k
            refine XS.ifYes X26.here hx rfl (pc0 := 95) (pc' := 102) rfl (hb hby at_95) rfl ((if0 _ _).trans (flt (fun q => hc27 ((lw_gt _ _).mp q))).2.2.2) (by decide) (by decide) ?_
            show Steps p.tables e below (T26.setTop (mkF m 102 #[oJ q0, oS, iv p1, oJ q2, oS, iv p3, iv p4, iv sc, rv b2, oU, oU] [])) _
            refine XS.lloadN X26.here hx rfl (hb hby at_102) rfl ?_
            show Steps p.tables e below (T26.setTop (mkF m 103 #[oJ q0, oS, iv p1, oJ q2, oS, iv p3, iv p4, iv sc, rv b2, oU, oU] [(.long q0)])) _
            refine XS.lconst X26.here hx rfl (hb hby at_103) ?_
            show Steps p.tables e below (T26.setTop (mkF m 104 #[oJ q0, oS, iv p1, oJ q2, oS, iv p3, iv p4, iv sc, rv b2, oU, oU] [(.long (0 : Int64)), (.long q0)])) _
            refine XS.lcmp X26.here hx rfl (hb hby at_104) rfl ?_
            show Steps p.tables e below (T26.setTop (mkF m 105 #[oJ q0, oS, iv p1, oJ q2, oS, iv p3, iv p4, iv sc, rv b2, oU, oU] [(.int (lcmpW q0 (0 : Int64)))])) _
            refine (fun t (k : Steps p.tables e below (T26.setTop (mkF m 113 #[oJ q0, oS, iv p1, oJ q2, oS, iv p3, iv p4, iv sc, rv b2, oU, oU] [(.int (if q0 < (0 : Int64) then (-1 : Int32) else (0 : Int32)))])) t) => (?_ : Steps p.tables e below _ t)) _ ?_
            · by_cases hc28 : q0 < (0 : Int64)
              · simp only [if_pos hc28] at k
                refine XS.ifNo X26.here hx rfl (hb hby at_105) rfl ((if0 _ _).trans (tlt ((lw_lt _ _).mpr hc28)).2.1) ?_
                show Steps p.tables e below (T26.setTop (mkF m 108 #[oJ q0, oS, iv p1, oJ q2, oS, iv p3, iv p4, iv sc, rv b2, oU, oU] [])) _
                refine XS.iconst X26.here hx rfl (hb hby at_108) ?_
                show Steps p.tables e below (T26.setTop (mkF m 109 #[oJ q0, oS, iv p1, oJ q2, oS, iv p3, iv p4, iv sc, rv b2, oU, oU] [(.int (-1 : Int32))])) _
                refine XS.goto X26.here hx rfl (pc0 := 109) (pc' := 113) rfl (hb hby at_109) (by decide) (by decide) ?_
                show Steps p.tables e below (T26.setTop (mkF m 113 #[oJ q0, oS, iv p1, oJ q2, oS, iv p3, iv p4, iv sc, rv b2, oU, oU] [(.int (-1 : Int32))])) _
                exact k
              · simp only [if_neg hc28] at k
                refine XS.ifYes X26.here hx rfl (pc0 := 105) (pc' := 112) rfl (hb hby at_105) rfl ((if0 _ _).trans (flt (fun q => hc28 ((lw_lt _ _).mp q))).2.1) (by decide) (by decide) ?_
                show Steps p.tables e below (T26.setTop (mkF m 112 #[oJ q0, oS, iv p1, oJ q2, oS, iv p3, iv p4, iv sc, rv b2, oU, oU] [])) _
                refine XS.iconst X26.here hx rfl (hb hby at_112) ?_
                show Steps p.tables e below (T26.setTop (mkF m 113 #[oJ q0, oS, iv p1, oJ q2, oS, iv p3, iv p4, iv sc, rv b2, oU, oU] [(.int (0 : Int32))])) _
                exact k
            show Steps p.tables e below (T26.setTop (mkF m 113 #[oJ q0, oS, iv p1, oJ q2, oS, iv p3, iv p4, iv sc, rv b2, oU, oU] [(.int (if q0 < (0 : Int64) then (-1 : Int32) else (0 : Int32)))])) _
            exact k
        show Steps p.tables e below (T26.setTop (mkF m 113 #[oJ q0, oS, iv p1, oJ q2, oS, iv p3, iv p4, iv sc, rv b2, oU, oU] [(.int (if (0 : Int64) < q0 then (1 : Int32) else (if q0 < (0 : Int64) then (-1 : Int32) else (0 : Int32))))])) _
        refine XS.istore X26.here hx rfl (hb hby at_113) rfl (l' := #[oJ q0, oS, iv p1, oJ q2, oS, iv p3, iv p4, iv sc, rv b2, iv (if (0 : Int64) < q0 then (1 : Int32) else (if q0 < (0 : Int64) then (-1 : Int32) else (0 : Int32))), oU]) rfl ?_
        show Steps p.tables e below (T26.setTop (mkF m 115 #[oJ q0, oS, iv p1, oJ q2, oS, iv p3, iv p4, iv sc, rv b2, iv (if (0 : Int64) < q0 then (1 : Int32) else (if q0 < (0 : Int64) then (-1 : Int32) else (0 : Int32))), oU] [])) _
        refine XS.aload X26.here hx rfl (hb hby at_115) rfl rfl ?_
        show Steps p.tables e below (T26.setTop (mkF m 117 #[oJ q0, oS, iv p1, oJ q2, oS, iv p3, iv p4, iv sc, rv b2, iv (if (0 : Int64) < q0 then (1 : Int32) else (if q0 < (0 : Int64) then (-1 : Int32) else (0 : Int32))), oU] [(.ref b2)])) _
        exact k
      refine own_cc (own_callV X26 hx hZ (y := (⟨"com/example/exfactor/exfactor/core/MutableFigure", "scale", "()I"⟩ : MethodName)) (z := (⟨"com/example/exfactor/exfactor/core/MutableFigure", "scale", "()I"⟩ : MethodName)) hown (hw _ (List.mem_of_getElem? (i := 22) rfl)) (hw _ (List.mem_of_getElem? (i := 23) rfl)) (notFace_of_selects (args := #[]) (mvT hZ (hw _ (List.mem_of_getElem? (i := 25) rfl)))) (hw _ (List.mem_of_getElem? (i := 25) rfl)) (hw _ (List.mem_of_getElem? (i := 24) rfl)) (hw _ (List.mem_of_getElem? (i := 4) rfl)) (hw _ (List.mem_of_getElem? (i := 26) rfl)) (by decide) (rm4_3 l Z a0 hw [] b2 sc T26.heap n0 Z0 F_scale_b2 F_big_b2) (rfl : T26.heap = _) 0 (by decide) (by decide) (by decide) (by decide) rfl (by rw [hml]; rfl) b2 E_b2 [] [] rfl (lenOf pd_2 rfl) rfl (by show 2 * 0 + _ ≤ _; exact Nat.le_of_eq rfl) (hb hby at_117)) fun T30 L30 v30 X30 hQ30 => ?_
      obtain ⟨rfl, N30, e30⟩ := hQ30
      replace N0 := Fr.app N0 N30
      show own_Go p e below _ (T30.setTop (mkF m 120 #[oJ q0, oS, iv p1, oJ q2, oS, iv p3, iv p4, iv sc, rv b2, iv (if (0 : Int64) < q0 then (1 : Int32) else (if q0 < (0 : Int64) then (-1 : Int32) else (0 : Int32))), oU] [(.int sc)]))
      refine own_by (B := T30.setTop (mkF m 127 #[oJ q0, oS, iv p1, oJ q2, oS, iv p3, iv p4, iv sc, rv b2, iv (if (0 : Int64) < q0 then (1 : Int32) else (if q0 < (0 : Int64) then (-1 : Int32) else (0 : Int32))), oU] [(.ref b2)])) (fun t k => ?_) ?_
      · show Steps p.tables e below (T30.setTop (mkF m 120 #[oJ q0, oS, iv p1, oJ q2, oS, iv p3, iv p4, iv sc, rv b2, iv (if (0 : Int64) < q0 then (1 : Int32) else (if q0 < (0 : Int64) then (-1 : Int32) else (0 : Int32))), oU] [(.int sc)])) _
        refine XS.iload X30.here hx rfl (hb hby at_120) rfl ?_
        show Steps p.tables e below (T30.setTop (mkF m 122 #[oJ q0, oS, iv p1, oJ q2, oS, iv p3, iv p4, iv sc, rv b2, iv (if (0 : Int64) < q0 then (1 : Int32) else (if q0 < (0 : Int64) then (-1 : Int32) else (0 : Int32))), oU] [(.int sc), (.int sc)])) _
        refine XS.icmpNo X30.here hx rfl (hb hby at_122) rfl (teq (rfl : sc = sc)).2 ?_
        show Steps p.tables e below (T30.setTop (mkF m 125 #[oJ q0, oS, iv p1, oJ q2, oS, iv p3, iv p4, iv sc, rv b2, iv (if (0 : Int64) < q0 then (1 : Int32) else (if q0 < (0 : Int64) then (-1 : Int32) else (0 : Int32))), oU] [])) _
        refine XS.aload X30.here hx rfl (hb hby at_125) rfl rfl ?_
        show Steps p.tables e below (T30.setTop (mkF m 127 #[oJ q0, oS, iv p1, oJ q2, oS, iv p3, iv p4, iv sc, rv b2, iv (if (0 : Int64) < q0 then (1 : Int32) else (if q0 < (0 : Int64) then (-1 : Int32) else (0 : Int32))), oU] [(.ref b2)])) _
        exact k
      refine own_cc (own_callV X30 hx hZ (y := (⟨"com/example/exfactor/exfactor/core/MutableFigure", "signum", "()I"⟩ : MethodName)) (z := (⟨"com/example/exfactor/exfactor/core/MutableFigure", "signum", "()I"⟩ : MethodName)) hown (hw _ (List.mem_of_getElem? (i := 27) rfl)) (hw _ (List.mem_of_getElem? (i := 28) rfl)) (notFace_of_selects (args := #[]) (mvT hZ (hw _ (List.mem_of_getElem? (i := 30) rfl)))) (hw _ (List.mem_of_getElem? (i := 30) rfl)) (hw _ (List.mem_of_getElem? (i := 29) rfl)) (hw _ (List.mem_of_getElem? (i := 4) rfl)) (hw _ (List.mem_of_getElem? (i := 31) rfl)) (by decide) (rm5_4 l Z a0 hw [] b2 q0 T26.heap n0 Z0 F_unscaled_b2 F_big_b2) e30 0 (by decide) (by decide) (by decide) (by decide) rfl (by rw [hml]; rfl) b2 E_b2 [] [] rfl (lenOf pd_2 rfl) rfl (by show 2 * 0 + _ ≤ _; exact Nat.le_of_eq rfl) (hb hby at_127)) fun T32 L32 v32 X32 hQ32 => ?_
      obtain ⟨rfl, N32, e32⟩ := hQ32
      replace N0 := Fr.app N0 N32
      show own_Go p e below _ (T32.setTop (mkF m 130 #[oJ q0, oS, iv p1, oJ q2, oS, iv p3, iv p4, iv sc, rv b2, iv (if (0 : Int64) < q0 then (1 : Int32) else (if q0 < (0 : Int64) then (-1 : Int32) else (0 : Int32))), oU] [(.int (fsgn q0))]))
      refine own_by (B := T32.setTop (mkF m 139 #[oJ q0, oS, iv p1, oJ q2, oS, iv p3, iv p4, iv sc, rv b2, iv (if (0 : Int64) < q0 then (1 : Int32) else (if q0 < (0 : Int64) then (-1 : Int32) else (0 : Int32))), oU] [(.int sc), (.ref b2)])) (fun t k => ?_) ?_
      · show Steps p.tables e below (T32.setTop (mkF m 130 #[oJ q0, oS, iv p1, oJ q2, oS, iv p3, iv p4, iv sc, rv b2, iv (if (0 : Int64) < q0 then (1 : Int32) else (if q0 < (0 : Int64) then (-1 : Int32) else (0 : Int32))), oU] [(.int (fsgn q0))])) _
        refine XS.iload X32.here hx rfl (hb hby at_130) rfl ?_
        show Steps p.tables e below (T32.setTop (mkF m 132 #[oJ q0, oS, iv p1, oJ q2, oS, iv p3, iv p4, iv sc, rv b2, iv (if (0 : Int64) < q0 then (1 : Int32) else (if q0 < (0 : Int64) then (-1 : Int32) else (0 : Int32))), oU] [(.int (if (0 : Int64) < q0 then (1 : Int32) else (if q0 < (0 : Int64) then (-1 : Int32) else (0 : Int32)))), (.int (fsgn q0))])) _
        refine XS.icmpNo X32.here hx rfl (hb hby at_132) rfl (teq (own_sgn q0)).2 ?_
        show Steps p.tables e below (T32.setTop (mkF m 135 #[oJ q0, oS, iv p1, oJ q2, oS, iv p3, iv p4, iv sc, rv b2, iv (if (0 : Int64) < q0 then (1 : Int32) else (if q0 < (0 : Int64) then (-1 : Int32) else (0 : Int32))), oU] [])) _
        refine XS.aload X32.here hx rfl (hb hby at_135) rfl rfl ?_
        show Steps p.tables e below (T32.setTop (mkF m 137 #[oJ q0, oS, iv p1, oJ q2, oS, iv p3, iv p4, iv sc, rv b2, iv (if (0 : Int64) < q0 then (1 : Int32) else (if q0 < (0 : Int64) then (-1 : Int32) else (0 : Int32))), oU] [(.ref b2)])) _
        refine XS.iload X32.here hx rfl (hb hby at_137) rfl ?_
        show Steps p.tables e below (T32.setTop (mkF m 139 #[oJ q0, oS, iv p1, oJ q2, oS, iv p3, iv p4, iv sc, rv b2, iv (if (0 : Int64) < q0 then (1 : Int32) else (if q0 < (0 : Int64) then (-1 : Int32) else (0 : Int32))), oU] [(.int sc), (.ref b2)])) _
        exact k
      refine own_cc (own_callV X32 hx hZ (y := (⟨"com/example/exfactor/exfactor/core/MutableFigure", "unscaledAt", "(I)J"⟩ : MethodName)) (z := (⟨"com/example/exfactor/exfactor/core/MutableFigure", "unscaledAt", "(I)J"⟩ : MethodName)) hown (hw _ (List.mem_of_getElem? (i := 36) rfl)) (hw _ (List.mem_of_getElem? (i := 37) rfl)) (notFace_of_selects (args := #[]) (mvT hZ (hw _ (List.mem_of_getElem? (i := 39) rfl)))) (hw _ (List.mem_of_getElem? (i := 39) rfl)) (hw _ (List.mem_of_getElem? (i := 38) rfl)) (hw _ (List.mem_of_getElem? (i := 4) rfl)) (hw _ (List.mem_of_getElem? (i := 40) rfl)) (by decide) (rm7_7 l Z a0 hw [] b2 sc pt q0 kp (1 : Int64) (10 : Int64) (100 : Int64) (1000 : Int64) (10000 : Int64) (100000 : Int64) (1000000 : Int64) (10000000 : Int64) (100000000 : Int64) (1000000000 : Int64) (10000000000 : Int64) (100000000000 : Int64) (1000000000000 : Int64) (10000000000000 : Int64) (100000000000000 : Int64) (1000000000000000 : Int64) (10000000000000000 : Int64) (100000000000000000 : Int64) (1000000000000000000 : Int64) T26.heap n0 Z0 F_unscaled_b2 F_scale_b2 F_big_b2 V_pt S_POWERS_OF_TEN OZ (by rw [← hsc]; exact (own_sc0 _).1) (by rw [← hsc]; exact (own_sc0 _).2)) e32 0 (by decide) (by decide) (by decide) (by decide) rfl (by rw [hml]; rfl) b2 E_b2 [(.int sc)] [] rfl (lenOf pd_4 rfl) rfl (by show 2 * 0 + _ ≤ _; exact Nat.le_of_eq rfl) (hb hby at_139)) fun T34 L34 v34 X34 hQ34 => ?_
      obtain ⟨rfl, N34, e34⟩ := hQ34
      replace N0 := Fr.app N0 N34
      show own_Go p e below _ (T34.setTop (mkF m 142 #[oJ q0, oS, iv p1, oJ q2, oS, iv p3, iv p4, iv sc, rv b2, iv (if (0 : Int64) < q0 then (1 : Int32) else (if q0 < (0 : Int64) then (-1 : Int32) else (0 : Int32))), oU] [(.long (fme q0 (1 : Int64)))]))
      refine own_by (B := T34.setTop (mkF m 152 #[oJ q0, oS, iv p1, oJ q2, oS, iv p3, iv p4, iv sc, rv b2, iv (if (0 : Int64) < q0 then (1 : Int32) else (if q0 < (0 : Int64) then (-1 : Int32) else (0 : Int32))), oU] [(.int (1 : Int32))])) (fun t k => ?_) ?_
      · show Steps p.tables e below (T34.setTop (mkF m 142 #[oJ q0, oS, iv p1, oJ q2, oS, iv p3, iv p4, iv sc, rv b2, iv (if (0 : Int64) < q0 then (1 : Int32) else (if q0 < (0 : Int64) then (-1 : Int32) else (0 : Int32))), oU] [(.long (fme q0 (1 : Int64)))])) _
        refine XS.lloadN X34.here hx rfl (hb hby at_142) rfl ?_
        show Steps p.tables e below (T34.setTop (mkF m 143 #[oJ q0, oS, iv p1, oJ q2, oS, iv p3, iv p4, iv sc, rv b2, iv (if (0 : Int64) < q0 then (1 : Int32) else (if q0 < (0 : Int64) then (-1 : Int32) else (0 : Int32))), oU] [(.long q0), (.long (fme q0 (1 : Int64)))])) _
        refine XS.lcmp X34.here hx rfl (hb hby at_143) rfl ?_
        show Steps p.tables e below (T34.setTop (mkF m 144 #[oJ q0, oS, iv p1, oJ q2, oS, iv p3, iv p4, iv sc, rv b2, iv (if (0 : Int64) < q0 then (1 : Int32) else (if q0 < (0 : Int64) then (-1 : Int32) else (0 : Int32))), oU] [(.int (lcmpW (fme q0 (1 : Int64)) q0))])) _
        refine XS.ifNo X34.here hx rfl (hb hby at_144) rfl ((if0 _ _).trans (teq ((lw_eq _ _).mpr (own_fme1 q0))).2) ?_
        show Steps p.tables e below (T34.setTop (mkF m 147 #[oJ q0, oS, iv p1, oJ q2, oS, iv p3, iv p4, iv sc, rv b2, iv (if (0 : Int64) < q0 then (1 : Int32) else (if q0 < (0 : Int64) then (-1 : Int32) else (0 : Int32))), oU] [])) _
        refine XS.iconst X34.here hx rfl (hb hby at_147) ?_
        show Steps p.tables e below (T34.setTop (mkF m 148 #[oJ q0, oS, iv p1, oJ q2, oS, iv p3, iv p4, iv sc, rv b2, iv (if (0 : Int64) < q0 then (1 : Int32) else (if q0 < (0 : Int64) then (-1 : Int32) else (0 : Int32))), oU] [(.int (1 : Int32))])) _
        refine XS.goto X34.here hx rfl (pc0 := 148) (pc' := 152) rfl (hb hby at_148) (by decide) (by decide) ?_
        show Steps p.tables e below (T34.setTop (mkF m 152 #[oJ q0, oS, iv p1, oJ q2, oS, iv p3, iv p4, iv sc, rv b2, iv (if (0 : Int64) < q0 then (1 : Int32) else (if q0 < (0 : Int64) then (-1 : Int32) else (0 : Int32))), oU] [(.int (1 : Int32))])) _
        exact k
      exact own_retN X34 Bd.notSynchronized hx (t := .boolean) Bd.returns (by simp) (hb hby at_152) (by
          rw [show T34.heap = T26.heap from e34]
          exact ⟨rfl, N0⟩) (by decide) (by decide)

theorem own_elemJ {t : Term} {args : Array Value} {s : State} {ty : FieldType} {a : Addr} {cl : Cell} {k : Int32} {v : Int64} (ev : t.eval args s none [] s = some (.ref a)) (A : Arr s s.heap a cl ty) (h : (Jvm.Cond.eq (.elem t (.int k)) (.long v)).value args s none s [] = some true) : cl.slots[k.toNatClampNeg]? = some (.long v) := by
  obtain ⟨x, y, e1, e2, k1, k2⟩ := cmp_v (Or.inl h)
  have e2' : y = .long v := Option.some.inj (e2.symm.trans rfl)
  subst e2'
  obtain ⟨z, rfl⟩ : ∃ z, x = .long z := k2
  have := gotT (eq_L e1 e2) h
  subst this
  exact (elem_in e1 ev rfl A.1).2

set_option maxRecDepth 65536 in
set_option maxHeartbeats 40000000 in
theorem comes_1 {Post : Tables → Env → Array Value → State → Outcome → State → Prop} (hpost : ∀ tb e args s v u, (limb_1_1.after args s (.returned v) u = true ∧ limb_1_2.after args s (.returned v) u = true ∧ True) → FrameEnd s (.returned v) u (Jvm.fieldLocs frame_1_writes args s ++ Jvm.arrayLocs frame_1_arrays args s ++ Jvm.staticLocs frame_1_statics s) 24 192 → Post tb e args s (.returned v) u) :
    ArmFor flags0 classFile x code maxLocals ret World_1 tables_1 room_1 Calls_1 rest_1 Pre_1 Post := by
  intro l hfl _ _ p e ha hc hk s m args below hf hA hF happ hP
  obtain ⟨hcalls, hrest, hpre⟩ := hP
  obtain ⟨-, -, -, hnamed, -, -, -, hat⟩ := (Spec.applies_iff hf).mp happ
  obtain ⟨hg, hn⟩ := and_e (Cond.before_iff.mp (show (Jvm.Cond.and given_1 narrow_1).before args s = true from hpre))
  obtain ⟨g0, g0'⟩ := and_e hg
  obtain ⟨g1, g1'⟩ := and_e g0'
  obtain ⟨g2, g2'⟩ := and_e g1'
  obtain ⟨g3, g3'⟩ := and_e g2'
  obtain ⟨g4, g4'⟩ := and_e g3'
  obtain ⟨w0, w1, w2, w3, w4, rfl⟩ : ∃ w0 w1 w2 w3 w4 : Value, args = #[w0, w1, w2, w3, w4] := by
    have hs : args.size = 5 := by simpa [Cond.value, given_1] using g0
    obtain ⟨L⟩ := args
    match L, hs with
    | [w0, w1, w2, w3, w4], _ => exact ⟨w0, w1, w2, w3, w4, rfl⟩
  have hw := fun d (hd : d ∈ tables_1) => atoms_spec (ws := Jvm.Cond.code x code maxLocals ret :: tables_1) hat d (List.mem_cons_of_mem _ hd)
  have hfit : Fit s := fun {y c} hc i hi => by
    obtain ⟨ha, rfl⟩ := Array.getElem?_eq_some_iff.mp hc
    have q := List.all_eq_true.mp ((Array.all_eq_true_iff_forall_mem.mp hF) _ (Array.getElem_mem ha)) i (List.mem_range.mpr hi)
    simpa [Array.getElem?_eq_getElem hi] using q
  obtain ⟨i0, ei0⟩ := isL_v g1
  obtain rfl : w0 = (.long i0) := Option.some.inj ei0
  obtain ⟨i1, ei1⟩ := is_v g2
  obtain rfl : w1 = (.int i1) := Option.some.inj ei1
  obtain ⟨i2, ei2⟩ := isL_v g3
  obtain rfl : w2 = (.long i2) := Option.some.inj ei2
  obtain ⟨i3, ei3⟩ := is_v g4
  obtain rfl : w3 = (.int i3) := Option.some.inj ei3
  obtain ⟨i4, ei4⟩ := is_v g4'
  obtain rfl : w4 = (.int i4) := Option.some.inj ei4
  obtain ⟨m0, m0'⟩ := and_e hn
  obtain ⟨m1, m1'⟩ := and_e m0'
  obtain ⟨m2, m2'⟩ := and_e m1'
  obtain ⟨m3, m3'⟩ := and_e m2'
  obtain ⟨m4, m4'⟩ := and_e m3'
  obtain ⟨m5, m5'⟩ := and_e m4'
  obtain ⟨m6, m6'⟩ := and_e m5'
  obtain ⟨m7, m7'⟩ := and_e m6'
  obtain ⟨m8, m8'⟩ := and_e m7'
  obtain ⟨m9, m9'⟩ := and_e m8'
  obtain ⟨m10, m10'⟩ := and_e m9'
  obtain ⟨m11, m11'⟩ := and_e m10'
  obtain ⟨m12, m12'⟩ := and_e m11'
  obtain ⟨m13, m13'⟩ := and_e m12'
  obtain ⟨m14, m14'⟩ := and_e m13'
  obtain ⟨m15, m15'⟩ := and_e m14'
  obtain ⟨m16, m16'⟩ := and_e m15'
  obtain ⟨m17, m17'⟩ := and_e m16'
  obtain ⟨m18, m18'⟩ := and_e m17'
  obtain ⟨m19, m19'⟩ := and_e m18'
  have m20 := m19'
  obtain ⟨hsets, hown0⟩ := atoms_of _ (rest_1_c_eq ▸ (show rest_1_c.before _ s = true from hrest))
  obtain ⟨hMM, -⟩ := hcalls
  have hMB : own_MB s := by
      obtain ⟨cc, kc, mm, q1, q2, q3⟩ := hMM
      exact ⟨mm, cc, kc, q1, q2, q3.1⟩
  obtain ⟨pt, vpt⟩ := arr_v m0
  have S_pt := Sta.start vpt (Or.inr ⟨(hw _ (List.mem_of_getElem? (i := 4) rfl)), (hw _ (List.mem_of_getElem? (i := 48) rfl))⟩)
  obtain ⟨cp, P, hP1, hP2⟩ := own_arr vpt m0 m1
  have V_pt : Arv s s.heap pt cp.cls .long (19 : Int32) [.long (1 : Int64), .long (10 : Int64), .long (100 : Int64), .long (1000 : Int64), .long (10000 : Int64), .long (100000 : Int64), .long (1000000 : Int64), .long (10000000 : Int64), .long (100000000 : Int64), .long (1000000000 : Int64), .long (10000000000 : Int64), .long (100000000000 : Int64), .long (1000000000000 : Int64), .long (10000000000000 : Int64), .long (100000000000000 : Int64), .long (1000000000000000 : Int64), .long (10000000000000000 : Int64), .long (100000000000000000 : Int64), .long (1000000000000000000 : Int64)] (.long (0 : Int64)) := Arv.start hfit P hP1 hP2 (by decide) rfl ⟨own_elemJ vpt P m2, own_elemJ vpt P m3, own_elemJ vpt P m4, own_elemJ vpt P m5, own_elemJ vpt P m6, own_elemJ vpt P m7, own_elemJ vpt P m8, own_elemJ vpt P m9, own_elemJ vpt P m10, own_elemJ vpt P m11, own_elemJ vpt P m12, own_elemJ vpt P m13, own_elemJ vpt P m14, own_elemJ vpt P m15, own_elemJ vpt P m16, own_elemJ vpt P m17, own_elemJ vpt P m18, own_elemJ vpt P m19, own_elemJ vpt P m20, trivial⟩
  obtain ⟨zt, vzt⟩ := exa_v (Cond.before_iff.mp (hsets _ (List.mem_of_getElem? (i := 19) rfl)))
  have S_zt := Sta.start vzt (Or.inl (hsets _ (List.mem_of_getElem? (i := 1) rfl)))
  obtain ⟨cl, A, hA1, hA2⟩ := own_arr vzt (Cond.before_iff.mp (hsets _ (List.mem_of_getElem? (i := 18) rfl))) (Cond.before_iff.mp (hsets _ (List.mem_of_getElem? (i := 20) rfl)))
  obtain ⟨w0, vw0⟩ := exa_v (Cond.before_iff.mp (hsets _ (List.mem_of_getElem? (i := 22) rfl)))
  have q0 := own_elem vzt A vw0
  obtain ⟨w1, vw1⟩ := exa_v (Cond.before_iff.mp (hsets _ (List.mem_of_getElem? (i := 32) rfl)))
  have q1 := own_elem vzt A vw1
  obtain ⟨w2, vw2⟩ := exa_v (Cond.before_iff.mp (hsets _ (List.mem_of_getElem? (i := 42) rfl)))
  have q2 := own_elem vzt A vw2
  obtain ⟨w3, vw3⟩ := exa_v (Cond.before_iff.mp (hsets _ (List.mem_of_getElem? (i := 51) rfl)))
  have q3 := own_elem vzt A vw3
  obtain ⟨w4, vw4⟩ := exa_v (Cond.before_iff.mp (hsets _ (List.mem_of_getElem? (i := 59) rfl)))
  have q4 := own_elem vzt A vw4
  obtain ⟨w5, vw5⟩ := exa_v (Cond.before_iff.mp (hsets _ (List.mem_of_getElem? (i := 67) rfl)))
  have q5 := own_elem vzt A vw5
  obtain ⟨w6, vw6⟩ := exa_v (Cond.before_iff.mp (hsets _ (List.mem_of_getElem? (i := 75) rfl)))
  have q6 := own_elem vzt A vw6
  obtain ⟨w7, vw7⟩ := exa_v (Cond.before_iff.mp (hsets _ (List.mem_of_getElem? (i := 83) rfl)))
  have q7 := own_elem vzt A vw7
  obtain ⟨w8, vw8⟩ := exa_v (Cond.before_iff.mp (hsets _ (List.mem_of_getElem? (i := 91) rfl)))
  have q8 := own_elem vzt A vw8
  obtain ⟨w9, vw9⟩ := exa_v (Cond.before_iff.mp (hsets _ (List.mem_of_getElem? (i := 99) rfl)))
  have q9 := own_elem vzt A vw9
  obtain ⟨w10, vw10⟩ := exa_v (Cond.before_iff.mp (hsets _ (List.mem_of_getElem? (i := 108) rfl)))
  have q10 := own_elem vzt A vw10
  have V_zt : Arv s s.heap zt cl.cls (.object "java/math/BigDecimal") (11 : Int32) [.ref w0, .ref w1, .ref w2, .ref w3, .ref w4, .ref w5, .ref w6, .ref w7, .ref w8, .ref w9, .ref w10] .null := Arv.start hfit A hA1 hA2 (by decide) rfl ⟨q0, q1, q2, q3, q4, q5, q6, q7, q8, q9, q10, trivial⟩
  obtain ⟨n, o, h1, h2, h3, _, L, rfl, ⟨rfl, N⟩, hq⟩ := rm0 l s _ hw tables_1 i0 i1 i2 i3 i4 pt cp.cls zt cl.cls w0 w1 w2 w3 w4 w5 w6 w7 w8 w9 w10 s.heap s.heap.size (Nat.le_refl _) (Old.start s) S_pt V_pt S_zt V_zt hMB p e ha hc hk s m _ below hf ((Spec.applies_iff_loose hf).mp happ).1 ⟨rfl, State.Warmed39.refl s, rfl⟩ trivial
  refine ⟨n, _, h1, h2, h3, hpost _ _ _ _ _ _ ⟨Cond.after_iff.mpr rfl, Cond.after_iff.mpr (eq_i res_at (Term.int_eval (1)) rfl), trivial⟩ ⟨hq.1, hq.2.1, (hq.2.2.sift fun y hy => Or.inr (N y hy)).mono (by decide) (by decide)⟩⟩
theorem main_1_1 : Claimed_1_1 := comes_1 fun _ _ _ _ _ _ h hF => ⟨h.1, hF⟩
theorem main_1_2 : Claimed_1_2 := comes_1 fun _ _ _ _ _ _ h hF => ⟨h.2.1, hF⟩
end Jvm.Pilot.@@N@@
namespace Jvm.Pilot.@@N@@
open Jvm Jvm.ClassFile Sem Op Lib Jvm.Free Jvm.Stand Jvm.Pilot.@@N@@.Jvm.D
/-! MADE BY PROGRAM (witnessworld.py) out of the Statement's table words and the real class files: 21 classes; the members and pool entries that the words name. The judged class is class 1, her method 1. -/
namespace start1
open Jvm.ClassFile
def u (s : String) : CpInfo := .utf8 (stringToUtf16 s)
/-- a pool by its gaps: so many unusable entries, then the entry; so many at the end -/
def gap : Nat → List CpInfo → List CpInfo
  | 0, r => r
  | n + 1, r => .unusable :: gap n r
def poolList (es : List (Nat × CpInfo)) (last : Nat) : List CpInfo := es.foldr (fun e r => gap e.1 (e.2 :: r)) (gap last [])
def pool (es : List (Nat × CpInfo)) (last : Nat) : Array CpInfo := ⟨poolList es last⟩
def fileOf (pool : Array CpInfo) (this : Nat) (attrs : Array Attribute := #[]) (ms : Array MethodInfo := #[]) (fl : Nat := 33) (sup : Nat := 0) (ifs : Array Nat := #[]) (fds : Array FieldInfo := #[]) : ClassFile where
  minorVersion := 0
  majorVersion := 65
  constantPool := pool
  accessFlags := fl
  thisClass := this
  superClass := sup
  interfaces := ifs
  fields := fds
  methods := ms
  attributes := attrs
def plain (name : String) (sup : Option ClassId) : Class where
  name := name
  kind := .ordinary
  loader := none
  accessFlags := 33
  super := sup
  interfaces := #[]
  cf := none
  fields := #[]
  methods := #[]
  instanceTypes := #[]
  staticTypes := #[]
  resolved := #[]
  callSites := []
  init := .initialized
  statics := none
  mirror := none

def pool0 : Array CpInfo := pool [(5, u "<init>"), (0, u "()V"), (1, .class_ 10), (1, u "java/lang/Object"), (0, u "getClass"), (0, u "()Ljava/lang/Class;")] 111

def k0c0 : Code := { maxStack := 0, maxLocals := 1, code := object_method_1_code, exceptionTable := #[], attributes := #[] }
def k0m0 : Method := { name := "<init>", desc := "()V", sig := { parameters := [], returnType := none }, accessFlags := 1, code := some k0c0 }
def k0m1 : Method := { name := "getClass", desc := "()Ljava/lang/Class;", sig := { parameters := [], returnType := some (.object "java/lang/Class") }, accessFlags := 273, code := none }
/-- java/lang/Object -/
def k0 : Class := { plain "java/lang/Object" none with
  accessFlags := 33
  interfaces := #[]
  cf := some (fileOf pool0 8 #[] #[{ accessFlags := 1, nameIndex := 5, descriptorIndex := 6, attributes := #[] }, { accessFlags := 273, nameIndex := 11, descriptorIndex := 12, attributes := #[] }] 33 0 #[] #[])
  fields := #[]
  methods := #[k0m0, k0m1]
  instanceTypes := #[]
  staticTypes := #[]
  resolved := Array.replicate 124 none
  statics := none }

def pool1 : Array CpInfo := pool [(2, .class_ 4), (0, .nameAndType 5 6), (0, u "java/lang/Object"), (0, u "<init>"), (0, u "()V"), (2, .long 9223372036854775808), (1, .integer 2147483647), (0, .class_ 13), (0, u "com/example/exfactor/exfactor/core/MutableFigure"), (0, .methodref 12 3), (0, .long 9223372036854775807), (1, .methodref 12 18), (0, .nameAndType 19 20), (0, u "set"), (0, u "(JI)V"), (0, .methodref 12 22), (0, .nameAndType 23 24), (0, u "add"), (0, u "(Lcom/example/exfactor/exfactor/core/MutableFigure;)V"), (0, .methodref 12 26), (0, .nameAndType 27 28), (0, u "scale"), (0, u "()I"), (0, .methodref 12 30), (0, .nameAndType 31 28), (0, u "signum"), (0, .methodref 12 33), (0, .nameAndType 34 35), (0, u "unscaledAt"), (0, u "(I)J"), (0, .class_ 37), (0, u "com/example/exfactor/exfactor/core/MutableFigureSet312PinLaw"), (2, u "law"), (0, u "(JIJII)Z")] 3

def k1m0 : Method := { name := "<init>", desc := "()V", sig := { parameters := [], returnType := none }, accessFlags := 1, code := none }
def k1c1 : Code := { maxStack := 5, maxLocals := 11, code := code, exceptionTable := #[], attributes := #[] }
def k1m1 : Method := { name := "law", desc := "(JIJII)Z", sig := { parameters := [.long, .int, .long, .int, .int], returnType := some .boolean }, accessFlags := 9, code := some k1c1 }
/-- com/example/exfactor/exfactor/core/MutableFigureSet312PinLaw -/
def k1 : Class := { plain "com/example/exfactor/exfactor/core/MutableFigureSet312PinLaw" (some 0) with
  accessFlags := 49
  interfaces := #[]
  cf := some (fileOf pool1 36 #[] #[{ accessFlags := 1, nameIndex := 5, descriptorIndex := 6, attributes := #[] }, { accessFlags := 9, nameIndex := 40, descriptorIndex := 41, attributes := #[] }] 49 2 #[] #[])
  fields := #[]
  methods := #[k1m0, k1m1]
  instanceTypes := #[]
  staticTypes := #[]
  resolved := Array.replicate 45 none
  statics := none }

def pool2 : Array CpInfo := pool [(1, .class_ 2), (0, u "java/lang/Long"), (0, .methodref 4 5), (0, .class_ 6), (0, .nameAndType 7 8), (0, u "java/lang/Object"), (0, u "<init>"), (0, u "()V"), (0, .class_ 10), (0, u "com/example/exfactor/exfactor/core/MutableFigure"), (3, u "set"), (11, .methodref 9 27), (0, .nameAndType 28 29), (0, u "toBigDecimal"), (0, u "()Ljava/math/BigDecimal;"), (1, .class_ 33), (1, u "java/math/BigDecimal"), (0, u "scale"), (0, u "()I"), (13, .methodref 9 50), (0, .nameAndType 14 51), (0, u "(JI)V"), (0, .fieldref 9 53), (0, .nameAndType 54 55), (0, u "big"), (0, u "Ljava/math/BigDecimal;"), (0, .fieldref 9 57), (0, .nameAndType 58 59), (0, u "unscaled"), (0, u "J"), (0, .fieldref 9 61), (0, .nameAndType 34 62), (0, u "I"), (0, .methodref 1 64), (0, .nameAndType 65 66), (0, u "signum"), (0, u "(J)I"), (2, .methodref 31 70), (0, .nameAndType 71 72), (0, u "valueOf"), (0, u "(JI)Ljava/math/BigDecimal;"), (0, .methodref 9 74), (0, .nameAndType 75 76), (0, u "add"), (0, u "(Lcom/example/exfactor/exfactor/core/MutableFigure;Z)V"), (0, .methodref 78 79), (0, .class_ 80), (0, .nameAndType 81 82), (0, u "java/lang/Math"), (0, u "max"), (0, u "(II)I"), (0, .methodref 9 84), (0, .nameAndType 85 86), (0, u "scaleUp"), (0, u "(JI)J"), (0, .long 9223372036854775808), (4, u "(Ljava/math/BigDecimal;)Ljava/math/BigDecimal;"), (0, .methodref 31 94), (0, .nameAndType 75 92), (0, .methodref 9 96), (0, .nameAndType 97 98), (0, u "multiplyExactly"), (0, u "(JJ)J"), (0, .methodref 9 100), (0, .nameAndType 101 102), (0, u "rescale"), (0, u "(JII)J"), (20, .fieldref 9 124), (0, .nameAndType 125 126), (0, u "POWERS_OF_TEN"), (0, u "[J"), (0, .methodref 78 128), (0, .nameAndType 129 98), (0, u "multiplyHigh"), (8, u "MAX_LONG_DIGITS"), (2, u "NO_LONG"), (7, u "(Lcom/example/exfactor/exfactor/core/MutableFigure;)V"), (1, u "unscaledAt"), (0, u "(I)J")] 4

def k2c0 : Code := { maxStack := 1, maxLocals := 1, code := prog_7_method_1_code, exceptionTable := #[], attributes := #[] }
def k2m0 : Method := { name := "<init>", desc := "()V", sig := { parameters := [], returnType := none }, accessFlags := 1, code := some k2c0 }
def k2c1 : Code := { maxStack := 3, maxLocals := 4, code := prog_7_method_6_code, exceptionTable := #[], attributes := #[] }
def k2m1 : Method := { name := "set", desc := "(JI)V", sig := { parameters := [.long, .int], returnType := none }, accessFlags := 0, code := some k2c1 }
def k2c2 : Code := { maxStack := 2, maxLocals := 1, code := prog_7_method_7_code, exceptionTable := #[], attributes := #[] }
def k2m2 : Method := { name := "signum", desc := "()I", sig := { parameters := [], returnType := some .int }, accessFlags := 1, code := some k2c2 }
def k2c3 : Code := { maxStack := 1, maxLocals := 1, code := prog_7_method_8_code, exceptionTable := #[], attributes := #[] }
def k2m3 : Method := { name := "scale", desc := "()I", sig := { parameters := [], returnType := some .int }, accessFlags := 1, code := some k2c3 }
def k2c4 : Code := { maxStack := 3, maxLocals := 1, code := prog_7_method_9_code, exceptionTable := #[], attributes := #[] }
def k2m4 : Method := { name := "toBigDecimal", desc := "()Ljava/math/BigDecimal;", sig := { parameters := [], returnType := some (.object "java/math/BigDecimal") }, accessFlags := 1, code := some k2c4 }
def k2c5 : Code := { maxStack := 3, maxLocals := 2, code := prog_7_method_10_code, exceptionTable := #[], attributes := #[] }
def k2m5 : Method := { name := "add", desc := "(Lcom/example/exfactor/exfactor/core/MutableFigure;)V", sig := { parameters := [(.object "com/example/exfactor/exfactor/core/MutableFigure")], returnType := none }, accessFlags := 1, code := some k2c5 }
def k2c6 : Code := { maxStack := 6, maxLocals := 10, code := prog_7_method_12_code, exceptionTable := #[], attributes := #[] }
def k2m6 : Method := { name := "add", desc := "(Lcom/example/exfactor/exfactor/core/MutableFigure;Z)V", sig := { parameters := [(.object "com/example/exfactor/exfactor/core/MutableFigure"), .boolean], returnType := none }, accessFlags := 2, code := some k2c6 }
def k2c7 : Code := { maxStack := 4, maxLocals := 2, code := prog_7_method_15_code, exceptionTable := #[], attributes := #[] }
def k2m7 : Method := { name := "unscaledAt", desc := "(I)J", sig := { parameters := [.int], returnType := some .long }, accessFlags := 0, code := some k2c7 }
def k2c8 : Code := { maxStack := 4, maxLocals := 5, code := prog_7_method_17_code, exceptionTable := #[], attributes := #[] }
def k2m8 : Method := { name := "rescale", desc := "(JII)J", sig := { parameters := [.long, .int, .int], returnType := some .long }, accessFlags := 10, code := some k2c8 }
def k2c9 : Code := { maxStack := 4, maxLocals := 3, code := prog_7_method_18_code, exceptionTable := #[], attributes := #[] }
def k2m9 : Method := { name := "scaleUp", desc := "(JI)J", sig := { parameters := [.long, .int], returnType := some .long }, accessFlags := 10, code := some k2c9 }
def k2c10 : Code := { maxStack := 5, maxLocals := 8, code := prog_7_method_19_code, exceptionTable := #[], attributes := #[] }
def k2m10 : Method := { name := "multiplyExactly", desc := "(JJ)J", sig := { parameters := [.long, .long], returnType := some .long }, accessFlags := 10, code := some k2c10 }
/-- com/example/exfactor/exfactor/core/MutableFigure -/
def k2 : Class := { plain "com/example/exfactor/exfactor/core/MutableFigure" (some 0) with
  accessFlags := 49
  interfaces := #[]
  cf := some (fileOf pool2 9 #[] #[{ accessFlags := 1, nameIndex := 7, descriptorIndex := 8, attributes := #[] }, { accessFlags := 0, nameIndex := 14, descriptorIndex := 51, attributes := #[] }, { accessFlags := 1, nameIndex := 65, descriptorIndex := 35, attributes := #[] }, { accessFlags := 1, nameIndex := 34, descriptorIndex := 35, attributes := #[] }, { accessFlags := 1, nameIndex := 28, descriptorIndex := 29, attributes := #[] }, { accessFlags := 1, nameIndex := 75, descriptorIndex := 149, attributes := #[] }, { accessFlags := 2, nameIndex := 75, descriptorIndex := 76, attributes := #[] }, { accessFlags := 0, nameIndex := 151, descriptorIndex := 152, attributes := #[] }, { accessFlags := 10, nameIndex := 101, descriptorIndex := 102, attributes := #[] }, { accessFlags := 10, nameIndex := 85, descriptorIndex := 86, attributes := #[] }, { accessFlags := 10, nameIndex := 97, descriptorIndex := 98, attributes := #[] }] 49 4 #[] #[{ accessFlags := 24, nameIndex := 138, descriptorIndex := 62, attributes := #[] }, { accessFlags := 24, nameIndex := 141, descriptorIndex := 59, attributes := #[] }, { accessFlags := 26, nameIndex := 125, descriptorIndex := 126, attributes := #[] }, { accessFlags := 2, nameIndex := 58, descriptorIndex := 59, attributes := #[] }, { accessFlags := 2, nameIndex := 34, descriptorIndex := 62, attributes := #[] }, { accessFlags := 2, nameIndex := 54, descriptorIndex := 55, attributes := #[] }])
  fields := #[{ name := "MAX_LONG_DIGITS", type := .int, accessFlags := 24, slot := 0, constantValue := 0 }, { name := "NO_LONG", type := .long, accessFlags := 24, slot := 1, constantValue := 0 }, { name := "POWERS_OF_TEN", type := (.array .long), accessFlags := 26, slot := 2, constantValue := 0 }, { name := "unscaled", type := .long, accessFlags := 2, slot := 0, constantValue := 0 }, { name := "scale", type := .int, accessFlags := 2, slot := 1, constantValue := 0 }, { name := "big", type := (.object "java/math/BigDecimal"), accessFlags := 2, slot := 2, constantValue := 0 }]
  methods := #[k2m0, k2m1, k2m2, k2m3, k2m4, k2m5, k2m6, k2m7, k2m8, k2m9, k2m10]
  instanceTypes := #[.long, .int, (.object "java/math/BigDecimal")]
  staticTypes := #[.int, .long, (.array .long)]
  resolved := Array.replicate 157 none
  statics := some 0 }

def pool3 : Array CpInfo := pool [(1, .class_ 2), (0, u "java/io/Serializable"), (0, .class_ 4), (0, u "java/lang/Object")] 2

/-- java/io/Serializable -/
def k3 : Class := { plain "java/io/Serializable" (some 0) with
  accessFlags := 1537
  interfaces := #[]
  cf := some (fileOf pool3 1 #[] #[] 1537 3 #[] #[])
  fields := #[]
  methods := #[]
  instanceTypes := #[]
  staticTypes := #[]
  resolved := Array.replicate 7 none
  statics := none }

def pool4 : Array CpInfo := pool [(1, .methodref 2 3), (0, .class_ 4), (0, .nameAndType 5 6), (0, u "java/lang/Object"), (0, u "<init>"), (0, u "()V"), (1, .class_ 10), (1, u "java/lang/Number"), (2, .class_ 14), (0, u "java/io/Serializable"), (0, u "serialVersionUID"), (0, u "J")] 20

def k4c0 : Code := { maxStack := 1, maxLocals := 1, code := jdk_18_method_1_code, exceptionTable := #[], attributes := #[] }
def k4m0 : Method := { name := "<init>", desc := "()V", sig := { parameters := [], returnType := none }, accessFlags := 1, code := some k4c0 }
/-- java/lang/Number -/
def k4 : Class := { plain "java/lang/Number" (some 0) with
  accessFlags := 1057
  interfaces := #[3]
  cf := some (fileOf pool4 8 #[] #[{ accessFlags := 1, nameIndex := 5, descriptorIndex := 6, attributes := #[] }] 1057 2 #[13] #[{ accessFlags := 26, nameIndex := 15, descriptorIndex := 16, attributes := #[] }])
  fields := #[{ name := "serialVersionUID", type := .long, accessFlags := 26, slot := 0, constantValue := 0 }]
  methods := #[k4m0]
  instanceTypes := #[]
  staticTypes := #[.long]
  resolved := Array.replicate 37 none
  statics := none }

def pool5 : Array CpInfo := pool [(1, .class_ 2), (0, u "java/lang/Comparable"), (0, .class_ 4), (0, u "java/lang/Object")] 7

/-- java/lang/Comparable -/
def k5 : Class := { plain "java/lang/Comparable" (some 0) with
  accessFlags := 1537
  interfaces := #[]
  cf := some (fileOf pool5 1 #[] #[] 1537 3 #[] #[])
  fields := #[]
  methods := #[]
  instanceTypes := #[]
  staticTypes := #[]
  resolved := Array.replicate 12 none
  statics := none }

def pool6 : Array CpInfo := pool [(1, .class_ 2), (0, u "java/lang/constant/Constable"), (0, .class_ 4), (0, u "java/lang/Object")] 6

/-- java/lang/constant/Constable -/
def k6 : Class := { plain "java/lang/constant/Constable" (some 0) with
  accessFlags := 1537
  interfaces := #[]
  cf := some (fileOf pool6 1 #[] #[] 1537 3 #[] #[])
  fields := #[]
  methods := #[]
  instanceTypes := #[]
  staticTypes := #[]
  resolved := Array.replicate 11 none
  statics := none }

def pool7 : Array CpInfo := pool [(1, .class_ 2), (0, u "java/lang/constant/ConstantDesc"), (0, .class_ 4), (0, u "java/lang/Object")] 32

/-- java/lang/constant/ConstantDesc -/
def k7 : Class := { plain "java/lang/constant/ConstantDesc" (some 0) with
  accessFlags := 1537
  interfaces := #[]
  cf := some (fileOf pool7 1 #[] #[] 1537 3 #[] #[])
  fields := #[]
  methods := #[]
  instanceTypes := #[]
  staticTypes := #[]
  resolved := Array.replicate 37 none
  statics := none }

def pool8 : Array CpInfo := pool [(1, .class_ 2), (0, u "java/lang/Long"), (98, u "(J)I"), (133, .class_ 237), (1, u "java/lang/Long$LongCache"), (33, .class_ 272), (0, u "java/lang/Number"), (2, u "value"), (0, u "J"), (84, u "TYPE"), (0, u "Ljava/lang/Class;"), (0, .class_ 364), (0, u "java/lang/Comparable"), (0, .class_ 366), (0, u "java/lang/constant/Constable"), (0, .class_ 368), (0, u "java/lang/constant/ConstantDesc"), (0, u "MIN_VALUE"), (1, u "MAX_VALUE"), (4, u "SIZE"), (0, u "I"), (1, u "BYTES"), (1, u "serialVersionUID"), (115, u "signum")] 26

def k8c0 : Code := { maxStack := 5, maxLocals := 2, code := jdk_35_method_57_code, exceptionTable := #[], attributes := #[] }
def k8m0 : Method := { name := "signum", desc := "(J)I", sig := { parameters := [.long], returnType := some .int }, accessFlags := 9, code := some k8c0 }
/-- java/lang/Long -/
def k8 : Class := { plain "java/lang/Long" (some 4) with
  accessFlags := 49
  interfaces := #[5, 6, 7]
  cf := some (fileOf pool8 1 #[.nestMembers #[235]] #[{ accessFlags := 9, nameIndex := 497, descriptorIndex := 101, attributes := #[] }] 49 271 #[363, 365, 367] #[{ accessFlags := 25, nameIndex := 369, descriptorIndex := 276, attributes := #[] }, { accessFlags := 25, nameIndex := 371, descriptorIndex := 276, attributes := #[] }, { accessFlags := 25, nameIndex := 361, descriptorIndex := 362, attributes := #[] }, { accessFlags := 18, nameIndex := 275, descriptorIndex := 276, attributes := #[] }, { accessFlags := 25, nameIndex := 376, descriptorIndex := 377, attributes := #[] }, { accessFlags := 25, nameIndex := 379, descriptorIndex := 377, attributes := #[] }, { accessFlags := 26, nameIndex := 381, descriptorIndex := 276, attributes := #[] }])
  fields := #[{ name := "MIN_VALUE", type := .long, accessFlags := 25, slot := 0, constantValue := 0 }, { name := "MAX_VALUE", type := .long, accessFlags := 25, slot := 1, constantValue := 0 }, { name := "TYPE", type := (.object "java/lang/Class"), accessFlags := 25, slot := 2, constantValue := 0 }, { name := "value", type := .long, accessFlags := 18, slot := 0, constantValue := 0 }, { name := "SIZE", type := .int, accessFlags := 25, slot := 3, constantValue := 0 }, { name := "BYTES", type := .int, accessFlags := 25, slot := 4, constantValue := 0 }, { name := "serialVersionUID", type := .long, accessFlags := 26, slot := 5, constantValue := 0 }]
  methods := #[k8m0]
  instanceTypes := #[.long]
  staticTypes := #[.long, .long, (.object "java/lang/Class"), .int, .int, .long]
  resolved := Array.replicate 524 none
  statics := none }

def pool9 : Array CpInfo := pool [(1, .class_ 2), (0, u "java/lang/Math"), (1, .class_ 6), (1, u "java/lang/Object"), (0, u "<init>"), (0, u "()V"), (89, .class_ 100), (1, u "java/lang/Math$RandomNumberGeneratorHolder"), (20, u "(JJ)J"), (2, u "abs"), (0, u "(J)J"), (12, .long 4294967295), (3, u "multiplyHigh"), (29, u "negativeZeroFloatBits"), (0, u "J"), (2, u "negativeZeroDoubleBits"), (21, u "max"), (46, u "$assertionsDisabled"), (0, u "Z"), (88, u "(II)I"), (2, u "twoToTheDoubleScaleDown"), (0, u "D"), (4, u "twoToTheDoubleScaleUp"), (9, u "E"), (3, u "PI"), (2, u "TAU"), (2, u "DEGREES_TO_RADIANS"), (0, u "RADIANS_TO_DEGREES")] 94

def k9m0 : Method := { name := "<init>", desc := "()V", sig := { parameters := [], returnType := none }, accessFlags := 2, code := none }
def k9c1 : Code := { maxStack := 6, maxLocals := 20, code := jdk_29_method_45_code, exceptionTable := #[], attributes := #[] }
def k9m1 : Method := { name := "multiplyHigh", desc := "(JJ)J", sig := { parameters := [.long, .long], returnType := some .long }, accessFlags := 9, code := some k9c1 }
def k9c2 : Code := { maxStack := 4, maxLocals := 2, code := jdk_29_method_61_code, exceptionTable := #[], attributes := #[] }
def k9m2 : Method := { name := "abs", desc := "(J)J", sig := { parameters := [.long], returnType := some .long }, accessFlags := 9, code := some k9c2 }
def k9c3 : Code := { maxStack := 2, maxLocals := 2, code := jdk_29_method_65_code, exceptionTable := #[], attributes := #[] }
def k9m3 : Method := { name := "max", desc := "(II)I", sig := { parameters := [.int, .int], returnType := some .int }, accessFlags := 9, code := some k9c3 }
/-- java/lang/Math -/
def k9 : Class := { plain "java/lang/Math" (some 0) with
  accessFlags := 49
  interfaces := #[]
  cf := some (fileOf pool9 1 #[.nestMembers #[98]] #[{ accessFlags := 2, nameIndex := 7, descriptorIndex := 8, attributes := #[] }, { accessFlags := 9, nameIndex := 142, descriptorIndex := 121, attributes := #[] }, { accessFlags := 9, nameIndex := 124, descriptorIndex := 125, attributes := #[] }, { accessFlags := 9, nameIndex := 198, descriptorIndex := 335, attributes := #[] }] 49 4 #[] #[{ accessFlags := 25, nameIndex := 354, descriptorIndex := 339, attributes := #[] }, { accessFlags := 25, nameIndex := 358, descriptorIndex := 339, attributes := #[] }, { accessFlags := 25, nameIndex := 361, descriptorIndex := 339, attributes := #[] }, { accessFlags := 26, nameIndex := 364, descriptorIndex := 339, attributes := #[] }, { accessFlags := 26, nameIndex := 365, descriptorIndex := 339, attributes := #[] }, { accessFlags := 26, nameIndex := 172, descriptorIndex := 173, attributes := #[] }, { accessFlags := 26, nameIndex := 176, descriptorIndex := 173, attributes := #[] }, { accessFlags := 8, nameIndex := 344, descriptorIndex := 339, attributes := #[] }, { accessFlags := 8, nameIndex := 338, descriptorIndex := 339, attributes := #[] }, { accessFlags := 4120, nameIndex := 245, descriptorIndex := 246, attributes := #[] }])
  fields := #[{ name := "E", type := .double, accessFlags := 25, slot := 0, constantValue := 0 }, { name := "PI", type := .double, accessFlags := 25, slot := 1, constantValue := 0 }, { name := "TAU", type := .double, accessFlags := 25, slot := 2, constantValue := 0 }, { name := "DEGREES_TO_RADIANS", type := .double, accessFlags := 26, slot := 3, constantValue := 0 }, { name := "RADIANS_TO_DEGREES", type := .double, accessFlags := 26, slot := 4, constantValue := 0 }, { name := "negativeZeroFloatBits", type := .long, accessFlags := 26, slot := 5, constantValue := 0 }, { name := "negativeZeroDoubleBits", type := .long, accessFlags := 26, slot := 6, constantValue := 0 }, { name := "twoToTheDoubleScaleUp", type := .double, accessFlags := 8, slot := 7, constantValue := 0 }, { name := "twoToTheDoubleScaleDown", type := .double, accessFlags := 8, slot := 8, constantValue := 0 }, { name := "$assertionsDisabled", type := .boolean, accessFlags := 4120, slot := 9, constantValue := 0 }]
  methods := #[k9m0, k9m1, k9m2, k9m3]
  instanceTypes := #[]
  staticTypes := #[.double, .double, .double, .double, .double, .long, .long, .double, .double, .boolean]
  resolved := Array.replicate 460 none
  statics := none }

def pool10 : Array CpInfo := pool [(3, .class_ 4), (0, u "java/math/BigDecimal"), (4, .class_ 10), (0, u "java/math/BigInteger"), (0, .methodref 12 13), (0, .class_ 14), (0, .nameAndType 15 16), (0, u "java/lang/Number"), (0, u "<init>"), (0, u "()V"), (0, .fieldref 3 18), (0, .nameAndType 19 20), (0, u "scale"), (0, u "I"), (0, .fieldref 3 22), (0, .nameAndType 23 20), (0, u "precision"), (0, .fieldref 3 25), (0, .nameAndType 26 27), (0, u "intCompact"), (0, u "J"), (0, .fieldref 3 29), (0, .nameAndType 30 31), (0, u "intVal"), (0, u "Ljava/math/BigInteger;"), (65, u "LONG_TEN_POWERS_TABLE"), (0, u "[J"), (22, .methodref 3 122), (0, .nameAndType 123 124), (0, u "compactValFor"), (0, u "(Ljava/math/BigInteger;)J"), (0, .long 9223372036854775808), (61, u "ZERO"), (2, u "INFLATED_BIGINT"), (2, .methodref 9 194), (0, .nameAndType 195 196), (0, u "valueOf"), (0, u "(J)Ljava/math/BigInteger;"), (9, u "TWO"), (3, .methodref 211 212), (0, .class_ 213), (0, .nameAndType 214 215), (0, u "java/lang/Object"), (0, u "getClass"), (0, u "()Ljava/lang/Class;"), (13, .methodref 3 230), (0, .nameAndType 231 232), (0, u "toStrictBigInteger"), (0, u "(Ljava/math/BigInteger;)Ljava/math/BigInteger;"), (3, .methodref 3 237), (0, .nameAndType 195 238), (0, u "(J)Ljava/math/BigDecimal;"), (4, .methodref 3 244), (0, .nameAndType 15 245), (0, u "(Ljava/math/BigInteger;JII)V"), (0, .fieldref 3 247), (0, .nameAndType 248 249), (0, u "ZERO_THROUGH_TEN"), (0, u "[Ljava/math/BigDecimal;"), (2, u "ZERO_SCALED_BY"), (4, .methodref 3 258), (0, .nameAndType 259 260), (0, u "add"), (0, u "(JIJI)Ljava/math/BigDecimal;"), (8, u "(Ljava/math/BigDecimal;)Ljava/math/BigDecimal;"), (43, u "$assertionsDisabled"), (0, u "Z"), (7, u "(JJ)J"), (7, u "(JI)Ljava/math/BigDecimal;"), (13, u "(JJI)Ljava/math/BigDecimal;"), (133, u "ONE_TENTH"), (0, u "Ljava/math/BigDecimal;"), (5, u "TEN"), (14, .class_ 502), (1, u "java/math/BigDecimal$1"), (1, u "[I"), (13, u "ONE_HALF"), (16, u "ONE"), (41, .methodref 3 578), (0, .nameAndType 15 579), (0, u "(Ljava/math/BigInteger;I)V"), (63, u "stringCache"), (0, u "Ljava/lang/String;"), (52, .class_ 699), (1, u "java/math/BigDecimal$LongOverflow"), (8, u "FLOAT_10_POW"), (0, u "[F"), (39, u "DOUBLE_10_POW"), (0, u "[D"), (19, .class_ 772), (1, u "java/math/BigDecimal$StringBuilderHelper"), (35, u "BIG_TEN_POWERS_TABLE_MAX"), (2, u "BIG_TEN_POWERS_TABLE"), (0, u "[Ljava/math/BigInteger;"), (14, u "THRESHOLDS_TABLE"), (23, .class_ 853), (1, u "java/math/BigDecimal$UnsafeHolder"), (24, .fieldref 9 879), (0, .nameAndType 880 504), (0, u "mag"), (115, .methodref 3 997), (0, .nameAndType 259 322), (0, .methodref 9 999), (0, .nameAndType 259 196), (0, .methodref 3 1001), (0, .nameAndType 259 344), (66, u "LONGLONG_TEN_POWERS_TABLE"), (0, u "[[J"), (112, u "BIG_TEN_POWERS_TABLE_INITLEN"), (113, .class_ 1297), (0, u "java/lang/Comparable"), (0, u "L"), (0, u "D"), (1, u "P_F"), (1, u "Q_MIN_F"), (1, u "Q_MAX_F"), (1, u "P_D"), (1, u "Q_MIN_D"), (1, u "Q_MAX_D"), (1, u "INFLATED"), (0, u "MAX_COMPACT_DIGITS"), (1, u "serialVersionUID"), (2, u "HALF_LONG_MAX_VALUE"), (0, u "HALF_LONG_MIN_VALUE"), (0, u "ROUND_UP"), (6, u "ROUND_DOWN"), (1, u "ROUND_CEILING"), (1, u "ROUND_FLOOR"), (1, u "ROUND_HALF_UP"), (1, u "ROUND_HALF_DOWN"), (1, u "ROUND_HALF_EVEN"), (1, u "ROUND_UNNECESSARY"), (1, u "DIV_NUM_BASE")] 294

def k10c0 : Code := { maxStack := 3, maxLocals := 6, code := jdk_17_method_1_code, exceptionTable := #[], attributes := #[] }
def k10m0 : Method := { name := "<init>", desc := "(Ljava/math/BigInteger;JII)V", sig := { parameters := [(.object "java/math/BigInteger"), .long, .int, .int], returnType := none }, accessFlags := 0, code := some k10c0 }
def k10c1 : Code := { maxStack := 3, maxLocals := 1, code := jdk_17_method_11_code, exceptionTable := #[], attributes := #[] }
def k10m1 : Method := { name := "toStrictBigInteger", desc := "(Ljava/math/BigInteger;)Ljava/math/BigInteger;", sig := { parameters := [(.object "java/math/BigInteger")], returnType := some (.object "java/math/BigInteger") }, accessFlags := 10, code := some k10c1 }
def k10c2 : Code := { maxStack := 3, maxLocals := 3, code := jdk_17_method_14_code, exceptionTable := #[], attributes := #[] }
def k10m2 : Method := { name := "<init>", desc := "(Ljava/math/BigInteger;I)V", sig := { parameters := [(.object "java/math/BigInteger"), .int], returnType := none }, accessFlags := 1, code := some k10c2 }
def k10c3 : Code := { maxStack := 7, maxLocals := 3, code := jdk_17_method_20_code, exceptionTable := #[], attributes := #[] }
def k10m3 : Method := { name := "valueOf", desc := "(JI)Ljava/math/BigDecimal;", sig := { parameters := [.long, .int], returnType := some (.object "java/math/BigDecimal") }, accessFlags := 9, code := some k10c3 }
def k10c4 : Code := { maxStack := 7, maxLocals := 2, code := jdk_17_method_21_code, exceptionTable := #[], attributes := #[] }
def k10m4 : Method := { name := "valueOf", desc := "(J)Ljava/math/BigDecimal;", sig := { parameters := [.long], returnType := some (.object "java/math/BigDecimal") }, accessFlags := 9, code := some k10c4 }
def k10c5 : Code := { maxStack := 6, maxLocals := 2, code := jdk_17_method_26_code, exceptionTable := #[], attributes := #[] }
def k10m5 : Method := { name := "add", desc := "(Ljava/math/BigDecimal;)Ljava/math/BigDecimal;", sig := { parameters := [(.object "java/math/BigDecimal")], returnType := some (.object "java/math/BigDecimal") }, accessFlags := 1, code := some k10c5 }
def k10c6 : Code := { maxStack := 5, maxLocals := 6, code := jdk_17_method_107_code, exceptionTable := #[], attributes := #[] }
def k10m6 : Method := { name := "compactValFor", desc := "(Ljava/math/BigInteger;)J", sig := { parameters := [(.object "java/math/BigInteger")], returnType := some .long }, accessFlags := 10, code := some k10c6 }
def k10c7 : Code := { maxStack := 6, maxLocals := 6, code := jdk_17_method_132_code, exceptionTable := #[], attributes := #[] }
def k10m7 : Method := { name := "add", desc := "(JJ)J", sig := { parameters := [.long, .long], returnType := some .long }, accessFlags := 10, code := some k10c7 }
def k10c8 : Code := { maxStack := 5, maxLocals := 7, code := jdk_17_method_133_code, exceptionTable := #[], attributes := #[] }
def k10m8 : Method := { name := "add", desc := "(JJI)Ljava/math/BigDecimal;", sig := { parameters := [.long, .long, .int], returnType := some (.object "java/math/BigDecimal") }, accessFlags := 10, code := some k10c8 }
def k10c9 : Code := { maxStack := 7, maxLocals := 12, code := jdk_17_method_134_code, exceptionTable := #[], attributes := #[] }
def k10m9 : Method := { name := "add", desc := "(JIJI)Ljava/math/BigDecimal;", sig := { parameters := [.long, .int, .long, .int], returnType := some (.object "java/math/BigDecimal") }, accessFlags := 10, code := some k10c9 }
/-- java/math/BigDecimal -/
def k10 : Class := { plain "java/math/BigDecimal" (some 4) with
  accessFlags := 33
  interfaces := #[5]
  cf := some (fileOf pool10 3 #[.nestMembers #[500, 851, 770, 697]] #[{ accessFlags := 0, nameIndex := 15, descriptorIndex := 245, attributes := #[] }, { accessFlags := 10, nameIndex := 231, descriptorIndex := 232, attributes := #[] }, { accessFlags := 1, nameIndex := 15, descriptorIndex := 579, attributes := #[] }, { accessFlags := 9, nameIndex := 195, descriptorIndex := 330, attributes := #[] }, { accessFlags := 9, nameIndex := 195, descriptorIndex := 238, attributes := #[] }, { accessFlags := 1, nameIndex := 259, descriptorIndex := 269, attributes := #[] }, { accessFlags := 10, nameIndex := 123, descriptorIndex := 124, attributes := #[] }, { accessFlags := 10, nameIndex := 259, descriptorIndex := 322, attributes := #[] }, { accessFlags := 10, nameIndex := 259, descriptorIndex := 344, attributes := #[] }, { accessFlags := 10, nameIndex := 259, descriptorIndex := 260, attributes := #[] }] 33 12 #[1296] #[{ accessFlags := 26, nameIndex := 1298, descriptorIndex := 1299, attributes := #[] }, { accessFlags := 26, nameIndex := 1301, descriptorIndex := 20, attributes := #[] }, { accessFlags := 26, nameIndex := 1303, descriptorIndex := 20, attributes := #[] }, { accessFlags := 26, nameIndex := 1305, descriptorIndex := 20, attributes := #[] }, { accessFlags := 26, nameIndex := 1307, descriptorIndex := 20, attributes := #[] }, { accessFlags := 26, nameIndex := 1309, descriptorIndex := 20, attributes := #[] }, { accessFlags := 26, nameIndex := 1311, descriptorIndex := 20, attributes := #[] }, { accessFlags := 18, nameIndex := 30, descriptorIndex := 31, attributes := #[] }, { accessFlags := 18, nameIndex := 19, descriptorIndex := 20, attributes := #[] }, { accessFlags := 130, nameIndex := 23, descriptorIndex := 20, attributes := #[] }, { accessFlags := 130, nameIndex := 643, descriptorIndex := 644, attributes := #[] }, { accessFlags := 24, nameIndex := 1313, descriptorIndex := 27, attributes := #[] }, { accessFlags := 26, nameIndex := 190, descriptorIndex := 31, attributes := #[] }, { accessFlags := 146, nameIndex := 26, descriptorIndex := 27, attributes := #[] }, { accessFlags := 26, nameIndex := 1314, descriptorIndex := 20, attributes := #[] }, { accessFlags := 26, nameIndex := 1316, descriptorIndex := 27, attributes := #[] }, { accessFlags := 26, nameIndex := 248, descriptorIndex := 249, attributes := #[] }, { accessFlags := 26, nameIndex := 252, descriptorIndex := 249, attributes := #[] }, { accessFlags := 26, nameIndex := 1319, descriptorIndex := 27, attributes := #[] }, { accessFlags := 26, nameIndex := 1320, descriptorIndex := 27, attributes := #[] }, { accessFlags := 25, nameIndex := 187, descriptorIndex := 479, attributes := #[] }, { accessFlags := 25, nameIndex := 535, descriptorIndex := 479, attributes := #[] }, { accessFlags := 25, nameIndex := 206, descriptorIndex := 479, attributes := #[] }, { accessFlags := 25, nameIndex := 485, descriptorIndex := 479, attributes := #[] }, { accessFlags := 26, nameIndex := 478, descriptorIndex := 479, attributes := #[] }, { accessFlags := 26, nameIndex := 518, descriptorIndex := 479, attributes := #[] }, { accessFlags := 25, nameIndex := 1321, descriptorIndex := 20, attributes := #[] }, { accessFlags := 25, nameIndex := 1328, descriptorIndex := 20, attributes := #[] }, { accessFlags := 25, nameIndex := 1330, descriptorIndex := 20, attributes := #[] }, { accessFlags := 25, nameIndex := 1332, descriptorIndex := 20, attributes := #[] }, { accessFlags := 25, nameIndex := 1334, descriptorIndex := 20, attributes := #[] }, { accessFlags := 25, nameIndex := 1336, descriptorIndex := 20, attributes := #[] }, { accessFlags := 25, nameIndex := 1338, descriptorIndex := 20, attributes := #[] }, { accessFlags := 25, nameIndex := 1340, descriptorIndex := 20, attributes := #[] }, { accessFlags := 26, nameIndex := 749, descriptorIndex := 750, attributes := #[] }, { accessFlags := 26, nameIndex := 708, descriptorIndex := 709, attributes := #[] }, { accessFlags := 26, nameIndex := 97, descriptorIndex := 98, attributes := #[] }, { accessFlags := 74, nameIndex := 811, descriptorIndex := 812, attributes := #[] }, { accessFlags := 26, nameIndex := 1182, descriptorIndex := 20, attributes := #[] }, { accessFlags := 26, nameIndex := 808, descriptorIndex := 20, attributes := #[] }, { accessFlags := 26, nameIndex := 827, descriptorIndex := 98, attributes := #[] }, { accessFlags := 26, nameIndex := 1342, descriptorIndex := 27, attributes := #[] }, { accessFlags := 26, nameIndex := 1068, descriptorIndex := 1069, attributes := #[] }, { accessFlags := 4120, nameIndex := 313, descriptorIndex := 314, attributes := #[] }])
  fields := #[{ name := "L", type := .double, accessFlags := 26, slot := 0, constantValue := 0 }, { name := "P_F", type := .int, accessFlags := 26, slot := 1, constantValue := 0 }, { name := "Q_MIN_F", type := .int, accessFlags := 26, slot := 2, constantValue := 0 }, { name := "Q_MAX_F", type := .int, accessFlags := 26, slot := 3, constantValue := 0 }, { name := "P_D", type := .int, accessFlags := 26, slot := 4, constantValue := 0 }, { name := "Q_MIN_D", type := .int, accessFlags := 26, slot := 5, constantValue := 0 }, { name := "Q_MAX_D", type := .int, accessFlags := 26, slot := 6, constantValue := 0 }, { name := "intVal", type := (.object "java/math/BigInteger"), accessFlags := 18, slot := 0, constantValue := 0 }, { name := "scale", type := .int, accessFlags := 18, slot := 1, constantValue := 0 }, { name := "precision", type := .int, accessFlags := 130, slot := 2, constantValue := 0 }, { name := "stringCache", type := (.object "java/lang/String"), accessFlags := 130, slot := 3, constantValue := 0 }, { name := "INFLATED", type := .long, accessFlags := 24, slot := 7, constantValue := 0 }, { name := "INFLATED_BIGINT", type := (.object "java/math/BigInteger"), accessFlags := 26, slot := 8, constantValue := 0 }, { name := "intCompact", type := .long, accessFlags := 146, slot := 4, constantValue := 0 }, { name := "MAX_COMPACT_DIGITS", type := .int, accessFlags := 26, slot := 9, constantValue := 0 }, { name := "serialVersionUID", type := .long, accessFlags := 26, slot := 10, constantValue := 0 }, { name := "ZERO_THROUGH_TEN", type := (.array (.object "java/math/BigDecimal")), accessFlags := 26, slot := 11, constantValue := 0 }, { name := "ZERO_SCALED_BY", type := (.array (.object "java/math/BigDecimal")), accessFlags := 26, slot := 12, constantValue := 0 }, { name := "HALF_LONG_MAX_VALUE", type := .long, accessFlags := 26, slot := 13, constantValue := 0 }, { name := "HALF_LONG_MIN_VALUE", type := .long, accessFlags := 26, slot := 14, constantValue := 0 }, { name := "ZERO", type := (.object "java/math/BigDecimal"), accessFlags := 25, slot := 15, constantValue := 0 }, { name := "ONE", type := (.object "java/math/BigDecimal"), accessFlags := 25, slot := 16, constantValue := 0 }, { name := "TWO", type := (.object "java/math/BigDecimal"), accessFlags := 25, slot := 17, constantValue := 0 }, { name := "TEN", type := (.object "java/math/BigDecimal"), accessFlags := 25, slot := 18, constantValue := 0 }, { name := "ONE_TENTH", type := (.object "java/math/BigDecimal"), accessFlags := 26, slot := 19, constantValue := 0 }, { name := "ONE_HALF", type := (.object "java/math/BigDecimal"), accessFlags := 26, slot := 20, constantValue := 0 }, { name := "ROUND_UP", type := .int, accessFlags := 25, slot := 21, constantValue := 0 }, { name := "ROUND_DOWN", type := .int, accessFlags := 25, slot := 22, constantValue := 0 }, { name := "ROUND_CEILING", type := .int, accessFlags := 25, slot := 23, constantValue := 0 }, { name := "ROUND_FLOOR", type := .int, accessFlags := 25, slot := 24, constantValue := 0 }, { name := "ROUND_HALF_UP", type := .int, accessFlags := 25, slot := 25, constantValue := 0 }, { name := "ROUND_HALF_DOWN", type := .int, accessFlags := 25, slot := 26, constantValue := 0 }, { name := "ROUND_HALF_EVEN", type := .int, accessFlags := 25, slot := 27, constantValue := 0 }, { name := "ROUND_UNNECESSARY", type := .int, accessFlags := 25, slot := 28, constantValue := 0 }, { name := "DOUBLE_10_POW", type := (.array .double), accessFlags := 26, slot := 29, constantValue := 0 }, { name := "FLOAT_10_POW", type := (.array .float), accessFlags := 26, slot := 30, constantValue := 0 }, { name := "LONG_TEN_POWERS_TABLE", type := (.array .long), accessFlags := 26, slot := 31, constantValue := 0 }, { name := "BIG_TEN_POWERS_TABLE", type := (.array (.object "java/math/BigInteger")), accessFlags := 74, slot := 32, constantValue := 0 }, { name := "BIG_TEN_POWERS_TABLE_INITLEN", type := .int, accessFlags := 26, slot := 33, constantValue := 0 }, { name := "BIG_TEN_POWERS_TABLE_MAX", type := .int, accessFlags := 26, slot := 34, constantValue := 0 }, { name := "THRESHOLDS_TABLE", type := (.array .long), accessFlags := 26, slot := 35, constantValue := 0 }, { name := "DIV_NUM_BASE", type := .long, accessFlags := 26, slot := 36, constantValue := 0 }, { name := "LONGLONG_TEN_POWERS_TABLE", type := (.array (.array .long)), accessFlags := 26, slot := 37, constantValue := 0 }, { name := "$assertionsDisabled", type := .boolean, accessFlags := 4120, slot := 38, constantValue := 0 }]
  methods := #[k10m0, k10m1, k10m2, k10m3, k10m4, k10m5, k10m6, k10m7, k10m8, k10m9]
  instanceTypes := #[(.object "java/math/BigInteger"), .int, .int, (.object "java/lang/String"), .long]
  staticTypes := #[.double, .int, .int, .int, .int, .int, .int, .long, (.object "java/math/BigInteger"), .int, .long, (.array (.object "java/math/BigDecimal")), (.array (.object "java/math/BigDecimal")), .long, .long, (.object "java/math/BigDecimal"), (.object "java/math/BigDecimal"), (.object "java/math/BigDecimal"), (.object "java/math/BigDecimal"), (.object "java/math/BigDecimal"), (.object "java/math/BigDecimal"), .int, .int, .int, .int, .int, .int, .int, .int, (.array .double), (.array .float), (.array .long), (.array (.object "java/math/BigInteger")), .int, .int, (.array .long), .long, (.array (.array .long)), .boolean]
  resolved := Array.replicate 1637 none
  statics := some 1 }

def pool11 : Array CpInfo := pool [(3, .methodref 4 5), (0, .class_ 6), (0, .nameAndType 7 8), (0, u "java/lang/Number"), (0, u "<init>"), (0, u "()V"), (14, .class_ 25), (1, u "java/math/BigInteger"), (0, u "ZERO"), (0, u "Ljava/math/BigInteger;"), (0, .fieldref 23 29), (0, .nameAndType 30 31), (0, u "mag"), (0, u "[I"), (0, .fieldref 23 33), (0, .nameAndType 34 35), (0, u "signum"), (0, u "I"), (7, .integer 67108864), (51, u "bitsPerDigit"), (0, u "[J"), (9, u "digitsPerInt"), (12, u "intRadix"), (10, .long 4294967295), (44, .methodref 23 176), (0, .nameAndType 7 177), (0, u "([II)V"), (2, u "SMALL_PRIME_PRODUCT"), (56, u "valueOf"), (0, u "(J)Ljava/math/BigInteger;"), (2, u "add"), (18, u "ONE"), (6, u "TWO"), (12, .class_ 282), (1, u "java/lang/Math"), (15, u "abs"), (12, u "$assertionsDisabled"), (0, u "Z"), (32, .long 16), (3, u "posConst"), (0, u "[Ljava/math/BigInteger;"), (4, u "negConst"), (0, .methodref 23 357), (0, .nameAndType 7 358), (0, u "(J)V"), (11, .methodref 371 372), (0, .class_ 373), (0, .nameAndType 34 374), (0, u "java/lang/Long"), (0, u "(J)I"), (0, .methodref 280 376), (0, .nameAndType 298 377), (0, u "(J)J"), (0, .methodref 23 379), (0, .nameAndType 241 380), (0, u "([IJ)[I"), (91, .class_ 474), (1, u "java/math/BigInteger$RecursiveOp"), (106, u "NEGATIVE_ONE"), (91, u "bnExpModThreshTable"), (72, u "lowestSetBitPlusTwo"), (2, u "bitLengthPlusOne"), (2, u "bitCountPlusOne"), (6, u "LOG_TWO"), (0, u "D"), (2, u "logCache"), (0, u "[D"), (13, u "NUM_ZEROS"), (2, u "ZEROS"), (0, u "Ljava/lang/String;"), (9, u "longRadix"), (5, u "digitsPerLong"), (22, u "powerCache"), (0, u "[[Ljava/math/BigInteger;"), (45, u "firstNonzeroIntNumPlusTwo"), (38, .class_ 909), (1, u "java/math/BigInteger$UnsafeHolder"), (141, u "TEN"), (106, u "serialPersistentFields"), (0, u "[Ljava/io/ObjectStreamField;"), (0, .class_ 1161), (0, u "java/lang/Comparable"), (0, u "LONG_MASK"), (0, u "J"), (1, u "MAX_MAG_LENGTH"), (0, u "PRIME_SEARCH_BIT_LENGTH_LIMIT"), (1, u "KARATSUBA_THRESHOLD"), (1, u "TOOM_COOK_THRESHOLD"), (1, u "KARATSUBA_SQUARE_THRESHOLD"), (1, u "TOOM_COOK_SQUARE_THRESHOLD"), (1, u "BURNIKEL_ZIEGLER_THRESHOLD"), (0, u "BURNIKEL_ZIEGLER_OFFSET"), (1, u "SCHOENHAGE_BASE_CONVERSION_THRESHOLD"), (1, u "MULTIPLY_SQUARE_THRESHOLD"), (0, u "MONTGOMERY_INTRINSIC_THRESHOLD"), (1, u "SMALL_PRIME_THRESHOLD"), (1, u "DEFAULT_PRIME_CERTAINTY"), (1, u "MAX_CONSTANT"), (3, u "serialVersionUID"), (338, .class_ 1532), (0, u "java/math/BigInteger$RecursiveOp$RecursiveSquare"), (0, .class_ 1534), (0, u "java/math/BigInteger$RecursiveOp$RecursiveMultiply")] 7

def k11c0 : Code := { maxStack := 2, maxLocals := 3, code := jdk_2097_method_25_code, exceptionTable := #[], attributes := #[] }
def k11m0 : Method := { name := "<init>", desc := "([II)V", sig := { parameters := [(.array .int), .int], returnType := none }, accessFlags := 0, code := some k11c0 }
def k11c1 : Code := { maxStack := 4, maxLocals := 2, code := jdk_2097_method_29_code, exceptionTable := #[], attributes := #[] }
def k11m1 : Method := { name := "valueOf", desc := "(J)Ljava/math/BigInteger;", sig := { parameters := [.long], returnType := some (.object "java/math/BigInteger") }, accessFlags := 9, code := some k11c1 }
def k11c2 : Code := { maxStack := 4, maxLocals := 4, code := jdk_2097_method_30_code, exceptionTable := #[], attributes := #[] }
def k11m2 : Method := { name := "<init>", desc := "(J)V", sig := { parameters := [.long], returnType := none }, accessFlags := 2, code := some k11c2 }
def k11c3 : Code := { maxStack := 5, maxLocals := 5, code := jdk_2097_method_33_code, exceptionTable := #[], attributes := #[] }
def k11m3 : Method := { name := "add", desc := "(J)Ljava/math/BigInteger;", sig := { parameters := [.long], returnType := some (.object "java/math/BigInteger") }, accessFlags := 0, code := some k11c3 }
def k11c4 : Code := { maxStack := 6, maxLocals := 11, code := jdk_2097_method_34_code, exceptionTable := #[], attributes := #[] }
def k11m4 : Method := { name := "add", desc := "([IJ)[I", sig := { parameters := [(.array .int), .long], returnType := some (.array .int) }, accessFlags := 10, code := some k11c4 }
/-- java/math/BigInteger -/
def k11 : Class := { plain "java/math/BigInteger" (some 4) with
  accessFlags := 33
  interfaces := #[5]
  cf := some (fileOf pool11 23 #[.nestMembers #[907, 472, 1531, 1533]] #[{ accessFlags := 0, nameIndex := 7, descriptorIndex := 177, attributes := #[] }, { accessFlags := 9, nameIndex := 237, descriptorIndex := 238, attributes := #[] }, { accessFlags := 2, nameIndex := 7, descriptorIndex := 358, attributes := #[] }, { accessFlags := 0, nameIndex := 241, descriptorIndex := 238, attributes := #[] }, { accessFlags := 10, nameIndex := 241, descriptorIndex := 380, attributes := #[] }] 33 4 #[1160] #[{ accessFlags := 16, nameIndex := 34, descriptorIndex := 35, attributes := #[] }, { accessFlags := 16, nameIndex := 30, descriptorIndex := 31, attributes := #[] }, { accessFlags := 2, nameIndex := 752, descriptorIndex := 35, attributes := #[] }, { accessFlags := 2, nameIndex := 749, descriptorIndex := 35, attributes := #[] }, { accessFlags := 2, nameIndex := 746, descriptorIndex := 35, attributes := #[] }, { accessFlags := 2, nameIndex := 868, descriptorIndex := 35, attributes := #[] }, { accessFlags := 24, nameIndex := 1162, descriptorIndex := 1163, attributes := #[] }, { accessFlags := 26, nameIndex := 1165, descriptorIndex := 35, attributes := #[] }, { accessFlags := 26, nameIndex := 1166, descriptorIndex := 35, attributes := #[] }, { accessFlags := 26, nameIndex := 1168, descriptorIndex := 35, attributes := #[] }, { accessFlags := 26, nameIndex := 1170, descriptorIndex := 35, attributes := #[] }, { accessFlags := 26, nameIndex := 1172, descriptorIndex := 35, attributes := #[] }, { accessFlags := 26, nameIndex := 1174, descriptorIndex := 35, attributes := #[] }, { accessFlags := 24, nameIndex := 1176, descriptorIndex := 35, attributes := #[] }, { accessFlags := 24, nameIndex := 1177, descriptorIndex := 35, attributes := #[] }, { accessFlags := 26, nameIndex := 1179, descriptorIndex := 35, attributes := #[] }, { accessFlags := 26, nameIndex := 1181, descriptorIndex := 35, attributes := #[] }, { accessFlags := 26, nameIndex := 1182, descriptorIndex := 35, attributes := #[] }, { accessFlags := 10, nameIndex := 95, descriptorIndex := 96, attributes := #[] }, { accessFlags := 26, nameIndex := 1184, descriptorIndex := 35, attributes := #[] }, { accessFlags := 26, nameIndex := 1186, descriptorIndex := 35, attributes := #[] }, { accessFlags := 26, nameIndex := 180, descriptorIndex := 27, attributes := #[] }, { accessFlags := 26, nameIndex := 1188, descriptorIndex := 35, attributes := #[] }, { accessFlags := 26, nameIndex := 349, descriptorIndex := 350, attributes := #[] }, { accessFlags := 26, nameIndex := 355, descriptorIndex := 350, attributes := #[] }, { accessFlags := 74, nameIndex := 821, descriptorIndex := 822, attributes := #[] }, { accessFlags := 26, nameIndex := 763, descriptorIndex := 764, attributes := #[] }, { accessFlags := 26, nameIndex := 759, descriptorIndex := 760, attributes := #[] }, { accessFlags := 25, nameIndex := 26, descriptorIndex := 27, attributes := #[] }, { accessFlags := 25, nameIndex := 260, descriptorIndex := 27, attributes := #[] }, { accessFlags := 25, nameIndex := 267, descriptorIndex := 27, attributes := #[] }, { accessFlags := 26, nameIndex := 581, descriptorIndex := 27, attributes := #[] }, { accessFlags := 25, nameIndex := 1051, descriptorIndex := 27, attributes := #[] }, { accessFlags := 8, nameIndex := 673, descriptorIndex := 31, attributes := #[] }, { accessFlags := 10, nameIndex := 778, descriptorIndex := 35, attributes := #[] }, { accessFlags := 26, nameIndex := 781, descriptorIndex := 782, attributes := #[] }, { accessFlags := 10, nameIndex := 798, descriptorIndex := 31, attributes := #[] }, { accessFlags := 10, nameIndex := 792, descriptorIndex := 350, attributes := #[] }, { accessFlags := 10, nameIndex := 106, descriptorIndex := 31, attributes := #[] }, { accessFlags := 10, nameIndex := 119, descriptorIndex := 31, attributes := #[] }, { accessFlags := 26, nameIndex := 1192, descriptorIndex := 1163, attributes := #[] }, { accessFlags := 26, nameIndex := 1158, descriptorIndex := 1159, attributes := #[] }, { accessFlags := 4120, nameIndex := 311, descriptorIndex := 312, attributes := #[] }])
  fields := #[{ name := "signum", type := .int, accessFlags := 16, slot := 0, constantValue := 0 }, { name := "mag", type := (.array .int), accessFlags := 16, slot := 1, constantValue := 0 }, { name := "bitCountPlusOne", type := .int, accessFlags := 2, slot := 2, constantValue := 0 }, { name := "bitLengthPlusOne", type := .int, accessFlags := 2, slot := 3, constantValue := 0 }, { name := "lowestSetBitPlusTwo", type := .int, accessFlags := 2, slot := 4, constantValue := 0 }, { name := "firstNonzeroIntNumPlusTwo", type := .int, accessFlags := 2, slot := 5, constantValue := 0 }, { name := "LONG_MASK", type := .long, accessFlags := 24, slot := 0, constantValue := 0 }, { name := "MAX_MAG_LENGTH", type := .int, accessFlags := 26, slot := 1, constantValue := 0 }, { name := "PRIME_SEARCH_BIT_LENGTH_LIMIT", type := .int, accessFlags := 26, slot := 2, constantValue := 0 }, { name := "KARATSUBA_THRESHOLD", type := .int, accessFlags := 26, slot := 3, constantValue := 0 }, { name := "TOOM_COOK_THRESHOLD", type := .int, accessFlags := 26, slot := 4, constantValue := 0 }, { name := "KARATSUBA_SQUARE_THRESHOLD", type := .int, accessFlags := 26, slot := 5, constantValue := 0 }, { name := "TOOM_COOK_SQUARE_THRESHOLD", type := .int, accessFlags := 26, slot := 6, constantValue := 0 }, { name := "BURNIKEL_ZIEGLER_THRESHOLD", type := .int, accessFlags := 24, slot := 7, constantValue := 0 }, { name := "BURNIKEL_ZIEGLER_OFFSET", type := .int, accessFlags := 24, slot := 8, constantValue := 0 }, { name := "SCHOENHAGE_BASE_CONVERSION_THRESHOLD", type := .int, accessFlags := 26, slot := 9, constantValue := 0 }, { name := "MULTIPLY_SQUARE_THRESHOLD", type := .int, accessFlags := 26, slot := 10, constantValue := 0 }, { name := "MONTGOMERY_INTRINSIC_THRESHOLD", type := .int, accessFlags := 26, slot := 11, constantValue := 0 }, { name := "bitsPerDigit", type := (.array .long), accessFlags := 10, slot := 12, constantValue := 0 }, { name := "SMALL_PRIME_THRESHOLD", type := .int, accessFlags := 26, slot := 13, constantValue := 0 }, { name := "DEFAULT_PRIME_CERTAINTY", type := .int, accessFlags := 26, slot := 14, constantValue := 0 }, { name := "SMALL_PRIME_PRODUCT", type := (.object "java/math/BigInteger"), accessFlags := 26, slot := 15, constantValue := 0 }, { name := "MAX_CONSTANT", type := .int, accessFlags := 26, slot := 16, constantValue := 0 }, { name := "posConst", type := (.array (.object "java/math/BigInteger")), accessFlags := 26, slot := 17, constantValue := 0 }, { name := "negConst", type := (.array (.object "java/math/BigInteger")), accessFlags := 26, slot := 18, constantValue := 0 }, { name := "powerCache", type := (.array (.array (.object "java/math/BigInteger"))), accessFlags := 74, slot := 19, constantValue := 0 }, { name := "logCache", type := (.array .double), accessFlags := 26, slot := 20, constantValue := 0 }, { name := "LOG_TWO", type := .double, accessFlags := 26, slot := 21, constantValue := 0 }, { name := "ZERO", type := (.object "java/math/BigInteger"), accessFlags := 25, slot := 22, constantValue := 0 }, { name := "ONE", type := (.object "java/math/BigInteger"), accessFlags := 25, slot := 23, constantValue := 0 }, { name := "TWO", type := (.object "java/math/BigInteger"), accessFlags := 25, slot := 24, constantValue := 0 }, { name := "NEGATIVE_ONE", type := (.object "java/math/BigInteger"), accessFlags := 26, slot := 25, constantValue := 0 }, { name := "TEN", type := (.object "java/math/BigInteger"), accessFlags := 25, slot := 26, constantValue := 0 }, { name := "bnExpModThreshTable", type := (.array .int), accessFlags := 8, slot := 27, constantValue := 0 }, { name := "NUM_ZEROS", type := .int, accessFlags := 10, slot := 28, constantValue := 0 }, { name := "ZEROS", type := (.object "java/lang/String"), accessFlags := 26, slot := 29, constantValue := 0 }, { name := "digitsPerLong", type := (.array .int), accessFlags := 10, slot := 30, constantValue := 0 }, { name := "longRadix", type := (.array (.object "java/math/BigInteger")), accessFlags := 10, slot := 31, constantValue := 0 }, { name := "digitsPerInt", type := (.array .int), accessFlags := 10, slot := 32, constantValue := 0 }, { name := "intRadix", type := (.array .int), accessFlags := 10, slot := 33, constantValue := 0 }, { name := "serialVersionUID", type := .long, accessFlags := 26, slot := 34, constantValue := 0 }, { name := "serialPersistentFields", type := (.array (.object "java/io/ObjectStreamField")), accessFlags := 26, slot := 35, constantValue := 0 }, { name := "$assertionsDisabled", type := .boolean, accessFlags := 4120, slot := 36, constantValue := 0 }]
  methods := #[k11m0, k11m1, k11m2, k11m3, k11m4]
  instanceTypes := #[.int, (.array .int), .int, .int, .int, .int]
  staticTypes := #[.long, .int, .int, .int, .int, .int, .int, .int, .int, .int, .int, .int, (.array .long), .int, .int, (.object "java/math/BigInteger"), .int, (.array (.object "java/math/BigInteger")), (.array (.object "java/math/BigInteger")), (.array (.array (.object "java/math/BigInteger"))), (.array .double), .double, (.object "java/math/BigInteger"), (.object "java/math/BigInteger"), (.object "java/math/BigInteger"), (.object "java/math/BigInteger"), (.object "java/math/BigInteger"), (.array .int), .int, (.object "java/lang/String"), (.array .int), (.array (.object "java/math/BigInteger")), (.array .int), (.array .int), .long, (.array (.object "java/io/ObjectStreamField")), .boolean]
  resolved := Array.replicate 1542 none
  mirror := some 3
  statics := some 2 }

def pool12 : Array CpInfo := pool [(1, u "java/lang/Class"), (0, .class_ 1), (0, u "java/lang/Object"), (0, .class_ 3)] 3

/-- java/lang/Class -/
def k12 : Class := { plain "java/lang/Class" (some 0) with
  accessFlags := 49
  interfaces := #[]
  cf := some (fileOf pool12 2 #[] #[] 49 4 #[] #[])
  fields := #[]
  methods := #[]
  instanceTypes := #[]
  staticTypes := #[]
  resolved := Array.replicate 8 none
  statics := none }

def pool13 : Array CpInfo := pool [(1, u "java/lang/Cloneable"), (0, .class_ 1), (0, u "java/lang/Object"), (0, .class_ 3)] 3

/-- java/lang/Cloneable -/
def k13 : Class := { plain "java/lang/Cloneable" (some 0) with
  accessFlags := 1537
  interfaces := #[]
  cf := some (fileOf pool13 2 #[] #[] 1537 4 #[] #[])
  fields := #[]
  methods := #[]
  instanceTypes := #[]
  staticTypes := #[]
  resolved := Array.replicate 8 none
  statics := none }

/-- the primitive byte -/
def k14 : Class := { plain "byte" none with kind := .primitive 'B', accessFlags := 0x411 }
/-- [B -/
def k15 : Class := { plain "[B" (some 0) with kind := .array 14 .byte, interfaces := #[13, 3], accessFlags := 1041 }

/-- the primitive int -/
def k16 : Class := { plain "int" none with kind := .primitive 'I', accessFlags := 0x411 }
/-- [I -/
def k17 : Class := { plain "[I" (some 0) with kind := .array 16 .int, interfaces := #[13, 3], accessFlags := 1041 }

/-- the primitive long -/
def k18 : Class := { plain "long" none with kind := .primitive 'J', accessFlags := 0x411 }
/-- [J -/
def k19 : Class := { plain "[J" (some 0) with kind := .array 18 .long, interfaces := #[13, 3], accessFlags := 1041 }

/-- [Ljava/math/BigDecimal; -/
def k20 : Class := { plain "[Ljava/math/BigDecimal;" (some 0) with kind := .array 10 (.object "java/math/BigDecimal"), interfaces := #[13, 3], accessFlags := 1041 }

def heap : Heap := #[{ cls := 2, slots := #[.int 0, .long 0, .ref 38], vm := .statics 2 },
  { cls := 10, slots := #[.double 0, .int 0, .int 0, .int 0, .int 0, .int 0, .int 0, .long 0, .null, .int 0, .long 0, .ref 4, .null, .long 0, .long 0, .ref 5, .ref 6, .ref 7, .ref 15, .null, .null, .int 0, .int 0, .int 0, .int 0, .int 0, .int 0, .int 0, .int 0, .null, .null, .null, .null, .int 0, .int 0, .null, .long 0, .null, .int 0], vm := .statics 10 },
  { cls := 11, slots := #[.long 0, .int 0, .int 0, .int 0, .int 0, .int 0, .int 0, .int 0, .int 0, .int 0, .int 0, .int 0, .null, .int 0, .int 0, .null, .int 0, .null, .null, .null, .null, .double 0, .ref 16, .ref 17, .ref 18, .null, .ref 26, .null, .int 0, .null, .null, .null, .null, .null, .long 0, .null, .int 0], vm := .statics 11 },
  { cls := 12, slots := #[], vm := .mirror 11 },
  { cls := 20, slots := #[.ref 5, .ref 6, .ref 7, .ref 8, .ref 9, .ref 10, .ref 11, .ref 12, .ref 13, .ref 14, .ref 15], vm := .none },
  { cls := 10, slots := #[.ref 16, .int 0, .int 0, .null, .long 0], vm := .none },
  { cls := 10, slots := #[.ref 17, .int 0, .int 0, .null, .long 1], vm := .none },
  { cls := 10, slots := #[.ref 18, .int 0, .int 0, .null, .long 2], vm := .none },
  { cls := 10, slots := #[.ref 19, .int 0, .int 0, .null, .long 3], vm := .none },
  { cls := 10, slots := #[.ref 20, .int 0, .int 0, .null, .long 4], vm := .none },
  { cls := 10, slots := #[.ref 21, .int 0, .int 0, .null, .long 5], vm := .none },
  { cls := 10, slots := #[.ref 22, .int 0, .int 0, .null, .long 6], vm := .none },
  { cls := 10, slots := #[.ref 23, .int 0, .int 0, .null, .long 7], vm := .none },
  { cls := 10, slots := #[.ref 24, .int 0, .int 0, .null, .long 8], vm := .none },
  { cls := 10, slots := #[.ref 25, .int 0, .int 0, .null, .long 9], vm := .none },
  { cls := 10, slots := #[.ref 26, .int 0, .int 0, .null, .long 10], vm := .none },
  { cls := 11, slots := #[.int 0, .ref 27, .int 0, .int 0, .int 0, .int 0], vm := .none },
  { cls := 11, slots := #[.int 1, .ref 28, .int 0, .int 0, .int 0, .int 0], vm := .none },
  { cls := 11, slots := #[.int 1, .ref 29, .int 0, .int 0, .int 0, .int 0], vm := .none },
  { cls := 11, slots := #[.int 1, .ref 30, .int 0, .int 0, .int 0, .int 0], vm := .none },
  { cls := 11, slots := #[.int 1, .ref 31, .int 0, .int 0, .int 0, .int 0], vm := .none },
  { cls := 11, slots := #[.int 1, .ref 32, .int 0, .int 0, .int 0, .int 0], vm := .none },
  { cls := 11, slots := #[.int 1, .ref 33, .int 0, .int 0, .int 0, .int 0], vm := .none },
  { cls := 11, slots := #[.int 1, .ref 34, .int 0, .int 0, .int 0, .int 0], vm := .none },
  { cls := 11, slots := #[.int 1, .ref 35, .int 0, .int 0, .int 0, .int 0], vm := .none },
  { cls := 11, slots := #[.int 1, .ref 36, .int 0, .int 0, .int 0, .int 0], vm := .none },
  { cls := 11, slots := #[.int 1, .ref 37, .int 0, .int 0, .int 0, .int 0], vm := .none },
  { cls := 17, slots := #[], vm := .none },
  { cls := 17, slots := #[.int 1], vm := .none },
  { cls := 17, slots := #[.int 2], vm := .none },
  { cls := 17, slots := #[.int 3], vm := .none },
  { cls := 17, slots := #[.int 4], vm := .none },
  { cls := 17, slots := #[.int 5], vm := .none },
  { cls := 17, slots := #[.int 6], vm := .none },
  { cls := 17, slots := #[.int 7], vm := .none },
  { cls := 17, slots := #[.int 8], vm := .none },
  { cls := 17, slots := #[.int 9], vm := .none },
  { cls := 17, slots := #[.int 10], vm := .none },
  { cls := 19, slots := #[.long 1, .long 10, .long 100, .long 1000, .long 10000, .long 100000, .long 1000000, .long 10000000, .long 100000000, .long 1000000000, .long 10000000000, .long 100000000000, .long 1000000000000, .long 10000000000000, .long 100000000000000, .long 1000000000000000, .long 10000000000000000, .long 100000000000000000, .long 1000000000000000000], vm := .none }]
def classes : Array Class := #[k0, k1, k2, k3, k4, k5, k6, k7, k8, k9, k10, k11, k12, k13, k14, k15, k16, k17, k18, k19, k20]
def interned : List (Array UInt16 × Addr) := []
def slotsUsed : Nat := 240
def theMethod : MethodId := ⟨1, 1⟩
def args0 : Array Value := #[.long 5, .int 2, .long 9, .int 3, .int 1]
def aboutOver (below : List Frame) : State where
  vm := { classes := classes, interned := interned.toArray }
  heap := heap
  slotsUsed := slotsUsed
  threads := #[{ frames := .invoking theMethod args0 :: below }]
def below0 : List Frame := [.native { method := ⟨0, 0⟩, args := #[] }]
def about1 : State := aboutOver below0
def p0 : Program := .bare "" "" ""
def e0 : Env := launch0.env 0 0 0
theorem w_frames : about1.frames = Frame.invoking theMethod args0 :: below0 := rfl
set_option maxRecDepth 65536 in
theorem w_args : argsFit about1.vm theMethod args0 = true := by decide +kernel
set_option maxRecDepth 65536 in
theorem w_heap : heapFits about1 = true := by decide +kernel
set_option maxRecDepth 65536 in
theorem w_runnable : about1.curStatus? = some .runnable := by decide +kernel
set_option maxRecDepth 65536 in
theorem w_alone : about1.alone = true := by decide +kernel
set_option maxRecDepth 65536 in
theorem w_named : about1.methodNamed? x = some theMethod := by decide +kernel
set_option maxRecDepth 65536 in
theorem w_hears : about1.hears theMethod below0 = true := by decide +kernel
set_option maxRecDepth 65536 in
theorem w_ripe : about1.ripe theMethod args0 below0 = true := by decide +kernel
theorem w_running : about1.status = .running := rfl
set_option maxRecDepth 65536 in
theorem w_room : about1.hasRoom e0.platform room_1 = true :=
  launch0.hasRoom_least _ room_1 (by decide +kernel) (by decide +kernel) (by decide +kernel) (by decide +kernel) (by decide +kernel) (by decide +kernel)
theorem allAtoms_all (ts : List Jvm.Cond) (a : Array Jvm.Value) (st : Jvm.State) : (allAtoms ts).before a st = ts.all (fun c => c.before a st) := by
  induction ts with
  | nil => rfl
  | cons c t ih =>
    show (Jvm.Cond.and c (allAtoms t)).before a st = _
    rw [Jvm.Cond.before_and, ih, List.all_cons]
def words1 : List Jvm.Cond := Jvm.Cond.code x code maxLocals ret :: tables_1
/-- a 'code' word, met by the world's own term for the bytes: nothing is compared byte by byte -/
theorem code_word {y : MethodName} {bytes : ByteArray} {mx : Nat} {rt : Option FieldType} {a : Array Value} {s : State} {m : MethodId} {meth : Method} {c : Code} (h1 : s.methodNamed? y = some m) (h2 : s.vm.method? m = some meth) (h3 : meth.code = some c) (h4 : c.code = bytes)
    (h5 : (c.maxLocals == mx && c.exceptionTable.isEmpty && decide (c.maxStack ≤ mostOperands) && decide (meth.sig.returnType = rt) && !meth.locks && decide (parseMethodDescriptor y.desc = some meth.sig)) = true) : (Jvm.Cond.code y bytes mx rt).before a s = true := by
  simp only [Bool.and_eq_true, beq_iff_eq, Bool.not_eq_true', decide_eq_true_eq] at h5
  obtain ⟨⟨⟨⟨⟨g1, g2⟩, g3⟩, g4⟩, g5⟩, g6⟩ := h5
  simp [Cond.before, Cond.holds, Cond.value, h1, h2, h3, h4, g1, g2, g3, g4, g5, g6]
def isCode : Jvm.Cond → Bool
  | .code _ _ _ _ => true
  | _ => false
theorem all_split {L : List Jvm.Cond} {P : Jvm.Cond → Bool} (h1 : L.all (fun c => isCode c || P c) = true) (h2 : ∀ c ∈ L.filter isCode, P c = true) : L.all P = true := by
  refine List.all_eq_true.mpr fun c hc => ?_
  have h := List.all_eq_true.mp h1 c hc
  rcases Bool.eq_false_or_eq_true (isCode c) with hi | hi
  · exact h2 c (List.mem_filter.mpr ⟨hc, hi⟩)
  · simpa [hi] using h
set_option maxRecDepth 65536 in
theorem w_c0 : (Jvm.Cond.code x code maxLocals ret).before args0 about1 = true := code_word (m := ⟨1, 1⟩) (meth := k1m1) (c := k1c1) (by decide +kernel) rfl rfl rfl (by decide +kernel)
set_option maxRecDepth 65536 in
theorem w_c1 : (Jvm.Cond.code ({ cls := "com/example/exfactor/exfactor/core/MutableFigure", name := "<init>", desc := "()V" } : Jvm.MethodName) prog_7_method_1_code (1 : Nat) (Option.none : Option Jvm.ClassFile.FieldType)).before args0 about1 = true := code_word (m := ⟨2, 0⟩) (meth := k2m0) (c := k2c0) (by decide +kernel) rfl rfl rfl (by decide +kernel)
set_option maxRecDepth 65536 in
theorem w_c2 : (Jvm.Cond.code ({ cls := "java/lang/Object", name := "<init>", desc := "()V" } : Jvm.MethodName) object_method_1_code (1 : Nat) (Option.none : Option Jvm.ClassFile.FieldType)).before args0 about1 = true := code_word (m := ⟨0, 0⟩) (meth := k0m0) (c := k0c0) (by decide +kernel) rfl rfl rfl (by decide +kernel)
set_option maxRecDepth 65536 in
theorem w_c3 : (Jvm.Cond.code ({ cls := "com/example/exfactor/exfactor/core/MutableFigure", name := "set", desc := "(JI)V" } : Jvm.MethodName) prog_7_method_6_code (4 : Nat) (Option.none : Option Jvm.ClassFile.FieldType)).before args0 about1 = true := code_word (m := ⟨2, 1⟩) (meth := k2m1) (c := k2c1) (by decide +kernel) rfl rfl rfl (by decide +kernel)
set_option maxRecDepth 65536 in
theorem w_c4 : (Jvm.Cond.code ({ cls := "com/example/exfactor/exfactor/core/MutableFigure", name := "scale", desc := "()I" } : Jvm.MethodName) prog_7_method_8_code (1 : Nat) (Option.some Jvm.ClassFile.FieldType.int)).before args0 about1 = true := code_word (m := ⟨2, 3⟩) (meth := k2m3) (c := k2c3) (by decide +kernel) rfl rfl rfl (by decide +kernel)
set_option maxRecDepth 65536 in
theorem w_c5 : (Jvm.Cond.code ({ cls := "com/example/exfactor/exfactor/core/MutableFigure", name := "signum", desc := "()I" } : Jvm.MethodName) prog_7_method_7_code (1 : Nat) (Option.some Jvm.ClassFile.FieldType.int)).before args0 about1 = true := code_word (m := ⟨2, 2⟩) (meth := k2m2) (c := k2c2) (by decide +kernel) rfl rfl rfl (by decide +kernel)
set_option maxRecDepth 65536 in
theorem w_c6 : (Jvm.Cond.code ({ cls := "java/lang/Long", name := "signum", desc := "(J)I" } : Jvm.MethodName) jdk_35_method_57_code (2 : Nat) (Option.some Jvm.ClassFile.FieldType.int)).before args0 about1 = true := code_word (m := ⟨8, 0⟩) (meth := k8m0) (c := k8c0) (by decide +kernel) rfl rfl rfl (by decide +kernel)
set_option maxRecDepth 65536 in
theorem w_c7 : (Jvm.Cond.code ({ cls := "com/example/exfactor/exfactor/core/MutableFigure", name := "unscaledAt", desc := "(I)J" } : Jvm.MethodName) prog_7_method_15_code (2 : Nat) (Option.some Jvm.ClassFile.FieldType.long)).before args0 about1 = true := code_word (m := ⟨2, 7⟩) (meth := k2m7) (c := k2c7) (by decide +kernel) rfl rfl rfl (by decide +kernel)
set_option maxRecDepth 65536 in
theorem w_c8 : (Jvm.Cond.code ({ cls := "com/example/exfactor/exfactor/core/MutableFigure", name := "rescale", desc := "(JII)J" } : Jvm.MethodName) prog_7_method_17_code (5 : Nat) (Option.some Jvm.ClassFile.FieldType.long)).before args0 about1 = true := code_word (m := ⟨2, 8⟩) (meth := k2m8) (c := k2c8) (by decide +kernel) rfl rfl rfl (by decide +kernel)
set_option maxRecDepth 65536 in
theorem w_c9 : (Jvm.Cond.code ({ cls := "com/example/exfactor/exfactor/core/MutableFigure", name := "scaleUp", desc := "(JI)J" } : Jvm.MethodName) prog_7_method_18_code (3 : Nat) (Option.some Jvm.ClassFile.FieldType.long)).before args0 about1 = true := code_word (m := ⟨2, 9⟩) (meth := k2m9) (c := k2c9) (by decide +kernel) rfl rfl rfl (by decide +kernel)
set_option maxRecDepth 65536 in
theorem w_c10 : (Jvm.Cond.code ({ cls := "com/example/exfactor/exfactor/core/MutableFigure", name := "multiplyExactly", desc := "(JJ)J" } : Jvm.MethodName) prog_7_method_19_code (8 : Nat) (Option.some Jvm.ClassFile.FieldType.long)).before args0 about1 = true := code_word (m := ⟨2, 10⟩) (meth := k2m10) (c := k2c10) (by decide +kernel) rfl rfl rfl (by decide +kernel)
set_option maxRecDepth 65536 in
theorem w_c11 : (Jvm.Cond.code ({ cls := "java/lang/Math", name := "multiplyHigh", desc := "(JJ)J" } : Jvm.MethodName) jdk_29_method_45_code (20 : Nat) (Option.some Jvm.ClassFile.FieldType.long)).before args0 about1 = true := code_word (m := ⟨9, 1⟩) (meth := k9m1) (c := k9c1) (by decide +kernel) rfl rfl rfl (by decide +kernel)
set_option maxRecDepth 65536 in
theorem w_c12 : (Jvm.Cond.code ({ cls := "com/example/exfactor/exfactor/core/MutableFigure", name := "add", desc := "(Lcom/example/exfactor/exfactor/core/MutableFigure;)V" } : Jvm.MethodName) prog_7_method_10_code (2 : Nat) (Option.none : Option Jvm.ClassFile.FieldType)).before args0 about1 = true := code_word (m := ⟨2, 5⟩) (meth := k2m5) (c := k2c5) (by decide +kernel) rfl rfl rfl (by decide +kernel)
set_option maxRecDepth 65536 in
theorem w_c13 : (Jvm.Cond.code ({ cls := "com/example/exfactor/exfactor/core/MutableFigure", name := "add", desc := "(Lcom/example/exfactor/exfactor/core/MutableFigure;Z)V" } : Jvm.MethodName) prog_7_method_12_code (10 : Nat) (Option.none : Option Jvm.ClassFile.FieldType)).before args0 about1 = true := code_word (m := ⟨2, 6⟩) (meth := k2m6) (c := k2c6) (by decide +kernel) rfl rfl rfl (by decide +kernel)
set_option maxRecDepth 65536 in
theorem w_c14 : (Jvm.Cond.code ({ cls := "java/lang/Math", name := "max", desc := "(II)I" } : Jvm.MethodName) jdk_29_method_65_code (2 : Nat) (Option.some Jvm.ClassFile.FieldType.int)).before args0 about1 = true := code_word (m := ⟨9, 3⟩) (meth := k9m3) (c := k9c3) (by decide +kernel) rfl rfl rfl (by decide +kernel)
set_option maxRecDepth 65536 in
theorem w_c15 : (Jvm.Cond.code ({ cls := "com/example/exfactor/exfactor/core/MutableFigure", name := "toBigDecimal", desc := "()Ljava/math/BigDecimal;" } : Jvm.MethodName) prog_7_method_9_code (1 : Nat) (Option.some (Jvm.ClassFile.FieldType.object "java/math/BigDecimal"))).before args0 about1 = true := code_word (m := ⟨2, 4⟩) (meth := k2m4) (c := k2c4) (by decide +kernel) rfl rfl rfl (by decide +kernel)
set_option maxRecDepth 65536 in
theorem w_c16 : (Jvm.Cond.code ({ cls := "java/math/BigDecimal", name := "valueOf", desc := "(JI)Ljava/math/BigDecimal;" } : Jvm.MethodName) jdk_17_method_20_code (3 : Nat) (Option.some (Jvm.ClassFile.FieldType.object "java/math/BigDecimal"))).before args0 about1 = true := code_word (m := ⟨10, 3⟩) (meth := k10m3) (c := k10c3) (by decide +kernel) rfl rfl rfl (by decide +kernel)
set_option maxRecDepth 65536 in
theorem w_c17 : (Jvm.Cond.code ({ cls := "java/math/BigDecimal", name := "valueOf", desc := "(J)Ljava/math/BigDecimal;" } : Jvm.MethodName) jdk_17_method_21_code (2 : Nat) (Option.some (Jvm.ClassFile.FieldType.object "java/math/BigDecimal"))).before args0 about1 = true := code_word (m := ⟨10, 4⟩) (meth := k10m4) (c := k10c4) (by decide +kernel) rfl rfl rfl (by decide +kernel)
set_option maxRecDepth 65536 in
theorem w_c18 : (Jvm.Cond.code ({ cls := "java/math/BigDecimal", name := "<init>", desc := "(Ljava/math/BigInteger;JII)V" } : Jvm.MethodName) jdk_17_method_1_code (6 : Nat) (Option.none : Option Jvm.ClassFile.FieldType)).before args0 about1 = true := code_word (m := ⟨10, 0⟩) (meth := k10m0) (c := k10c0) (by decide +kernel) rfl rfl rfl (by decide +kernel)
set_option maxRecDepth 65536 in
theorem w_c19 : (Jvm.Cond.code ({ cls := "java/lang/Number", name := "<init>", desc := "()V" } : Jvm.MethodName) jdk_18_method_1_code (1 : Nat) (Option.none : Option Jvm.ClassFile.FieldType)).before args0 about1 = true := code_word (m := ⟨4, 0⟩) (meth := k4m0) (c := k4c0) (by decide +kernel) rfl rfl rfl (by decide +kernel)
set_option maxRecDepth 65536 in
theorem w_c20 : (Jvm.Cond.code ({ cls := "java/math/BigDecimal", name := "add", desc := "(Ljava/math/BigDecimal;)Ljava/math/BigDecimal;" } : Jvm.MethodName) jdk_17_method_26_code (2 : Nat) (Option.some (Jvm.ClassFile.FieldType.object "java/math/BigDecimal"))).before args0 about1 = true := code_word (m := ⟨10, 5⟩) (meth := k10m5) (c := k10c5) (by decide +kernel) rfl rfl rfl (by decide +kernel)
set_option maxRecDepth 65536 in
theorem w_c21 : (Jvm.Cond.code ({ cls := "java/math/BigDecimal", name := "add", desc := "(JIJI)Ljava/math/BigDecimal;" } : Jvm.MethodName) jdk_17_method_134_code (12 : Nat) (Option.some (Jvm.ClassFile.FieldType.object "java/math/BigDecimal"))).before args0 about1 = true := code_word (m := ⟨10, 9⟩) (meth := k10m9) (c := k10c9) (by decide +kernel) rfl rfl rfl (by decide +kernel)
set_option maxRecDepth 65536 in
theorem w_c22 : (Jvm.Cond.code ({ cls := "java/math/BigDecimal", name := "add", desc := "(JJI)Ljava/math/BigDecimal;" } : Jvm.MethodName) jdk_17_method_133_code (7 : Nat) (Option.some (Jvm.ClassFile.FieldType.object "java/math/BigDecimal"))).before args0 about1 = true := code_word (m := ⟨10, 8⟩) (meth := k10m8) (c := k10c8) (by decide +kernel) rfl rfl rfl (by decide +kernel)
set_option maxRecDepth 65536 in
theorem w_c23 : (Jvm.Cond.code ({ cls := "java/math/BigDecimal", name := "add", desc := "(JJ)J" } : Jvm.MethodName) jdk_17_method_132_code (6 : Nat) (Option.some Jvm.ClassFile.FieldType.long)).before args0 about1 = true := code_word (m := ⟨10, 7⟩) (meth := k10m7) (c := k10c7) (by decide +kernel) rfl rfl rfl (by decide +kernel)
set_option maxRecDepth 65536 in
theorem w_c24 : (Jvm.Cond.code ({ cls := "java/math/BigInteger", name := "valueOf", desc := "(J)Ljava/math/BigInteger;" } : Jvm.MethodName) jdk_2097_method_29_code (2 : Nat) (Option.some (Jvm.ClassFile.FieldType.object "java/math/BigInteger"))).before args0 about1 = true := code_word (m := ⟨11, 1⟩) (meth := k11m1) (c := k11c1) (by decide +kernel) rfl rfl rfl (by decide +kernel)
set_option maxRecDepth 65536 in
theorem w_c25 : (Jvm.Cond.code ({ cls := "java/math/BigInteger", name := "<init>", desc := "(J)V" } : Jvm.MethodName) jdk_2097_method_30_code (4 : Nat) (Option.none : Option Jvm.ClassFile.FieldType)).before args0 about1 = true := code_word (m := ⟨11, 2⟩) (meth := k11m2) (c := k11c2) (by decide +kernel) rfl rfl rfl (by decide +kernel)
set_option maxRecDepth 65536 in
theorem w_c26 : (Jvm.Cond.code ({ cls := "java/math/BigInteger", name := "add", desc := "(J)Ljava/math/BigInteger;" } : Jvm.MethodName) jdk_2097_method_33_code (5 : Nat) (Option.some (Jvm.ClassFile.FieldType.object "java/math/BigInteger"))).before args0 about1 = true := code_word (m := ⟨11, 3⟩) (meth := k11m3) (c := k11c3) (by decide +kernel) rfl rfl rfl (by decide +kernel)
set_option maxRecDepth 65536 in
theorem w_c27 : (Jvm.Cond.code ({ cls := "java/lang/Math", name := "abs", desc := "(J)J" } : Jvm.MethodName) jdk_29_method_61_code (2 : Nat) (Option.some Jvm.ClassFile.FieldType.long)).before args0 about1 = true := code_word (m := ⟨9, 2⟩) (meth := k9m2) (c := k9c2) (by decide +kernel) rfl rfl rfl (by decide +kernel)
set_option maxRecDepth 65536 in
theorem w_c28 : (Jvm.Cond.code ({ cls := "java/math/BigInteger", name := "add", desc := "([IJ)[I" } : Jvm.MethodName) jdk_2097_method_34_code (11 : Nat) (Option.some (Jvm.ClassFile.FieldType.array Jvm.ClassFile.FieldType.int))).before args0 about1 = true := code_word (m := ⟨11, 4⟩) (meth := k11m4) (c := k11c4) (by decide +kernel) rfl rfl rfl (by decide +kernel)
set_option maxRecDepth 65536 in
theorem w_c29 : (Jvm.Cond.code ({ cls := "java/math/BigInteger", name := "<init>", desc := "([II)V" } : Jvm.MethodName) jdk_2097_method_25_code (3 : Nat) (Option.none : Option Jvm.ClassFile.FieldType)).before args0 about1 = true := code_word (m := ⟨11, 0⟩) (meth := k11m0) (c := k11c0) (by decide +kernel) rfl rfl rfl (by decide +kernel)
set_option maxRecDepth 65536 in
theorem w_c30 : (Jvm.Cond.code ({ cls := "java/math/BigDecimal", name := "<init>", desc := "(Ljava/math/BigInteger;I)V" } : Jvm.MethodName) jdk_17_method_14_code (3 : Nat) (Option.none : Option Jvm.ClassFile.FieldType)).before args0 about1 = true := code_word (m := ⟨10, 2⟩) (meth := k10m2) (c := k10c2) (by decide +kernel) rfl rfl rfl (by decide +kernel)
set_option maxRecDepth 65536 in
theorem w_c31 : (Jvm.Cond.code ({ cls := "java/math/BigDecimal", name := "toStrictBigInteger", desc := "(Ljava/math/BigInteger;)Ljava/math/BigInteger;" } : Jvm.MethodName) jdk_17_method_11_code (1 : Nat) (Option.some (Jvm.ClassFile.FieldType.object "java/math/BigInteger"))).before args0 about1 = true := code_word (m := ⟨10, 1⟩) (meth := k10m1) (c := k10c1) (by decide +kernel) rfl rfl rfl (by decide +kernel)
set_option maxRecDepth 65536 in
theorem w_c32 : (Jvm.Cond.code ({ cls := "java/math/BigDecimal", name := "compactValFor", desc := "(Ljava/math/BigInteger;)J" } : Jvm.MethodName) jdk_17_method_107_code (6 : Nat) (Option.some Jvm.ClassFile.FieldType.long)).before args0 about1 = true := code_word (m := ⟨10, 6⟩) (meth := k10m6) (c := k10c6) (by decide +kernel) rfl rfl rfl (by decide +kernel)
def codes1 : List Jvm.Cond := [Jvm.Cond.code x code maxLocals ret, Jvm.Cond.code ({ cls := "com/example/exfactor/exfactor/core/MutableFigure", name := "<init>", desc := "()V" } : Jvm.MethodName) prog_7_method_1_code (1 : Nat) (Option.none : Option Jvm.ClassFile.FieldType), Jvm.Cond.code ({ cls := "java/lang/Object", name := "<init>", desc := "()V" } : Jvm.MethodName) object_method_1_code (1 : Nat) (Option.none : Option Jvm.ClassFile.FieldType), Jvm.Cond.code ({ cls := "com/example/exfactor/exfactor/core/MutableFigure", name := "set", desc := "(JI)V" } : Jvm.MethodName) prog_7_method_6_code (4 : Nat) (Option.none : Option Jvm.ClassFile.FieldType), Jvm.Cond.code ({ cls := "com/example/exfactor/exfactor/core/MutableFigure", name := "scale", desc := "()I" } : Jvm.MethodName) prog_7_method_8_code (1 : Nat) (Option.some Jvm.ClassFile.FieldType.int), Jvm.Cond.code ({ cls := "com/example/exfactor/exfactor/core/MutableFigure", name := "signum", desc := "()I" } : Jvm.MethodName) prog_7_method_7_code (1 : Nat) (Option.some Jvm.ClassFile.FieldType.int), Jvm.Cond.code ({ cls := "java/lang/Long", name := "signum", desc := "(J)I" } : Jvm.MethodName) jdk_35_method_57_code (2 : Nat) (Option.some Jvm.ClassFile.FieldType.int), Jvm.Cond.code ({ cls := "com/example/exfactor/exfactor/core/MutableFigure", name := "unscaledAt", desc := "(I)J" } : Jvm.MethodName) prog_7_method_15_code (2 : Nat) (Option.some Jvm.ClassFile.FieldType.long), Jvm.Cond.code ({ cls := "com/example/exfactor/exfactor/core/MutableFigure", name := "rescale", desc := "(JII)J" } : Jvm.MethodName) prog_7_method_17_code (5 : Nat) (Option.some Jvm.ClassFile.FieldType.long), Jvm.Cond.code ({ cls := "com/example/exfactor/exfactor/core/MutableFigure", name := "scaleUp", desc := "(JI)J" } : Jvm.MethodName) prog_7_method_18_code (3 : Nat) (Option.some Jvm.ClassFile.FieldType.long), Jvm.Cond.code ({ cls := "com/example/exfactor/exfactor/core/MutableFigure", name := "multiplyExactly", desc := "(JJ)J" } : Jvm.MethodName) prog_7_method_19_code (8 : Nat) (Option.some Jvm.ClassFile.FieldType.long), Jvm.Cond.code ({ cls := "java/lang/Math", name := "multiplyHigh", desc := "(JJ)J" } : Jvm.MethodName) jdk_29_method_45_code (20 : Nat) (Option.some Jvm.ClassFile.FieldType.long), Jvm.Cond.code ({ cls := "com/example/exfactor/exfactor/core/MutableFigure", name := "add", desc := "(Lcom/example/exfactor/exfactor/core/MutableFigure;)V" } : Jvm.MethodName) prog_7_method_10_code (2 : Nat) (Option.none : Option Jvm.ClassFile.FieldType), Jvm.Cond.code ({ cls := "com/example/exfactor/exfactor/core/MutableFigure", name := "add", desc := "(Lcom/example/exfactor/exfactor/core/MutableFigure;Z)V" } : Jvm.MethodName) prog_7_method_12_code (10 : Nat) (Option.none : Option Jvm.ClassFile.FieldType), Jvm.Cond.code ({ cls := "java/lang/Math", name := "max", desc := "(II)I" } : Jvm.MethodName) jdk_29_method_65_code (2 : Nat) (Option.some Jvm.ClassFile.FieldType.int), Jvm.Cond.code ({ cls := "com/example/exfactor/exfactor/core/MutableFigure", name := "toBigDecimal", desc := "()Ljava/math/BigDecimal;" } : Jvm.MethodName) prog_7_method_9_code (1 : Nat) (Option.some (Jvm.ClassFile.FieldType.object "java/math/BigDecimal")), Jvm.Cond.code ({ cls := "java/math/BigDecimal", name := "valueOf", desc := "(JI)Ljava/math/BigDecimal;" } : Jvm.MethodName) jdk_17_method_20_code (3 : Nat) (Option.some (Jvm.ClassFile.FieldType.object "java/math/BigDecimal")), Jvm.Cond.code ({ cls := "java/math/BigDecimal", name := "valueOf", desc := "(J)Ljava/math/BigDecimal;" } : Jvm.MethodName) jdk_17_method_21_code (2 : Nat) (Option.some (Jvm.ClassFile.FieldType.object "java/math/BigDecimal")), Jvm.Cond.code ({ cls := "java/math/BigDecimal", name := "<init>", desc := "(Ljava/math/BigInteger;JII)V" } : Jvm.MethodName) jdk_17_method_1_code (6 : Nat) (Option.none : Option Jvm.ClassFile.FieldType), Jvm.Cond.code ({ cls := "java/lang/Number", name := "<init>", desc := "()V" } : Jvm.MethodName) jdk_18_method_1_code (1 : Nat) (Option.none : Option Jvm.ClassFile.FieldType), Jvm.Cond.code ({ cls := "java/math/BigDecimal", name := "add", desc := "(Ljava/math/BigDecimal;)Ljava/math/BigDecimal;" } : Jvm.MethodName) jdk_17_method_26_code (2 : Nat) (Option.some (Jvm.ClassFile.FieldType.object "java/math/BigDecimal")), Jvm.Cond.code ({ cls := "java/math/BigDecimal", name := "add", desc := "(JIJI)Ljava/math/BigDecimal;" } : Jvm.MethodName) jdk_17_method_134_code (12 : Nat) (Option.some (Jvm.ClassFile.FieldType.object "java/math/BigDecimal")), Jvm.Cond.code ({ cls := "java/math/BigDecimal", name := "add", desc := "(JJI)Ljava/math/BigDecimal;" } : Jvm.MethodName) jdk_17_method_133_code (7 : Nat) (Option.some (Jvm.ClassFile.FieldType.object "java/math/BigDecimal")), Jvm.Cond.code ({ cls := "java/math/BigDecimal", name := "add", desc := "(JJ)J" } : Jvm.MethodName) jdk_17_method_132_code (6 : Nat) (Option.some Jvm.ClassFile.FieldType.long), Jvm.Cond.code ({ cls := "java/math/BigInteger", name := "valueOf", desc := "(J)Ljava/math/BigInteger;" } : Jvm.MethodName) jdk_2097_method_29_code (2 : Nat) (Option.some (Jvm.ClassFile.FieldType.object "java/math/BigInteger")), Jvm.Cond.code ({ cls := "java/math/BigInteger", name := "<init>", desc := "(J)V" } : Jvm.MethodName) jdk_2097_method_30_code (4 : Nat) (Option.none : Option Jvm.ClassFile.FieldType), Jvm.Cond.code ({ cls := "java/math/BigInteger", name := "add", desc := "(J)Ljava/math/BigInteger;" } : Jvm.MethodName) jdk_2097_method_33_code (5 : Nat) (Option.some (Jvm.ClassFile.FieldType.object "java/math/BigInteger")), Jvm.Cond.code ({ cls := "java/lang/Math", name := "abs", desc := "(J)J" } : Jvm.MethodName) jdk_29_method_61_code (2 : Nat) (Option.some Jvm.ClassFile.FieldType.long), Jvm.Cond.code ({ cls := "java/math/BigInteger", name := "add", desc := "([IJ)[I" } : Jvm.MethodName) jdk_2097_method_34_code (11 : Nat) (Option.some (Jvm.ClassFile.FieldType.array Jvm.ClassFile.FieldType.int)), Jvm.Cond.code ({ cls := "java/math/BigInteger", name := "<init>", desc := "([II)V" } : Jvm.MethodName) jdk_2097_method_25_code (3 : Nat) (Option.none : Option Jvm.ClassFile.FieldType), Jvm.Cond.code ({ cls := "java/math/BigDecimal", name := "<init>", desc := "(Ljava/math/BigInteger;I)V" } : Jvm.MethodName) jdk_17_method_14_code (3 : Nat) (Option.none : Option Jvm.ClassFile.FieldType), Jvm.Cond.code ({ cls := "java/math/BigDecimal", name := "toStrictBigInteger", desc := "(Ljava/math/BigInteger;)Ljava/math/BigInteger;" } : Jvm.MethodName) jdk_17_method_11_code (1 : Nat) (Option.some (Jvm.ClassFile.FieldType.object "java/math/BigInteger")), Jvm.Cond.code ({ cls := "java/math/BigDecimal", name := "compactValFor", desc := "(Ljava/math/BigInteger;)J" } : Jvm.MethodName) jdk_17_method_107_code (6 : Nat) (Option.some Jvm.ClassFile.FieldType.long)]
set_option maxRecDepth 65536 in
theorem codes_eq : words1.filter isCode = codes1 := rfl
theorem w_codes : ∀ c ∈ words1.filter isCode, c.before args0 about1 = true := by
  rw [codes_eq]
  intro c hc
  simp only [codes1, List.mem_cons, List.not_mem_nil, or_false] at hc
  rcases hc with rfl | rfl | rfl | rfl | rfl | rfl | rfl | rfl | rfl | rfl | rfl | rfl | rfl | rfl | rfl | rfl | rfl | rfl | rfl | rfl | rfl | rfl | rfl | rfl | rfl | rfl | rfl | rfl | rfl | rfl | rfl | rfl | rfl
  · exact w_c0
  · exact w_c1
  · exact w_c2
  · exact w_c3
  · exact w_c4
  · exact w_c5
  · exact w_c6
  · exact w_c7
  · exact w_c8
  · exact w_c9
  · exact w_c10
  · exact w_c11
  · exact w_c12
  · exact w_c13
  · exact w_c14
  · exact w_c15
  · exact w_c16
  · exact w_c17
  · exact w_c18
  · exact w_c19
  · exact w_c20
  · exact w_c21
  · exact w_c22
  · exact w_c23
  · exact w_c24
  · exact w_c25
  · exact w_c26
  · exact w_c27
  · exact w_c28
  · exact w_c29
  · exact w_c30
  · exact w_c31
  · exact w_c32
set_option maxRecDepth 65536 in
theorem w_t1 : (words1.take 24).all (fun c => isCode c || c.before args0 about1) = true := by decide +kernel
set_option maxRecDepth 65536 in
theorem w_t2 : ((words1.drop 24).take 24).all (fun c => isCode c || c.before args0 about1) = true := by decide +kernel
set_option maxRecDepth 65536 in
theorem w_t3 : (((words1.drop 24).drop 24).take 24).all (fun c => isCode c || c.before args0 about1) = true := by decide +kernel
set_option maxRecDepth 65536 in
theorem w_t4 : ((((words1.drop 24).drop 24).drop 24).take 24).all (fun c => isCode c || c.before args0 about1) = true := by decide +kernel
set_option maxRecDepth 65536 in
theorem w_t5 : (((((words1.drop 24).drop 24).drop 24).drop 24).take 24).all (fun c => isCode c || c.before args0 about1) = true := by decide +kernel
set_option maxRecDepth 65536 in
theorem w_t6 : ((((((words1.drop 24).drop 24).drop 24).drop 24).drop 24).take 24).all (fun c => isCode c || c.before args0 about1) = true := by decide +kernel
set_option maxRecDepth 65536 in
theorem w_t7 : (((((((words1.drop 24).drop 24).drop 24).drop 24).drop 24).drop 24).take 24).all (fun c => isCode c || c.before args0 about1) = true := by decide +kernel
set_option maxRecDepth 65536 in
theorem w_t8 : (((((((words1.drop 24).drop 24).drop 24).drop 24).drop 24).drop 24).drop 24).all (fun c => isCode c || c.before args0 about1) = true := by decide +kernel
theorem w_tables : (allAtoms (Jvm.Cond.code x code maxLocals ret :: tables_1)).before args0 about1 = true := by
  rw [allAtoms_all]
  show words1.all (fun c => c.before args0 about1) = true
  refine all_split ?_ w_codes
  rw [← List.take_append_drop 24 words1, List.all_append, w_t1, ← List.take_append_drop 24 (words1.drop 24), List.all_append, w_t2, ← List.take_append_drop 24 ((words1.drop 24).drop 24), List.all_append, w_t3, ← List.take_append_drop 24 (((words1.drop 24).drop 24).drop 24), List.all_append, w_t4, ← List.take_append_drop 24 ((((words1.drop 24).drop 24).drop 24).drop 24), List.all_append, w_t5, ← List.take_append_drop 24 (((((words1.drop 24).drop 24).drop 24).drop 24).drop 24), List.all_append, w_t6, ← List.take_append_drop 24 ((((((words1.drop 24).drop 24).drop 24).drop 24).drop 24).drop 24), List.all_append, w_t7, w_t8]
  rfl
set_option maxRecDepth 65536 in
theorem w_rest : rest_1_c.before args0 about1 = true := by decide +kernel
set_option maxRecDepth 65536 in
theorem w_case : (Jvm.Cond.and given_1 narrow_1).before args0 about1 = true := by decide +kernel
theorem w_applies : (headSpec (Jvm.Cond.code x code maxLocals ret :: tables_1) room_1).applies x e0.platform about1 = true :=
  (Spec.applies_iff w_frames).mpr ⟨w_running, w_runnable, w_alone, w_named, w_hears, w_ripe, w_room, w_tables⟩
theorem atStart : AtStart classFile x code maxLocals ret World_1 tables_1 room_1 Calls_1 rest_1 Pre_1 launch0 p0 e0 about1 theMethod args0 below0 :=
  ⟨lists_1, trivial, launch0.admits_env _ _ _, launch0.least_env, fairChoices_fair.cas, fairChoices_fair.clock, w_frames, w_args, w_heap, w_applies, ⟨⟨11, k11, 3, by decide +kernel, rfl, rfl, _, rfl, rfl⟩, trivial⟩, w_rest, w_case⟩
end start1
theorem witness_1 : WitnessClaimed_1 := ⟨start1.p0, start1.e0, start1.about1, start1.theMethod, start1.args0, start1.below0, start1.atStart⟩
end Jvm.Pilot.@@N@@
