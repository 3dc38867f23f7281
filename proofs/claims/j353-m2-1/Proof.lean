import JvmDerived
import JvmDerived.Pilot.@@N@@Statement
import JvmDerived.Pilot.@@N@@Code
set_option linter.unusedVariables false
set_option linter.unusedSimpArgs false
namespace Jvm.Pilot.@@N@@
open Jvm Jvm.ClassFile Sem Op Lib Jvm.Free Jvm.Stand Jvm.LawKit Jvm.RoadKit Bundle Jvm.Pilot.@@N@@.Jvm.D
section OwnKit
abbrev oU : Slot := .unset
abbrev oS : Slot := .second
abbrev oJ (x : Int64) : Slot := .val (.long x)
variable {p : Program} {l : Launch} {e : Env} {R : Room} {s : State} {m : MethodId} {args : Array Value} {below : List Frame} {meth : Method} {c : Code} {T A B : State} {locs : List Loc} {cells slots : Nat} {G : State → Outcome → Prop} {Q : Option Value → Heap → List Loc → Prop} {C S : Nat} {pc : Nat} {Ls : Array Slot} {rest : List Value}
/-- from A the run ends, and what it leaves is G -/
def own_Go (p : Program) (e : Env) (below : List Frame) (G : State → Outcome → Prop) (A : State) : Prop := ∃ u o, Steps p.tables e below A u ∧ u.status = .running ∧ Ended u below o ∧ G u o
def own_Post (s : State) (Q : Option Value → Heap → List Loc → Prop) (C S : Nat) : State → Outcome → Prop := fun u o => ∃ v L, o = .returned v ∧ Q v u.heap L ∧ FrameEnd s o u L C S
def own_PostW (s : State) (Q : Option Value → Heap → List Loc → Prop) (C S : Nat) : State → Outcome → Prop := fun u o => ∃ v L, o = .returned v ∧ Q v u.heap L ∧ ReturnedEndW s o u L C S
theorem own_by (k : ∀ t, Steps p.tables e below B t → Steps p.tables e below A t) (h : own_Go p e below G B) : own_Go p e below G A := by
  obtain ⟨u, o, h1, h2⟩ := h
  exact ⟨u, o, k _ h1, h2⟩
theorem own_tr (k : Steps p.tables e below A B) (h : own_Go p e below G B) : own_Go p e below G A := by
  obtain ⟨u, o, h1, h2⟩ := h
  exact ⟨u, o, k.trans h1, h2⟩
theorem own_retI (X : Stand p l e R s m args below meth c T locs cells slots) (hlk : meth.locks = false) (hx : p.tables.exec = Jvm.exec) (hret : meth.sig.returnType = some .int) {z : Int32} (hd : decode c.code pc = .ok (.ireturn, 1)) (hq : Q (some (.int z)) T.heap locs) (hC : cells ≤ C) (hS : slots ≤ S) :
    own_Go p e below (own_Post s Q C S) (T.setTop (mkF m pc Ls (.int z :: rest))) := by
  obtain ⟨fs, hr, hrun, hended, hW, hsame⟩ := X.leave (v := some (.int z)) (fun h => by rw [hret] at h; cases h) hlk
  have hm' : T.vm.method? m = some meth := X.method'
  have hn : narrow .int (.int z) = .int z := rfl
  refine ⟨_, _, ?_, hrun, hended, _, _, rfl, hq, ⟨_, rfl⟩, hW, hsame.mono hC hS⟩
  show Steps p.tables e below (T.setTop { method := m, pc := pc, locals := Ls, stack := _ :: rest, locked := none }) _
  jvm_step X.here [X.here.top, hx, hd, hm', hret, hn]
  first | (intro acts; rw [hr _ acts rfl rfl rfl]) | rw [hr _ _ rfl rfl rfl]
  exact Steps.refl _
theorem own_retN (X : Stand p l e R s m args below meth c T locs cells slots) (hlk : meth.locks = false) (hx : p.tables.exec = Jvm.exec) {t : FieldType} (hret : meth.sig.returnType = some t) (ht : t = .boolean ∨ t = .byte ∨ t = .char ∨ t = .short) {z : Int32} (hd : decode c.code pc = .ok (.ireturn, 1)) (hq : Q (some (.int (nar t z))) T.heap locs) (hC : cells ≤ C) (hS : slots ≤ S) :
    own_Go p e below (own_Post s Q C S) (T.setTop (mkF m pc Ls (.int z :: rest))) := by
  obtain ⟨fs, hr, hrun, hended, hW, hsame⟩ := X.leave (v := some (.int (nar t z))) (fun h => by rw [hret] at h; cases h) hlk
  exact ⟨_, _, retN X hx hret ht hd hr, hrun, hended, _, _, rfl, hq, ⟨_, rfl⟩, hW, hsame.mono hC hS⟩
theorem own_retNW {vm₁ : Vm} (X : Stand p l e R (s.setVm vm₁) m args below meth c T locs cells slots) (hlk : meth.locks = false) (hx : p.tables.exec = Jvm.exec) {t : FieldType} (hret : meth.sig.returnType = some t) (ht : t = .boolean ∨ t = .byte ∨ t = .char ∨ t = .short) {z : Int32} (hd : decode c.code pc = .ok (.ireturn, 1)) {n : Nat} (hSi : s.Since vm₁ n) (hn : n ≤ T.heap.size) (hq : Q (some (.int (nar t z))) T.heap locs) (hC : cells ≤ C) (hS : slots ≤ S) :
    own_Go p e below (own_PostW s Q C S) (T.setTop (mkF m pc Ls (.int z :: rest))) := by
  obtain ⟨fs, hr, hrun, hended, h1, h2, h3, h4⟩ := X.leaveW hSi hn (v := some (.int (nar t z))) (fun h => by rw [hret] at h; cases h) hlk
  exact ⟨_, _, retN X hx hret ht hd hr, hrun, hended, _, _, rfl, hq, h1, h2, h3, h4.mono hC hS⟩
theorem own_retL (X : Stand p l e R s m args below meth c T locs cells slots) (hlk : meth.locks = false) (hx : p.tables.exec = Jvm.exec) (hret : meth.sig.returnType = some .long) {z : Int64} (hd : decode c.code pc = .ok (.lreturn, 1)) (hq : Q (some (.long z)) T.heap locs) (hC : cells ≤ C) (hS : slots ≤ S) :
    own_Go p e below (own_Post s Q C S) (T.setTop (mkF m pc Ls [.long z])) := by
  obtain ⟨fs, hr, hrun, hended, hW, hsame⟩ := X.leave (v := some (.long z)) (fun h => by rw [hret] at h; cases h) hlk
  exact ⟨_, _, retOut X hx (t := .long) (i := .lreturn) hret rfl (Or.inr (Or.inl ⟨rfl, rfl, _, rfl⟩)) hd hr, hrun, hended, _, _, rfl, hq, ⟨_, rfl⟩, hW, hsame.mono hC hS⟩
theorem own_retR (X : Stand p l e R s m args below meth c T locs cells slots) (hlk : meth.locks = false) (hx : p.tables.exec = Jvm.exec) {t : FieldType} (hret : meth.sig.returnType = some t) {w : Value} (ht : t.isReference = true) (hn : narrow t w = w) (hw : w.isRef = true) (hd : decode c.code pc = .ok (.areturn, 1)) (hq : Q (some w) T.heap locs) (hC : cells ≤ C) (hS : slots ≤ S) :
    own_Go p e below (own_Post s Q C S) (T.setTop (mkF m pc Ls (w :: rest))) := by
  obtain ⟨fs, hr, hrun, hended, hW, hsame⟩ := X.leave (v := some w) (fun h => by rw [hret] at h; cases h) hlk
  exact ⟨_, _, retOut X hx (t := t) (i := .areturn) hret hn (Or.inr (Or.inr (Or.inr (Or.inr ⟨rfl, ht, hw⟩)))) hd hr, hrun, hended, _, _, rfl, hq, ⟨_, rfl⟩, hW, hsame.mono hC hS⟩
theorem own_retV (X : Stand p l e R s m args below meth c T locs cells slots) (hlk : meth.locks = false) (hx : p.tables.exec = Jvm.exec) (hret : meth.sig.returnType = none) (hd : decode c.code pc = .ok (.return_, 1)) (hq : Q none T.heap locs) (hC : cells ≤ C) (hS : slots ≤ S) :
    own_Go p e below (own_Post s Q C S) (T.setTop (mkF m pc Ls [])) := by
  obtain ⟨fs, hr, hrun, hended, hW, hsame⟩ := X.leave (v := none) (fun _ => rfl) hlk
  exact ⟨_, _, X.returnOut hx hret hd hr, hrun, hended, _, _, rfl, hq, ⟨_, rfl⟩, hW, hsame.mono hC hS⟩
theorem own_nev {Z : State} {h : Heap} {a b : Addr} {C : String} {a0 : Array Value} {n : Nat} {k : ClassId} {ty : FieldType} {z : Int32} {vs : List Value} {dv : Value} (E : Exa Z h a C) (wi : (Jvm.Cond.instantiable C n).before a0 Z = true) (F : Arv Z h b k ty z vs dv) : a ≠ b := by
  obtain ⟨c, A, -⟩ := F
  exact ne_arr E wi A
theorem own_selp {args' : Array Value} {y : MethodName} {n : Nat} (hins : (Jvm.Cond.instantiable y.cls n).before args' s = true) (hpriv : (Jvm.Cond.privateMethod y).before args' s = true) (hinst : (Jvm.Cond.instanceMethod y).before args' s = true) (hy : y.cls ≠ "java/lang/invoke/MethodHandle" ∧ y.cls ≠ "java/lang/invoke/VarHandle") : (Jvm.Cond.selects y.cls y y).before args' s = true := by
  obtain ⟨c, k, hc, hk, -, hniab, -, -⟩ := Cond.instantiable_spec hins
  exact selects_self_of_private hc hk (Bool.or_eq_false_iff.mp hniab).1 (Cond.privateMethod_at hpriv) hinst hy
theorem own_callS (X : Stand p l e R s m args below meth c T locs cells slots) (hx : p.tables.exec = Jvm.exec) {Z : State} {a0 : Array Value} {h : Heap} (hZ : Z.Warmed39 s.vm) {own : String} {index : Nat} {y : MethodName} (hown : s.vm.findClass own = some m.cls) {bytes : ByteArray} {maxL : Nat} {ret : Option FieldType} {rm : Room} {as' : Array Value} {Q : Option Value → Heap → List Loc → Prop} (w1 : (Jvm.Cond.methodLink own index y).before a0 Z = true) (w2 : (Jvm.Cond.static y).before a0 Z = true) (w3 : (Jvm.Cond.initialized y.cls).before a0 Z = true) (w4 : (Jvm.Cond.code y bytes maxL ret).before a0 Z = true) (hy : y.cls ≠ "java/lang/invoke/MethodHandle" ∧ y.cls ≠ "java/lang/invoke/VarHandle")
    (hM : MetFree l y (head1 [Jvm.Cond.code y bytes maxL ret] rm) (fun a U => a = as' ∧ Z.Warmed39 U.vm ∧ U.heap = h) (fun _ _ _ _ _ => True) (fun _ U o U' => ∃ v L, o = .returned v ∧ Q v U'.heap L ∧ FrameEnd U o U' L rm.cells rm.slots)) (eT : T.heap = h) (W : Nat) (hf : rm.frames + 1 ≤ R.frames) (hl : W + (maxL + 11) + rm.locals ≤ R.locals) (hc : cells + rm.cells ≤ R.cells) (hs : slots + rm.slots ≤ R.slots) {g : JFrame} (hg : g.method = m) (hsize : g.locals.size = c.maxLocals) (argsL rest : List Value) (ha : argsL.toArray = as') (hlen : ∀ sig, parseMethodDescriptor y.desc = some sig → argsL.length = sig.parameters.length) (hstack : g.stack = argsL.reverse ++ rest) (hW : 2 * g.monitorRoom + (rest.map fun v => v.category).sum ≤ W) (hd : decode c.code g.pc = .ok (.invokestatic index, 3)) :
    ∃ (T' : State) (L : List Loc) (v : Option Value), Stand p l e R s m args below meth c T' (locs ++ L) (cells + rm.cells) (slots + rm.slots) ∧ Q v T'.heap L ∧ ∀ t, Steps p.tables e below (T'.setTop { g with pc := g.pc + 3, stack := v.toList ++ rest }) t → Steps p.tables e below (T.setTop g) t := by
  obtain ⟨v, _, ⟨T', L', k', n'⟩, -, X', ⟨L, hQ, h2, h3, h4⟩, st⟩ := Jvm.LawKit.callS X hx (y := y) hown (mvT hZ w1) (mvT hZ w2) (mvT hZ w3) (mvT hZ w4) hy (backOf (W := W) hM hZ w4 w3 hf hl) (g := g) hg hsize (argsL := argsL) (rest := rest) hlen hstack hW hd (fun _ _ => ⟨ha, eT, hc, hs⟩)
  dsimp only [Pt.U, Pt.locs, Pt.cells, Pt.slots] at X' h2 h3 h4 st hQ
  subst h2 h3 h4
  exact ⟨T', L, v, X', hQ, st⟩
theorem own_callI (X : Stand p l e R s m args below meth c T locs cells slots) (hx : p.tables.exec = Jvm.exec) {Z : State} {a0 : Array Value} {h : Heap} (hZ : Z.Warmed39 s.vm) {own : String} {index : Nat} {y : MethodName} (hy1 : y.name = "<init>") (hown : s.vm.findClass own = some m.cls) {bytes : ByteArray} {maxL : Nat} {rm : Room} {as' : Array Value} {Q : Option Value → Heap → List Loc → Prop} (w1 : (Jvm.Cond.methodLink own index y).before a0 Z = true) (w2 : (Jvm.Cond.instanceMethod y).before a0 Z = true) (w3 : (Jvm.Cond.initialized y.cls).before a0 Z = true) (w4 : (Jvm.Cond.code y bytes maxL none).before a0 Z = true) (hy : y.cls ≠ "java/lang/invoke/MethodHandle" ∧ y.cls ≠ "java/lang/invoke/VarHandle")
    (hM : MetFree l y (head1 [Jvm.Cond.code y bytes maxL none] rm) (fun a U => a = as' ∧ Z.Warmed39 U.vm ∧ U.heap = h) (fun _ _ _ _ _ => True) (fun _ U o U' => ∃ v L, o = .returned v ∧ Q v U'.heap L ∧ FrameEnd U o U' L rm.cells rm.slots)) (eT : T.heap = h) (W : Nat) (hf : rm.frames + 1 ≤ R.frames) (hl : W + (maxL + 11) + rm.locals ≤ R.locals) (hc : cells + rm.cells ≤ R.cells) (hs : slots + rm.slots ≤ R.slots) {g : JFrame} (hg : g.method = m) (hsize : g.locals.size = c.maxLocals) (a : Addr) (argsL rest : List Value) (ha : (.ref a :: argsL).toArray = as') (hlen : ∀ sig, parseMethodDescriptor y.desc = some sig → argsL.length = sig.parameters.length) (hstack : g.stack = argsL.reverse ++ .ref a :: rest) (hW : 2 * g.monitorRoom + (rest.map fun v => v.category).sum ≤ W) (hd : decode c.code g.pc = .ok (.invokespecial index, 3)) :
    ∃ (T' : State) (L : List Loc) (v : Option Value), Stand p l e R s m args below meth c T' (locs ++ L) (cells + rm.cells) (slots + rm.slots) ∧ Q v T'.heap L ∧ ∀ t, Steps p.tables e below (T'.setTop { g with pc := g.pc + 3, stack := v.toList ++ rest }) t → Steps p.tables e below (T.setTop g) t := by
  obtain ⟨v, _, ⟨T', L', k', n'⟩, -, X', ⟨L, hQ, h2, h3, h4⟩, st⟩ := X.specialBack hx (y := y) hy1 hown (mvT hZ w1) (mvT hZ w2) (mvT hZ w4) hy (backOf (W := W) hM hZ w4 w3 hf hl) (g := g) hg hsize (Steps.refl _) (a := a) (argsL := argsL) (rest := rest) hlen hstack hW hd (fun _ _ => ⟨ha, eT, hc, hs⟩)
  dsimp only [Pt.U, Pt.locs, Pt.cells, Pt.slots] at X' h2 h3 h4 st hQ
  subst h2 h3 h4
  exact ⟨T', L, v, X', hQ, fun t k => st.trans k⟩
theorem own_callP (X : Stand p l e R s m args below meth c T locs cells slots) (hx : p.tables.exec = Jvm.exec) {Z : State} {a0 : Array Value} {h : Heap} (hZ : Z.Warmed39 s.vm) {own C : String} {index n : Nat} {y : MethodName} (hown : s.vm.findClass own = some m.cls) {bytes : ByteArray} {maxL : Nat} {ret : Option FieldType} {rm : Room} {as' : Array Value} {Q : Option Value → Heap → List Loc → Prop} (w1 : (Jvm.Cond.methodLink own index y).before a0 Z = true) (w2 : (Jvm.Cond.instanceMethod y).before a0 Z = true) (w3 : (Jvm.Cond.initialized y.cls).before a0 Z = true) (w4 : (Jvm.Cond.code y bytes maxL ret).before a0 Z = true) (w5 : (Jvm.Cond.privateMethod y).before a0 Z = true) (w6 : (Jvm.Cond.instantiable y.cls n).before a0 Z = true) (hy : y.cls ≠ "java/lang/invoke/MethodHandle" ∧ y.cls ≠ "java/lang/invoke/VarHandle")
    (hM : MetFree l y (head1 [Jvm.Cond.code y bytes maxL ret] rm) (fun a U => a = as' ∧ Z.Warmed39 U.vm ∧ U.heap = h) (fun _ _ _ _ _ => True) (fun _ U o U' => ∃ v L, o = .returned v ∧ Q v U'.heap L ∧ FrameEnd U o U' L rm.cells rm.slots)) (eT : T.heap = h) (W : Nat) (hf : rm.frames + 1 ≤ R.frames) (hl : W + (maxL + 11) + rm.locals ≤ R.locals) (hc : cells + rm.cells ≤ R.cells) (hs : slots + rm.slots ≤ R.slots) {g : JFrame} (hg : g.method = m) (hsize : g.locals.size = c.maxLocals) (a : Addr) (E : Exa Z h a C) (argsL rest : List Value) (ha : (.ref a :: argsL).toArray = as') (hlen : ∀ sig, parseMethodDescriptor y.desc = some sig → argsL.length = sig.parameters.length) (hstack : g.stack = argsL.reverse ++ .ref a :: rest) (hW : 2 * g.monitorRoom + (rest.map fun v => v.category).sum ≤ W) (hd : decode c.code g.pc = .ok (.invokevirtual index, 3)) :
    ∃ (T' : State) (L : List Loc) (v : Option Value), Stand p l e R s m args below meth c T' (locs ++ L) (cells + rm.cells) (slots + rm.slots) ∧ Q v T'.heap L ∧ ∀ t, Steps p.tables e below (T'.setTop { g with pc := g.pc + 3, stack := v.toList ++ rest }) t → Steps p.tables e below (T.setTop g) t := by
  obtain ⟨cq, q1, q2⟩ := E.cell
  obtain ⟨v, _, ⟨T', L', k', n'⟩, -, X', ⟨L, hQ, h2, h3, h4⟩, st⟩ := X.privateBack hx (y := y) hown (mvT hZ w1) (mvT hZ w2) (own_selp (y := y) (mvT hZ w6) (mvP hZ w5) (mvT hZ w2) hy) (Cond.privateMethod_at (mvP hZ w5 (args := #[]))) (mvT hZ w4) hy (backOf (W := W) hM hZ w4 w3 hf hl) (g := g) hg hsize (Steps.refl _) (a := a) (by rw [eT]; exact q1) q2 (argsL := argsL) (rest := rest) hlen hstack hW hd (fun _ _ => ⟨ha, eT, hc, hs⟩)
  dsimp only [Pt.U, Pt.locs, Pt.cells, Pt.slots] at X' h2 h3 h4 st hQ
  subst h2 h3 h4
  exact ⟨T', L, v, X', hQ, fun t k => st.trans k⟩
theorem own_callV (X : Stand p l e R s m args below meth c T locs cells slots) (hx : p.tables.exec = Jvm.exec) {Z : State} {a0 : Array Value} {h : Heap} (hZ : Z.Warmed39 s.vm) {own C : String} {index : Nat} {y z : MethodName} (hown : s.vm.findClass own = some m.cls) {bytes : ByteArray} {maxL : Nat} {ret : Option FieldType} {rm : Room} {as' : Array Value} {Q : Option Value → Heap → List Loc → Prop} (w1 : (Jvm.Cond.methodLink own index y).before a0 Z = true) (w2 : (Jvm.Cond.declares y).before a0 Z = true) (hnf : NotFace s y) (w3 : (Jvm.Cond.selects C y z).before a0 Z = true) (w4 : (Jvm.Cond.instanceMethod z).before a0 Z = true) (w5 : (Jvm.Cond.initialized z.cls).before a0 Z = true) (w6 : (Jvm.Cond.code z bytes maxL ret).before a0 Z = true) (hy : y.cls ≠ "java/lang/invoke/MethodHandle" ∧ y.cls ≠ "java/lang/invoke/VarHandle")
    (hM : MetFree l z (head1 [Jvm.Cond.code z bytes maxL ret] rm) (fun a U => a = as' ∧ Z.Warmed39 U.vm ∧ U.heap = h) (fun _ _ _ _ _ => True) (fun _ U o U' => ∃ v L, o = .returned v ∧ Q v U'.heap L ∧ FrameEnd U o U' L rm.cells rm.slots)) (eT : T.heap = h) (W : Nat) (hf : rm.frames + 1 ≤ R.frames) (hl : W + (maxL + 11) + rm.locals ≤ R.locals) (hc : cells + rm.cells ≤ R.cells) (hs : slots + rm.slots ≤ R.slots) {g : JFrame} (hg : g.method = m) (hsize : g.locals.size = c.maxLocals) (a : Addr) (E : Exa Z h a C) (argsL rest : List Value) (ha : (.ref a :: argsL).toArray = as') (hlen : ∀ sig, parseMethodDescriptor y.desc = some sig → argsL.length = sig.parameters.length) (hstack : g.stack = argsL.reverse ++ .ref a :: rest) (hW : 2 * g.monitorRoom + (rest.map fun v => v.category).sum ≤ W) (hd : decode c.code g.pc = .ok (.invokevirtual index, 3)) :
    ∃ (T' : State) (L : List Loc) (v : Option Value), Stand p l e R s m args below meth c T' (locs ++ L) (cells + rm.cells) (slots + rm.slots) ∧ Q v T'.heap L ∧ ∀ t, Steps p.tables e below (T'.setTop { g with pc := g.pc + 3, stack := v.toList ++ rest }) t → Steps p.tables e below (T.setTop g) t := by
  obtain ⟨cq, kq, qa, qb, qc⟩ := isOf hZ eT E
  obtain ⟨v, _, ⟨T', L', k', n'⟩, -, X', ⟨L, hQ, h2, h3, h4⟩, st⟩ := X.virtualBack hx (y := y) (z := z) hown (mvT hZ w1) (mvT hZ w2) hnf (mvT hZ w3) (mvT hZ w4) hy (backOf (W := W) hM hZ w6 w5 hf hl) qa qc (g := g) hg hsize (Steps.refl _) (argsL := argsL) (rest := rest) hlen hstack hW hd (fun _ _ => ⟨ha, eT, hc, hs⟩)
  dsimp only [Pt.U, Pt.locs, Pt.cells, Pt.slots] at X' h2 h3 h4 st hQ
  subst h2 h3 h4
  exact ⟨T', L, v, X', hQ, fun t k => st.trans k⟩
theorem own_callF (X : Stand p l e R s m args below meth c T locs cells slots) (hx : p.tables.exec = Jvm.exec) {Z : State} {a0 : Array Value} {h : Heap} (hZ : Z.Warmed39 s.vm) {own C : String} {index count : Nat} {y z : MethodName} (hown : s.vm.findClass own = some m.cls) {bytes : ByteArray} {maxL : Nat} {ret : Option FieldType} {rm : Room} {as' : Array Value} {Q : Option Value → Heap → List Loc → Prop} (w1 : (Jvm.Cond.methodLink own index y).before a0 Z = true) (w2 : (Jvm.Cond.declares y).before a0 Z = true) (w3 : (Jvm.Cond.interfaceMethod y.cls y.cls y.name y.desc).before a0 Z = true) (w4 : (Jvm.Cond.selects C y z).before a0 Z = true) (w5 : (Jvm.Cond.instanceMethod z).before a0 Z = true) (w6 : (Jvm.Cond.publicMethod z).before a0 Z = true) (w7 : (Jvm.Cond.unhidden C y.name y.desc).before a0 Z = true) (w8 : (Jvm.Cond.castable C y.cls).before a0 Z = true) (w9 : (Jvm.Cond.initialized z.cls).before a0 Z = true) (w10 : (Jvm.Cond.code z bytes maxL ret).before a0 Z = true) (hy : y.cls ≠ "java/lang/invoke/MethodHandle" ∧ y.cls ≠ "java/lang/invoke/VarHandle")
    (hM : MetFree l z (head1 [Jvm.Cond.code z bytes maxL ret] rm) (fun a U => a = as' ∧ Z.Warmed39 U.vm ∧ U.heap = h) (fun _ _ _ _ _ => True) (fun _ U o U' => ∃ v L, o = .returned v ∧ Q v U'.heap L ∧ FrameEnd U o U' L rm.cells rm.slots)) (eT : T.heap = h) (W : Nat) (hf : rm.frames + 1 ≤ R.frames) (hl : W + (maxL + 11) + rm.locals ≤ R.locals) (hc : cells + rm.cells ≤ R.cells) (hs : slots + rm.slots ≤ R.slots) {g : JFrame} (hg : g.method = m) (hsize : g.locals.size = c.maxLocals) (a : Addr) (E : Exa Z h a C) (argsL rest : List Value) (ha : (.ref a :: argsL).toArray = as') (hlen : ∀ sig, parseMethodDescriptor y.desc = some sig → argsL.length = sig.parameters.length) (hstack : g.stack = argsL.reverse ++ .ref a :: rest) (hW : 2 * g.monitorRoom + (rest.map fun v => v.category).sum ≤ W) (hd : decode c.code g.pc = .ok (.invokeinterface index count, 5)) (hw3 : ((Jvm.Cond.interfaceMethod y.cls y.cls y.name y.desc).onTables && (Jvm.Cond.interfaceMethod y.cls y.cls y.name y.desc).keepsFace) = true := by first | rfl | simp [Cond.onTables, Cond.keepsFace, Cond.keeps, Cond.steady]) :
    ∃ (T' : State) (L : List Loc) (v : Option Value), Stand p l e R s m args below meth c T' (locs ++ L) (cells + rm.cells) (slots + rm.slots) ∧ Q v T'.heap L ∧ ∀ t, Steps p.tables e below (T'.setTop { g with pc := g.pc + 5, stack := v.toList ++ rest }) t → Steps p.tables e below (T.setTop g) t := by
  obtain ⟨cq, kq, qa, qb, qc⟩ := isOf hZ eT E
  obtain ⟨v, _, ⟨T', L', k', n'⟩, -, X', ⟨L, hQ, h2, h3, h4⟩, st⟩ := X.interfaceBack hx (xi := y) (y := z) hown (mvT hZ w1) (mvT hZ w2) (mvT hZ w3 hw3) (mvT hZ w4) (mvT hZ w5) (mvT hZ w6) (mvT hZ w7) (mvT hZ w8) hy (backOf (W := W) hM hZ w10 w9 hf hl) qa qb qc (g := g) hg hsize (Steps.refl _) (argsL := argsL) (rest := rest) hlen hstack hW hd (fun _ _ => ⟨ha, eT, hc, hs⟩)
  dsimp only [Pt.U, Pt.locs, Pt.cells, Pt.slots] at X' h2 h3 h4 st hQ
  subst h2 h3 h4
  exact ⟨T', L, v, X', hQ, fun t k => st.trans k⟩
theorem own_c1 {g g' : JFrame} {h : Heap} (h1 : ∃ T', Stand p l e R s m args below meth c T' locs cells slots ∧ T'.heap = h ∧ ∀ t, Steps p.tables e below (T'.setTop g') t → Steps p.tables e below (T.setTop g) t) (k : ∀ T', Stand p l e R s m args below meth c T' locs cells slots → T'.heap = h → own_Go p e below G (T'.setTop g')) : own_Go p e below G (T.setTop g) := by
  obtain ⟨T', X', e', st⟩ := h1
  exact own_by st (k T' X' e')
theorem own_c2 {g g' : JFrame} {h : Heap} {a : Addr} {sl : Nat} {v : Value} (h1 : ∃ T' h', Stand p l e R s m args below meth c T' (locs ++ [⟨a, sl⟩]) cells slots ∧ T'.heap = h' ∧ Wr h h' a sl v ∧ ∀ t, Steps p.tables e below (T'.setTop g') t → Steps p.tables e below (T.setTop g) t) (k : ∀ T' h', Stand p l e R s m args below meth c T' (locs ++ [⟨a, sl⟩]) cells slots → T'.heap = h' → Wr h h' a sl v → own_Go p e below G (T'.setTop g')) : own_Go p e below G (T.setTop g) := by
  obtain ⟨T', h', X', e', W, st⟩ := h1
  exact own_by st (k T' h' X' e' W)
theorem own_cc {g : JFrame} {c1 s1 : Nat} {Q : Option Value → Heap → List Loc → Prop} {f : Option Value → JFrame} (h1 : ∃ (T' : State) (L : List Loc) (v : Option Value), Stand p l e R s m args below meth c T' (locs ++ L) c1 s1 ∧ Q v T'.heap L ∧ ∀ t, Steps p.tables e below (T'.setTop (f v)) t → Steps p.tables e below (T.setTop g) t) (k : ∀ (T' : State) (L : List Loc) (v : Option Value), Stand p l e R s m args below meth c T' (locs ++ L) c1 s1 → Q v T'.heap L → own_Go p e below G (T'.setTop (f v))) : own_Go p e below G (T.setTop g) := by
  obtain ⟨T', L, v, X', hQ, st⟩ := h1
  exact own_by st (k T' L v X' hQ)
end OwnKit
def fp (p0 : Int32) : Int64 := (((p0.toInt64) * ((p0 - (1 : Int32)).toInt64)) / (2 : Int64))
theorem d1_0 : decode prog_27_method_2_code 0 = .ok (.iload_n 0, 1) := by decide +kernel
theorem d1_1 : decode prog_27_method_2_code 1 = .ok (.i2l, 1) := by decide +kernel
theorem d1_2 : decode prog_27_method_2_code 2 = .ok (.iload_n 0, 1) := by decide +kernel
theorem d1_3 : decode prog_27_method_2_code 3 = .ok (.iconst 1, 1) := by decide +kernel
theorem d1_4 : decode prog_27_method_2_code 4 = .ok (.isub, 1) := by decide +kernel
theorem d1_5 : decode prog_27_method_2_code 5 = .ok (.i2l, 1) := by decide +kernel
theorem d1_6 : decode prog_27_method_2_code 6 = .ok (.lmul, 1) := by decide +kernel
theorem d1_7 : decode prog_27_method_2_code 7 = .ok (.ldc2_w 9, 3) := by decide +kernel
theorem d1_10 : decode prog_27_method_2_code 10 = .ok (.ldiv, 1) := by decide +kernel
theorem d1_11 : decode prog_27_method_2_code 11 = .ok (.lreturn, 1) := by decide +kernel
theorem pn_1 : plainName "com/example/rivulet/rivulet/generate/ErdosRenyi" = true := by first | (simp [plainName, overriddenIn]; done) | decide +kernel
theorem ef_1 (m : MethodId) (x0 : Int32) : entryFrame m #[(.int x0)] 1 = mkF m 0 #[iv x0] [] := by first | (simp [entryFrame, mkF, argsToLocals, Value.category]; done) | rfl
def Q1 (Z : State) (p0 : Int32) (h0 : Heap) (n0 : Nat) (v : Option Value) (h : Heap) (L : List Loc) : Prop := v = some (.long (fp p0)) ∧ Fr n0 L ∧ h = h0
set_option maxRecDepth 65536 in
set_option maxHeartbeats 40000000 in
theorem rm1 (l : Launch) (Z : State) (a0 : Array Value) (hw : ∀ d ∈ tables_1, d.before a0 Z = true) (ws : List Jvm.Cond) (p0 : Int32) (h0 : Heap) (n0 : Nat) (Z0 : n0 ≤ h0.size) :
    MetFree l (⟨"com/example/rivulet/rivulet/generate/ErdosRenyi", "pairs", "(I)J"⟩ : MethodName) (head1 (Jvm.Cond.code (⟨"com/example/rivulet/rivulet/generate/ErdosRenyi", "pairs", "(I)J"⟩ : MethodName) prog_27_method_2_code 1 (some .long) :: ws) ({ frames := 0, cells := 0, slots := 0, locals := 0 } : Room)) (fun a U => a = #[(.int p0)] ∧ Z.Warmed39 U.vm ∧ U.heap = h0) (fun _ _ _ _ _ => True) (fun _ U o U' => ∃ v L, o = .returned v ∧ Q1 Z p0 h0 n0 v U'.heap L ∧ FrameEnd U o U' L ({ frames := 0, cells := 0, slots := 0, locals := 0 } : Room).cells ({ frames := 0, cells := 0, slots := 0, locals := 0 } : Room).slots) := by
  refine MetFree.of_bodySF (plainFor_of_name pn_1) hisR ?_
  intro p e s m args below meth c s₁ Bd hml0 hP hK
  obtain ⟨rfl, hZ, hh⟩ := hP
  have hx := Bd.exec
  have hby := Bd.bytes
  have hml : c.maxLocals = 1 := hml0
  have hown : s.vm.findClass "com/example/rivulet/rivulet/generate/ErdosRenyi" = some m.cls := findClass_of_methodNamed Bd.named
  have hnm := (name_of_methodNamed Bd.named Bd.method).1
  have X0 : Stand p l e ({ frames := 0, cells := 0, slots := 0, locals := 0 } : Room) s m #[(.int p0)] below meth c s₁ [] 0 0 := Stand.of_body Bd
  have e0 : s₁.heap = h0 := by rw [← hh, Bd.state]; rfl
  have N0 := Fr.nil n0
  change own_Go p e below (own_Post s (Q1 Z p0 h0 n0) ({ frames := 0, cells := 0, slots := 0, locals := 0 } : Room).cells ({ frames := 0, cells := 0, slots := 0, locals := 0 } : Room).slots) (s₁.setTop (entryFrame m #[(.int p0)] 1))
  refine own_by (fun t k => castTop (ef_1 m p0) k) ?_
  show own_Go p e below _ (s₁.setTop (mkF m 0 #[iv p0] []))
  refine own_by (B := s₁.setTop (mkF m 11 #[iv p0] [(.long (((p0.toInt64) * ((p0 - (1 : Int32)).toInt64)) / (2 : Int64)))])) (fun t k => ?_) ?_
  · show Steps p.tables e below (s₁.setTop (mkF m 0 #[iv p0] [])) _
    refine XS.iloadN X0.here hx rfl (hb hby d1_0) rfl ?_
    show Steps p.tables e below (s₁.setTop (mkF m 1 #[iv p0] [(.int p0)])) _
    refine XS.i2l X0.here hx rfl (hb hby d1_1) rfl ?_
    show Steps p.tables e below (s₁.setTop (mkF m 2 #[iv p0] [(.long (p0.toInt64))])) _
    refine XS.iloadN X0.here hx rfl (hb hby d1_2) rfl ?_
    show Steps p.tables e below (s₁.setTop (mkF m 3 #[iv p0] [(.int p0), (.long (p0.toInt64))])) _
    refine XS.iconst X0.here hx rfl (hb hby d1_3) ?_
    show Steps p.tables e below (s₁.setTop (mkF m 4 #[iv p0] [(.int (1 : Int32)), (.int p0), (.long (p0.toInt64))])) _
    refine XS.isub X0.here hx rfl (hb hby d1_4) rfl ?_
    show Steps p.tables e below (s₁.setTop (mkF m 5 #[iv p0] [(.int (p0 - (1 : Int32))), (.long (p0.toInt64))])) _
    refine XS.i2l X0.here hx rfl (hb hby d1_5) rfl ?_
    show Steps p.tables e below (s₁.setTop (mkF m 6 #[iv p0] [(.long ((p0 - (1 : Int32)).toInt64)), (.long (p0.toInt64))])) _
    refine XS.lmul X0.here hx rfl (hb hby d1_6) rfl ?_
    show Steps p.tables e below (s₁.setTop (mkF m 7 #[iv p0] [(.long ((p0.toInt64) * ((p0 - (1 : Int32)).toInt64)))])) _
    refine X0.ldc2Long hx hown (mvT hZ (hw _ (List.mem_of_getElem? (i := 5) rfl))) (g := (mkF m 7 #[iv p0] [(.long ((p0.toInt64) * ((p0 - (1 : Int32)).toInt64)))])) rfl (hb hby d1_7) _ ?_
    show Steps p.tables e below (s₁.setTop (mkF m 10 #[iv p0] [(.long (2 : Int64)), (.long ((p0.toInt64) * ((p0 - (1 : Int32)).toInt64)))])) _
    refine XS.ldiv X0.here hx rfl (hb hby d1_10) rfl (by decide) ?_
    show Steps p.tables e below (s₁.setTop (mkF m 11 #[iv p0] [(.long (((p0.toInt64) * ((p0 - (1 : Int32)).toInt64)) / (2 : Int64)))])) _
    exact k
  exact own_retL X0 Bd.notSynchronized hx Bd.returns (hb hby d1_11) (by
      rw [show s₁.heap = h0 from e0]
      exact ⟨congrArg (fun z => some (Value.long z)) (show (((p0.toInt64) * ((p0 - (1 : Int32)).toInt64)) / (2 : Int64)) = (fp p0) from rfl), N0, rfl⟩) (by decide) (by decide)

def fr (p0 : Int32) : Int64 := (if (p0 &&& (1 : Int32)) = (0 : Int32) then (((p0.toInt64) / (2 : Int64)) * ((p0.toInt64) - (1 : Int64))) else ((p0.toInt64) * (((p0.toInt64) - (1 : Int64)) / (2 : Int64))))
theorem d2_0 : decode method_2_code 0 = .ok (.iload_n 0, 1) := by decide +kernel
theorem d2_1 : decode method_2_code 1 = .ok (.i2l, 1) := by decide +kernel
theorem d2_2 : decode method_2_code 2 = .ok (.lstore_n 1, 1) := by decide +kernel
theorem d2_3 : decode method_2_code 3 = .ok (.iload_n 0, 1) := by decide +kernel
theorem d2_4 : decode method_2_code 4 = .ok (.iconst 1, 1) := by decide +kernel
theorem d2_5 : decode method_2_code 5 = .ok (.iand, 1) := by decide +kernel
theorem d2_6 : decode method_2_code 6 = .ok (.ifCond .ne 13, 3) := by decide +kernel
theorem d2_9 : decode method_2_code 9 = .ok (.lload_n 1, 1) := by decide +kernel
theorem d2_10 : decode method_2_code 10 = .ok (.ldc2_w 7, 3) := by decide +kernel
theorem d2_13 : decode method_2_code 13 = .ok (.ldiv, 1) := by decide +kernel
theorem d2_14 : decode method_2_code 14 = .ok (.lload_n 1, 1) := by decide +kernel
theorem d2_15 : decode method_2_code 15 = .ok (.lconst 1, 1) := by decide +kernel
theorem d2_16 : decode method_2_code 16 = .ok (.lsub, 1) := by decide +kernel
theorem d2_17 : decode method_2_code 17 = .ok (.lmul, 1) := by decide +kernel
theorem d2_18 : decode method_2_code 18 = .ok (.lreturn, 1) := by decide +kernel
theorem d2_19 : decode method_2_code 19 = .ok (.lload_n 1, 1) := by decide +kernel
theorem d2_20 : decode method_2_code 20 = .ok (.lload_n 1, 1) := by decide +kernel
theorem d2_21 : decode method_2_code 21 = .ok (.lconst 1, 1) := by decide +kernel
theorem d2_22 : decode method_2_code 22 = .ok (.lsub, 1) := by decide +kernel
theorem d2_23 : decode method_2_code 23 = .ok (.ldc2_w 7, 3) := by decide +kernel
theorem d2_26 : decode method_2_code 26 = .ok (.ldiv, 1) := by decide +kernel
theorem d2_27 : decode method_2_code 27 = .ok (.lmul, 1) := by decide +kernel
theorem d2_28 : decode method_2_code 28 = .ok (.lreturn, 1) := by decide +kernel
theorem pn_2 : plainName "com/example/rivulet/rivulet/generate/ErdosRenyiPairsPinLaw" = true := by first | (simp [plainName, overriddenIn]; done) | decide +kernel
theorem ef_2 (m : MethodId) (x0 : Int32) : entryFrame m #[(.int x0)] 3 = mkF m 0 #[iv x0, oU, oU] [] := by first | (simp [entryFrame, mkF, argsToLocals, Value.category]; done) | rfl
def Q2 (Z : State) (p0 : Int32) (h0 : Heap) (n0 : Nat) (v : Option Value) (h : Heap) (L : List Loc) : Prop := v = some (.long (fr p0)) ∧ Fr n0 L ∧ h = h0
set_option maxRecDepth 65536 in
set_option maxHeartbeats 40000000 in
theorem rm2 (l : Launch) (Z : State) (a0 : Array Value) (hw : ∀ d ∈ tables_1, d.before a0 Z = true) (ws : List Jvm.Cond) (p0 : Int32) (h0 : Heap) (n0 : Nat) (Z0 : n0 ≤ h0.size) :
    MetFree l (⟨"com/example/rivulet/rivulet/generate/ErdosRenyiPairsPinLaw", "reference", "(I)J"⟩ : MethodName) (head1 (Jvm.Cond.code (⟨"com/example/rivulet/rivulet/generate/ErdosRenyiPairsPinLaw", "reference", "(I)J"⟩ : MethodName) method_2_code 3 (some .long) :: ws) ({ frames := 0, cells := 0, slots := 0, locals := 0 } : Room)) (fun a U => a = #[(.int p0)] ∧ Z.Warmed39 U.vm ∧ U.heap = h0) (fun _ _ _ _ _ => True) (fun _ U o U' => ∃ v L, o = .returned v ∧ Q2 Z p0 h0 n0 v U'.heap L ∧ FrameEnd U o U' L ({ frames := 0, cells := 0, slots := 0, locals := 0 } : Room).cells ({ frames := 0, cells := 0, slots := 0, locals := 0 } : Room).slots) := by
  refine MetFree.of_bodySF (plainFor_of_name pn_2) hisR ?_
  intro p e s m args below meth c s₁ Bd hml0 hP hK
  obtain ⟨rfl, hZ, hh⟩ := hP
  have hx := Bd.exec
  have hby := Bd.bytes
  have hml : c.maxLocals = 3 := hml0
  have hown : s.vm.findClass "com/example/rivulet/rivulet/generate/ErdosRenyiPairsPinLaw" = some m.cls := findClass_of_methodNamed Bd.named
  have hnm := (name_of_methodNamed Bd.named Bd.method).1
  have X0 : Stand p l e ({ frames := 0, cells := 0, slots := 0, locals := 0 } : Room) s m #[(.int p0)] below meth c s₁ [] 0 0 := Stand.of_body Bd
  have e0 : s₁.heap = h0 := by rw [← hh, Bd.state]; rfl
  have N0 := Fr.nil n0
  change own_Go p e below (own_Post s (Q2 Z p0 h0 n0) ({ frames := 0, cells := 0, slots := 0, locals := 0 } : Room).cells ({ frames := 0, cells := 0, slots := 0, locals := 0 } : Room).slots) (s₁.setTop (entryFrame m #[(.int p0)] 3))
  refine own_by (fun t k => castTop (ef_2 m p0) k) ?_
  show own_Go p e below _ (s₁.setTop (mkF m 0 #[iv p0, oU, oU] []))
  refine own_by (B := s₁.setTop (mkF m 6 #[iv p0, oJ (p0.toInt64), oS] [(.int (p0 &&& (1 : Int32)))])) (fun t k => ?_) ?_
  · show Steps p.tables e below (s₁.setTop (mkF m 0 #[iv p0, oU, oU] [])) _
    refine XS.iloadN X0.here hx rfl (hb hby d2_0) rfl ?_
    show Steps p.tables e below (s₁.setTop (mkF m 1 #[iv p0, oU, oU] [(.int p0)])) _
    refine XS.i2l X0.here hx rfl (hb hby d2_1) rfl ?_
    show Steps p.tables e below (s₁.setTop (mkF m 2 #[iv p0, oU, oU] [(.long (p0.toInt64))])) _
    refine XS.lstoreN X0.here hx rfl (hb hby d2_2) rfl (l' := #[iv p0, oJ (p0.toInt64), oS]) rfl ?_
    show Steps p.tables e below (s₁.setTop (mkF m 3 #[iv p0, oJ (p0.toInt64), oS] [])) _
    refine XS.iloadN X0.here hx rfl (hb hby d2_3) rfl ?_
    show Steps p.tables e below (s₁.setTop (mkF m 4 #[iv p0, oJ (p0.toInt64), oS] [(.int p0)])) _
    refine XS.iconst X0.here hx rfl (hb hby d2_4) ?_
    show Steps p.tables e below (s₁.setTop (mkF m 5 #[iv p0, oJ (p0.toInt64), oS] [(.int (1 : Int32)), (.int p0)])) _
    refine XS.iand X0.here hx rfl (hb hby d2_5) rfl ?_
    show Steps p.tables e below (s₁.setTop (mkF m 6 #[iv p0, oJ (p0.toInt64), oS] [(.int (p0 &&& (1 : Int32)))])) _
    exact k
  by_cases hc1 : (p0 &&& (1 : Int32)) = (0 : Int32)
  · skip
    refine own_by (fun t k => XS.ifNo X0.here hx rfl (hb hby d2_6) rfl ((if0 _ _).trans (teq hc1).2) k) ?_
    show own_Go p e below _ (s₁.setTop (mkF m 9 #[iv p0, oJ (p0.toInt64), oS] []))
    refine own_by (B := s₁.setTop (mkF m 18 #[iv p0, oJ (p0.toInt64), oS] [(.long (((p0.toInt64) / (2 : Int64)) * ((p0.toInt64) - (1 : Int64))))])) (fun t k => ?_) ?_
    · show Steps p.tables e below (s₁.setTop (mkF m 9 #[iv p0, oJ (p0.toInt64), oS] [])) _
      refine XS.lloadN X0.here hx rfl (hb hby d2_9) rfl ?_
      show Steps p.tables e below (s₁.setTop (mkF m 10 #[iv p0, oJ (p0.toInt64), oS] [(.long (p0.toInt64))])) _
      refine X0.ldc2Long hx hown (mvT hZ (hw _ (List.mem_of_getElem? (i := 10) rfl))) (g := (mkF m 10 #[iv p0, oJ (p0.toInt64), oS] [(.long (p0.toInt64))])) rfl (hb hby d2_10) _ ?_
      show Steps p.tables e below (s₁.setTop (mkF m 13 #[iv p0, oJ (p0.toInt64), oS] [(.long (2 : Int64)), (.long (p0.toInt64))])) _
      refine XS.ldiv X0.here hx rfl (hb hby d2_13) rfl (by decide) ?_
      show Steps p.tables e below (s₁.setTop (mkF m 14 #[iv p0, oJ (p0.toInt64), oS] [(.long ((p0.toInt64) / (2 : Int64)))])) _
      refine XS.lloadN X0.here hx rfl (hb hby d2_14) rfl ?_
      show Steps p.tables e below (s₁.setTop (mkF m 15 #[iv p0, oJ (p0.toInt64), oS] [(.long (p0.toInt64)), (.long ((p0.toInt64) / (2 : Int64)))])) _
      refine XS.lconst X0.here hx rfl (hb hby d2_15) ?_
      show Steps p.tables e below (s₁.setTop (mkF m 16 #[iv p0, oJ (p0.toInt64), oS] [(.long (1 : Int64)), (.long (p0.toInt64)), (.long ((p0.toInt64) / (2 : Int64)))])) _
      refine XS.lsub X0.here hx rfl (hb hby d2_16) rfl ?_
      show Steps p.tables e below (s₁.setTop (mkF m 17 #[iv p0, oJ (p0.toInt64), oS] [(.long ((p0.toInt64) - (1 : Int64))), (.long ((p0.toInt64) / (2 : Int64)))])) _
      refine XS.lmul X0.here hx rfl (hb hby d2_17) rfl ?_
      show Steps p.tables e below (s₁.setTop (mkF m 18 #[iv p0, oJ (p0.toInt64), oS] [(.long (((p0.toInt64) / (2 : Int64)) * ((p0.toInt64) - (1 : Int64))))])) _
      exact k
    exact own_retL X0 Bd.notSynchronized hx Bd.returns (hb hby d2_18) (by
        rw [show s₁.heap = h0 from e0]
        exact ⟨congrArg (fun z => some (Value.long z)) (show (((p0.toInt64) / (2 : Int64)) * ((p0.toInt64) - (1 : Int64))) = (fr p0) from (by simp only [fr, if_pos hc1])), N0, rfl⟩) (by decide) (by decide)
  · skip
    refine own_by (fun t k => XS.ifYes X0.here hx rfl (pc0 := 6) (pc' := 19) rfl (hb hby d2_6) rfl ((if0 _ _).trans (feq hc1).2) (by decide) (by decide) k) ?_
    show own_Go p e below _ (s₁.setTop (mkF m 19 #[iv p0, oJ (p0.toInt64), oS] []))
    refine own_by (B := s₁.setTop (mkF m 28 #[iv p0, oJ (p0.toInt64), oS] [(.long ((p0.toInt64) * (((p0.toInt64) - (1 : Int64)) / (2 : Int64))))])) (fun t k => ?_) ?_
    · show Steps p.tables e below (s₁.setTop (mkF m 19 #[iv p0, oJ (p0.toInt64), oS] [])) _
      refine XS.lloadN X0.here hx rfl (hb hby d2_19) rfl ?_
      show Steps p.tables e below (s₁.setTop (mkF m 20 #[iv p0, oJ (p0.toInt64), oS] [(.long (p0.toInt64))])) _
      refine XS.lloadN X0.here hx rfl (hb hby d2_20) rfl ?_
      show Steps p.tables e below (s₁.setTop (mkF m 21 #[iv p0, oJ (p0.toInt64), oS] [(.long (p0.toInt64)), (.long (p0.toInt64))])) _
      refine XS.lconst X0.here hx rfl (hb hby d2_21) ?_
      show Steps p.tables e below (s₁.setTop (mkF m 22 #[iv p0, oJ (p0.toInt64), oS] [(.long (1 : Int64)), (.long (p0.toInt64)), (.long (p0.toInt64))])) _
      refine XS.lsub X0.here hx rfl (hb hby d2_22) rfl ?_
      show Steps p.tables e below (s₁.setTop (mkF m 23 #[iv p0, oJ (p0.toInt64), oS] [(.long ((p0.toInt64) - (1 : Int64))), (.long (p0.toInt64))])) _
      refine X0.ldc2Long hx hown (mvT hZ (hw _ (List.mem_of_getElem? (i := 10) rfl))) (g := (mkF m 23 #[iv p0, oJ (p0.toInt64), oS] [(.long ((p0.toInt64) - (1 : Int64))), (.long (p0.toInt64))])) rfl (hb hby d2_23) _ ?_
      show Steps p.tables e below (s₁.setTop (mkF m 26 #[iv p0, oJ (p0.toInt64), oS] [(.long (2 : Int64)), (.long ((p0.toInt64) - (1 : Int64))), (.long (p0.toInt64))])) _
      refine XS.ldiv X0.here hx rfl (hb hby d2_26) rfl (by decide) ?_
      show Steps p.tables e below (s₁.setTop (mkF m 27 #[iv p0, oJ (p0.toInt64), oS] [(.long (((p0.toInt64) - (1 : Int64)) / (2 : Int64))), (.long (p0.toInt64))])) _
      refine XS.lmul X0.here hx rfl (hb hby d2_27) rfl ?_
      show Steps p.tables e below (s₁.setTop (mkF m 28 #[iv p0, oJ (p0.toInt64), oS] [(.long ((p0.toInt64) * (((p0.toInt64) - (1 : Int64)) / (2 : Int64))))])) _
      exact k
    exact own_retL X0 Bd.notSynchronized hx Bd.returns (hb hby d2_28) (by
        rw [show s₁.heap = h0 from e0]
        exact ⟨congrArg (fun z => some (Value.long z)) (show ((p0.toInt64) * (((p0.toInt64) - (1 : Int64)) / (2 : Int64))) = (fr p0) from (by simp only [fr, if_neg hc1])), N0, rfl⟩) (by decide) (by decide)

theorem own_nn (x : Int32) : 0 ≤ (x &&& (2147483647 : Int32)).toInt := by
  have a1 := c_mask x (2147483647 : Int32) 31 (by decide) (by decide)
  rw [a1]; exact Int.emod_nonneg _ (by decide)
theorem own_sq (n : Int) (h0 : 0 ≤ n) (h1 : n < 2147483648) : 0 ≤ n * n ∧ n * n ≤ 2147483647 * n ∧ (n * n) % 2 = n % 2 := by
  refine ⟨Int.mul_nonneg h0 h0, Int.mul_le_mul_of_nonneg_right (by omega) h0, ?_⟩
  rw [Int.mul_emod]
  rcases Int.emod_two_eq n with h | h <;> rw [h] <;> rfl
theorem own_val (x : Int32) (h : 0 ≤ x.toInt) : (fp x).toInt = (x.toInt * x.toInt - x.toInt) / 2 := by
  have r := rng32 x
  have q := own_sq x.toInt h r.2
  have e1 := c_isub x (1 : Int32)
  have e2 := rng32 (x - (1 : Int32))
  have e3 : (1 : Int32).toInt = 1 := by decide
  have e4 : (x - (1 : Int32)).toInt = x.toInt - 1 := by omega
  have f1 := c_i2l x
  have f2 := c_i2l (x - (1 : Int32))
  have m1 := c_lmul x.toInt64 (x - (1 : Int32)).toInt64
  have m2 := rng64 (x.toInt64 * (x - (1 : Int32)).toInt64)
  rw [f1, f2, e4, Int.mul_sub, Int.mul_one] at m1
  have m3 : (x.toInt64 * (x - (1 : Int32)).toInt64).toInt = x.toInt * x.toInt - x.toInt := by omega
  have hge : 0 ≤ x.toInt * x.toInt - x.toInt := by
    by_cases hz : x.toInt = 0
    · rw [hz]; decide
    · have : x.toInt * 1 ≤ x.toInt * x.toInt := Int.mul_le_mul_of_nonneg_left (by omega) h
      omega
  unfold fp
  have d := (c_ldiv (x.toInt64 * (x - (1 : Int32)).toInt64) (2 : Int64) 2 (by decide) (by decide)).1 (by omega)
  rw [d, m3]
theorem own_pos (x : Int32) (h : 0 ≤ x.toInt) : ¬ (fp x < (0 : Int64)) := by
  have v := own_val x h
  have r := rng32 x
  have ez : (0 : Int64).toInt = 0 := by decide
  have hge : 0 ≤ x.toInt * x.toInt - x.toInt := by
    by_cases hz : x.toInt = 0
    · rw [hz]; decide
    · have : x.toInt * 1 ≤ x.toInt * x.toInt := Int.mul_le_mul_of_nonneg_left (by omega) h
      omega
  rw [Int64.lt_iff_toInt_lt]
  omega
theorem own_step (x : Int32) (h : 0 ≤ x.toInt) (h1 : x < (2147483647 : Int32)) : fp (x + (1 : Int32)) - fp x = x.toInt64 := by
  have r := rng32 x
  have q := own_sq x.toInt h r.2
  have e3 : (1 : Int32).toInt = 1 := by decide
  have e5 : (2147483647 : Int32).toInt = 2147483647 := by decide
  rw [Int32.lt_iff_toInt_lt] at h1
  have e1 := c_iadd x (1 : Int32)
  have e2 := rng32 (x + (1 : Int32))
  have e4 : (x + (1 : Int32)).toInt = x.toInt + 1 := by omega
  have v := own_val x h
  have u := own_val (x + (1 : Int32)) (by omega)
  rw [e4] at u
  have k : (x.toInt + 1) * (x.toInt + 1) = x.toInt * x.toInt + 2 * x.toInt + 1 := by
    rw [Int.add_mul, Int.mul_add]; omega
  rw [k] at u
  have f1 := c_i2l x
  have s1 := c_lsub (fp (x + (1 : Int32))) (fp x)
  have s2 := rng64 (fp (x + (1 : Int32)) - fp x)
  rw [← Int64.toInt_inj]
  omega
theorem own_ref (x : Int32) (h : 0 ≤ x.toInt) : fp x = fr x := by
  have r := rng32 x
  have q := own_sq x.toInt h r.2
  have v := own_val x h
  have f1 := c_i2l x
  have e1 : (1 : Int64).toInt = 1 := by decide
  have a := c_lsub x.toInt64 (1 : Int64)
  have b := rng64 (x.toInt64 - (1 : Int64))
  have a' : (x.toInt64 - (1 : Int64)).toInt = x.toInt - 1 := by omega
  have m1 := c_mask x (1 : Int32) 1 (by decide) (by decide)
  have ez : (0 : Int32).toInt = 0 := by decide
  have hpar : x.toInt % 2 = 0 ∨ x.toInt % 2 = 1 := Int.emod_two_eq _
  unfold fr
  by_cases h0 : (x &&& (1 : Int32)) = (0 : Int32)
  · rw [if_pos h0]
    have h2 : x.toInt % 2 = 0 := by
      have h3 : (x &&& (1 : Int32)).toInt = 0 := by rw [h0]; decide
      rw [m1] at h3; simpa using h3
    have d := (c_ldiv x.toInt64 (2 : Int64) 2 (by decide) (by decide)).1 (by omega)
    obtain ⟨k, hk⟩ : ∃ k, x.toInt = 2 * k := ⟨x.toInt / 2, by omega⟩
    have d' : (x.toInt64 / (2 : Int64)).toInt = k := by rw [d]; omega
    have p := c_lmul (x.toInt64 / (2 : Int64)) (x.toInt64 - (1 : Int64))
    have p2 := rng64 ((x.toInt64 / (2 : Int64)) * (x.toInt64 - (1 : Int64)))
    rw [d', a', hk] at p
    have e : k * (2 * k - 1) = 2 * (k * k) - k := by rw [Int.mul_sub, Int.mul_one, Int.mul_left_comm]
    rw [e] at p
    have sq : x.toInt * x.toInt = 4 * (k * k) := by rw [hk, Int.mul_assoc, Int.mul_left_comm k 2 k]; omega
    have ub : k * k ≤ 1073741824 * k := Int.mul_le_mul_of_nonneg_right (by omega) (by omega)
    have lb : 0 ≤ k * k := Int.mul_nonneg (by omega) (by omega)
    rw [← Int64.toInt_inj, v, sq, hk]
    generalize k * k = K at *
    generalize ((x.toInt64 / (2 : Int64)) * (x.toInt64 - (1 : Int64))).toInt = W at *
    clear v q e sq d d' a b a' m1 f1 hpar
    omega
  · rw [if_neg h0]
    have h2 : x.toInt % 2 = 1 := by
      rcases hpar with h2 | h2
      · exact absurd (by rw [← Int32.toInt_inj, m1, ez]; simpa using h2) h0
      · exact h2
    have d := (c_ldiv (x.toInt64 - (1 : Int64)) (2 : Int64) 2 (by decide) (by decide)).1 (by omega)
    obtain ⟨k, hk⟩ : ∃ k, x.toInt = 2 * k + 1 := ⟨x.toInt / 2, by omega⟩
    have d' : ((x.toInt64 - (1 : Int64)) / (2 : Int64)).toInt = k := by rw [d]; omega
    have p := c_lmul x.toInt64 ((x.toInt64 - (1 : Int64)) / (2 : Int64))
    have p2 := rng64 (x.toInt64 * ((x.toInt64 - (1 : Int64)) / (2 : Int64)))
    rw [d', f1, hk] at p
    have e : (2 * k + 1) * k = 2 * (k * k) + k := by rw [Int.add_mul, Int.mul_assoc, Int.one_mul]
    rw [e] at p
    have sq : x.toInt * x.toInt = 4 * (k * k) + 4 * k + 1 := by
      rw [hk, Int.add_mul, Int.mul_add, Int.mul_assoc, Int.mul_left_comm k 2 k]; omega
    have ub : k * k ≤ 1073741824 * k := Int.mul_le_mul_of_nonneg_right (by omega) (by omega)
    have lb : 0 ≤ k * k := Int.mul_nonneg (by omega) (by omega)
    rw [← Int64.toInt_inj, v, sq, hk]
    generalize k * k = K at *
    generalize (x.toInt64 * ((x.toInt64 - (1 : Int64)) / (2 : Int64))).toInt = W at *
    clear v q e sq d d' a b a' m1 f1 hpar
    omega

theorem pn_0 : plainName "com/example/rivulet/rivulet/generate/ErdosRenyiPairsPinLaw" = true := by first | (simp [plainName, overriddenIn]; done) | decide +kernel
theorem pd_0 : parseMethodDescriptor "(I)J" = some ⟨[.int], some .long⟩ := by decide +kernel
theorem ef_0 (m : MethodId) (x0 : Int32) : entryFrame m #[(.int x0)] maxLocals = mkF m 0 #[iv x0, oU, oU, oU, oU, oU] [] := by first | (simp [entryFrame, mkF, argsToLocals, Value.category, maxLocals]; done) | rfl
def Q0 (Z : State) (p0 : Int32) (h0 : Heap) (n0 : Nat) (v : Option Value) (h : Heap) (L : List Loc) : Prop := v = some (.int (1 : Int32)) ∧ Fr n0 L
set_option maxRecDepth 65536 in
set_option maxHeartbeats 40000000 in
theorem rm0 (l : Launch) (Z : State) (a0 : Array Value) (hw : ∀ d ∈ tables_1, d.before a0 Z = true) (ws : List Jvm.Cond) (p0 : Int32) (h0 : Heap) (n0 : Nat) (Z0 : n0 ≤ h0.size) :
    MetFree l x (head1 (Jvm.Cond.code x code maxLocals ret :: ws) room_1) (fun a U => a = #[(.int p0)] ∧ Z.Warmed39 U.vm ∧ U.heap = h0) (fun _ _ _ _ _ => True) (fun _ U o U' => ∃ v L, o = .returned v ∧ Q0 Z p0 h0 n0 v U'.heap L ∧ FrameEnd U o U' L room_1.cells room_1.slots) := by
  refine MetFree.of_bodySF (plainFor_of_name pn_0) hisR ?_
  intro p e s m args below meth c s₁ Bd hml0 hP hK
  obtain ⟨rfl, hZ, hh⟩ := hP
  have hx := Bd.exec
  have hby := Bd.bytes
  have hml : c.maxLocals = 6 := hml0
  have hown : s.vm.findClass "com/example/rivulet/rivulet/generate/ErdosRenyiPairsPinLaw" = some m.cls := findClass_of_methodNamed Bd.named
  have hnm := (name_of_methodNamed Bd.named Bd.method).1
  have X0 : Stand p l e room_1 s m #[(.int p0)] below meth c s₁ [] 0 0 := Stand.of_body Bd
  have e0 : s₁.heap = h0 := by rw [← hh, Bd.state]; rfl
  have N0 := Fr.nil n0
  change own_Go p e below (own_Post s (Q0 Z p0 h0 n0) room_1.cells room_1.slots) (s₁.setTop (entryFrame m #[(.int p0)] maxLocals))
  refine own_by (fun t k => castTop (ef_0 m p0) k) ?_
  show own_Go p e below _ (s₁.setTop (mkF m 0 #[iv p0, oU, oU, oU, oU, oU] []))
  refine own_by (B := s₁.setTop (mkF m 6 #[iv p0, iv (p0 &&& (2147483647 : Int32)), oU, oU, oU, oU] [(.int (p0 &&& (2147483647 : Int32)))])) (fun t k => ?_) ?_
  · show Steps p.tables e below (s₁.setTop (mkF m 0 #[iv p0, oU, oU, oU, oU, oU] [])) _
    refine XS.iloadN X0.here hx rfl (hb hby at_0) rfl ?_
    show Steps p.tables e below (s₁.setTop (mkF m 1 #[iv p0, oU, oU, oU, oU, oU] [(.int p0)])) _
    refine X0.ldcInt hx hown (mvT hZ (hw _ (List.mem_of_getElem? (i := 0) rfl))) (g := (mkF m 1 #[iv p0, oU, oU, oU, oU, oU] [(.int p0)])) rfl (hb hby at_1) _ ?_
    show Steps p.tables e below (s₁.setTop (mkF m 3 #[iv p0, oU, oU, oU, oU, oU] [(.int (2147483647 : Int32)), (.int p0)])) _
    refine XS.iand X0.here hx rfl (hb hby at_3) rfl ?_
    show Steps p.tables e below (s₁.setTop (mkF m 4 #[iv p0, oU, oU, oU, oU, oU] [(.int (p0 &&& (2147483647 : Int32)))])) _
    refine XS.istoreN X0.here hx rfl (hb hby at_4) rfl (l' := #[iv p0, iv (p0 &&& (2147483647 : Int32)), oU, oU, oU, oU]) rfl ?_
    show Steps p.tables e below (s₁.setTop (mkF m 5 #[iv p0, iv (p0 &&& (2147483647 : Int32)), oU, oU, oU, oU] [])) _
    refine XS.iloadN X0.here hx rfl (hb hby at_5) rfl ?_
    show Steps p.tables e below (s₁.setTop (mkF m 6 #[iv p0, iv (p0 &&& (2147483647 : Int32)), oU, oU, oU, oU] [(.int (p0 &&& (2147483647 : Int32)))])) _
    exact k
  refine own_cc (own_callS X0 hx hZ (y := (⟨"com/example/rivulet/rivulet/generate/ErdosRenyi", "pairs", "(I)J"⟩ : MethodName)) hown (hw _ (List.mem_of_getElem? (i := 1) rfl)) (hw _ (List.mem_of_getElem? (i := 2) rfl)) (hw _ (List.mem_of_getElem? (i := 3) rfl)) (hw _ (List.mem_of_getElem? (i := 4) rfl)) (by decide) (rm1 l Z a0 hw [] (p0 &&& (2147483647 : Int32)) h0 n0 Z0 ) e0 0 (by decide) (by decide) (by decide) (by decide) rfl (by rw [hml]; rfl) [(.int (p0 &&& (2147483647 : Int32)))] [] rfl (lenOf pd_0 rfl) rfl (by show 2 * 0 + _ ≤ _; exact Nat.le_of_eq rfl) (hb hby at_6)) fun T2 L2 v2 X2 hQ2 => ?_
  obtain ⟨rfl, N2, e2⟩ := hQ2
  replace N0 := Fr.app N0 N2
  show own_Go p e below _ (T2.setTop (mkF m 9 #[iv p0, iv (p0 &&& (2147483647 : Int32)), oU, oU, oU, oU] [(.long (fp (p0 &&& (2147483647 : Int32))))]))
  refine own_by (B := T2.setTop (mkF m 12 #[iv p0, iv (p0 &&& (2147483647 : Int32)), oJ (fp (p0 &&& (2147483647 : Int32))), oS, oU, oU] [(.int (p0 &&& (2147483647 : Int32))), (.long (fp (p0 &&& (2147483647 : Int32))))])) (fun t k => ?_) ?_
  · show Steps p.tables e below (T2.setTop (mkF m 9 #[iv p0, iv (p0 &&& (2147483647 : Int32)), oU, oU, oU, oU] [(.long (fp (p0 &&& (2147483647 : Int32))))])) _
    refine XS.lstoreN X2.here hx rfl (hb hby at_9) rfl (l' := #[iv p0, iv (p0 &&& (2147483647 : Int32)), oJ (fp (p0 &&& (2147483647 : Int32))), oS, oU, oU]) rfl ?_
    show Steps p.tables e below (T2.setTop (mkF m 10 #[iv p0, iv (p0 &&& (2147483647 : Int32)), oJ (fp (p0 &&& (2147483647 : Int32))), oS, oU, oU] [])) _
    refine XS.lloadN X2.here hx rfl (hb hby at_10) rfl ?_
    show Steps p.tables e below (T2.setTop (mkF m 11 #[iv p0, iv (p0 &&& (2147483647 : Int32)), oJ (fp (p0 &&& (2147483647 : Int32))), oS, oU, oU] [(.long (fp (p0 &&& (2147483647 : Int32))))])) _
    refine XS.iloadN X2.here hx rfl (hb hby at_11) rfl ?_
    show Steps p.tables e below (T2.setTop (mkF m 12 #[iv p0, iv (p0 &&& (2147483647 : Int32)), oJ (fp (p0 &&& (2147483647 : Int32))), oS, oU, oU] [(.int (p0 &&& (2147483647 : Int32))), (.long (fp (p0 &&& (2147483647 : Int32))))])) _
    exact k
  refine own_cc (own_callS X2 hx hZ (y := (⟨"com/example/rivulet/rivulet/generate/ErdosRenyiPairsPinLaw", "reference", "(I)J"⟩ : MethodName)) hown (hw _ (List.mem_of_getElem? (i := 6) rfl)) (hw _ (List.mem_of_getElem? (i := 7) rfl)) (hw _ (List.mem_of_getElem? (i := 8) rfl)) (hw _ (List.mem_of_getElem? (i := 9) rfl)) (by decide) (rm2 l Z a0 hw [] (p0 &&& (2147483647 : Int32)) h0 n0 Z0 ) e2 2 (by decide) (by decide) (by decide) (by decide) rfl (by rw [hml]; rfl) [(.int (p0 &&& (2147483647 : Int32)))] [(.long (fp (p0 &&& (2147483647 : Int32))))] rfl (lenOf pd_0 rfl) rfl (by show 2 * 0 + _ ≤ _; exact Nat.le_of_eq rfl) (hb hby at_12)) fun T4 L4 v4 X4 hQ4 => ?_
  obtain ⟨rfl, N4, e4⟩ := hQ4
  replace N0 := Fr.app N0 N4
  show own_Go p e below _ (T4.setTop (mkF m 15 #[iv p0, iv (p0 &&& (2147483647 : Int32)), oJ (fp (p0 &&& (2147483647 : Int32))), oS, oU, oU] [(.long (fr (p0 &&& (2147483647 : Int32)))), (.long (fp (p0 &&& (2147483647 : Int32))))]))
  refine own_by (B := T4.setTop (mkF m 32 #[iv p0, iv (p0 &&& (2147483647 : Int32)), oJ (fp (p0 &&& (2147483647 : Int32))), oS, oU, oU] [(.int (2147483647 : Int32)), (.int (p0 &&& (2147483647 : Int32)))])) (fun t k => ?_) ?_
  · show Steps p.tables e below (T4.setTop (mkF m 15 #[iv p0, iv (p0 &&& (2147483647 : Int32)), oJ (fp (p0 &&& (2147483647 : Int32))), oS, oU, oU] [(.long (fr (p0 &&& (2147483647 : Int32)))), (.long (fp (p0 &&& (2147483647 : Int32))))])) _
    refine XS.lcmp X4.here hx rfl (hb hby at_15) rfl ?_
    show Steps p.tables e below (T4.setTop (mkF m 16 #[iv p0, iv (p0 &&& (2147483647 : Int32)), oJ (fp (p0 &&& (2147483647 : Int32))), oS, oU, oU] [(.int (lcmpW (fp (p0 &&& (2147483647 : Int32))) (fr (p0 &&& (2147483647 : Int32)))))])) _
    refine XS.ifYes X4.here hx rfl (pc0 := 16) (pc' := 21) rfl (hb hby at_16) rfl ((if0 _ _).trans (teq ((lw_eq _ _).mpr (own_ref (p0 &&& (2147483647 : Int32)) (own_nn p0)))).1) (by decide) (by decide) ?_
    show Steps p.tables e below (T4.setTop (mkF m 21 #[iv p0, iv (p0 &&& (2147483647 : Int32)), oJ (fp (p0 &&& (2147483647 : Int32))), oS, oU, oU] [])) _
    refine XS.lloadN X4.here hx rfl (hb hby at_21) rfl ?_
    show Steps p.tables e below (T4.setTop (mkF m 22 #[iv p0, iv (p0 &&& (2147483647 : Int32)), oJ (fp (p0 &&& (2147483647 : Int32))), oS, oU, oU] [(.long (fp (p0 &&& (2147483647 : Int32))))])) _
    refine XS.lconst X4.here hx rfl (hb hby at_22) ?_
    show Steps p.tables e below (T4.setTop (mkF m 23 #[iv p0, iv (p0 &&& (2147483647 : Int32)), oJ (fp (p0 &&& (2147483647 : Int32))), oS, oU, oU] [(.long (0 : Int64)), (.long (fp (p0 &&& (2147483647 : Int32))))])) _
    refine XS.lcmp X4.here hx rfl (hb hby at_23) rfl ?_
    show Steps p.tables e below (T4.setTop (mkF m 24 #[iv p0, iv (p0 &&& (2147483647 : Int32)), oJ (fp (p0 &&& (2147483647 : Int32))), oS, oU, oU] [(.int (lcmpW (fp (p0 &&& (2147483647 : Int32))) (0 : Int64)))])) _
    refine XS.ifYes X4.here hx rfl (pc0 := 24) (pc' := 29) rfl (hb hby at_24) rfl ((if0 _ _).trans (flt (fun q => (own_pos (p0 &&& (2147483647 : Int32)) (own_nn p0)) ((lw_lt _ _).mp q))).2.1) (by decide) (by decide) ?_
    show Steps p.tables e below (T4.setTop (mkF m 29 #[iv p0, iv (p0 &&& (2147483647 : Int32)), oJ (fp (p0 &&& (2147483647 : Int32))), oS, oU, oU] [])) _
    refine XS.iloadN X4.here hx rfl (hb hby at_29) rfl ?_
    show Steps p.tables e below (T4.setTop (mkF m 30 #[iv p0, iv (p0 &&& (2147483647 : Int32)), oJ (fp (p0 &&& (2147483647 : Int32))), oS, oU, oU] [(.int (p0 &&& (2147483647 : Int32)))])) _
    refine X4.ldcInt hx hown (mvT hZ (hw _ (List.mem_of_getElem? (i := 0) rfl))) (g := (mkF m 30 #[iv p0, iv (p0 &&& (2147483647 : Int32)), oJ (fp (p0 &&& (2147483647 : Int32))), oS, oU, oU] [(.int (p0 &&& (2147483647 : Int32)))])) rfl (hb hby at_30) _ ?_
    show Steps p.tables e below (T4.setTop (mkF m 32 #[iv p0, iv (p0 &&& (2147483647 : Int32)), oJ (fp (p0 &&& (2147483647 : Int32))), oS, oU, oU] [(.int (2147483647 : Int32)), (.int (p0 &&& (2147483647 : Int32)))])) _
    exact k
  by_cases hc5 : (p0 &&& (2147483647 : Int32)) < (2147483647 : Int32)
  · skip
    refine own_by (fun t k => XS.icmpNo X4.here hx rfl (hb hby at_32) rfl (tlt hc5).2.1 k) ?_
    show own_Go p e below _ (T4.setTop (mkF m 35 #[iv p0, iv (p0 &&& (2147483647 : Int32)), oJ (fp (p0 &&& (2147483647 : Int32))), oS, oU, oU] []))
    refine own_by (B := T4.setTop (mkF m 38 #[iv p0, iv (p0 &&& (2147483647 : Int32)), oJ (fp (p0 &&& (2147483647 : Int32))), oS, oU, oU] [(.int ((p0 &&& (2147483647 : Int32)) + (1 : Int32)))])) (fun t k => ?_) ?_
    · show Steps p.tables e below (T4.setTop (mkF m 35 #[iv p0, iv (p0 &&& (2147483647 : Int32)), oJ (fp (p0 &&& (2147483647 : Int32))), oS, oU, oU] [])) _
      refine XS.iloadN X4.here hx rfl (hb hby at_35) rfl ?_
      show Steps p.tables e below (T4.setTop (mkF m 36 #[iv p0, iv (p0 &&& (2147483647 : Int32)), oJ (fp (p0 &&& (2147483647 : Int32))), oS, oU, oU] [(.int (p0 &&& (2147483647 : Int32)))])) _
      refine XS.iconst X4.here hx rfl (hb hby at_36) ?_
      show Steps p.tables e below (T4.setTop (mkF m 37 #[iv p0, iv (p0 &&& (2147483647 : Int32)), oJ (fp (p0 &&& (2147483647 : Int32))), oS, oU, oU] [(.int (1 : Int32)), (.int (p0 &&& (2147483647 : Int32)))])) _
      refine XS.iadd X4.here hx rfl (hb hby at_37) rfl ?_
      show Steps p.tables e below (T4.setTop (mkF m 38 #[iv p0, iv (p0 &&& (2147483647 : Int32)), oJ (fp (p0 &&& (2147483647 : Int32))), oS, oU, oU] [(.int ((p0 &&& (2147483647 : Int32)) + (1 : Int32)))])) _
      exact k
    refine own_cc (own_callS X4 hx hZ (y := (⟨"com/example/rivulet/rivulet/generate/ErdosRenyi", "pairs", "(I)J"⟩ : MethodName)) hown (hw _ (List.mem_of_getElem? (i := 1) rfl)) (hw _ (List.mem_of_getElem? (i := 2) rfl)) (hw _ (List.mem_of_getElem? (i := 3) rfl)) (hw _ (List.mem_of_getElem? (i := 4) rfl)) (by decide) (rm1 l Z a0 hw [] ((p0 &&& (2147483647 : Int32)) + (1 : Int32)) h0 n0 Z0 ) e4 0 (by decide) (by decide) (by decide) (by decide) rfl (by rw [hml]; rfl) [(.int ((p0 &&& (2147483647 : Int32)) + (1 : Int32)))] [] rfl (lenOf pd_0 rfl) rfl (by show 2 * 0 + _ ≤ _; exact Nat.le_of_eq rfl) (hb hby at_38)) fun T7 L7 v7 X7 hQ7 => ?_
    obtain ⟨rfl, N7, e7⟩ := hQ7
    replace N0 := Fr.app N0 N7
    show own_Go p e below _ (T7.setTop (mkF m 41 #[iv p0, iv (p0 &&& (2147483647 : Int32)), oJ (fp (p0 &&& (2147483647 : Int32))), oS, oU, oU] [(.long (fp ((p0 &&& (2147483647 : Int32)) + (1 : Int32))))]))
    refine own_by (B := T7.setTop (mkF m 56 #[iv p0, iv (p0 &&& (2147483647 : Int32)), oJ (fp (p0 &&& (2147483647 : Int32))), oS, oJ (fp ((p0 &&& (2147483647 : Int32)) + (1 : Int32))), oS] [(.int (1 : Int32))])) (fun t k => ?_) ?_
    · show Steps p.tables e below (T7.setTop (mkF m 41 #[iv p0, iv (p0 &&& (2147483647 : Int32)), oJ (fp (p0 &&& (2147483647 : Int32))), oS, oU, oU] [(.long (fp ((p0 &&& (2147483647 : Int32)) + (1 : Int32))))])) _
      refine XS.lstore X7.here hx rfl (hb hby at_41) rfl (l' := #[iv p0, iv (p0 &&& (2147483647 : Int32)), oJ (fp (p0 &&& (2147483647 : Int32))), oS, oJ (fp ((p0 &&& (2147483647 : Int32)) + (1 : Int32))), oS]) rfl ?_
      show Steps p.tables e below (T7.setTop (mkF m 43 #[iv p0, iv (p0 &&& (2147483647 : Int32)), oJ (fp (p0 &&& (2147483647 : Int32))), oS, oJ (fp ((p0 &&& (2147483647 : Int32)) + (1 : Int32))), oS] [])) _
      refine XS.lload X7.here hx rfl (hb hby at_43) rfl ?_
      show Steps p.tables e below (T7.setTop (mkF m 45 #[iv p0, iv (p0 &&& (2147483647 : Int32)), oJ (fp (p0 &&& (2147483647 : Int32))), oS, oJ (fp ((p0 &&& (2147483647 : Int32)) + (1 : Int32))), oS] [(.long (fp ((p0 &&& (2147483647 : Int32)) + (1 : Int32))))])) _
      refine XS.lloadN X7.here hx rfl (hb hby at_45) rfl ?_
      show Steps p.tables e below (T7.setTop (mkF m 46 #[iv p0, iv (p0 &&& (2147483647 : Int32)), oJ (fp (p0 &&& (2147483647 : Int32))), oS, oJ (fp ((p0 &&& (2147483647 : Int32)) + (1 : Int32))), oS] [(.long (fp (p0 &&& (2147483647 : Int32)))), (.long (fp ((p0 &&& (2147483647 : Int32)) + (1 : Int32))))])) _
      refine XS.lsub X7.here hx rfl (hb hby at_46) rfl ?_
      show Steps p.tables e below (T7.setTop (mkF m 47 #[iv p0, iv (p0 &&& (2147483647 : Int32)), oJ (fp (p0 &&& (2147483647 : Int32))), oS, oJ (fp ((p0 &&& (2147483647 : Int32)) + (1 : Int32))), oS] [(.long ((fp ((p0 &&& (2147483647 : Int32)) + (1 : Int32))) - (fp (p0 &&& (2147483647 : Int32)))))])) _
      refine XS.iloadN X7.here hx rfl (hb hby at_47) rfl ?_
      show Steps p.tables e below (T7.setTop (mkF m 48 #[iv p0, iv (p0 &&& (2147483647 : Int32)), oJ (fp (p0 &&& (2147483647 : Int32))), oS, oJ (fp ((p0 &&& (2147483647 : Int32)) + (1 : Int32))), oS] [(.int (p0 &&& (2147483647 : Int32))), (.long ((fp ((p0 &&& (2147483647 : Int32)) + (1 : Int32))) - (fp (p0 &&& (2147483647 : Int32)))))])) _
      refine XS.i2l X7.here hx rfl (hb hby at_48) rfl ?_
      show Steps p.tables e below (T7.setTop (mkF m 49 #[iv p0, iv (p0 &&& (2147483647 : Int32)), oJ (fp (p0 &&& (2147483647 : Int32))), oS, oJ (fp ((p0 &&& (2147483647 : Int32)) + (1 : Int32))), oS] [(.long ((p0 &&& (2147483647 : Int32)).toInt64)), (.long ((fp ((p0 &&& (2147483647 : Int32)) + (1 : Int32))) - (fp (p0 &&& (2147483647 : Int32)))))])) _
      refine XS.lcmp X7.here hx rfl (hb hby at_49) rfl ?_
      show Steps p.tables e below (T7.setTop (mkF m 50 #[iv p0, iv (p0 &&& (2147483647 : Int32)), oJ (fp (p0 &&& (2147483647 : Int32))), oS, oJ (fp ((p0 &&& (2147483647 : Int32)) + (1 : Int32))), oS] [(.int (lcmpW ((fp ((p0 &&& (2147483647 : Int32)) + (1 : Int32))) - (fp (p0 &&& (2147483647 : Int32)))) ((p0 &&& (2147483647 : Int32)).toInt64)))])) _
      refine XS.ifYes X7.here hx rfl (pc0 := 50) (pc' := 55) rfl (hb hby at_50) rfl ((if0 _ _).trans (teq ((lw_eq _ _).mpr (own_step (p0 &&& (2147483647 : Int32)) (own_nn p0) hc5))).1) (by decide) (by decide) ?_
      show Steps p.tables e below (T7.setTop (mkF m 55 #[iv p0, iv (p0 &&& (2147483647 : Int32)), oJ (fp (p0 &&& (2147483647 : Int32))), oS, oJ (fp ((p0 &&& (2147483647 : Int32)) + (1 : Int32))), oS] [])) _
      refine XS.iconst X7.here hx rfl (hb hby at_55) ?_
      show Steps p.tables e below (T7.setTop (mkF m 56 #[iv p0, iv (p0 &&& (2147483647 : Int32)), oJ (fp (p0 &&& (2147483647 : Int32))), oS, oJ (fp ((p0 &&& (2147483647 : Int32)) + (1 : Int32))), oS] [(.int (1 : Int32))])) _
      exact k
    exact own_retN X7 Bd.notSynchronized hx (t := .boolean) Bd.returns (by simp) (hb hby at_56) (by
        rw [show T7.heap = h0 from e7]
        exact ⟨rfl, N0⟩) (by decide) (by decide)
  · skip
    refine own_by (fun t k => XS.icmpYes X4.here hx rfl (pc0 := 32) (pc' := 55) rfl (hb hby at_32) rfl (flt hc5).2.1 (by decide) (by decide) k) ?_
    show own_Go p e below _ (T4.setTop (mkF m 55 #[iv p0, iv (p0 &&& (2147483647 : Int32)), oJ (fp (p0 &&& (2147483647 : Int32))), oS, oU, oU] []))
    refine own_by (B := T4.setTop (mkF m 56 #[iv p0, iv (p0 &&& (2147483647 : Int32)), oJ (fp (p0 &&& (2147483647 : Int32))), oS, oU, oU] [(.int (1 : Int32))])) (fun t k => ?_) ?_
    · show Steps p.tables e below (T4.setTop (mkF m 55 #[iv p0, iv (p0 &&& (2147483647 : Int32)), oJ (fp (p0 &&& (2147483647 : Int32))), oS, oU, oU] [])) _
      refine XS.iconst X4.here hx rfl (hb hby at_55) ?_
      show Steps p.tables e below (T4.setTop (mkF m 56 #[iv p0, iv (p0 &&& (2147483647 : Int32)), oJ (fp (p0 &&& (2147483647 : Int32))), oS, oU, oU] [(.int (1 : Int32))])) _
      exact k
    exact own_retN X4 Bd.notSynchronized hx (t := .boolean) Bd.returns (by simp) (hb hby at_56) (by
        rw [show T4.heap = h0 from e4]
        exact ⟨rfl, N0⟩) (by decide) (by decide)

set_option maxRecDepth 65536 in
set_option maxHeartbeats 40000000 in
theorem comes_1 {Post : Tables → Env → Array Value → State → Outcome → State → Prop} (hpost : ∀ tb e args s v u, (limb_1_1.after args s (.returned v) u = true ∧ limb_1_2.after args s (.returned v) u = true ∧ True) → FrameEnd s (.returned v) u (Jvm.fieldLocs frame_1_writes args s ++ Jvm.arrayLocs frame_1_arrays args s ++ Jvm.staticLocs frame_1_statics s) 0 0 → Post tb e args s (.returned v) u) :
    ArmFor flags0 classFile x code maxLocals ret World_1 tables_1 room_1 Calls_1 rest_1 Pre_1 Post := by
  intro l hfl _ _ p e ha hc hk s m args below hf hA hF happ hP
  obtain ⟨hcalls, hrest, hpre⟩ := hP
  obtain ⟨-, -, -, hnamed, -, -, -, hat⟩ := (Spec.applies_iff hf).mp happ
  obtain ⟨hg, hn⟩ := and_e (Cond.before_iff.mp (show (Jvm.Cond.and given_1 narrow_1).before args s = true from hpre))
  obtain ⟨g0, g0'⟩ := and_e hg
  obtain ⟨w0, rfl⟩ : ∃ w0 : Value, args = #[w0] := by
    have hs : args.size = 1 := by simpa [Cond.value, given_1] using g0
    obtain ⟨L⟩ := args
    match L, hs with
    | [w0], _ => exact ⟨w0, rfl⟩
  have hw := fun d (hd : d ∈ tables_1) => atoms_spec (ws := Jvm.Cond.code x code maxLocals ret :: tables_1) hat d (List.mem_cons_of_mem _ hd)
  have hfit : Fit s := fun {y c} hc i hi => by
    obtain ⟨ha, rfl⟩ := Array.getElem?_eq_some_iff.mp hc
    have q := List.all_eq_true.mp ((Array.all_eq_true_iff_forall_mem.mp hF) _ (Array.getElem_mem ha)) i (List.mem_range.mpr hi)
    simpa [Array.getElem?_eq_getElem hi] using q
  obtain ⟨i0, ei0⟩ := is_v g0'
  obtain rfl : w0 = (.int i0) := Option.some.inj ei0
  obtain ⟨n, o, h1, h2, h3, _, L, rfl, ⟨rfl, N⟩, hq⟩ := rm0 l s _ hw tables_1 i0 s.heap s.heap.size (Nat.le_refl _) p e ha hc hk s m _ below hf ((Spec.applies_iff_loose hf).mp happ).1 ⟨rfl, State.Warmed39.refl s, rfl⟩ trivial
  refine ⟨n, _, h1, h2, h3, hpost _ _ _ _ _ _ ⟨Cond.after_iff.mpr rfl, Cond.after_iff.mpr (eq_i res_at (Term.int_eval (1)) rfl), trivial⟩ ⟨hq.1, hq.2.1, (hq.2.2.sift fun y hy => Or.inr (N y hy)).mono (by decide) (by decide)⟩⟩
theorem main_1_1 : Claimed_1_1 := comes_1 fun _ _ _ _ _ _ h hF => ⟨h.1, hF⟩
theorem main_1_2 : Claimed_1_2 := comes_1 fun _ _ _ _ _ _ h hF => ⟨h.2.1, hF⟩
end Jvm.Pilot.@@N@@
namespace Jvm.Pilot.@@N@@
open Jvm Jvm.ClassFile Sem Op Lib Jvm.Free Jvm.Stand Jvm.Pilot.@@N@@.Jvm.D
/-! MADE BY PROGRAM (witnessworld.py) out of the Statement's table words and the real class files: 9 classes; the members and pool entries that the words name. The judged class is class 1, her method 2. -/
namespace start1
open Jvm.ClassFile
def u (s : String) : CpInfo := .utf8 (stringToUtf16 s)
/-- a pool by its gaps: so many unusable entries, then the entry; so many at the end -/
def gap : Nat → List CpInfo → List CpInfo
  | 0, r => r
  | n + 1, r => .unusable :: gap n r
def poolList (es : List (Nat × CpInfo)) (last : Nat) : List CpInfo := es.foldr (fun e r => gap e.1 (e.2 :: r)) (gap last [])
def pool (es : List (Nat × CpInfo)) (last : Nat) : Array CpInfo := ⟨poolList es last⟩
def fileOf (pool : Array CpInfo) (this : Nat) (attrs : Array Attribute := #[]) (ms : Array MethodInfo := #[]) (fl : Nat := 33) (sup : Nat := 0) (ifs : Array Nat := #[]) (fds : Array FieldInfo := #[]) : ClassFile where
  minorVersion := 0
  majorVersion := 65
  constantPool := pool
  accessFlags := fl
  thisClass := this
  superClass := sup
  interfaces := ifs
  fields := fds
  methods := ms
  attributes := attrs
def plain (name : String) (sup : Option ClassId) : Class where
  name := name
  kind := .ordinary
  loader := none
  accessFlags := 33
  super := sup
  interfaces := #[]
  cf := none
  fields := #[]
  methods := #[]
  instanceTypes := #[]
  staticTypes := #[]
  resolved := #[]
  callSites := []
  init := .initialized
  statics := none
  mirror := none

def pool0 : Array CpInfo := pool [(5, u "<init>"), (0, u "()V"), (1, .class_ 10), (1, u "java/lang/Object")] 113

def k0m0 : Method := { name := "<init>", desc := "()V", sig := { parameters := [], returnType := none }, accessFlags := 1, code := none }
/-- java/lang/Object -/
def k0 : Class := { plain "java/lang/Object" none with
  accessFlags := 33
  interfaces := #[]
  cf := some (fileOf pool0 8 #[] #[{ accessFlags := 1, nameIndex := 5, descriptorIndex := 6, attributes := #[] }] 33 0 #[] #[])
  fields := #[]
  methods := #[k0m0]
  instanceTypes := #[]
  staticTypes := #[]
  resolved := Array.replicate 124 none
  statics := none }

def pool1 : Array CpInfo := pool [(2, .class_ 4), (1, u "java/lang/Object"), (0, u "<init>"), (0, u "()V"), (0, .long 2), (1, .integer 2147483647), (0, .methodref 11 12), (0, .class_ 13), (0, .nameAndType 14 15), (0, u "com/example/rivulet/rivulet/generate/ErdosRenyi"), (0, u "pairs"), (0, u "(I)J"), (0, .methodref 17 18), (0, .class_ 19), (0, .nameAndType 20 15), (0, u "com/example/rivulet/rivulet/generate/ErdosRenyiPairsPinLaw"), (0, u "reference"), (5, u "law"), (0, u "(I)Z")] 2

def k1m0 : Method := { name := "<init>", desc := "()V", sig := { parameters := [], returnType := none }, accessFlags := 2, code := none }
def k1c1 : Code := { maxStack := 6, maxLocals := 3, code := method_2_code, exceptionTable := #[], attributes := #[] }
def k1m1 : Method := { name := "reference", desc := "(I)J", sig := { parameters := [.int], returnType := some .long }, accessFlags := 10, code := some k1c1 }
def k1c2 : Code := { maxStack := 4, maxLocals := 6, code := code, exceptionTable := #[], attributes := #[] }
def k1m2 : Method := { name := "law", desc := "(I)Z", sig := { parameters := [.int], returnType := some .boolean }, accessFlags := 9, code := some k1c2 }
/-- com/example/rivulet/rivulet/generate/ErdosRenyiPairsPinLaw -/
def k1 : Class := { plain "com/example/rivulet/rivulet/generate/ErdosRenyiPairsPinLaw" (some 0) with
  accessFlags := 49
  interfaces := #[]
  cf := some (fileOf pool1 17 #[] #[{ accessFlags := 2, nameIndex := 5, descriptorIndex := 6, attributes := #[] }, { accessFlags := 10, nameIndex := 20, descriptorIndex := 15, attributes := #[] }, { accessFlags := 9, nameIndex := 26, descriptorIndex := 27, attributes := #[] }] 49 2 #[] #[])
  fields := #[]
  methods := #[k1m0, k1m1, k1m2]
  instanceTypes := #[]
  staticTypes := #[]
  resolved := Array.replicate 30 none
  statics := none }

def pool2 : Array CpInfo := pool [(4, .class_ 6), (1, u "java/lang/Object"), (0, u "<init>"), (0, u "()V"), (0, .long 2), (2, .class_ 14), (1, u "com/example/rivulet/rivulet/generate/ErdosRenyi"), (0, u "pairs"), (0, u "(I)J"), (44, u "MAX_EDGES"), (0, u "I")] 28

def k2m0 : Method := { name := "<init>", desc := "()V", sig := { parameters := [], returnType := none }, accessFlags := 2, code := none }
def k2c1 : Code := { maxStack := 4, maxLocals := 1, code := prog_27_method_2_code, exceptionTable := #[], attributes := #[] }
def k2m1 : Method := { name := "pairs", desc := "(I)J", sig := { parameters := [.int], returnType := some .long }, accessFlags := 9, code := some k2c1 }
/-- com/example/rivulet/rivulet/generate/ErdosRenyi -/
def k2 : Class := { plain "com/example/rivulet/rivulet/generate/ErdosRenyi" (some 0) with
  accessFlags := 49
  interfaces := #[]
  cf := some (fileOf pool2 12 #[] #[{ accessFlags := 2, nameIndex := 7, descriptorIndex := 8, attributes := #[] }, { accessFlags := 9, nameIndex := 15, descriptorIndex := 16, attributes := #[] }] 49 4 #[] #[{ accessFlags := 25, nameIndex := 61, descriptorIndex := 62, attributes := #[] }])
  fields := #[{ name := "MAX_EDGES", type := .int, accessFlags := 25, slot := 0, constantValue := 0 }]
  methods := #[k2m0, k2m1]
  instanceTypes := #[]
  staticTypes := #[.int]
  resolved := Array.replicate 91 none
  statics := none }

def pool3 : Array CpInfo := pool [(1, u "java/lang/Cloneable"), (0, .class_ 1), (0, u "java/lang/Object"), (0, .class_ 3)] 3

/-- java/lang/Cloneable -/
def k3 : Class := { plain "java/lang/Cloneable" (some 0) with
  accessFlags := 1537
  interfaces := #[]
  cf := some (fileOf pool3 2 #[] #[] 1537 4 #[] #[])
  fields := #[]
  methods := #[]
  instanceTypes := #[]
  staticTypes := #[]
  resolved := Array.replicate 8 none
  statics := none }

def pool4 : Array CpInfo := pool [(1, u "java/io/Serializable"), (0, .class_ 1), (0, u "java/lang/Object"), (0, .class_ 3)] 3

/-- java/io/Serializable -/
def k4 : Class := { plain "java/io/Serializable" (some 0) with
  accessFlags := 1537
  interfaces := #[]
  cf := some (fileOf pool4 2 #[] #[] 1537 4 #[] #[])
  fields := #[]
  methods := #[]
  instanceTypes := #[]
  staticTypes := #[]
  resolved := Array.replicate 8 none
  statics := none }

/-- the primitive byte -/
def k5 : Class := { plain "byte" none with kind := .primitive 'B', accessFlags := 0x411 }
/-- [B -/
def k6 : Class := { plain "[B" (some 0) with kind := .array 5 .byte, interfaces := #[3, 4], accessFlags := 1041 }

/-- the primitive int -/
def k7 : Class := { plain "int" none with kind := .primitive 'I', accessFlags := 0x411 }
/-- [I -/
def k8 : Class := { plain "[I" (some 0) with kind := .array 7 .int, interfaces := #[3, 4], accessFlags := 1041 }

def heap : Heap := #[]
def classes : Array Class := #[k0, k1, k2, k3, k4, k5, k6, k7, k8]
def interned : List (Array UInt16 × Addr) := []
def slotsUsed : Nat := 0
def theMethod : MethodId := ⟨1, 2⟩
def args0 : Array Value := #[.int 5]
def aboutOver (below : List Frame) : State where
  vm := { classes := classes, interned := interned.toArray }
  heap := heap
  slotsUsed := slotsUsed
  threads := #[{ frames := .invoking theMethod args0 :: below }]
def below0 : List Frame := [.native { method := ⟨0, 0⟩, args := #[] }]
def about1 : State := aboutOver below0
def p0 : Program := .bare "" "" ""
def e0 : Env := launch0.env 0 0 0
theorem w_frames : about1.frames = Frame.invoking theMethod args0 :: below0 := rfl
set_option maxRecDepth 65536 in
theorem w_args : argsFit about1.vm theMethod args0 = true := by decide +kernel
set_option maxRecDepth 65536 in
theorem w_heap : heapFits about1 = true := by decide +kernel
set_option maxRecDepth 65536 in
theorem w_runnable : about1.curStatus? = some .runnable := by decide +kernel
set_option maxRecDepth 65536 in
theorem w_alone : about1.alone = true := by decide +kernel
set_option maxRecDepth 65536 in
theorem w_named : about1.methodNamed? x = some theMethod := by decide +kernel
set_option maxRecDepth 65536 in
theorem w_hears : about1.hears theMethod below0 = true := by decide +kernel
set_option maxRecDepth 65536 in
theorem w_ripe : about1.ripe theMethod args0 below0 = true := by decide +kernel
theorem w_running : about1.status = .running := rfl
set_option maxRecDepth 65536 in
theorem w_room : about1.hasRoom e0.platform room_1 = true :=
  launch0.hasRoom_least _ room_1 (by decide +kernel) (by decide +kernel) (by decide +kernel) (by decide +kernel) (by decide +kernel) (by decide +kernel)
theorem allAtoms_all (ts : List Jvm.Cond) (a : Array Jvm.Value) (st : Jvm.State) : (allAtoms ts).before a st = ts.all (fun c => c.before a st) := by
  induction ts with
  | nil => rfl
  | cons c t ih =>
    show (Jvm.Cond.and c (allAtoms t)).before a st = _
    rw [Jvm.Cond.before_and, ih, List.all_cons]
def words1 : List Jvm.Cond := Jvm.Cond.code x code maxLocals ret :: tables_1
/-- a 'code' word, met by the world's own term for the bytes: nothing is compared byte by byte -/
theorem code_word {y : MethodName} {bytes : ByteArray} {mx : Nat} {rt : Option FieldType} {a : Array Value} {s : State} {m : MethodId} {meth : Method} {c : Code} (h1 : s.methodNamed? y = some m) (h2 : s.vm.method? m = some meth) (h3 : meth.code = some c) (h4 : c.code = bytes)
    (h5 : (c.maxLocals == mx && c.exceptionTable.isEmpty && decide (c.maxStack ≤ mostOperands) && decide (meth.sig.returnType = rt) && !meth.locks && decide (parseMethodDescriptor y.desc = some meth.sig)) = true) : (Jvm.Cond.code y bytes mx rt).before a s = true := by
  simp only [Bool.and_eq_true, beq_iff_eq, Bool.not_eq_true', decide_eq_true_eq] at h5
  obtain ⟨⟨⟨⟨⟨g1, g2⟩, g3⟩, g4⟩, g5⟩, g6⟩ := h5
  simp [Cond.before, Cond.holds, Cond.value, h1, h2, h3, h4, g1, g2, g3, g4, g5, g6]
def isCode : Jvm.Cond → Bool
  | .code _ _ _ _ => true
  | _ => false
theorem all_split {L : List Jvm.Cond} {P : Jvm.Cond → Bool} (h1 : L.all (fun c => isCode c || P c) = true) (h2 : ∀ c ∈ L.filter isCode, P c = true) : L.all P = true := by
  refine List.all_eq_true.mpr fun c hc => ?_
  have h := List.all_eq_true.mp h1 c hc
  rcases Bool.eq_false_or_eq_true (isCode c) with hi | hi
  · exact h2 c (List.mem_filter.mpr ⟨hc, hi⟩)
  · simpa [hi] using h
set_option maxRecDepth 65536 in
theorem w_c0 : (Jvm.Cond.code x code maxLocals ret).before args0 about1 = true := code_word (m := ⟨1, 2⟩) (meth := k1m2) (c := k1c2) (by decide +kernel) rfl rfl rfl (by decide +kernel)
set_option maxRecDepth 65536 in
theorem w_c1 : (Jvm.Cond.code ({ cls := "com/example/rivulet/rivulet/generate/ErdosRenyi", name := "pairs", desc := "(I)J" } : Jvm.MethodName) prog_27_method_2_code (1 : Nat) (Option.some Jvm.ClassFile.FieldType.long)).before args0 about1 = true := code_word (m := ⟨2, 1⟩) (meth := k2m1) (c := k2c1) (by decide +kernel) rfl rfl rfl (by decide +kernel)
set_option maxRecDepth 65536 in
theorem w_c2 : (Jvm.Cond.code ({ cls := "com/example/rivulet/rivulet/generate/ErdosRenyiPairsPinLaw", name := "reference", desc := "(I)J" } : Jvm.MethodName) method_2_code (3 : Nat) (Option.some Jvm.ClassFile.FieldType.long)).before args0 about1 = true := code_word (m := ⟨1, 1⟩) (meth := k1m1) (c := k1c1) (by decide +kernel) rfl rfl rfl (by decide +kernel)
def codes1 : List Jvm.Cond := [Jvm.Cond.code x code maxLocals ret, Jvm.Cond.code ({ cls := "com/example/rivulet/rivulet/generate/ErdosRenyi", name := "pairs", desc := "(I)J" } : Jvm.MethodName) prog_27_method_2_code (1 : Nat) (Option.some Jvm.ClassFile.FieldType.long), Jvm.Cond.code ({ cls := "com/example/rivulet/rivulet/generate/ErdosRenyiPairsPinLaw", name := "reference", desc := "(I)J" } : Jvm.MethodName) method_2_code (3 : Nat) (Option.some Jvm.ClassFile.FieldType.long)]
set_option maxRecDepth 65536 in
theorem codes_eq : words1.filter isCode = codes1 := rfl
theorem w_codes : ∀ c ∈ words1.filter isCode, c.before args0 about1 = true := by
  rw [codes_eq]
  intro c hc
  simp only [codes1, List.mem_cons, List.not_mem_nil, or_false] at hc
  rcases hc with rfl | rfl | rfl
  · exact w_c0
  · exact w_c1
  · exact w_c2
set_option maxRecDepth 65536 in
theorem w_t1 : words1.all (fun c => isCode c || c.before args0 about1) = true := by decide +kernel
theorem w_tables : (allAtoms (Jvm.Cond.code x code maxLocals ret :: tables_1)).before args0 about1 = true := by
  rw [allAtoms_all]
  show words1.all (fun c => c.before args0 about1) = true
  refine all_split ?_ w_codes
  rw [w_t1]
set_option maxRecDepth 65536 in
theorem w_case : (Jvm.Cond.and given_1 narrow_1).before args0 about1 = true := by decide +kernel
theorem w_applies : (headSpec (Jvm.Cond.code x code maxLocals ret :: tables_1) room_1).applies x e0.platform about1 = true :=
  (Spec.applies_iff w_frames).mpr ⟨w_running, w_runnable, w_alone, w_named, w_hears, w_ripe, w_room, w_tables⟩
theorem atStart : AtStart classFile x code maxLocals ret World_1 tables_1 room_1 Calls_1 rest_1 Pre_1 launch0 p0 e0 about1 theMethod args0 below0 :=
  ⟨lists_1, trivial, launch0.admits_env _ _ _, launch0.least_env, fairChoices_fair.cas, fairChoices_fair.clock, w_frames, w_args, w_heap, w_applies, trivial, trivial, w_case⟩
end start1
theorem witness_1 : WitnessClaimed_1 := ⟨start1.p0, start1.e0, start1.about1, start1.theMethod, start1.args0, start1.below0, start1.atStart⟩
end Jvm.Pilot.@@N@@
