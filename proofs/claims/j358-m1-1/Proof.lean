import JvmDerived
import JvmDerived.Pilot.@@N@@Statement
import JvmDerived.Pilot.@@N@@Code
set_option linter.unusedVariables false
set_option linter.unusedSimpArgs false
namespace Jvm.Pilot.@@N@@
open Jvm Jvm.ClassFile Sem Op Lib Jvm.Free Jvm.Stand Jvm.LawKit Jvm.RoadKit Bundle Jvm.Pilot.@@N@@.Jvm.D
section OwnKit
abbrev oU : Slot := .unset
abbrev oS : Slot := .second
abbrev oJ (x : Int64) : Slot := .val (.long x)
variable {p : Program} {l : Launch} {e : Env} {R : Room} {s : State} {m : MethodId} {args : Array Value} {below : List Frame} {meth : Method} {c : Code} {T A B : State} {locs : List Loc} {cells slots : Nat} {G : State → Outcome → Prop} {Q : Option Value → Heap → List Loc → Prop} {C S : Nat} {pc : Nat} {Ls : Array Slot} {rest : List Value}
/-- from A the run ends, and what it leaves is G -/
def own_Go (p : Program) (e : Env) (below : List Frame) (G : State → Outcome → Prop) (A : State) : Prop := ∃ u o, Steps p.tables e below A u ∧ u.status = .running ∧ Ended u below o ∧ G u o
def own_Post (s : State) (Q : Option Value → Heap → List Loc → Prop) (C S : Nat) : State → Outcome → Prop := fun u o => ∃ v L, o = .returned v ∧ Q v u.heap L ∧ FrameEnd s o u L C S
def own_PostW (s : State) (Q : Option Value → Heap → List Loc → Prop) (C S : Nat) : State → Outcome → Prop := fun u o => ∃ v L, o = .returned v ∧ Q v u.heap L ∧ ReturnedEndW s o u L C S
theorem own_by (k : ∀ t, Steps p.tables e below B t → Steps p.tables e below A t) (h : own_Go p e below G B) : own_Go p e below G A := by
  obtain ⟨u, o, h1, h2⟩ := h
  exact ⟨u, o, k _ h1, h2⟩
theorem own_tr (k : Steps p.tables e below A B) (h : own_Go p e below G B) : own_Go p e below G A := by
  obtain ⟨u, o, h1, h2⟩ := h
  exact ⟨u, o, k.trans h1, h2⟩
theorem own_retI (X : Stand p l e R s m args below meth c T locs cells slots) (hlk : meth.locks = false) (hx : p.tables.exec = Jvm.exec) (hret : meth.sig.returnType = some .int) {z : Int32} (hd : decode c.code pc = .ok (.ireturn, 1)) (hq : Q (some (.int z)) T.heap locs) (hC : cells ≤ C) (hS : slots ≤ S) :
    own_Go p e below (own_Post s Q C S) (T.setTop (mkF m pc Ls (.int z :: rest))) := by
  obtain ⟨fs, hr, hrun, hended, hW, hsame⟩ := X.leave (v := some (.int z)) (fun h => by rw [hret] at h; cases h) hlk
  have hm' : T.vm.method? m = some meth := X.method'
  have hn : narrow .int (.int z) = .int z := rfl
  refine ⟨_, _, ?_, hrun, hended, _, _, rfl, hq, ⟨_, rfl⟩, hW, hsame.mono hC hS⟩
  show Steps p.tables e below (T.setTop { method := m, pc := pc, locals := Ls, stack := _ :: rest, locked := none }) _
  jvm_step X.here [X.here.top, hx, hd, hm', hret, hn]
  first | (intro acts; rw [hr _ acts rfl rfl rfl]) | rw [hr _ _ rfl rfl rfl]
  exact Steps.refl _
theorem own_retN (X : Stand p l e R s m args below meth c T locs cells slots) (hlk : meth.locks = false) (hx : p.tables.exec = Jvm.exec) {t : FieldType} (hret : meth.sig.returnType = some t) (ht : t = .boolean ∨ t = .byte ∨ t = .char ∨ t = .short) {z : Int32} (hd : decode c.code pc = .ok (.ireturn, 1)) (hq : Q (some (.int (nar t z))) T.heap locs) (hC : cells ≤ C) (hS : slots ≤ S) :
    own_Go p e below (own_Post s Q C S) (T.setTop (mkF m pc Ls (.int z :: rest))) := by
  obtain ⟨fs, hr, hrun, hended, hW, hsame⟩ := X.leave (v := some (.int (nar t z))) (fun h => by rw [hret] at h; cases h) hlk
  exact ⟨_, _, retN X hx hret ht hd hr, hrun, hended, _, _, rfl, hq, ⟨_, rfl⟩, hW, hsame.mono hC hS⟩
theorem own_retNW {vm₁ : Vm} (X : Stand p l e R (s.setVm vm₁) m args below meth c T locs cells slots) (hlk : meth.locks = false) (hx : p.tables.exec = Jvm.exec) {t : FieldType} (hret : meth.sig.returnType = some t) (ht : t = .boolean ∨ t = .byte ∨ t = .char ∨ t = .short) {z : Int32} (hd : decode c.code pc = .ok (.ireturn, 1)) {n : Nat} (hSi : s.Since vm₁ n) (hn : n ≤ T.heap.size) (hq : Q (some (.int (nar t z))) T.heap locs) (hC : cells ≤ C) (hS : slots ≤ S) :
    own_Go p e below (own_PostW s Q C S) (T.setTop (mkF m pc Ls (.int z :: rest))) := by
  obtain ⟨fs, hr, hrun, hended, h1, h2, h3, h4⟩ := X.leaveW hSi hn (v := some (.int (nar t z))) (fun h => by rw [hret] at h; cases h) hlk
  exact ⟨_, _, retN X hx hret ht hd hr, hrun, hended, _, _, rfl, hq, h1, h2, h3, h4.mono hC hS⟩
theorem own_retL (X : Stand p l e R s m args below meth c T locs cells slots) (hlk : meth.locks = false) (hx : p.tables.exec = Jvm.exec) (hret : meth.sig.returnType = some .long) {z : Int64} (hd : decode c.code pc = .ok (.lreturn, 1)) (hq : Q (some (.long z)) T.heap locs) (hC : cells ≤ C) (hS : slots ≤ S) :
    own_Go p e below (own_Post s Q C S) (T.setTop (mkF m pc Ls [.long z])) := by
  obtain ⟨fs, hr, hrun, hended, hW, hsame⟩ := X.leave (v := some (.long z)) (fun h => by rw [hret] at h; cases h) hlk
  exact ⟨_, _, retOut X hx (t := .long) (i := .lreturn) hret rfl (Or.inr (Or.inl ⟨rfl, rfl, _, rfl⟩)) hd hr, hrun, hended, _, _, rfl, hq, ⟨_, rfl⟩, hW, hsame.mono hC hS⟩
theorem own_retR (X : Stand p l e R s m args below meth c T locs cells slots) (hlk : meth.locks = false) (hx : p.tables.exec = Jvm.exec) {t : FieldType} (hret : meth.sig.returnType = some t) {w : Value} (ht : t.isReference = true) (hn : narrow t w = w) (hw : w.isRef = true) (hd : decode c.code pc = .ok (.areturn, 1)) (hq : Q (some w) T.heap locs) (hC : cells ≤ C) (hS : slots ≤ S) :
    own_Go p e below (own_Post s Q C S) (T.setTop (mkF m pc Ls (w :: rest))) := by
  obtain ⟨fs, hr, hrun, hended, hW, hsame⟩ := X.leave (v := some w) (fun h => by rw [hret] at h; cases h) hlk
  exact ⟨_, _, retOut X hx (t := t) (i := .areturn) hret hn (Or.inr (Or.inr (Or.inr (Or.inr ⟨rfl, ht, hw⟩)))) hd hr, hrun, hended, _, _, rfl, hq, ⟨_, rfl⟩, hW, hsame.mono hC hS⟩
theorem own_retV (X : Stand p l e R s m args below meth c T locs cells slots) (hlk : meth.locks = false) (hx : p.tables.exec = Jvm.exec) (hret : meth.sig.returnType = none) (hd : decode c.code pc = .ok (.return_, 1)) (hq : Q none T.heap locs) (hC : cells ≤ C) (hS : slots ≤ S) :
    own_Go p e below (own_Post s Q C S) (T.setTop (mkF m pc Ls [])) := by
  obtain ⟨fs, hr, hrun, hended, hW, hsame⟩ := X.leave (v := none) (fun _ => rfl) hlk
  exact ⟨_, _, X.returnOut hx hret hd hr, hrun, hended, _, _, rfl, hq, ⟨_, rfl⟩, hW, hsame.mono hC hS⟩
theorem own_nev {Z : State} {h : Heap} {a b : Addr} {C : String} {a0 : Array Value} {n : Nat} {k : ClassId} {ty : FieldType} {z : Int32} {vs : List Value} {dv : Value} (E : Exa Z h a C) (wi : (Jvm.Cond.instantiable C n).before a0 Z = true) (F : Arv Z h b k ty z vs dv) : a ≠ b := by
  obtain ⟨c, A, -⟩ := F
  exact ne_arr E wi A
theorem own_selp {args' : Array Value} {y : MethodName} {n : Nat} (hins : (Jvm.Cond.instantiable y.cls n).before args' s = true) (hpriv : (Jvm.Cond.privateMethod y).before args' s = true) (hinst : (Jvm.Cond.instanceMethod y).before args' s = true) (hy : y.cls ≠ "java/lang/invoke/MethodHandle" ∧ y.cls ≠ "java/lang/invoke/VarHandle") : (Jvm.Cond.selects y.cls y y).before args' s = true := by
  obtain ⟨c, k, hc, hk, -, hniab, -, -⟩ := Cond.instantiable_spec hins
  exact selects_self_of_private hc hk (Bool.or_eq_false_iff.mp hniab).1 (Cond.privateMethod_at hpriv) hinst hy
theorem own_callS (X : Stand p l e R s m args below meth c T locs cells slots) (hx : p.tables.exec = Jvm.exec) {Z : State} {a0 : Array Value} {h : Heap} (hZ : Z.Warmed39 s.vm) {own : String} {index : Nat} {y : MethodName} (hown : s.vm.findClass own = some m.cls) {bytes : ByteArray} {maxL : Nat} {ret : Option FieldType} {rm : Room} {as' : Array Value} {Q : Option Value → Heap → List Loc → Prop} (w1 : (Jvm.Cond.methodLink own index y).before a0 Z = true) (w2 : (Jvm.Cond.static y).before a0 Z = true) (w3 : (Jvm.Cond.initialized y.cls).before a0 Z = true) (w4 : (Jvm.Cond.code y bytes maxL ret).before a0 Z = true) (hy : y.cls ≠ "java/lang/invoke/MethodHandle" ∧ y.cls ≠ "java/lang/invoke/VarHandle")
    (hM : MetFree l y (head1 [Jvm.Cond.code y bytes maxL ret] rm) (fun a U => a = as' ∧ Z.Warmed39 U.vm ∧ U.heap = h) (fun _ _ _ _ _ => True) (fun _ U o U' => ∃ v L, o = .returned v ∧ Q v U'.heap L ∧ FrameEnd U o U' L rm.cells rm.slots)) (eT : T.heap = h) (W : Nat) (hf : rm.frames + 1 ≤ R.frames) (hl : W + (maxL + 11) + rm.locals ≤ R.locals) (hc : cells + rm.cells ≤ R.cells) (hs : slots + rm.slots ≤ R.slots) {g : JFrame} (hg : g.method = m) (hsize : g.locals.size = c.maxLocals) (argsL rest : List Value) (ha : argsL.toArray = as') (hlen : ∀ sig, parseMethodDescriptor y.desc = some sig → argsL.length = sig.parameters.length) (hstack : g.stack = argsL.reverse ++ rest) (hW : 2 * g.monitorRoom + (rest.map fun v => v.category).sum ≤ W) (hd : decode c.code g.pc = .ok (.invokestatic index, 3)) :
    ∃ (T' : State) (L : List Loc) (v : Option Value), Stand p l e R s m args below meth c T' (locs ++ L) (cells + rm.cells) (slots + rm.slots) ∧ Q v T'.heap L ∧ ∀ t, Steps p.tables e below (T'.setTop { g with pc := g.pc + 3, stack := v.toList ++ rest }) t → Steps p.tables e below (T.setTop g) t := by
  obtain ⟨v, _, ⟨T', L', k', n'⟩, -, X', ⟨L, hQ, h2, h3, h4⟩, st⟩ := Jvm.LawKit.callS X hx (y := y) hown (mvT hZ w1) (mvT hZ w2) (mvT hZ w3) (mvT hZ w4) hy (backOf (W := W) hM hZ w4 w3 hf hl) (g := g) hg hsize (argsL := argsL) (rest := rest) hlen hstack hW hd (fun _ _ => ⟨ha, eT, hc, hs⟩)
  dsimp only [Pt.U, Pt.locs, Pt.cells, Pt.slots] at X' h2 h3 h4 st hQ
  subst h2 h3 h4
  exact ⟨T', L, v, X', hQ, st⟩
theorem own_callI (X : Stand p l e R s m args below meth c T locs cells slots) (hx : p.tables.exec = Jvm.exec) {Z : State} {a0 : Array Value} {h : Heap} (hZ : Z.Warmed39 s.vm) {own : String} {index : Nat} {y : MethodName} (hy1 : y.name = "<init>") (hown : s.vm.findClass own = some m.cls) {bytes : ByteArray} {maxL : Nat} {rm : Room} {as' : Array Value} {Q : Option Value → Heap → List Loc → Prop} (w1 : (Jvm.Cond.methodLink own index y).before a0 Z = true) (w2 : (Jvm.Cond.instanceMethod y).before a0 Z = true) (w3 : (Jvm.Cond.initialized y.cls).before a0 Z = true) (w4 : (Jvm.Cond.code y bytes maxL none).before a0 Z = true) (hy : y.cls ≠ "java/lang/invoke/MethodHandle" ∧ y.cls ≠ "java/lang/invoke/VarHandle")
    (hM : MetFree l y (head1 [Jvm.Cond.code y bytes maxL none] rm) (fun a U => a = as' ∧ Z.Warmed39 U.vm ∧ U.heap = h) (fun _ _ _ _ _ => True) (fun _ U o U' => ∃ v L, o = .returned v ∧ Q v U'.heap L ∧ FrameEnd U o U' L rm.cells rm.slots)) (eT : T.heap = h) (W : Nat) (hf : rm.frames + 1 ≤ R.frames) (hl : W + (maxL + 11) + rm.locals ≤ R.locals) (hc : cells + rm.cells ≤ R.cells) (hs : slots + rm.slots ≤ R.slots) {g : JFrame} (hg : g.method = m) (hsize : g.locals.size = c.maxLocals) (a : Addr) (argsL rest : List Value) (ha : (.ref a :: argsL).toArray = as') (hlen : ∀ sig, parseMethodDescriptor y.desc = some sig → argsL.length = sig.parameters.length) (hstack : g.stack = argsL.reverse ++ .ref a :: rest) (hW : 2 * g.monitorRoom + (rest.map fun v => v.category).sum ≤ W) (hd : decode c.code g.pc = .ok (.invokespecial index, 3)) :
    ∃ (T' : State) (L : List Loc) (v : Option Value), Stand p l e R s m args below meth c T' (locs ++ L) (cells + rm.cells) (slots + rm.slots) ∧ Q v T'.heap L ∧ ∀ t, Steps p.tables e below (T'.setTop { g with pc := g.pc + 3, stack := v.toList ++ rest }) t → Steps p.tables e below (T.setTop g) t := by
  obtain ⟨v, _, ⟨T', L', k', n'⟩, -, X', ⟨L, hQ, h2, h3, h4⟩, st⟩ := X.specialBack hx (y := y) hy1 hown (mvT hZ w1) (mvT hZ w2) (mvT hZ w4) hy (backOf (W := W) hM hZ w4 w3 hf hl) (g := g) hg hsize (Steps.refl _) (a := a) (argsL := argsL) (rest := rest) hlen hstack hW hd (fun _ _ => ⟨ha, eT, hc, hs⟩)
  dsimp only [Pt.U, Pt.locs, Pt.cells, Pt.slots] at X' h2 h3 h4 st hQ
  subst h2 h3 h4
  exact ⟨T', L, v, X', hQ, fun t k => st.trans k⟩
theorem own_callP (X : Stand p l e R s m args below meth c T locs cells slots) (hx : p.tables.exec = Jvm.exec) {Z : State} {a0 : Array Value} {h : Heap} (hZ : Z.Warmed39 s.vm) {own C : String} {index n : Nat} {y : MethodName} (hown : s.vm.findClass own = some m.cls) {bytes : ByteArray} {maxL : Nat} {ret : Option FieldType} {rm : Room} {as' : Array Value} {Q : Option Value → Heap → List Loc → Prop} (w1 : (Jvm.Cond.methodLink own index y).before a0 Z = true) (w2 : (Jvm.Cond.instanceMethod y).before a0 Z = true) (w3 : (Jvm.Cond.initialized y.cls).before a0 Z = true) (w4 : (Jvm.Cond.code y bytes maxL ret).before a0 Z = true) (w5 : (Jvm.Cond.privateMethod y).before a0 Z = true) (w6 : (Jvm.Cond.instantiable y.cls n).before a0 Z = true) (hy : y.cls ≠ "java/lang/invoke/MethodHandle" ∧ y.cls ≠ "java/lang/invoke/VarHandle")
    (hM : MetFree l y (head1 [Jvm.Cond.code y bytes maxL ret] rm) (fun a U => a = as' ∧ Z.Warmed39 U.vm ∧ U.heap = h) (fun _ _ _ _ _ => True) (fun _ U o U' => ∃ v L, o = .returned v ∧ Q v U'.heap L ∧ FrameEnd U o U' L rm.cells rm.slots)) (eT : T.heap = h) (W : Nat) (hf : rm.frames + 1 ≤ R.frames) (hl : W + (maxL + 11) + rm.locals ≤ R.locals) (hc : cells + rm.cells ≤ R.cells) (hs : slots + rm.slots ≤ R.slots) {g : JFrame} (hg : g.method = m) (hsize : g.locals.size = c.maxLocals) (a : Addr) (E : Exa Z h a C) (argsL rest : List Value) (ha : (.ref a :: argsL).toArray = as') (hlen : ∀ sig, parseMethodDescriptor y.desc = some sig → argsL.length = sig.parameters.length) (hstack : g.stack = argsL.reverse ++ .ref a :: rest) (hW : 2 * g.monitorRoom + (rest.map fun v => v.category).sum ≤ W) (hd : decode c.code g.pc = .ok (.invokevirtual index, 3)) :
    ∃ (T' : State) (L : List Loc) (v : Option Value), Stand p l e R s m args below meth c T' (locs ++ L) (cells + rm.cells) (slots + rm.slots) ∧ Q v T'.heap L ∧ ∀ t, Steps p.tables e below (T'.setTop { g with pc := g.pc + 3, stack := v.toList ++ rest }) t → Steps p.tables e below (T.setTop g) t := by
  obtain ⟨cq, q1, q2⟩ := E.cell
  obtain ⟨v, _, ⟨T', L', k', n'⟩, -, X', ⟨L, hQ, h2, h3, h4⟩, st⟩ := X.privateBack hx (y := y) hown (mvT hZ w1) (mvT hZ w2) (own_selp (y := y) (mvT hZ w6) (mvP hZ w5) (mvT hZ w2) hy) (Cond.privateMethod_at (mvP hZ w5 (args := #[]))) (mvT hZ w4) hy (backOf (W := W) hM hZ w4 w3 hf hl) (g := g) hg hsize (Steps.refl _) (a := a) (by rw [eT]; exact q1) q2 (argsL := argsL) (rest := rest) hlen hstack hW hd (fun _ _ => ⟨ha, eT, hc, hs⟩)
  dsimp only [Pt.U, Pt.locs, Pt.cells, Pt.slots] at X' h2 h3 h4 st hQ
  subst h2 h3 h4
  exact ⟨T', L, v, X', hQ, fun t k => st.trans k⟩
theorem own_callV (X : Stand p l e R s m args below meth c T locs cells slots) (hx : p.tables.exec = Jvm.exec) {Z : State} {a0 : Array Value} {h : Heap} (hZ : Z.Warmed39 s.vm) {own C : String} {index : Nat} {y z : MethodName} (hown : s.vm.findClass own = some m.cls) {bytes : ByteArray} {maxL : Nat} {ret : Option FieldType} {rm : Room} {as' : Array Value} {Q : Option Value → Heap → List Loc → Prop} (w1 : (Jvm.Cond.methodLink own index y).before a0 Z = true) (w2 : (Jvm.Cond.declares y).before a0 Z = true) (hnf : NotFace s y) (w3 : (Jvm.Cond.selects C y z).before a0 Z = true) (w4 : (Jvm.Cond.instanceMethod z).before a0 Z = true) (w5 : (Jvm.Cond.initialized z.cls).before a0 Z = true) (w6 : (Jvm.Cond.code z bytes maxL ret).before a0 Z = true) (hy : y.cls ≠ "java/lang/invoke/MethodHandle" ∧ y.cls ≠ "java/lang/invoke/VarHandle")
    (hM : MetFree l z (head1 [Jvm.Cond.code z bytes maxL ret] rm) (fun a U => a = as' ∧ Z.Warmed39 U.vm ∧ U.heap = h) (fun _ _ _ _ _ => True) (fun _ U o U' => ∃ v L, o = .returned v ∧ Q v U'.heap L ∧ FrameEnd U o U' L rm.cells rm.slots)) (eT : T.heap = h) (W : Nat) (hf : rm.frames + 1 ≤ R.frames) (hl : W + (maxL + 11) + rm.locals ≤ R.locals) (hc : cells + rm.cells ≤ R.cells) (hs : slots + rm.slots ≤ R.slots) {g : JFrame} (hg : g.method = m) (hsize : g.locals.size = c.maxLocals) (a : Addr) (E : Exa Z h a C) (argsL rest : List Value) (ha : (.ref a :: argsL).toArray = as') (hlen : ∀ sig, parseMethodDescriptor y.desc = some sig → argsL.length = sig.parameters.length) (hstack : g.stack = argsL.reverse ++ .ref a :: rest) (hW : 2 * g.monitorRoom + (rest.map fun v => v.category).sum ≤ W) (hd : decode c.code g.pc = .ok (.invokevirtual index, 3)) :
    ∃ (T' : State) (L : List Loc) (v : Option Value), Stand p l e R s m args below meth c T' (locs ++ L) (cells + rm.cells) (slots + rm.slots) ∧ Q v T'.heap L ∧ ∀ t, Steps p.tables e below (T'.setTop { g with pc := g.pc + 3, stack := v.toList ++ rest }) t → Steps p.tables e below (T.setTop g) t := by
  obtain ⟨cq, kq, qa, qb, qc⟩ := isOf hZ eT E
  obtain ⟨v, _, ⟨T', L', k', n'⟩, -, X', ⟨L, hQ, h2, h3, h4⟩, st⟩ := X.virtualBack hx (y := y) (z := z) hown (mvT hZ w1) (mvT hZ w2) hnf (mvT hZ w3) (mvT hZ w4) hy (backOf (W := W) hM hZ w6 w5 hf hl) qa qc (g := g) hg hsize (Steps.refl _) (argsL := argsL) (rest := rest) hlen hstack hW hd (fun _ _ => ⟨ha, eT, hc, hs⟩)
  dsimp only [Pt.U, Pt.locs, Pt.cells, Pt.slots] at X' h2 h3 h4 st hQ
  subst h2 h3 h4
  exact ⟨T', L, v, X', hQ, fun t k => st.trans k⟩
theorem own_callF (X : Stand p l e R s m args below meth c T locs cells slots) (hx : p.tables.exec = Jvm.exec) {Z : State} {a0 : Array Value} {h : Heap} (hZ : Z.Warmed39 s.vm) {own C : String} {index count : Nat} {y z : MethodName} (hown : s.vm.findClass own = some m.cls) {bytes : ByteArray} {maxL : Nat} {ret : Option FieldType} {rm : Room} {as' : Array Value} {Q : Option Value → Heap → List Loc → Prop} (w1 : (Jvm.Cond.methodLink own index y).before a0 Z = true) (w2 : (Jvm.Cond.declares y).before a0 Z = true) (w3 : (Jvm.Cond.interfaceMethod y.cls y.cls y.name y.desc).before a0 Z = true) (w4 : (Jvm.Cond.selects C y z).before a0 Z = true) (w5 : (Jvm.Cond.instanceMethod z).before a0 Z = true) (w6 : (Jvm.Cond.publicMethod z).before a0 Z = true) (w7 : (Jvm.Cond.unhidden C y.name y.desc).before a0 Z = true) (w8 : (Jvm.Cond.castable C y.cls).before a0 Z = true) (w9 : (Jvm.Cond.initialized z.cls).before a0 Z = true) (w10 : (Jvm.Cond.code z bytes maxL ret).before a0 Z = true) (hy : y.cls ≠ "java/lang/invoke/MethodHandle" ∧ y.cls ≠ "java/lang/invoke/VarHandle")
    (hM : MetFree l z (head1 [Jvm.Cond.code z bytes maxL ret] rm) (fun a U => a = as' ∧ Z.Warmed39 U.vm ∧ U.heap = h) (fun _ _ _ _ _ => True) (fun _ U o U' => ∃ v L, o = .returned v ∧ Q v U'.heap L ∧ FrameEnd U o U' L rm.cells rm.slots)) (eT : T.heap = h) (W : Nat) (hf : rm.frames + 1 ≤ R.frames) (hl : W + (maxL + 11) + rm.locals ≤ R.locals) (hc : cells + rm.cells ≤ R.cells) (hs : slots + rm.slots ≤ R.slots) {g : JFrame} (hg : g.method = m) (hsize : g.locals.size = c.maxLocals) (a : Addr) (E : Exa Z h a C) (argsL rest : List Value) (ha : (.ref a :: argsL).toArray = as') (hlen : ∀ sig, parseMethodDescriptor y.desc = some sig → argsL.length = sig.parameters.length) (hstack : g.stack = argsL.reverse ++ .ref a :: rest) (hW : 2 * g.monitorRoom + (rest.map fun v => v.category).sum ≤ W) (hd : decode c.code g.pc = .ok (.invokeinterface index count, 5)) (hw3 : ((Jvm.Cond.interfaceMethod y.cls y.cls y.name y.desc).onTables && (Jvm.Cond.interfaceMethod y.cls y.cls y.name y.desc).keepsFace) = true := by first | rfl | simp [Cond.onTables, Cond.keepsFace, Cond.keeps, Cond.steady]) :
    ∃ (T' : State) (L : List Loc) (v : Option Value), Stand p l e R s m args below meth c T' (locs ++ L) (cells + rm.cells) (slots + rm.slots) ∧ Q v T'.heap L ∧ ∀ t, Steps p.tables e below (T'.setTop { g with pc := g.pc + 5, stack := v.toList ++ rest }) t → Steps p.tables e below (T.setTop g) t := by
  obtain ⟨cq, kq, qa, qb, qc⟩ := isOf hZ eT E
  obtain ⟨v, _, ⟨T', L', k', n'⟩, -, X', ⟨L, hQ, h2, h3, h4⟩, st⟩ := X.interfaceBack hx (xi := y) (y := z) hown (mvT hZ w1) (mvT hZ w2) (mvT hZ w3 hw3) (mvT hZ w4) (mvT hZ w5) (mvT hZ w6) (mvT hZ w7) (mvT hZ w8) hy (backOf (W := W) hM hZ w10 w9 hf hl) qa qb qc (g := g) hg hsize (Steps.refl _) (argsL := argsL) (rest := rest) hlen hstack hW hd (fun _ _ => ⟨ha, eT, hc, hs⟩)
  dsimp only [Pt.U, Pt.locs, Pt.cells, Pt.slots] at X' h2 h3 h4 st hQ
  subst h2 h3 h4
  exact ⟨T', L, v, X', hQ, fun t k => st.trans k⟩
theorem own_c1 {g g' : JFrame} {h : Heap} (h1 : ∃ T', Stand p l e R s m args below meth c T' locs cells slots ∧ T'.heap = h ∧ ∀ t, Steps p.tables e below (T'.setTop g') t → Steps p.tables e below (T.setTop g) t) (k : ∀ T', Stand p l e R s m args below meth c T' locs cells slots → T'.heap = h → own_Go p e below G (T'.setTop g')) : own_Go p e below G (T.setTop g) := by
  obtain ⟨T', X', e', st⟩ := h1
  exact own_by st (k T' X' e')
theorem own_c2 {g g' : JFrame} {h : Heap} {a : Addr} {sl : Nat} {v : Value} (h1 : ∃ T' h', Stand p l e R s m args below meth c T' (locs ++ [⟨a, sl⟩]) cells slots ∧ T'.heap = h' ∧ Wr h h' a sl v ∧ ∀ t, Steps p.tables e below (T'.setTop g') t → Steps p.tables e below (T.setTop g) t) (k : ∀ T' h', Stand p l e R s m args below meth c T' (locs ++ [⟨a, sl⟩]) cells slots → T'.heap = h' → Wr h h' a sl v → own_Go p e below G (T'.setTop g')) : own_Go p e below G (T.setTop g) := by
  obtain ⟨T', h', X', e', W, st⟩ := h1
  exact own_by st (k T' h' X' e' W)
theorem own_cc {g : JFrame} {c1 s1 : Nat} {Q : Option Value → Heap → List Loc → Prop} {f : Option Value → JFrame} (h1 : ∃ (T' : State) (L : List Loc) (v : Option Value), Stand p l e R s m args below meth c T' (locs ++ L) c1 s1 ∧ Q v T'.heap L ∧ ∀ t, Steps p.tables e below (T'.setTop (f v)) t → Steps p.tables e below (T.setTop g) t) (k : ∀ (T' : State) (L : List Loc) (v : Option Value), Stand p l e R s m args below meth c T' (locs ++ L) c1 s1 → Q v T'.heap L → own_Go p e below G (T'.setTop (f v))) : own_Go p e below G (T.setTop g) := by
  obtain ⟨T', L, v, X', hQ, st⟩ := h1
  exact own_by st (k T' L v X' hQ)
end OwnKit
theorem own_sta {C K n d : String} {args : Array Value} {s : State} (hx : (Jvm.Cond.exactly (.static C n d) K).value args s none s [] = some true) (wi : (Jvm.Cond.initialized C).before args s = true) (wl : (Jvm.Cond.laysStatic C n d).before args s = true) :
    ∃ a, (Term.static C n d).eval args s none [] s = some (.ref a) ∧ Sta s s.heap C n d (.ref a) ∧ Exa s s.heap a K := by
  have hx' : (Jvm.Cond.exactly (.static C n d) K).before args s = true := Cond.before_iff.mpr hx
  obtain ⟨a', c', cell, k, e1, e2, e3, e4, e5, e6, e7⟩ := Cond.exactly_spec hx'
  exact ⟨a', e1, Sta.start e1 (Or.inr ⟨wi, wl⟩), Exa.start e1 hx⟩
theorem own_ord {t : Term} {a : Addr} {args : Array Value} {s : State} {C n d : String} {k : Int32} (e : t.eval args s none [] s = some (.ref a)) (h : (Jvm.Cond.eq (.field t C n d) (.int k)).value args s none s [] = some true) : Fld s s.heap a C n d (.int k) := by
  have h1 : (Term.field t C n d).eval args s none [] s = some (.int k) := Jvm.Free.NT.SwA.eq_int (Cond.before_iff.mpr h)
  have h2 : s.fieldOf? a C n d = some (.int k) := by
    rw [← h1]
    show _ = (t.eval args s none [] s >>= _)
    rw [e]
    rfl
  exact Fld.start h2
theorem own_arr {t : Term} {args : Array Value} {s : State} {ty : FieldType} {n : Int32} {a : Addr} (ev : t.eval args s none [] s = some (.ref a)) (hx : (Jvm.Cond.arrayOf t ty).value args s none s [] = some true) (hl : (Jvm.Cond.eq (.length t) (.int n)).value args s none s [] = some true) :
    ∃ cl, Arr s s.heap a cl ty ∧ cl.slots.size < 2 ^ 31 ∧ cl.slots.size.toInt32 = n := by
  obtain ⟨cl, A⟩ := Arr.start ev hx
  have h1 : (Term.length t).eval args s none [] s = some (.int n) := Jvm.Free.NT.SwA.eq_int (Cond.before_iff.mpr hl)
  refine ⟨cl, A, ?_⟩
  cases hat : s.arrayAt? a with
  | none => simp [Term.eval, ev, hat] at h1
  | some c' =>
    have hc := (State.arrayAt?_spec hat).1
    cases A.1.symm.trans hc
    simp only [Term.eval, ev, hat, Option.bind_eq_bind, Option.bind_some] at h1
    split at h1
    · rename_i hlt
      exact ⟨hlt, by simpa using h1⟩
    · simp at h1
theorem own_elem {t : Term} {args : Array Value} {s : State} {ty : FieldType} {a w : Addr} {cl : Cell} {k : Int32} (ev : t.eval args s none [] s = some (.ref a)) (A : Arr s s.heap a cl ty) (h : (Term.elem t (.int k)).eval args s none [] s = some (.ref w)) : cl.slots[k.toNatClampNeg]? = some (.ref w) := (elem_in h ev rfl A.1).2
theorem own_eqR {t u : Term} {args : Array Value} {s : State} {w : Addr} (h : (Jvm.Cond.eq t u).value args s none s [] = some true) (hu : u.eval args s none [] s = some (.ref w)) : t.eval args s none [] s = some (.ref w) := by
  obtain ⟨x, y, e1, e2, k1, k2⟩ := cmp_v (Or.inl h)
  cases hu.symm.trans e2
  have hx : x.isRef = true := by cases x <;> simp [Kin, Value.isRef] at k1 k2 ⊢
  have := gotT (eq_R e1 hu hx rfl) h
  rw [e1, this]

theorem d1_0 : decode prog_27_method_4_code 0 = .ok (.getstatic 53, 3) := by decide +kernel
theorem d1_3 : decode prog_27_method_4_code 3 = .ok (.astore_n 1, 1) := by decide +kernel
theorem d1_4 : decode prog_27_method_4_code 4 = .ok (.aload_n 1, 1) := by decide +kernel
theorem d1_5 : decode prog_27_method_4_code 5 = .ok (.arraylength, 1) := by decide +kernel
theorem d1_6 : decode prog_27_method_4_code 6 = .ok (.istore_n 2, 1) := by decide +kernel
theorem d1_7 : decode prog_27_method_4_code 7 = .ok (.iconst 0, 1) := by decide +kernel
theorem d1_8 : decode prog_27_method_4_code 8 = .ok (.istore_n 3, 1) := by decide +kernel
theorem d1_9 : decode prog_27_method_4_code 9 = .ok (.iload_n 3, 1) := by decide +kernel
theorem d1_10 : decode prog_27_method_4_code 10 = .ok (.iload_n 2, 1) := by decide +kernel
theorem d1_11 : decode prog_27_method_4_code 11 = .ok (.if_icmp .ge 26, 3) := by decide +kernel
theorem d1_14 : decode prog_27_method_4_code 14 = .ok (.aload_n 1, 1) := by decide +kernel
theorem d1_15 : decode prog_27_method_4_code 15 = .ok (.iload_n 3, 1) := by decide +kernel
theorem d1_16 : decode prog_27_method_4_code 16 = .ok (.aaload, 1) := by decide +kernel
theorem d1_17 : decode prog_27_method_4_code 17 = .ok (.astore 4, 2) := by decide +kernel
theorem d1_19 : decode prog_27_method_4_code 19 = .ok (.aload 4, 2) := by decide +kernel
theorem d1_21 : decode prog_27_method_4_code 21 = .ok (.getfield 41, 3) := by decide +kernel
theorem d1_24 : decode prog_27_method_4_code 24 = .ok (.iload_n 0, 1) := by decide +kernel
theorem d1_25 : decode prog_27_method_4_code 25 = .ok (.if_icmp .ne 6, 3) := by decide +kernel
theorem d1_28 : decode prog_27_method_4_code 28 = .ok (.aload 4, 2) := by decide +kernel
theorem d1_30 : decode prog_27_method_4_code 30 = .ok (.areturn, 1) := by decide +kernel
theorem pn_1 : plainName "com/example/tidebook/tidebook/io/Protocol" = true := by first | (simp [plainName, overriddenIn]; done) | decide +kernel
theorem ef_1 (m : MethodId) (x0 : Int32) : entryFrame m #[(.int x0)] 5 = mkF m 0 #[iv x0, oU, oU, oU, oU] [] := by first | (simp [entryFrame, mkF, argsToLocals, Value.category]; done) | rfl
def Q1_0 (Z : State) (p0 : Int32) (al : Addr) (ka : ClassId) (w0 : Addr) (w1 : Addr) (w2 : Addr) (w3 : Addr) (h0 : Heap) (n0 : Nat) (v : Option Value) (h : Heap) (L : List Loc) : Prop := v = some (.ref w0) ∧ Fr n0 L ∧ h = h0
set_option maxRecDepth 65536 in
set_option maxHeartbeats 40000000 in
theorem rm1_0 (l : Launch) (Z : State) (a0 : Array Value) (hw : ∀ d ∈ tables_1, d.before a0 Z = true) (ws : List Jvm.Cond) (p0 : Int32) (al : Addr) (ka : ClassId) (w0 : Addr) (w1 : Addr) (w2 : Addr) (w3 : Addr) (h0 : Heap) (n0 : Nat) (Z0 : n0 ≤ h0.size) (OZ : Old Z n0 h0) (S_ALL : Sta Z Z.heap "com/example/tidebook/tidebook/io/Protocol" "ALL" "[Lcom/example/tidebook/tidebook/io/Protocol;" (.ref al)) (S_UNKNOWN : Sta Z Z.heap "com/example/tidebook/tidebook/io/Protocol" "UNKNOWN" "Lcom/example/tidebook/tidebook/io/Protocol;" (.ref w3)) (V_al : Arv Z h0 al ka (.object "com/example/tidebook/tidebook/io/Protocol") (4 : Int32) [(.ref w0), (.ref w1), (.ref w2), (.ref w3)] .null) (F_id_w0 : Fld Z h0 w0 "com/example/tidebook/tidebook/io/Protocol" "id" "I" (.int (32770 : Int32))) (F_id_w1 : Fld Z h0 w1 "com/example/tidebook/tidebook/io/Protocol" "id" "I" (.int (32771 : Int32))) (F_id_w2 : Fld Z h0 w2 "com/example/tidebook/tidebook/io/Protocol" "id" "I" (.int (32772 : Int32))) (F_id_w3 : Fld Z h0 w3 "com/example/tidebook/tidebook/io/Protocol" "id" "I" (.int (-1 : Int32))) (hp0 : (32770 : Int32) = p0) :
    MetFree l (⟨"com/example/tidebook/tidebook/io/Protocol", "of", "(I)Lcom/example/tidebook/tidebook/io/Protocol;"⟩ : MethodName) (head1 (Jvm.Cond.code (⟨"com/example/tidebook/tidebook/io/Protocol", "of", "(I)Lcom/example/tidebook/tidebook/io/Protocol;"⟩ : MethodName) prog_27_method_4_code 5 (some (.object "com/example/tidebook/tidebook/io/Protocol")) :: ws) ({ frames := 0, cells := 0, slots := 0, locals := 0 } : Room)) (fun a U => a = #[(.int p0)] ∧ Z.Warmed39 U.vm ∧ U.heap = h0) (fun _ _ _ _ _ => True) (fun _ U o U' => ∃ v L, o = .returned v ∧ Q1_0 Z p0 al ka w0 w1 w2 w3 h0 n0 v U'.heap L ∧ FrameEnd U o U' L ({ frames := 0, cells := 0, slots := 0, locals := 0 } : Room).cells ({ frames := 0, cells := 0, slots := 0, locals := 0 } : Room).slots) := by
  refine MetFree.of_bodySF (plainFor_of_name pn_1) hisR ?_
  intro p e s m args below meth c s₁ Bd hml0 hP hK
  obtain ⟨rfl, hZ, hh⟩ := hP
  have hx := Bd.exec
  have hby := Bd.bytes
  have hml : c.maxLocals = 5 := hml0
  have hown : s.vm.findClass "com/example/tidebook/tidebook/io/Protocol" = some m.cls := findClass_of_methodNamed Bd.named
  have hnm := (name_of_methodNamed Bd.named Bd.method).1
  have X0 : Stand p l e ({ frames := 0, cells := 0, slots := 0, locals := 0 } : Room) s m #[(.int p0)] below meth c s₁ [] 0 0 := Stand.of_body Bd
  have e0 : s₁.heap = h0 := by rw [← hh, Bd.state]; rfl
  have N0 := Fr.nil n0
  change own_Go p e below (own_Post s (Q1_0 Z p0 al ka w0 w1 w2 w3 h0 n0) ({ frames := 0, cells := 0, slots := 0, locals := 0 } : Room).cells ({ frames := 0, cells := 0, slots := 0, locals := 0 } : Room).slots) (s₁.setTop (entryFrame m #[(.int p0)] 5))
  refine own_by (fun t k => castTop (ef_1 m p0) k) ?_
  show own_Go p e below _ (s₁.setTop (mkF m 0 #[iv p0, oU, oU, oU, oU] []))
  refine own_c1 (getS2 X0 hx hZ hown (host := "") (Or.inl (hw _ (List.mem_of_getElem? (i := 4) rfl))) Via.refl e0 (S_ALL.ext OZ.2) rfl (hb hby d1_0)) fun T1 X1 e1 => ?_
  show own_Go p e below _ (T1.setTop (mkF m 3 #[iv p0, oU, oU, oU, oU] [(.ref al)]))
  refine own_by (B := T1.setTop (mkF m 21 #[iv p0, rv al, iv (4 : Int32), iv (0 : Int32), rv w0] [(.ref w0)])) (fun t k => ?_) ?_
  · show Steps p.tables e below (T1.setTop (mkF m 3 #[iv p0, oU, oU, oU, oU] [(.ref al)])) _
    refine XS.astoreN X1.here hx rfl (hb hby d1_3) rfl rfl (l' := #[iv p0, rv al, oU, oU, oU]) rfl ?_
    show Steps p.tables e below (T1.setTop (mkF m 4 #[iv p0, rv al, oU, oU, oU] [])) _
    refine XS.aloadN X1.here hx rfl (hb hby d1_4) rfl rfl ?_
    show Steps p.tables e below (T1.setTop (mkF m 5 #[iv p0, rv al, oU, oU, oU] [(.ref al)])) _
    obtain ⟨cl2, Ar2, -, S2, N2, -, -⟩ := id V_al
    refine X1.arraylength hx (by rw [show T1.heap = h0 from e1]; exact Ar2.1) (State.isArrayOf_alike hZ.alike Ar2.2.1) (g := (mkF m 5 #[iv p0, rv al, oU, oU, oU] [(.ref al)])) rfl rfl (hb hby d1_5) _ ?_
    rw [len_of S2 N2]
    show Steps p.tables e below (T1.setTop (mkF m 6 #[iv p0, rv al, oU, oU, oU] [(.int (4 : Int32))])) _
    refine XS.istoreN X1.here hx rfl (hb hby d1_6) rfl (l' := #[iv p0, rv al, iv (4 : Int32), oU, oU]) rfl ?_
    show Steps p.tables e below (T1.setTop (mkF m 7 #[iv p0, rv al, iv (4 : Int32), oU, oU] [])) _
    refine XS.iconst X1.here hx rfl (hb hby d1_7) ?_
    show Steps p.tables e below (T1.setTop (mkF m 8 #[iv p0, rv al, iv (4 : Int32), oU, oU] [(.int (0 : Int32))])) _
    refine XS.istoreN X1.here hx rfl (hb hby d1_8) rfl (l' := #[iv p0, rv al, iv (4 : Int32), iv (0 : Int32), oU]) rfl ?_
    show Steps p.tables e below (T1.setTop (mkF m 9 #[iv p0, rv al, iv (4 : Int32), iv (0 : Int32), oU] [])) _
    refine XS.iloadN X1.here hx rfl (hb hby d1_9) rfl ?_
    show Steps p.tables e below (T1.setTop (mkF m 10 #[iv p0, rv al, iv (4 : Int32), iv (0 : Int32), oU] [(.int (0 : Int32))])) _
    refine XS.iloadN X1.here hx rfl (hb hby d1_10) rfl ?_
    show Steps p.tables e below (T1.setTop (mkF m 11 #[iv p0, rv al, iv (4 : Int32), iv (0 : Int32), oU] [(.int (4 : Int32)), (.int (0 : Int32))])) _
    refine XS.icmpNo X1.here hx rfl (hb hby d1_11) rfl (tlt (by decide : (0 : Int32) < (4 : Int32))).2.1 ?_
    show Steps p.tables e below (T1.setTop (mkF m 14 #[iv p0, rv al, iv (4 : Int32), iv (0 : Int32), oU] [])) _
    refine XS.aloadN X1.here hx rfl (hb hby d1_14) rfl rfl ?_
    show Steps p.tables e below (T1.setTop (mkF m 15 #[iv p0, rv al, iv (4 : Int32), iv (0 : Int32), oU] [(.ref al)])) _
    refine XS.iloadN X1.here hx rfl (hb hby d1_15) rfl ?_
    show Steps p.tables e below (T1.setTop (mkF m 16 #[iv p0, rv al, iv (4 : Int32), iv (0 : Int32), oU] [(.int (0 : Int32)), (.ref al)])) _
    obtain ⟨cl3, Ar3, q3, S3, N3, H3, G3⟩ := id V_al
    have hin3 : ¬ ((0 : Int32) < 0 ∨ cl3.slots.size ≤ ((0 : Int32)).toNatClampNeg) := inb_of S3 ⟨by decide, by decide⟩
    have hat3 : cl3.slots[((0 : Int32)).toNatClampNeg]? = some (.ref w0) := H3.at hin3 rfl
    refine X1.aaload hx (j := (0 : Int32)) (v := (.ref w0)) (by rw [show T1.heap = h0 from e1]; exact Ar3.1) (State.isArrayOf_alike hZ.alike Ar3.2.1) rfl Ar3.2.2 hin3 hat3 (g := (mkF m 16 #[iv p0, rv al, iv (4 : Int32), iv (0 : Int32), oU] [(.int (0 : Int32)), (.ref al)])) rfl rfl (hb hby d1_16) _ ?_
    show Steps p.tables e below (T1.setTop (mkF m 17 #[iv p0, rv al, iv (4 : Int32), iv (0 : Int32), oU] [(.ref w0)])) _
    refine XS.astore X1.here hx rfl (hb hby d1_17) rfl rfl (l' := #[iv p0, rv al, iv (4 : Int32), iv (0 : Int32), rv w0]) rfl ?_
    show Steps p.tables e below (T1.setTop (mkF m 19 #[iv p0, rv al, iv (4 : Int32), iv (0 : Int32), rv w0] [])) _
    refine XS.aload X1.here hx rfl (hb hby d1_19) rfl rfl ?_
    show Steps p.tables e below (T1.setTop (mkF m 21 #[iv p0, rv al, iv (4 : Int32), iv (0 : Int32), rv w0] [(.ref w0)])) _
    exact k
  refine own_c1 (getF X1 hx hZ hown (host := "") (Or.inl (hw _ (List.mem_of_getElem? (i := 7) rfl))) Via.refl e1 F_id_w0 rfl rfl (hb hby d1_21)) fun T4 X4 e4 => ?_
  show own_Go p e below _ (T4.setTop (mkF m 24 #[iv p0, rv al, iv (4 : Int32), iv (0 : Int32), rv w0] [(.int (32770 : Int32))]))
  refine own_by (B := T4.setTop (mkF m 30 #[iv p0, rv al, iv (4 : Int32), iv (0 : Int32), rv w0] [(.ref w0)])) (fun t k => ?_) ?_
  · show Steps p.tables e below (T4.setTop (mkF m 24 #[iv p0, rv al, iv (4 : Int32), iv (0 : Int32), rv w0] [(.int (32770 : Int32))])) _
    refine XS.iloadN X4.here hx rfl (hb hby d1_24) rfl ?_
    show Steps p.tables e below (T4.setTop (mkF m 25 #[iv p0, rv al, iv (4 : Int32), iv (0 : Int32), rv w0] [(.int p0), (.int (32770 : Int32))])) _
    refine XS.icmpNo X4.here hx rfl (hb hby d1_25) rfl (teq hp0).2 ?_
    show Steps p.tables e below (T4.setTop (mkF m 28 #[iv p0, rv al, iv (4 : Int32), iv (0 : Int32), rv w0] [])) _
    refine XS.aload X4.here hx rfl (hb hby d1_28) rfl rfl ?_
    show Steps p.tables e below (T4.setTop (mkF m 30 #[iv p0, rv al, iv (4 : Int32), iv (0 : Int32), rv w0] [(.ref w0)])) _
    exact k
  exact own_retR X4 Bd.notSynchronized hx Bd.returns rfl rfl rfl (hb hby d1_30) (by
      rw [show T4.heap = h0 from e4]
      exact ⟨rfl, N0, rfl⟩) (by decide) (by decide)

theorem d2_0 : decode method_3_code 0 = .ok (.iload_n 0, 1) := by decide +kernel
theorem d2_1 : decode method_3_code 1 = .ok (.ldc 20, 2) := by decide +kernel
theorem d2_3 : decode method_3_code 3 = .ok (.if_icmp .ne 7, 3) := by decide +kernel
theorem d2_6 : decode method_3_code 6 = .ok (.getstatic 21, 3) := by decide +kernel
theorem d2_9 : decode method_3_code 9 = .ok (.areturn, 1) := by decide +kernel
theorem pn_2 : plainName "com/example/tidebook/tidebook/io/ProtocolOfPinLaw" = true := by first | (simp [plainName, overriddenIn]; done) | decide +kernel
theorem ef_2 (m : MethodId) (x0 : Int32) : entryFrame m #[(.int x0)] 1 = mkF m 0 #[iv x0] [] := by first | (simp [entryFrame, mkF, argsToLocals, Value.category]; done) | rfl
def Q2_0 (Z : State) (p0 : Int32) (w0 : Addr) (h0 : Heap) (n0 : Nat) (v : Option Value) (h : Heap) (L : List Loc) : Prop := v = some (.ref w0) ∧ Fr n0 L ∧ h = h0
set_option maxRecDepth 65536 in
set_option maxHeartbeats 40000000 in
theorem rm2_0 (l : Launch) (Z : State) (a0 : Array Value) (hw : ∀ d ∈ tables_1, d.before a0 Z = true) (ws : List Jvm.Cond) (p0 : Int32) (w0 : Addr) (h0 : Heap) (n0 : Nat) (Z0 : n0 ≤ h0.size) (OZ : Old Z n0 h0) (S_TOPS_1_5 : Sta Z Z.heap "com/example/tidebook/tidebook/io/Protocol" "TOPS_1_5" "Lcom/example/tidebook/tidebook/io/Protocol;" (.ref w0)) (hp0 : p0 = (32770 : Int32)) :
    MetFree l (⟨"com/example/tidebook/tidebook/io/ProtocolOfPinLaw", "expected", "(I)Lcom/example/tidebook/tidebook/io/Protocol;"⟩ : MethodName) (head1 (Jvm.Cond.code (⟨"com/example/tidebook/tidebook/io/ProtocolOfPinLaw", "expected", "(I)Lcom/example/tidebook/tidebook/io/Protocol;"⟩ : MethodName) method_3_code 1 (some (.object "com/example/tidebook/tidebook/io/Protocol")) :: ws) ({ frames := 0, cells := 0, slots := 0, locals := 0 } : Room)) (fun a U => a = #[(.int p0)] ∧ Z.Warmed39 U.vm ∧ U.heap = h0) (fun _ _ _ _ _ => True) (fun _ U o U' => ∃ v L, o = .returned v ∧ Q2_0 Z p0 w0 h0 n0 v U'.heap L ∧ FrameEnd U o U' L ({ frames := 0, cells := 0, slots := 0, locals := 0 } : Room).cells ({ frames := 0, cells := 0, slots := 0, locals := 0 } : Room).slots) := by
  refine MetFree.of_bodySF (plainFor_of_name pn_2) hisR ?_
  intro p e s m args below meth c s₁ Bd hml0 hP hK
  obtain ⟨rfl, hZ, hh⟩ := hP
  have hx := Bd.exec
  have hby := Bd.bytes
  have hml : c.maxLocals = 1 := hml0
  have hown : s.vm.findClass "com/example/tidebook/tidebook/io/ProtocolOfPinLaw" = some m.cls := findClass_of_methodNamed Bd.named
  have hnm := (name_of_methodNamed Bd.named Bd.method).1
  have X0 : Stand p l e ({ frames := 0, cells := 0, slots := 0, locals := 0 } : Room) s m #[(.int p0)] below meth c s₁ [] 0 0 := Stand.of_body Bd
  have e0 : s₁.heap = h0 := by rw [← hh, Bd.state]; rfl
  have N0 := Fr.nil n0
  change own_Go p e below (own_Post s (Q2_0 Z p0 w0 h0 n0) ({ frames := 0, cells := 0, slots := 0, locals := 0 } : Room).cells ({ frames := 0, cells := 0, slots := 0, locals := 0 } : Room).slots) (s₁.setTop (entryFrame m #[(.int p0)] 1))
  refine own_by (fun t k => castTop (ef_2 m p0) k) ?_
  show own_Go p e below _ (s₁.setTop (mkF m 0 #[iv p0] []))
  refine own_by (B := s₁.setTop (mkF m 6 #[iv p0] [])) (fun t k => ?_) ?_
  · show Steps p.tables e below (s₁.setTop (mkF m 0 #[iv p0] [])) _
    refine XS.iloadN X0.here hx rfl (hb hby d2_0) rfl ?_
    show Steps p.tables e below (s₁.setTop (mkF m 1 #[iv p0] [(.int p0)])) _
    refine X0.ldcInt hx hown (mvT hZ (hw _ (List.mem_of_getElem? (i := 17) rfl))) (g := (mkF m 1 #[iv p0] [(.int p0)])) rfl (hb hby d2_1) _ ?_
    show Steps p.tables e below (s₁.setTop (mkF m 3 #[iv p0] [(.int (32770 : Int32)), (.int p0)])) _
    refine XS.icmpNo X0.here hx rfl (hb hby d2_3) rfl (teq hp0).2 ?_
    show Steps p.tables e below (s₁.setTop (mkF m 6 #[iv p0] [])) _
    exact k
  refine own_c1 (getS2 X0 hx hZ hown (host := "") (Or.inl (hw _ (List.mem_of_getElem? (i := 23) rfl))) Via.refl e0 (S_TOPS_1_5.ext OZ.2) rfl (hb hby d2_6)) fun T1 X1 e1 => ?_
  show own_Go p e below _ (T1.setTop (mkF m 9 #[iv p0] [(.ref w0)]))
  exact own_retR X1 Bd.notSynchronized hx Bd.returns rfl rfl rfl (hb hby d2_9) (by
      rw [show T1.heap = h0 from e1]
      exact ⟨rfl, N0, rfl⟩) (by decide) (by decide)

theorem d1_31 : decode prog_27_method_4_code 31 = .ok (.iinc 3 1, 3) := by decide +kernel
theorem d1_34 : decode prog_27_method_4_code 34 = .ok (.goto (-25), 3) := by decide +kernel
def Q1_1 (Z : State) (p0 : Int32) (al : Addr) (ka : ClassId) (w0 : Addr) (w1 : Addr) (w2 : Addr) (w3 : Addr) (h0 : Heap) (n0 : Nat) (v : Option Value) (h : Heap) (L : List Loc) : Prop := v = some (.ref w1) ∧ Fr n0 L ∧ h = h0
set_option maxRecDepth 65536 in
set_option maxHeartbeats 40000000 in
theorem rm1_1 (l : Launch) (Z : State) (a0 : Array Value) (hw : ∀ d ∈ tables_1, d.before a0 Z = true) (ws : List Jvm.Cond) (p0 : Int32) (al : Addr) (ka : ClassId) (w0 : Addr) (w1 : Addr) (w2 : Addr) (w3 : Addr) (h0 : Heap) (n0 : Nat) (Z0 : n0 ≤ h0.size) (OZ : Old Z n0 h0) (S_ALL : Sta Z Z.heap "com/example/tidebook/tidebook/io/Protocol" "ALL" "[Lcom/example/tidebook/tidebook/io/Protocol;" (.ref al)) (S_UNKNOWN : Sta Z Z.heap "com/example/tidebook/tidebook/io/Protocol" "UNKNOWN" "Lcom/example/tidebook/tidebook/io/Protocol;" (.ref w3)) (V_al : Arv Z h0 al ka (.object "com/example/tidebook/tidebook/io/Protocol") (4 : Int32) [(.ref w0), (.ref w1), (.ref w2), (.ref w3)] .null) (F_id_w0 : Fld Z h0 w0 "com/example/tidebook/tidebook/io/Protocol" "id" "I" (.int (32770 : Int32))) (F_id_w1 : Fld Z h0 w1 "com/example/tidebook/tidebook/io/Protocol" "id" "I" (.int (32771 : Int32))) (F_id_w2 : Fld Z h0 w2 "com/example/tidebook/tidebook/io/Protocol" "id" "I" (.int (32772 : Int32))) (F_id_w3 : Fld Z h0 w3 "com/example/tidebook/tidebook/io/Protocol" "id" "I" (.int (-1 : Int32))) (hp0 : ¬ ((32770 : Int32) = p0)) (hp1 : (32771 : Int32) = p0) :
    MetFree l (⟨"com/example/tidebook/tidebook/io/Protocol", "of", "(I)Lcom/example/tidebook/tidebook/io/Protocol;"⟩ : MethodName) (head1 (Jvm.Cond.code (⟨"com/example/tidebook/tidebook/io/Protocol", "of", "(I)Lcom/example/tidebook/tidebook/io/Protocol;"⟩ : MethodName) prog_27_method_4_code 5 (some (.object "com/example/tidebook/tidebook/io/Protocol")) :: ws) ({ frames := 0, cells := 0, slots := 0, locals := 0 } : Room)) (fun a U => a = #[(.int p0)] ∧ Z.Warmed39 U.vm ∧ U.heap = h0) (fun _ _ _ _ _ => True) (fun _ U o U' => ∃ v L, o = .returned v ∧ Q1_1 Z p0 al ka w0 w1 w2 w3 h0 n0 v U'.heap L ∧ FrameEnd U o U' L ({ frames := 0, cells := 0, slots := 0, locals := 0 } : Room).cells ({ frames := 0, cells := 0, slots := 0, locals := 0 } : Room).slots) := by
  refine MetFree.of_bodySF (plainFor_of_name pn_1) hisR ?_
  intro p e s m args below meth c s₁ Bd hml0 hP hK
  obtain ⟨rfl, hZ, hh⟩ := hP
  have hx := Bd.exec
  have hby := Bd.bytes
  have hml : c.maxLocals = 5 := hml0
  have hown : s.vm.findClass "com/example/tidebook/tidebook/io/Protocol" = some m.cls := findClass_of_methodNamed Bd.named
  have hnm := (name_of_methodNamed Bd.named Bd.method).1
  have X0 : Stand p l e ({ frames := 0, cells := 0, slots := 0, locals := 0 } : Room) s m #[(.int p0)] below meth c s₁ [] 0 0 := Stand.of_body Bd
  have e0 : s₁.heap = h0 := by rw [← hh, Bd.state]; rfl
  have N0 := Fr.nil n0
  change own_Go p e below (own_Post s (Q1_1 Z p0 al ka w0 w1 w2 w3 h0 n0) ({ frames := 0, cells := 0, slots := 0, locals := 0 } : Room).cells ({ frames := 0, cells := 0, slots := 0, locals := 0 } : Room).slots) (s₁.setTop (entryFrame m #[(.int p0)] 5))
  refine own_by (fun t k => castTop (ef_1 m p0) k) ?_
  show own_Go p e below _ (s₁.setTop (mkF m 0 #[iv p0, oU, oU, oU, oU] []))
  refine own_c1 (getS2 X0 hx hZ hown (host := "") (Or.inl (hw _ (List.mem_of_getElem? (i := 4) rfl))) Via.refl e0 (S_ALL.ext OZ.2) rfl (hb hby d1_0)) fun T1 X1 e1 => ?_
  show own_Go p e below _ (T1.setTop (mkF m 3 #[iv p0, oU, oU, oU, oU] [(.ref al)]))
  refine own_by (B := T1.setTop (mkF m 21 #[iv p0, rv al, iv (4 : Int32), iv (0 : Int32), rv w0] [(.ref w0)])) (fun t k => ?_) ?_
  · show Steps p.tables e below (T1.setTop (mkF m 3 #[iv p0, oU, oU, oU, oU] [(.ref al)])) _
    refine XS.astoreN X1.here hx rfl (hb hby d1_3) rfl rfl (l' := #[iv p0, rv al, oU, oU, oU]) rfl ?_
    show Steps p.tables e below (T1.setTop (mkF m 4 #[iv p0, rv al, oU, oU, oU] [])) _
    refine XS.aloadN X1.here hx rfl (hb hby d1_4) rfl rfl ?_
    show Steps p.tables e below (T1.setTop (mkF m 5 #[iv p0, rv al, oU, oU, oU] [(.ref al)])) _
    obtain ⟨cl2, Ar2, -, S2, N2, -, -⟩ := id V_al
    refine X1.arraylength hx (by rw [show T1.heap = h0 from e1]; exact Ar2.1) (State.isArrayOf_alike hZ.alike Ar2.2.1) (g := (mkF m 5 #[iv p0, rv al, oU, oU, oU] [(.ref al)])) rfl rfl (hb hby d1_5) _ ?_
    rw [len_of S2 N2]
    show Steps p.tables e below (T1.setTop (mkF m 6 #[iv p0, rv al, oU, oU, oU] [(.int (4 : Int32))])) _
    refine XS.istoreN X1.here hx rfl (hb hby d1_6) rfl (l' := #[iv p0, rv al, iv (4 : Int32), oU, oU]) rfl ?_
    show Steps p.tables e below (T1.setTop (mkF m 7 #[iv p0, rv al, iv (4 : Int32), oU, oU] [])) _
    refine XS.iconst X1.here hx rfl (hb hby d1_7) ?_
    show Steps p.tables e below (T1.setTop (mkF m 8 #[iv p0, rv al, iv (4 : Int32), oU, oU] [(.int (0 : Int32))])) _
    refine XS.istoreN X1.here hx rfl (hb hby d1_8) rfl (l' := #[iv p0, rv al, iv (4 : Int32), iv (0 : Int32), oU]) rfl ?_
    show Steps p.tables e below (T1.setTop (mkF m 9 #[iv p0, rv al, iv (4 : Int32), iv (0 : Int32), oU] [])) _
    refine XS.iloadN X1.here hx rfl (hb hby d1_9) rfl ?_
    show Steps p.tables e below (T1.setTop (mkF m 10 #[iv p0, rv al, iv (4 : Int32), iv (0 : Int32), oU] [(.int (0 : Int32))])) _
    refine XS.iloadN X1.here hx rfl (hb hby d1_10) rfl ?_
    show Steps p.tables e below (T1.setTop (mkF m 11 #[iv p0, rv al, iv (4 : Int32), iv (0 : Int32), oU] [(.int (4 : Int32)), (.int (0 : Int32))])) _
    refine XS.icmpNo X1.here hx rfl (hb hby d1_11) rfl (tlt (by decide : (0 : Int32) < (4 : Int32))).2.1 ?_
    show Steps p.tables e below (T1.setTop (mkF m 14 #[iv p0, rv al, iv (4 : Int32), iv (0 : Int32), oU] [])) _
    refine XS.aloadN X1.here hx rfl (hb hby d1_14) rfl rfl ?_
    show Steps p.tables e below (T1.setTop (mkF m 15 #[iv p0, rv al, iv (4 : Int32), iv (0 : Int32), oU] [(.ref al)])) _
    refine XS.iloadN X1.here hx rfl (hb hby d1_15) rfl ?_
    show Steps p.tables e below (T1.setTop (mkF m 16 #[iv p0, rv al, iv (4 : Int32), iv (0 : Int32), oU] [(.int (0 : Int32)), (.ref al)])) _
    obtain ⟨cl3, Ar3, q3, S3, N3, H3, G3⟩ := id V_al
    have hin3 : ¬ ((0 : Int32) < 0 ∨ cl3.slots.size ≤ ((0 : Int32)).toNatClampNeg) := inb_of S3 ⟨by decide, by decide⟩
    have hat3 : cl3.slots[((0 : Int32)).toNatClampNeg]? = some (.ref w0) := H3.at hin3 rfl
    refine X1.aaload hx (j := (0 : Int32)) (v := (.ref w0)) (by rw [show T1.heap = h0 from e1]; exact Ar3.1) (State.isArrayOf_alike hZ.alike Ar3.2.1) rfl Ar3.2.2 hin3 hat3 (g := (mkF m 16 #[iv p0, rv al, iv (4 : Int32), iv (0 : Int32), oU] [(.int (0 : Int32)), (.ref al)])) rfl rfl (hb hby d1_16) _ ?_
    show Steps p.tables e below (T1.setTop (mkF m 17 #[iv p0, rv al, iv (4 : Int32), iv (0 : Int32), oU] [(.ref w0)])) _
    refine XS.astore X1.here hx rfl (hb hby d1_17) rfl rfl (l' := #[iv p0, rv al, iv (4 : Int32), iv (0 : Int32), rv w0]) rfl ?_
    show Steps p.tables e below (T1.setTop (mkF m 19 #[iv p0, rv al, iv (4 : Int32), iv (0 : Int32), rv w0] [])) _
    refine XS.aload X1.here hx rfl (hb hby d1_19) rfl rfl ?_
    show Steps p.tables e below (T1.setTop (mkF m 21 #[iv p0, rv al, iv (4 : Int32), iv (0 : Int32), rv w0] [(.ref w0)])) _
    exact k
  refine own_c1 (getF X1 hx hZ hown (host := "") (Or.inl (hw _ (List.mem_of_getElem? (i := 7) rfl))) Via.refl e1 F_id_w0 rfl rfl (hb hby d1_21)) fun T4 X4 e4 => ?_
  show own_Go p e below _ (T4.setTop (mkF m 24 #[iv p0, rv al, iv (4 : Int32), iv (0 : Int32), rv w0] [(.int (32770 : Int32))]))
  refine own_by (B := T4.setTop (mkF m 21 #[iv p0, rv al, iv (4 : Int32), iv (1 : Int32), rv w1] [(.ref w1)])) (fun t k => ?_) ?_
  · show Steps p.tables e below (T4.setTop (mkF m 24 #[iv p0, rv al, iv (4 : Int32), iv (0 : Int32), rv w0] [(.int (32770 : Int32))])) _
    refine XS.iloadN X4.here hx rfl (hb hby d1_24) rfl ?_
    show Steps p.tables e below (T4.setTop (mkF m 25 #[iv p0, rv al, iv (4 : Int32), iv (0 : Int32), rv w0] [(.int p0), (.int (32770 : Int32))])) _
    refine XS.icmpYes X4.here hx rfl (pc0 := 25) (pc' := 31) rfl (hb hby d1_25) rfl (feq hp0).2 (by decide) (by decide) ?_
    show Steps p.tables e below (T4.setTop (mkF m 31 #[iv p0, rv al, iv (4 : Int32), iv (0 : Int32), rv w0] [])) _
    refine XS.iinc X4.here hx rfl (hb hby d1_31) rfl (l' := #[iv p0, rv al, iv (4 : Int32), iv (1 : Int32), rv w0]) rfl ?_
    show Steps p.tables e below (T4.setTop (mkF m 34 #[iv p0, rv al, iv (4 : Int32), iv (1 : Int32), rv w0] [])) _
    refine XS.goto X4.here hx rfl (pc0 := 34) (pc' := 9) rfl (hb hby d1_34) (by decide) (by decide) ?_
    show Steps p.tables e below (T4.setTop (mkF m 9 #[iv p0, rv al, iv (4 : Int32), iv (1 : Int32), rv w0] [])) _
    refine XS.iloadN X4.here hx rfl (hb hby d1_9) rfl ?_
    show Steps p.tables e below (T4.setTop (mkF m 10 #[iv p0, rv al, iv (4 : Int32), iv (1 : Int32), rv w0] [(.int (1 : Int32))])) _
    refine XS.iloadN X4.here hx rfl (hb hby d1_10) rfl ?_
    show Steps p.tables e below (T4.setTop (mkF m 11 #[iv p0, rv al, iv (4 : Int32), iv (1 : Int32), rv w0] [(.int (4 : Int32)), (.int (1 : Int32))])) _
    refine XS.icmpNo X4.here hx rfl (hb hby d1_11) rfl (tlt (by decide : (1 : Int32) < (4 : Int32))).2.1 ?_
    show Steps p.tables e below (T4.setTop (mkF m 14 #[iv p0, rv al, iv (4 : Int32), iv (1 : Int32), rv w0] [])) _
    refine XS.aloadN X4.here hx rfl (hb hby d1_14) rfl rfl ?_
    show Steps p.tables e below (T4.setTop (mkF m 15 #[iv p0, rv al, iv (4 : Int32), iv (1 : Int32), rv w0] [(.ref al)])) _
    refine XS.iloadN X4.here hx rfl (hb hby d1_15) rfl ?_
    show Steps p.tables e below (T4.setTop (mkF m 16 #[iv p0, rv al, iv (4 : Int32), iv (1 : Int32), rv w0] [(.int (1 : Int32)), (.ref al)])) _
    obtain ⟨cl5, Ar5, q5, S5, N5, H5, G5⟩ := id V_al
    have hin5 : ¬ ((1 : Int32) < 0 ∨ cl5.slots.size ≤ ((1 : Int32)).toNatClampNeg) := inb_of S5 ⟨by decide, by decide⟩
    have hat5 : cl5.slots[((1 : Int32)).toNatClampNeg]? = some (.ref w1) := H5.at hin5 rfl
    refine X4.aaload hx (j := (1 : Int32)) (v := (.ref w1)) (by rw [show T4.heap = h0 from e4]; exact Ar5.1) (State.isArrayOf_alike hZ.alike Ar5.2.1) rfl Ar5.2.2 hin5 hat5 (g := (mkF m 16 #[iv p0, rv al, iv (4 : Int32), iv (1 : Int32), rv w0] [(.int (1 : Int32)), (.ref al)])) rfl rfl (hb hby d1_16) _ ?_
    show Steps p.tables e below (T4.setTop (mkF m 17 #[iv p0, rv al, iv (4 : Int32), iv (1 : Int32), rv w0] [(.ref w1)])) _
    refine XS.astore X4.here hx rfl (hb hby d1_17) rfl rfl (l' := #[iv p0, rv al, iv (4 : Int32), iv (1 : Int32), rv w1]) rfl ?_
    show Steps p.tables e below (T4.setTop (mkF m 19 #[iv p0, rv al, iv (4 : Int32), iv (1 : Int32), rv w1] [])) _
    refine XS.aload X4.here hx rfl (hb hby d1_19) rfl rfl ?_
    show Steps p.tables e below (T4.setTop (mkF m 21 #[iv p0, rv al, iv (4 : Int32), iv (1 : Int32), rv w1] [(.ref w1)])) _
    exact k
  refine own_c1 (getF X4 hx hZ hown (host := "") (Or.inl (hw _ (List.mem_of_getElem? (i := 7) rfl))) Via.refl e4 F_id_w1 rfl rfl (hb hby d1_21)) fun T6 X6 e6 => ?_
  show own_Go p e below _ (T6.setTop (mkF m 24 #[iv p0, rv al, iv (4 : Int32), iv (1 : Int32), rv w1] [(.int (32771 : Int32))]))
  refine own_by (B := T6.setTop (mkF m 30 #[iv p0, rv al, iv (4 : Int32), iv (1 : Int32), rv w1] [(.ref w1)])) (fun t k => ?_) ?_
  · show Steps p.tables e below (T6.setTop (mkF m 24 #[iv p0, rv al, iv (4 : Int32), iv (1 : Int32), rv w1] [(.int (32771 : Int32))])) _
    refine XS.iloadN X6.here hx rfl (hb hby d1_24) rfl ?_
    show Steps p.tables e below (T6.setTop (mkF m 25 #[iv p0, rv al, iv (4 : Int32), iv (1 : Int32), rv w1] [(.int p0), (.int (32771 : Int32))])) _
    refine XS.icmpNo X6.here hx rfl (hb hby d1_25) rfl (teq hp1).2 ?_
    show Steps p.tables e below (T6.setTop (mkF m 28 #[iv p0, rv al, iv (4 : Int32), iv (1 : Int32), rv w1] [])) _
    refine XS.aload X6.here hx rfl (hb hby d1_28) rfl rfl ?_
    show Steps p.tables e below (T6.setTop (mkF m 30 #[iv p0, rv al, iv (4 : Int32), iv (1 : Int32), rv w1] [(.ref w1)])) _
    exact k
  exact own_retR X6 Bd.notSynchronized hx Bd.returns rfl rfl rfl (hb hby d1_30) (by
      rw [show T6.heap = h0 from e6]
      exact ⟨rfl, N0, rfl⟩) (by decide) (by decide)

theorem d2_10 : decode method_3_code 10 = .ok (.iload_n 0, 1) := by decide +kernel
theorem d2_11 : decode method_3_code 11 = .ok (.ldc 25, 2) := by decide +kernel
theorem d2_13 : decode method_3_code 13 = .ok (.if_icmp .ne 7, 3) := by decide +kernel
theorem d2_16 : decode method_3_code 16 = .ok (.getstatic 26, 3) := by decide +kernel
theorem d2_19 : decode method_3_code 19 = .ok (.areturn, 1) := by decide +kernel
def Q2_1 (Z : State) (p0 : Int32) (w1 : Addr) (h0 : Heap) (n0 : Nat) (v : Option Value) (h : Heap) (L : List Loc) : Prop := v = some (.ref w1) ∧ Fr n0 L ∧ h = h0
set_option maxRecDepth 65536 in
set_option maxHeartbeats 40000000 in
theorem rm2_1 (l : Launch) (Z : State) (a0 : Array Value) (hw : ∀ d ∈ tables_1, d.before a0 Z = true) (ws : List Jvm.Cond) (p0 : Int32) (w1 : Addr) (h0 : Heap) (n0 : Nat) (Z0 : n0 ≤ h0.size) (OZ : Old Z n0 h0) (S_TOPS_1_6 : Sta Z Z.heap "com/example/tidebook/tidebook/io/Protocol" "TOPS_1_6" "Lcom/example/tidebook/tidebook/io/Protocol;" (.ref w1)) (hp0 : ¬ (p0 = (32770 : Int32))) (hp1 : p0 = (32771 : Int32)) :
    MetFree l (⟨"com/example/tidebook/tidebook/io/ProtocolOfPinLaw", "expected", "(I)Lcom/example/tidebook/tidebook/io/Protocol;"⟩ : MethodName) (head1 (Jvm.Cond.code (⟨"com/example/tidebook/tidebook/io/ProtocolOfPinLaw", "expected", "(I)Lcom/example/tidebook/tidebook/io/Protocol;"⟩ : MethodName) method_3_code 1 (some (.object "com/example/tidebook/tidebook/io/Protocol")) :: ws) ({ frames := 0, cells := 0, slots := 0, locals := 0 } : Room)) (fun a U => a = #[(.int p0)] ∧ Z.Warmed39 U.vm ∧ U.heap = h0) (fun _ _ _ _ _ => True) (fun _ U o U' => ∃ v L, o = .returned v ∧ Q2_1 Z p0 w1 h0 n0 v U'.heap L ∧ FrameEnd U o U' L ({ frames := 0, cells := 0, slots := 0, locals := 0 } : Room).cells ({ frames := 0, cells := 0, slots := 0, locals := 0 } : Room).slots) := by
  refine MetFree.of_bodySF (plainFor_of_name pn_2) hisR ?_
  intro p e s m args below meth c s₁ Bd hml0 hP hK
  obtain ⟨rfl, hZ, hh⟩ := hP
  have hx := Bd.exec
  have hby := Bd.bytes
  have hml : c.maxLocals = 1 := hml0
  have hown : s.vm.findClass "com/example/tidebook/tidebook/io/ProtocolOfPinLaw" = some m.cls := findClass_of_methodNamed Bd.named
  have hnm := (name_of_methodNamed Bd.named Bd.method).1
  have X0 : Stand p l e ({ frames := 0, cells := 0, slots := 0, locals := 0 } : Room) s m #[(.int p0)] below meth c s₁ [] 0 0 := Stand.of_body Bd
  have e0 : s₁.heap = h0 := by rw [← hh, Bd.state]; rfl
  have N0 := Fr.nil n0
  change own_Go p e below (own_Post s (Q2_1 Z p0 w1 h0 n0) ({ frames := 0, cells := 0, slots := 0, locals := 0 } : Room).cells ({ frames := 0, cells := 0, slots := 0, locals := 0 } : Room).slots) (s₁.setTop (entryFrame m #[(.int p0)] 1))
  refine own_by (fun t k => castTop (ef_2 m p0) k) ?_
  show own_Go p e below _ (s₁.setTop (mkF m 0 #[iv p0] []))
  refine own_by (B := s₁.setTop (mkF m 16 #[iv p0] [])) (fun t k => ?_) ?_
  · show Steps p.tables e below (s₁.setTop (mkF m 0 #[iv p0] [])) _
    refine XS.iloadN X0.here hx rfl (hb hby d2_0) rfl ?_
    show Steps p.tables e below (s₁.setTop (mkF m 1 #[iv p0] [(.int p0)])) _
    refine X0.ldcInt hx hown (mvT hZ (hw _ (List.mem_of_getElem? (i := 17) rfl))) (g := (mkF m 1 #[iv p0] [(.int p0)])) rfl (hb hby d2_1) _ ?_
    show Steps p.tables e below (s₁.setTop (mkF m 3 #[iv p0] [(.int (32770 : Int32)), (.int p0)])) _
    refine XS.icmpYes X0.here hx rfl (pc0 := 3) (pc' := 10) rfl (hb hby d2_3) rfl (feq hp0).2 (by decide) (by decide) ?_
    show Steps p.tables e below (s₁.setTop (mkF m 10 #[iv p0] [])) _
    refine XS.iloadN X0.here hx rfl (hb hby d2_10) rfl ?_
    show Steps p.tables e below (s₁.setTop (mkF m 11 #[iv p0] [(.int p0)])) _
    refine X0.ldcInt hx hown (mvT hZ (hw _ (List.mem_of_getElem? (i := 18) rfl))) (g := (mkF m 11 #[iv p0] [(.int p0)])) rfl (hb hby d2_11) _ ?_
    show Steps p.tables e below (s₁.setTop (mkF m 13 #[iv p0] [(.int (32771 : Int32)), (.int p0)])) _
    refine XS.icmpNo X0.here hx rfl (hb hby d2_13) rfl (teq hp1).2 ?_
    show Steps p.tables e below (s₁.setTop (mkF m 16 #[iv p0] [])) _
    exact k
  refine own_c1 (getS2 X0 hx hZ hown (host := "") (Or.inl (hw _ (List.mem_of_getElem? (i := 25) rfl))) Via.refl e0 (S_TOPS_1_6.ext OZ.2) rfl (hb hby d2_16)) fun T1 X1 e1 => ?_
  show own_Go p e below _ (T1.setTop (mkF m 19 #[iv p0] [(.ref w1)]))
  exact own_retR X1 Bd.notSynchronized hx Bd.returns rfl rfl rfl (hb hby d2_19) (by
      rw [show T1.heap = h0 from e1]
      exact ⟨rfl, N0, rfl⟩) (by decide) (by decide)

def Q1_2 (Z : State) (p0 : Int32) (al : Addr) (ka : ClassId) (w0 : Addr) (w1 : Addr) (w2 : Addr) (w3 : Addr) (h0 : Heap) (n0 : Nat) (v : Option Value) (h : Heap) (L : List Loc) : Prop := v = some (.ref w2) ∧ Fr n0 L ∧ h = h0
set_option maxRecDepth 65536 in
set_option maxHeartbeats 40000000 in
theorem rm1_2 (l : Launch) (Z : State) (a0 : Array Value) (hw : ∀ d ∈ tables_1, d.before a0 Z = true) (ws : List Jvm.Cond) (p0 : Int32) (al : Addr) (ka : ClassId) (w0 : Addr) (w1 : Addr) (w2 : Addr) (w3 : Addr) (h0 : Heap) (n0 : Nat) (Z0 : n0 ≤ h0.size) (OZ : Old Z n0 h0) (S_ALL : Sta Z Z.heap "com/example/tidebook/tidebook/io/Protocol" "ALL" "[Lcom/example/tidebook/tidebook/io/Protocol;" (.ref al)) (S_UNKNOWN : Sta Z Z.heap "com/example/tidebook/tidebook/io/Protocol" "UNKNOWN" "Lcom/example/tidebook/tidebook/io/Protocol;" (.ref w3)) (V_al : Arv Z h0 al ka (.object "com/example/tidebook/tidebook/io/Protocol") (4 : Int32) [(.ref w0), (.ref w1), (.ref w2), (.ref w3)] .null) (F_id_w0 : Fld Z h0 w0 "com/example/tidebook/tidebook/io/Protocol" "id" "I" (.int (32770 : Int32))) (F_id_w1 : Fld Z h0 w1 "com/example/tidebook/tidebook/io/Protocol" "id" "I" (.int (32771 : Int32))) (F_id_w2 : Fld Z h0 w2 "com/example/tidebook/tidebook/io/Protocol" "id" "I" (.int (32772 : Int32))) (F_id_w3 : Fld Z h0 w3 "com/example/tidebook/tidebook/io/Protocol" "id" "I" (.int (-1 : Int32))) (hp0 : ¬ ((32770 : Int32) = p0)) (hp1 : ¬ ((32771 : Int32) = p0)) (hp2 : (32772 : Int32) = p0) :
    MetFree l (⟨"com/example/tidebook/tidebook/io/Protocol", "of", "(I)Lcom/example/tidebook/tidebook/io/Protocol;"⟩ : MethodName) (head1 (Jvm.Cond.code (⟨"com/example/tidebook/tidebook/io/Protocol", "of", "(I)Lcom/example/tidebook/tidebook/io/Protocol;"⟩ : MethodName) prog_27_method_4_code 5 (some (.object "com/example/tidebook/tidebook/io/Protocol")) :: ws) ({ frames := 0, cells := 0, slots := 0, locals := 0 } : Room)) (fun a U => a = #[(.int p0)] ∧ Z.Warmed39 U.vm ∧ U.heap = h0) (fun _ _ _ _ _ => True) (fun _ U o U' => ∃ v L, o = .returned v ∧ Q1_2 Z p0 al ka w0 w1 w2 w3 h0 n0 v U'.heap L ∧ FrameEnd U o U' L ({ frames := 0, cells := 0, slots := 0, locals := 0 } : Room).cells ({ frames := 0, cells := 0, slots := 0, locals := 0 } : Room).slots) := by
  refine MetFree.of_bodySF (plainFor_of_name pn_1) hisR ?_
  intro p e s m args below meth c s₁ Bd hml0 hP hK
  obtain ⟨rfl, hZ, hh⟩ := hP
  have hx := Bd.exec
  have hby := Bd.bytes
  have hml : c.maxLocals = 5 := hml0
  have hown : s.vm.findClass "com/example/tidebook/tidebook/io/Protocol" = some m.cls := findClass_of_methodNamed Bd.named
  have hnm := (name_of_methodNamed Bd.named Bd.method).1
  have X0 : Stand p l e ({ frames := 0, cells := 0, slots := 0, locals := 0 } : Room) s m #[(.int p0)] below meth c s₁ [] 0 0 := Stand.of_body Bd
  have e0 : s₁.heap = h0 := by rw [← hh, Bd.state]; rfl
  have N0 := Fr.nil n0
  change own_Go p e below (own_Post s (Q1_2 Z p0 al ka w0 w1 w2 w3 h0 n0) ({ frames := 0, cells := 0, slots := 0, locals := 0 } : Room).cells ({ frames := 0, cells := 0, slots := 0, locals := 0 } : Room).slots) (s₁.setTop (entryFrame m #[(.int p0)] 5))
  refine own_by (fun t k => castTop (ef_1 m p0) k) ?_
  show own_Go p e below _ (s₁.setTop (mkF m 0 #[iv p0, oU, oU, oU, oU] []))
  refine own_c1 (getS2 X0 hx hZ hown (host := "") (Or.inl (hw _ (List.mem_of_getElem? (i := 4) rfl))) Via.refl e0 (S_ALL.ext OZ.2) rfl (hb hby d1_0)) fun T1 X1 e1 => ?_
  show own_Go p e below _ (T1.setTop (mkF m 3 #[iv p0, oU, oU, oU, oU] [(.ref al)]))
  refine own_by (B := T1.setTop (mkF m 21 #[iv p0, rv al, iv (4 : Int32), iv (0 : Int32), rv w0] [(.ref w0)])) (fun t k => ?_) ?_
  · show Steps p.tables e below (T1.setTop (mkF m 3 #[iv p0, oU, oU, oU, oU] [(.ref al)])) _
    refine XS.astoreN X1.here hx rfl (hb hby d1_3) rfl rfl (l' := #[iv p0, rv al, oU, oU, oU]) rfl ?_
    show Steps p.tables e below (T1.setTop (mkF m 4 #[iv p0, rv al, oU, oU, oU] [])) _
    refine XS.aloadN X1.here hx rfl (hb hby d1_4) rfl rfl ?_
    show Steps p.tables e below (T1.setTop (mkF m 5 #[iv p0, rv al, oU, oU, oU] [(.ref al)])) _
    obtain ⟨cl2, Ar2, -, S2, N2, -, -⟩ := id V_al
    refine X1.arraylength hx (by rw [show T1.heap = h0 from e1]; exact Ar2.1) (State.isArrayOf_alike hZ.alike Ar2.2.1) (g := (mkF m 5 #[iv p0, rv al, oU, oU, oU] [(.ref al)])) rfl rfl (hb hby d1_5) _ ?_
    rw [len_of S2 N2]
    show Steps p.tables e below (T1.setTop (mkF m 6 #[iv p0, rv al, oU, oU, oU] [(.int (4 : Int32))])) _
    refine XS.istoreN X1.here hx rfl (hb hby d1_6) rfl (l' := #[iv p0, rv al, iv (4 : Int32), oU, oU]) rfl ?_
    show Steps p.tables e below (T1.setTop (mkF m 7 #[iv p0, rv al, iv (4 : Int32), oU, oU] [])) _
    refine XS.iconst X1.here hx rfl (hb hby d1_7) ?_
    show Steps p.tables e below (T1.setTop (mkF m 8 #[iv p0, rv al, iv (4 : Int32), oU, oU] [(.int (0 : Int32))])) _
    refine XS.istoreN X1.here hx rfl (hb hby d1_8) rfl (l' := #[iv p0, rv al, iv (4 : Int32), iv (0 : Int32), oU]) rfl ?_
    show Steps p.tables e below (T1.setTop (mkF m 9 #[iv p0, rv al, iv (4 : Int32), iv (0 : Int32), oU] [])) _
    refine XS.iloadN X1.here hx rfl (hb hby d1_9) rfl ?_
    show Steps p.tables e below (T1.setTop (mkF m 10 #[iv p0, rv al, iv (4 : Int32), iv (0 : Int32), oU] [(.int (0 : Int32))])) _
    refine XS.iloadN X1.here hx rfl (hb hby d1_10) rfl ?_
    show Steps p.tables e below (T1.setTop (mkF m 11 #[iv p0, rv al, iv (4 : Int32), iv (0 : Int32), oU] [(.int (4 : Int32)), (.int (0 : Int32))])) _
    refine XS.icmpNo X1.here hx rfl (hb hby d1_11) rfl (tlt (by decide : (0 : Int32) < (4 : Int32))).2.1 ?_
    show Steps p.tables e below (T1.setTop (mkF m 14 #[iv p0, rv al, iv (4 : Int32), iv (0 : Int32), oU] [])) _
    refine XS.aloadN X1.here hx rfl (hb hby d1_14) rfl rfl ?_
    show Steps p.tables e below (T1.setTop (mkF m 15 #[iv p0, rv al, iv (4 : Int32), iv (0 : Int32), oU] [(.ref al)])) _
    refine XS.iloadN X1.here hx rfl (hb hby d1_15) rfl ?_
    show Steps p.tables e below (T1.setTop (mkF m 16 #[iv p0, rv al, iv (4 : Int32), iv (0 : Int32), oU] [(.int (0 : Int32)), (.ref al)])) _
    obtain ⟨cl3, Ar3, q3, S3, N3, H3, G3⟩ := id V_al
    have hin3 : ¬ ((0 : Int32) < 0 ∨ cl3.slots.size ≤ ((0 : Int32)).toNatClampNeg) := inb_of S3 ⟨by decide, by decide⟩
    have hat3 : cl3.slots[((0 : Int32)).toNatClampNeg]? = some (.ref w0) := H3.at hin3 rfl
    refine X1.aaload hx (j := (0 : Int32)) (v := (.ref w0)) (by rw [show T1.heap = h0 from e1]; exact Ar3.1) (State.isArrayOf_alike hZ.alike Ar3.2.1) rfl Ar3.2.2 hin3 hat3 (g := (mkF m 16 #[iv p0, rv al, iv (4 : Int32), iv (0 : Int32), oU] [(.int (0 : Int32)), (.ref al)])) rfl rfl (hb hby d1_16) _ ?_
    show Steps p.tables e below (T1.setTop (mkF m 17 #[iv p0, rv al, iv (4 : Int32), iv (0 : Int32), oU] [(.ref w0)])) _
    refine XS.astore X1.here hx rfl (hb hby d1_17) rfl rfl (l' := #[iv p0, rv al, iv (4 : Int32), iv (0 : Int32), rv w0]) rfl ?_
    show Steps p.tables e below (T1.setTop (mkF m 19 #[iv p0, rv al, iv (4 : Int32), iv (0 : Int32), rv w0] [])) _
    refine XS.aload X1.here hx rfl (hb hby d1_19) rfl rfl ?_
    show Steps p.tables e below (T1.setTop (mkF m 21 #[iv p0, rv al, iv (4 : Int32), iv (0 : Int32), rv w0] [(.ref w0)])) _
    exact k
  refine own_c1 (getF X1 hx hZ hown (host := "") (Or.inl (hw _ (List.mem_of_getElem? (i := 7) rfl))) Via.refl e1 F_id_w0 rfl rfl (hb hby d1_21)) fun T4 X4 e4 => ?_
  show own_Go p e below _ (T4.setTop (mkF m 24 #[iv p0, rv al, iv (4 : Int32), iv (0 : Int32), rv w0] [(.int (32770 : Int32))]))
  refine own_by (B := T4.setTop (mkF m 21 #[iv p0, rv al, iv (4 : Int32), iv (1 : Int32), rv w1] [(.ref w1)])) (fun t k => ?_) ?_
  · show Steps p.tables e below (T4.setTop (mkF m 24 #[iv p0, rv al, iv (4 : Int32), iv (0 : Int32), rv w0] [(.int (32770 : Int32))])) _
    refine XS.iloadN X4.here hx rfl (hb hby d1_24) rfl ?_
    show Steps p.tables e below (T4.setTop (mkF m 25 #[iv p0, rv al, iv (4 : Int32), iv (0 : Int32), rv w0] [(.int p0), (.int (32770 : Int32))])) _
    refine XS.icmpYes X4.here hx rfl (pc0 := 25) (pc' := 31) rfl (hb hby d1_25) rfl (feq hp0).2 (by decide) (by decide) ?_
    show Steps p.tables e below (T4.setTop (mkF m 31 #[iv p0, rv al, iv (4 : Int32), iv (0 : Int32), rv w0] [])) _
    refine XS.iinc X4.here hx rfl (hb hby d1_31) rfl (l' := #[iv p0, rv al, iv (4 : Int32), iv (1 : Int32), rv w0]) rfl ?_
    show Steps p.tables e below (T4.setTop (mkF m 34 #[iv p0, rv al, iv (4 : Int32), iv (1 : Int32), rv w0] [])) _
    refine XS.goto X4.here hx rfl (pc0 := 34) (pc' := 9) rfl (hb hby d1_34) (by decide) (by decide) ?_
    show Steps p.tables e below (T4.setTop (mkF m 9 #[iv p0, rv al, iv (4 : Int32), iv (1 : Int32), rv w0] [])) _
    refine XS.iloadN X4.here hx rfl (hb hby d1_9) rfl ?_
    show Steps p.tables e below (T4.setTop (mkF m 10 #[iv p0, rv al, iv (4 : Int32), iv (1 : Int32), rv w0] [(.int (1 : Int32))])) _
    refine XS.iloadN X4.here hx rfl (hb hby d1_10) rfl ?_
    show Steps p.tables e below (T4.setTop (mkF m 11 #[iv p0, rv al, iv (4 : Int32), iv (1 : Int32), rv w0] [(.int (4 : Int32)), (.int (1 : Int32))])) _
    refine XS.icmpNo X4.here hx rfl (hb hby d1_11) rfl (tlt (by decide : (1 : Int32) < (4 : Int32))).2.1 ?_
    show Steps p.tables e below (T4.setTop (mkF m 14 #[iv p0, rv al, iv (4 : Int32), iv (1 : Int32), rv w0] [])) _
    refine XS.aloadN X4.here hx rfl (hb hby d1_14) rfl rfl ?_
    show Steps p.tables e below (T4.setTop (mkF m 15 #[iv p0, rv al, iv (4 : Int32), iv (1 : Int32), rv w0] [(.ref al)])) _
    refine XS.iloadN X4.here hx rfl (hb hby d1_15) rfl ?_
    show Steps p.tables e below (T4.setTop (mkF m 16 #[iv p0, rv al, iv (4 : Int32), iv (1 : Int32), rv w0] [(.int (1 : Int32)), (.ref al)])) _
    obtain ⟨cl5, Ar5, q5, S5, N5, H5, G5⟩ := id V_al
    have hin5 : ¬ ((1 : Int32) < 0 ∨ cl5.slots.size ≤ ((1 : Int32)).toNatClampNeg) := inb_of S5 ⟨by decide, by decide⟩
    have hat5 : cl5.slots[((1 : Int32)).toNatClampNeg]? = some (.ref w1) := H5.at hin5 rfl
    refine X4.aaload hx (j := (1 : Int32)) (v := (.ref w1)) (by rw [show T4.heap = h0 from e4]; exact Ar5.1) (State.isArrayOf_alike hZ.alike Ar5.2.1) rfl Ar5.2.2 hin5 hat5 (g := (mkF m 16 #[iv p0, rv al, iv (4 : Int32), iv (1 : Int32), rv w0] [(.int (1 : Int32)), (.ref al)])) rfl rfl (hb hby d1_16) _ ?_
    show Steps p.tables e below (T4.setTop (mkF m 17 #[iv p0, rv al, iv (4 : Int32), iv (1 : Int32), rv w0] [(.ref w1)])) _
    refine XS.astore X4.here hx rfl (hb hby d1_17) rfl rfl (l' := #[iv p0, rv al, iv (4 : Int32), iv (1 : Int32), rv w1]) rfl ?_
    show Steps p.tables e below (T4.setTop (mkF m 19 #[iv p0, rv al, iv (4 : Int32), iv (1 : Int32), rv w1] [])) _
    refine XS.aload X4.here hx rfl (hb hby d1_19) rfl rfl ?_
    show Steps p.tables e below (T4.setTop (mkF m 21 #[iv p0, rv al, iv (4 : Int32), iv (1 : Int32), rv w1] [(.ref w1)])) _
    exact k
  refine own_c1 (getF X4 hx hZ hown (host := "") (Or.inl (hw _ (List.mem_of_getElem? (i := 7) rfl))) Via.refl e4 F_id_w1 rfl rfl (hb hby d1_21)) fun T6 X6 e6 => ?_
  show own_Go p e below _ (T6.setTop (mkF m 24 #[iv p0, rv al, iv (4 : Int32), iv (1 : Int32), rv w1] [(.int (32771 : Int32))]))
  refine own_by (B := T6.setTop (mkF m 21 #[iv p0, rv al, iv (4 : Int32), iv (2 : Int32), rv w2] [(.ref w2)])) (fun t k => ?_) ?_
  · show Steps p.tables e below (T6.setTop (mkF m 24 #[iv p0, rv al, iv (4 : Int32), iv (1 : Int32), rv w1] [(.int (32771 : Int32))])) _
    refine XS.iloadN X6.here hx rfl (hb hby d1_24) rfl ?_
    show Steps p.tables e below (T6.setTop (mkF m 25 #[iv p0, rv al, iv (4 : Int32), iv (1 : Int32), rv w1] [(.int p0), (.int (32771 : Int32))])) _
    refine XS.icmpYes X6.here hx rfl (pc0 := 25) (pc' := 31) rfl (hb hby d1_25) rfl (feq hp1).2 (by decide) (by decide) ?_
    show Steps p.tables e below (T6.setTop (mkF m 31 #[iv p0, rv al, iv (4 : Int32), iv (1 : Int32), rv w1] [])) _
    refine XS.iinc X6.here hx rfl (hb hby d1_31) rfl (l' := #[iv p0, rv al, iv (4 : Int32), iv (2 : Int32), rv w1]) rfl ?_
    show Steps p.tables e below (T6.setTop (mkF m 34 #[iv p0, rv al, iv (4 : Int32), iv (2 : Int32), rv w1] [])) _
    refine XS.goto X6.here hx rfl (pc0 := 34) (pc' := 9) rfl (hb hby d1_34) (by decide) (by decide) ?_
    show Steps p.tables e below (T6.setTop (mkF m 9 #[iv p0, rv al, iv (4 : Int32), iv (2 : Int32), rv w1] [])) _
    refine XS.iloadN X6.here hx rfl (hb hby d1_9) rfl ?_
    show Steps p.tables e below (T6.setTop (mkF m 10 #[iv p0, rv al, iv (4 : Int32), iv (2 : Int32), rv w1] [(.int (2 : Int32))])) _
    refine XS.iloadN X6.here hx rfl (hb hby d1_10) rfl ?_
    show Steps p.tables e below (T6.setTop (mkF m 11 #[iv p0, rv al, iv (4 : Int32), iv (2 : Int32), rv w1] [(.int (4 : Int32)), (.int (2 : Int32))])) _
    refine XS.icmpNo X6.here hx rfl (hb hby d1_11) rfl (tlt (by decide : (2 : Int32) < (4 : Int32))).2.1 ?_
    show Steps p.tables e below (T6.setTop (mkF m 14 #[iv p0, rv al, iv (4 : Int32), iv (2 : Int32), rv w1] [])) _
    refine XS.aloadN X6.here hx rfl (hb hby d1_14) rfl rfl ?_
    show Steps p.tables e below (T6.setTop (mkF m 15 #[iv p0, rv al, iv (4 : Int32), iv (2 : Int32), rv w1] [(.ref al)])) _
    refine XS.iloadN X6.here hx rfl (hb hby d1_15) rfl ?_
    show Steps p.tables e below (T6.setTop (mkF m 16 #[iv p0, rv al, iv (4 : Int32), iv (2 : Int32), rv w1] [(.int (2 : Int32)), (.ref al)])) _
    obtain ⟨cl7, Ar7, q7, S7, N7, H7, G7⟩ := id V_al
    have hin7 : ¬ ((2 : Int32) < 0 ∨ cl7.slots.size ≤ ((2 : Int32)).toNatClampNeg) := inb_of S7 ⟨by decide, by decide⟩
    have hat7 : cl7.slots[((2 : Int32)).toNatClampNeg]? = some (.ref w2) := H7.at hin7 rfl
    refine X6.aaload hx (j := (2 : Int32)) (v := (.ref w2)) (by rw [show T6.heap = h0 from e6]; exact Ar7.1) (State.isArrayOf_alike hZ.alike Ar7.2.1) rfl Ar7.2.2 hin7 hat7 (g := (mkF m 16 #[iv p0, rv al, iv (4 : Int32), iv (2 : Int32), rv w1] [(.int (2 : Int32)), (.ref al)])) rfl rfl (hb hby d1_16) _ ?_
    show Steps p.tables e below (T6.setTop (mkF m 17 #[iv p0, rv al, iv (4 : Int32), iv (2 : Int32), rv w1] [(.ref w2)])) _
    refine XS.astore X6.here hx rfl (hb hby d1_17) rfl rfl (l' := #[iv p0, rv al, iv (4 : Int32), iv (2 : Int32), rv w2]) rfl ?_
    show Steps p.tables e below (T6.setTop (mkF m 19 #[iv p0, rv al, iv (4 : Int32), iv (2 : Int32), rv w2] [])) _
    refine XS.aload X6.here hx rfl (hb hby d1_19) rfl rfl ?_
    show Steps p.tables e below (T6.setTop (mkF m 21 #[iv p0, rv al, iv (4 : Int32), iv (2 : Int32), rv w2] [(.ref w2)])) _
    exact k
  refine own_c1 (getF X6 hx hZ hown (host := "") (Or.inl (hw _ (List.mem_of_getElem? (i := 7) rfl))) Via.refl e6 F_id_w2 rfl rfl (hb hby d1_21)) fun T8 X8 e8 => ?_
  show own_Go p e below _ (T8.setTop (mkF m 24 #[iv p0, rv al, iv (4 : Int32), iv (2 : Int32), rv w2] [(.int (32772 : Int32))]))
  refine own_by (B := T8.setTop (mkF m 30 #[iv p0, rv al, iv (4 : Int32), iv (2 : Int32), rv w2] [(.ref w2)])) (fun t k => ?_) ?_
  · show Steps p.tables e below (T8.setTop (mkF m 24 #[iv p0, rv al, iv (4 : Int32), iv (2 : Int32), rv w2] [(.int (32772 : Int32))])) _
    refine XS.iloadN X8.here hx rfl (hb hby d1_24) rfl ?_
    show Steps p.tables e below (T8.setTop (mkF m 25 #[iv p0, rv al, iv (4 : Int32), iv (2 : Int32), rv w2] [(.int p0), (.int (32772 : Int32))])) _
    refine XS.icmpNo X8.here hx rfl (hb hby d1_25) rfl (teq hp2).2 ?_
    show Steps p.tables e below (T8.setTop (mkF m 28 #[iv p0, rv al, iv (4 : Int32), iv (2 : Int32), rv w2] [])) _
    refine XS.aload X8.here hx rfl (hb hby d1_28) rfl rfl ?_
    show Steps p.tables e below (T8.setTop (mkF m 30 #[iv p0, rv al, iv (4 : Int32), iv (2 : Int32), rv w2] [(.ref w2)])) _
    exact k
  exact own_retR X8 Bd.notSynchronized hx Bd.returns rfl rfl rfl (hb hby d1_30) (by
      rw [show T8.heap = h0 from e8]
      exact ⟨rfl, N0, rfl⟩) (by decide) (by decide)

theorem d2_20 : decode method_3_code 20 = .ok (.iload_n 0, 1) := by decide +kernel
theorem d2_21 : decode method_3_code 21 = .ok (.ldc 29, 2) := by decide +kernel
theorem d2_23 : decode method_3_code 23 = .ok (.if_icmp .ne 7, 3) := by decide +kernel
theorem d2_26 : decode method_3_code 26 = .ok (.getstatic 30, 3) := by decide +kernel
theorem d2_29 : decode method_3_code 29 = .ok (.areturn, 1) := by decide +kernel
def Q2_2 (Z : State) (p0 : Int32) (w2 : Addr) (h0 : Heap) (n0 : Nat) (v : Option Value) (h : Heap) (L : List Loc) : Prop := v = some (.ref w2) ∧ Fr n0 L ∧ h = h0
set_option maxRecDepth 65536 in
set_option maxHeartbeats 40000000 in
theorem rm2_2 (l : Launch) (Z : State) (a0 : Array Value) (hw : ∀ d ∈ tables_1, d.before a0 Z = true) (ws : List Jvm.Cond) (p0 : Int32) (w2 : Addr) (h0 : Heap) (n0 : Nat) (Z0 : n0 ≤ h0.size) (OZ : Old Z n0 h0) (S_DEEP_1_0 : Sta Z Z.heap "com/example/tidebook/tidebook/io/Protocol" "DEEP_1_0" "Lcom/example/tidebook/tidebook/io/Protocol;" (.ref w2)) (hp0 : ¬ (p0 = (32770 : Int32))) (hp1 : ¬ (p0 = (32771 : Int32))) (hp2 : p0 = (32772 : Int32)) :
    MetFree l (⟨"com/example/tidebook/tidebook/io/ProtocolOfPinLaw", "expected", "(I)Lcom/example/tidebook/tidebook/io/Protocol;"⟩ : MethodName) (head1 (Jvm.Cond.code (⟨"com/example/tidebook/tidebook/io/ProtocolOfPinLaw", "expected", "(I)Lcom/example/tidebook/tidebook/io/Protocol;"⟩ : MethodName) method_3_code 1 (some (.object "com/example/tidebook/tidebook/io/Protocol")) :: ws) ({ frames := 0, cells := 0, slots := 0, locals := 0 } : Room)) (fun a U => a = #[(.int p0)] ∧ Z.Warmed39 U.vm ∧ U.heap = h0) (fun _ _ _ _ _ => True) (fun _ U o U' => ∃ v L, o = .returned v ∧ Q2_2 Z p0 w2 h0 n0 v U'.heap L ∧ FrameEnd U o U' L ({ frames := 0, cells := 0, slots := 0, locals := 0 } : Room).cells ({ frames := 0, cells := 0, slots := 0, locals := 0 } : Room).slots) := by
  refine MetFree.of_bodySF (plainFor_of_name pn_2) hisR ?_
  intro p e s m args below meth c s₁ Bd hml0 hP hK
  obtain ⟨rfl, hZ, hh⟩ := hP
  have hx := Bd.exec
  have hby := Bd.bytes
  have hml : c.maxLocals = 1 := hml0
  have hown : s.vm.findClass "com/example/tidebook/tidebook/io/ProtocolOfPinLaw" = some m.cls := findClass_of_methodNamed Bd.named
  have hnm := (name_of_methodNamed Bd.named Bd.method).1
  have X0 : Stand p l e ({ frames := 0, cells := 0, slots := 0, locals := 0 } : Room) s m #[(.int p0)] below meth c s₁ [] 0 0 := Stand.of_body Bd
  have e0 : s₁.heap = h0 := by rw [← hh, Bd.state]; rfl
  have N0 := Fr.nil n0
  change own_Go p e below (own_Post s (Q2_2 Z p0 w2 h0 n0) ({ frames := 0, cells := 0, slots := 0, locals := 0 } : Room).cells ({ frames := 0, cells := 0, slots := 0, locals := 0 } : Room).slots) (s₁.setTop (entryFrame m #[(.int p0)] 1))
  refine own_by (fun t k => castTop (ef_2 m p0) k) ?_
  show own_Go p e below _ (s₁.setTop (mkF m 0 #[iv p0] []))
  refine own_by (B := s₁.setTop (mkF m 26 #[iv p0] [])) (fun t k => ?_) ?_
  · show Steps p.tables e below (s₁.setTop (mkF m 0 #[iv p0] [])) _
    refine XS.iloadN X0.here hx rfl (hb hby d2_0) rfl ?_
    show Steps p.tables e below (s₁.setTop (mkF m 1 #[iv p0] [(.int p0)])) _
    refine X0.ldcInt hx hown (mvT hZ (hw _ (List.mem_of_getElem? (i := 17) rfl))) (g := (mkF m 1 #[iv p0] [(.int p0)])) rfl (hb hby d2_1) _ ?_
    show Steps p.tables e below (s₁.setTop (mkF m 3 #[iv p0] [(.int (32770 : Int32)), (.int p0)])) _
    refine XS.icmpYes X0.here hx rfl (pc0 := 3) (pc' := 10) rfl (hb hby d2_3) rfl (feq hp0).2 (by decide) (by decide) ?_
    show Steps p.tables e below (s₁.setTop (mkF m 10 #[iv p0] [])) _
    refine XS.iloadN X0.here hx rfl (hb hby d2_10) rfl ?_
    show Steps p.tables e below (s₁.setTop (mkF m 11 #[iv p0] [(.int p0)])) _
    refine X0.ldcInt hx hown (mvT hZ (hw _ (List.mem_of_getElem? (i := 18) rfl))) (g := (mkF m 11 #[iv p0] [(.int p0)])) rfl (hb hby d2_11) _ ?_
    show Steps p.tables e below (s₁.setTop (mkF m 13 #[iv p0] [(.int (32771 : Int32)), (.int p0)])) _
    refine XS.icmpYes X0.here hx rfl (pc0 := 13) (pc' := 20) rfl (hb hby d2_13) rfl (feq hp1).2 (by decide) (by decide) ?_
    show Steps p.tables e below (s₁.setTop (mkF m 20 #[iv p0] [])) _
    refine XS.iloadN X0.here hx rfl (hb hby d2_20) rfl ?_
    show Steps p.tables e below (s₁.setTop (mkF m 21 #[iv p0] [(.int p0)])) _
    refine X0.ldcInt hx hown (mvT hZ (hw _ (List.mem_of_getElem? (i := 19) rfl))) (g := (mkF m 21 #[iv p0] [(.int p0)])) rfl (hb hby d2_21) _ ?_
    show Steps p.tables e below (s₁.setTop (mkF m 23 #[iv p0] [(.int (32772 : Int32)), (.int p0)])) _
    refine XS.icmpNo X0.here hx rfl (hb hby d2_23) rfl (teq hp2).2 ?_
    show Steps p.tables e below (s₁.setTop (mkF m 26 #[iv p0] [])) _
    exact k
  refine own_c1 (getS2 X0 hx hZ hown (host := "") (Or.inl (hw _ (List.mem_of_getElem? (i := 24) rfl))) Via.refl e0 (S_DEEP_1_0.ext OZ.2) rfl (hb hby d2_26)) fun T1 X1 e1 => ?_
  show own_Go p e below _ (T1.setTop (mkF m 29 #[iv p0] [(.ref w2)]))
  exact own_retR X1 Bd.notSynchronized hx Bd.returns rfl rfl rfl (hb hby d2_29) (by
      rw [show T1.heap = h0 from e1]
      exact ⟨rfl, N0, rfl⟩) (by decide) (by decide)

theorem d1_37 : decode prog_27_method_4_code 37 = .ok (.getstatic 13, 3) := by decide +kernel
theorem d1_40 : decode prog_27_method_4_code 40 = .ok (.areturn, 1) := by decide +kernel
def Q1_3 (Z : State) (p0 : Int32) (al : Addr) (ka : ClassId) (w0 : Addr) (w1 : Addr) (w2 : Addr) (w3 : Addr) (h0 : Heap) (n0 : Nat) (v : Option Value) (h : Heap) (L : List Loc) : Prop := v = some (.ref w3) ∧ Fr n0 L ∧ h = h0
set_option maxRecDepth 65536 in
set_option maxHeartbeats 40000000 in
theorem rm1_3 (l : Launch) (Z : State) (a0 : Array Value) (hw : ∀ d ∈ tables_1, d.before a0 Z = true) (ws : List Jvm.Cond) (p0 : Int32) (al : Addr) (ka : ClassId) (w0 : Addr) (w1 : Addr) (w2 : Addr) (w3 : Addr) (h0 : Heap) (n0 : Nat) (Z0 : n0 ≤ h0.size) (OZ : Old Z n0 h0) (S_ALL : Sta Z Z.heap "com/example/tidebook/tidebook/io/Protocol" "ALL" "[Lcom/example/tidebook/tidebook/io/Protocol;" (.ref al)) (S_UNKNOWN : Sta Z Z.heap "com/example/tidebook/tidebook/io/Protocol" "UNKNOWN" "Lcom/example/tidebook/tidebook/io/Protocol;" (.ref w3)) (V_al : Arv Z h0 al ka (.object "com/example/tidebook/tidebook/io/Protocol") (4 : Int32) [(.ref w0), (.ref w1), (.ref w2), (.ref w3)] .null) (F_id_w0 : Fld Z h0 w0 "com/example/tidebook/tidebook/io/Protocol" "id" "I" (.int (32770 : Int32))) (F_id_w1 : Fld Z h0 w1 "com/example/tidebook/tidebook/io/Protocol" "id" "I" (.int (32771 : Int32))) (F_id_w2 : Fld Z h0 w2 "com/example/tidebook/tidebook/io/Protocol" "id" "I" (.int (32772 : Int32))) (F_id_w3 : Fld Z h0 w3 "com/example/tidebook/tidebook/io/Protocol" "id" "I" (.int (-1 : Int32))) (hp0 : ¬ ((32770 : Int32) = p0)) (hp1 : ¬ ((32771 : Int32) = p0)) (hp2 : ¬ ((32772 : Int32) = p0)) :
    MetFree l (⟨"com/example/tidebook/tidebook/io/Protocol", "of", "(I)Lcom/example/tidebook/tidebook/io/Protocol;"⟩ : MethodName) (head1 (Jvm.Cond.code (⟨"com/example/tidebook/tidebook/io/Protocol", "of", "(I)Lcom/example/tidebook/tidebook/io/Protocol;"⟩ : MethodName) prog_27_method_4_code 5 (some (.object "com/example/tidebook/tidebook/io/Protocol")) :: ws) ({ frames := 0, cells := 0, slots := 0, locals := 0 } : Room)) (fun a U => a = #[(.int p0)] ∧ Z.Warmed39 U.vm ∧ U.heap = h0) (fun _ _ _ _ _ => True) (fun _ U o U' => ∃ v L, o = .returned v ∧ Q1_3 Z p0 al ka w0 w1 w2 w3 h0 n0 v U'.heap L ∧ FrameEnd U o U' L ({ frames := 0, cells := 0, slots := 0, locals := 0 } : Room).cells ({ frames := 0, cells := 0, slots := 0, locals := 0 } : Room).slots) := by
  refine MetFree.of_bodySF (plainFor_of_name pn_1) hisR ?_
  intro p e s m args below meth c s₁ Bd hml0 hP hK
  obtain ⟨rfl, hZ, hh⟩ := hP
  have hx := Bd.exec
  have hby := Bd.bytes
  have hml : c.maxLocals = 5 := hml0
  have hown : s.vm.findClass "com/example/tidebook/tidebook/io/Protocol" = some m.cls := findClass_of_methodNamed Bd.named
  have hnm := (name_of_methodNamed Bd.named Bd.method).1
  have X0 : Stand p l e ({ frames := 0, cells := 0, slots := 0, locals := 0 } : Room) s m #[(.int p0)] below meth c s₁ [] 0 0 := Stand.of_body Bd
  have e0 : s₁.heap = h0 := by rw [← hh, Bd.state]; rfl
  have N0 := Fr.nil n0
  change own_Go p e below (own_Post s (Q1_3 Z p0 al ka w0 w1 w2 w3 h0 n0) ({ frames := 0, cells := 0, slots := 0, locals := 0 } : Room).cells ({ frames := 0, cells := 0, slots := 0, locals := 0 } : Room).slots) (s₁.setTop (entryFrame m #[(.int p0)] 5))
  refine own_by (fun t k => castTop (ef_1 m p0) k) ?_
  show own_Go p e below _ (s₁.setTop (mkF m 0 #[iv p0, oU, oU, oU, oU] []))
  refine own_c1 (getS2 X0 hx hZ hown (host := "") (Or.inl (hw _ (List.mem_of_getElem? (i := 4) rfl))) Via.refl e0 (S_ALL.ext OZ.2) rfl (hb hby d1_0)) fun T1 X1 e1 => ?_
  show own_Go p e below _ (T1.setTop (mkF m 3 #[iv p0, oU, oU, oU, oU] [(.ref al)]))
  refine own_by (B := T1.setTop (mkF m 21 #[iv p0, rv al, iv (4 : Int32), iv (0 : Int32), rv w0] [(.ref w0)])) (fun t k => ?_) ?_
  · show Steps p.tables e below (T1.setTop (mkF m 3 #[iv p0, oU, oU, oU, oU] [(.ref al)])) _
    refine XS.astoreN X1.here hx rfl (hb hby d1_3) rfl rfl (l' := #[iv p0, rv al, oU, oU, oU]) rfl ?_
    show Steps p.tables e below (T1.setTop (mkF m 4 #[iv p0, rv al, oU, oU, oU] [])) _
    refine XS.aloadN X1.here hx rfl (hb hby d1_4) rfl rfl ?_
    show Steps p.tables e below (T1.setTop (mkF m 5 #[iv p0, rv al, oU, oU, oU] [(.ref al)])) _
    obtain ⟨cl2, Ar2, -, S2, N2, -, -⟩ := id V_al
    refine X1.arraylength hx (by rw [show T1.heap = h0 from e1]; exact Ar2.1) (State.isArrayOf_alike hZ.alike Ar2.2.1) (g := (mkF m 5 #[iv p0, rv al, oU, oU, oU] [(.ref al)])) rfl rfl (hb hby d1_5) _ ?_
    rw [len_of S2 N2]
    show Steps p.tables e below (T1.setTop (mkF m 6 #[iv p0, rv al, oU, oU, oU] [(.int (4 : Int32))])) _
    refine XS.istoreN X1.here hx rfl (hb hby d1_6) rfl (l' := #[iv p0, rv al, iv (4 : Int32), oU, oU]) rfl ?_
    show Steps p.tables e below (T1.setTop (mkF m 7 #[iv p0, rv al, iv (4 : Int32), oU, oU] [])) _
    refine XS.iconst X1.here hx rfl (hb hby d1_7) ?_
    show Steps p.tables e below (T1.setTop (mkF m 8 #[iv p0, rv al, iv (4 : Int32), oU, oU] [(.int (0 : Int32))])) _
    refine XS.istoreN X1.here hx rfl (hb hby d1_8) rfl (l' := #[iv p0, rv al, iv (4 : Int32), iv (0 : Int32), oU]) rfl ?_
    show Steps p.tables e below (T1.setTop (mkF m 9 #[iv p0, rv al, iv (4 : Int32), iv (0 : Int32), oU] [])) _
    refine XS.iloadN X1.here hx rfl (hb hby d1_9) rfl ?_
    show Steps p.tables e below (T1.setTop (mkF m 10 #[iv p0, rv al, iv (4 : Int32), iv (0 : Int32), oU] [(.int (0 : Int32))])) _
    refine XS.iloadN X1.here hx rfl (hb hby d1_10) rfl ?_
    show Steps p.tables e below (T1.setTop (mkF m 11 #[iv p0, rv al, iv (4 : Int32), iv (0 : Int32), oU] [(.int (4 : Int32)), (.int (0 : Int32))])) _
    refine XS.icmpNo X1.here hx rfl (hb hby d1_11) rfl (tlt (by decide : (0 : Int32) < (4 : Int32))).2.1 ?_
    show Steps p.tables e below (T1.setTop (mkF m 14 #[iv p0, rv al, iv (4 : Int32), iv (0 : Int32), oU] [])) _
    refine XS.aloadN X1.here hx rfl (hb hby d1_14) rfl rfl ?_
    show Steps p.tables e below (T1.setTop (mkF m 15 #[iv p0, rv al, iv (4 : Int32), iv (0 : Int32), oU] [(.ref al)])) _
    refine XS.iloadN X1.here hx rfl (hb hby d1_15) rfl ?_
    show Steps p.tables e below (T1.setTop (mkF m 16 #[iv p0, rv al, iv (4 : Int32), iv (0 : Int32), oU] [(.int (0 : Int32)), (.ref al)])) _
    obtain ⟨cl3, Ar3, q3, S3, N3, H3, G3⟩ := id V_al
    have hin3 : ¬ ((0 : Int32) < 0 ∨ cl3.slots.size ≤ ((0 : Int32)).toNatClampNeg) := inb_of S3 ⟨by decide, by decide⟩
    have hat3 : cl3.slots[((0 : Int32)).toNatClampNeg]? = some (.ref w0) := H3.at hin3 rfl
    refine X1.aaload hx (j := (0 : Int32)) (v := (.ref w0)) (by rw [show T1.heap = h0 from e1]; exact Ar3.1) (State.isArrayOf_alike hZ.alike Ar3.2.1) rfl Ar3.2.2 hin3 hat3 (g := (mkF m 16 #[iv p0, rv al, iv (4 : Int32), iv (0 : Int32), oU] [(.int (0 : Int32)), (.ref al)])) rfl rfl (hb hby d1_16) _ ?_
    show Steps p.tables e below (T1.setTop (mkF m 17 #[iv p0, rv al, iv (4 : Int32), iv (0 : Int32), oU] [(.ref w0)])) _
    refine XS.astore X1.here hx rfl (hb hby d1_17) rfl rfl (l' := #[iv p0, rv al, iv (4 : Int32), iv (0 : Int32), rv w0]) rfl ?_
    show Steps p.tables e below (T1.setTop (mkF m 19 #[iv p0, rv al, iv (4 : Int32), iv (0 : Int32), rv w0] [])) _
    refine XS.aload X1.here hx rfl (hb hby d1_19) rfl rfl ?_
    show Steps p.tables e below (T1.setTop (mkF m 21 #[iv p0, rv al, iv (4 : Int32), iv (0 : Int32), rv w0] [(.ref w0)])) _
    exact k
  refine own_c1 (getF X1 hx hZ hown (host := "") (Or.inl (hw _ (List.mem_of_getElem? (i := 7) rfl))) Via.refl e1 F_id_w0 rfl rfl (hb hby d1_21)) fun T4 X4 e4 => ?_
  show own_Go p e below _ (T4.setTop (mkF m 24 #[iv p0, rv al, iv (4 : Int32), iv (0 : Int32), rv w0] [(.int (32770 : Int32))]))
  refine own_by (B := T4.setTop (mkF m 21 #[iv p0, rv al, iv (4 : Int32), iv (1 : Int32), rv w1] [(.ref w1)])) (fun t k => ?_) ?_
  · show Steps p.tables e below (T4.setTop (mkF m 24 #[iv p0, rv al, iv (4 : Int32), iv (0 : Int32), rv w0] [(.int (32770 : Int32))])) _
    refine XS.iloadN X4.here hx rfl (hb hby d1_24) rfl ?_
    show Steps p.tables e below (T4.setTop (mkF m 25 #[iv p0, rv al, iv (4 : Int32), iv (0 : Int32), rv w0] [(.int p0), (.int (32770 : Int32))])) _
    refine XS.icmpYes X4.here hx rfl (pc0 := 25) (pc' := 31) rfl (hb hby d1_25) rfl (feq hp0).2 (by decide) (by decide) ?_
    show Steps p.tables e below (T4.setTop (mkF m 31 #[iv p0, rv al, iv (4 : Int32), iv (0 : Int32), rv w0] [])) _
    refine XS.iinc X4.here hx rfl (hb hby d1_31) rfl (l' := #[iv p0, rv al, iv (4 : Int32), iv (1 : Int32), rv w0]) rfl ?_
    show Steps p.tables e below (T4.setTop (mkF m 34 #[iv p0, rv al, iv (4 : Int32), iv (1 : Int32), rv w0] [])) _
    refine XS.goto X4.here hx rfl (pc0 := 34) (pc' := 9) rfl (hb hby d1_34) (by decide) (by decide) ?_
    show Steps p.tables e below (T4.setTop (mkF m 9 #[iv p0, rv al, iv (4 : Int32), iv (1 : Int32), rv w0] [])) _
    refine XS.iloadN X4.here hx rfl (hb hby d1_9) rfl ?_
    show Steps p.tables e below (T4.setTop (mkF m 10 #[iv p0, rv al, iv (4 : Int32), iv (1 : Int32), rv w0] [(.int (1 : Int32))])) _
    refine XS.iloadN X4.here hx rfl (hb hby d1_10) rfl ?_
    show Steps p.tables e below (T4.setTop (mkF m 11 #[iv p0, rv al, iv (4 : Int32), iv (1 : Int32), rv w0] [(.int (4 : Int32)), (.int (1 : Int32))])) _
    refine XS.icmpNo X4.here hx rfl (hb hby d1_11) rfl (tlt (by decide : (1 : Int32) < (4 : Int32))).2.1 ?_
    show Steps p.tables e below (T4.setTop (mkF m 14 #[iv p0, rv al, iv (4 : Int32), iv (1 : Int32), rv w0] [])) _
    refine XS.aloadN X4.here hx rfl (hb hby d1_14) rfl rfl ?_
    show Steps p.tables e below (T4.setTop (mkF m 15 #[iv p0, rv al, iv (4 : Int32), iv (1 : Int32), rv w0] [(.ref al)])) _
    refine XS.iloadN X4.here hx rfl (hb hby d1_15) rfl ?_
    show Steps p.tables e below (T4.setTop (mkF m 16 #[iv p0, rv al, iv (4 : Int32), iv (1 : Int32), rv w0] [(.int (1 : Int32)), (.ref al)])) _
    obtain ⟨cl5, Ar5, q5, S5, N5, H5, G5⟩ := id V_al
    have hin5 : ¬ ((1 : Int32) < 0 ∨ cl5.slots.size ≤ ((1 : Int32)).toNatClampNeg) := inb_of S5 ⟨by decide, by decide⟩
    have hat5 : cl5.slots[((1 : Int32)).toNatClampNeg]? = some (.ref w1) := H5.at hin5 rfl
    refine X4.aaload hx (j := (1 : Int32)) (v := (.ref w1)) (by rw [show T4.heap = h0 from e4]; exact Ar5.1) (State.isArrayOf_alike hZ.alike Ar5.2.1) rfl Ar5.2.2 hin5 hat5 (g := (mkF m 16 #[iv p0, rv al, iv (4 : Int32), iv (1 : Int32), rv w0] [(.int (1 : Int32)), (.ref al)])) rfl rfl (hb hby d1_16) _ ?_
    show Steps p.tables e below (T4.setTop (mkF m 17 #[iv p0, rv al, iv (4 : Int32), iv (1 : Int32), rv w0] [(.ref w1)])) _
    refine XS.astore X4.here hx rfl (hb hby d1_17) rfl rfl (l' := #[iv p0, rv al, iv (4 : Int32), iv (1 : Int32), rv w1]) rfl ?_
    show Steps p.tables e below (T4.setTop (mkF m 19 #[iv p0, rv al, iv (4 : Int32), iv (1 : Int32), rv w1] [])) _
    refine XS.aload X4.here hx rfl (hb hby d1_19) rfl rfl ?_
    show Steps p.tables e below (T4.setTop (mkF m 21 #[iv p0, rv al, iv (4 : Int32), iv (1 : Int32), rv w1] [(.ref w1)])) _
    exact k
  refine own_c1 (getF X4 hx hZ hown (host := "") (Or.inl (hw _ (List.mem_of_getElem? (i := 7) rfl))) Via.refl e4 F_id_w1 rfl rfl (hb hby d1_21)) fun T6 X6 e6 => ?_
  show own_Go p e below _ (T6.setTop (mkF m 24 #[iv p0, rv al, iv (4 : Int32), iv (1 : Int32), rv w1] [(.int (32771 : Int32))]))
  refine own_by (B := T6.setTop (mkF m 21 #[iv p0, rv al, iv (4 : Int32), iv (2 : Int32), rv w2] [(.ref w2)])) (fun t k => ?_) ?_
  · show Steps p.tables e below (T6.setTop (mkF m 24 #[iv p0, rv al, iv (4 : Int32), iv (1 : Int32), rv w1] [(.int (32771 : Int32))])) _
    refine XS.iloadN X6.here hx rfl (hb hby d1_24) rfl ?_
    show Steps p.tables e below (T6.setTop (mkF m 25 #[iv p0, rv al, iv (4 : Int32), iv (1 : Int32), rv w1] [(.int p0), (.int (32771 : Int32))])) _
    refine XS.icmpYes X6.here hx rfl (pc0 := 25) (pc' := 31) rfl (hb hby d1_25) rfl (feq hp1).2 (by decide) (by decide) ?_
    show Steps p.tables e below (T6.setTop (mkF m 31 #[iv p0, rv al, iv (4 : Int32), iv (1 : Int32), rv w1] [])) _
    refine XS.iinc X6.here hx rfl (hb hby d1_31) rfl (l' := #[iv p0, rv al, iv (4 : Int32), iv (2 : Int32), rv w1]) rfl ?_
    show Steps p.tables e below (T6.setTop (mkF m 34 #[iv p0, rv al, iv (4 : Int32), iv (2 : Int32), rv w1] [])) _
    refine XS.goto X6.here hx rfl (pc0 := 34) (pc' := 9) rfl (hb hby d1_34) (by decide) (by decide) ?_
    show Steps p.tables e below (T6.setTop (mkF m 9 #[iv p0, rv al, iv (4 : Int32), iv (2 : Int32), rv w1] [])) _
    refine XS.iloadN X6.here hx rfl (hb hby d1_9) rfl ?_
    show Steps p.tables e below (T6.setTop (mkF m 10 #[iv p0, rv al, iv (4 : Int32), iv (2 : Int32), rv w1] [(.int (2 : Int32))])) _
    refine XS.iloadN X6.here hx rfl (hb hby d1_10) rfl ?_
    show Steps p.tables e below (T6.setTop (mkF m 11 #[iv p0, rv al, iv (4 : Int32), iv (2 : Int32), rv w1] [(.int (4 : Int32)), (.int (2 : Int32))])) _
    refine XS.icmpNo X6.here hx rfl (hb hby d1_11) rfl (tlt (by decide : (2 : Int32) < (4 : Int32))).2.1 ?_
    show Steps p.tables e below (T6.setTop (mkF m 14 #[iv p0, rv al, iv (4 : Int32), iv (2 : Int32), rv w1] [])) _
    refine XS.aloadN X6.here hx rfl (hb hby d1_14) rfl rfl ?_
    show Steps p.tables e below (T6.setTop (mkF m 15 #[iv p0, rv al, iv (4 : Int32), iv (2 : Int32), rv w1] [(.ref al)])) _
    refine XS.iloadN X6.here hx rfl (hb hby d1_15) rfl ?_
    show Steps p.tables e below (T6.setTop (mkF m 16 #[iv p0, rv al, iv (4 : Int32), iv (2 : Int32), rv w1] [(.int (2 : Int32)), (.ref al)])) _
    obtain ⟨cl7, Ar7, q7, S7, N7, H7, G7⟩ := id V_al
    have hin7 : ¬ ((2 : Int32) < 0 ∨ cl7.slots.size ≤ ((2 : Int32)).toNatClampNeg) := inb_of S7 ⟨by decide, by decide⟩
    have hat7 : cl7.slots[((2 : Int32)).toNatClampNeg]? = some (.ref w2) := H7.at hin7 rfl
    refine X6.aaload hx (j := (2 : Int32)) (v := (.ref w2)) (by rw [show T6.heap = h0 from e6]; exact Ar7.1) (State.isArrayOf_alike hZ.alike Ar7.2.1) rfl Ar7.2.2 hin7 hat7 (g := (mkF m 16 #[iv p0, rv al, iv (4 : Int32), iv (2 : Int32), rv w1] [(.int (2 : Int32)), (.ref al)])) rfl rfl (hb hby d1_16) _ ?_
    show Steps p.tables e below (T6.setTop (mkF m 17 #[iv p0, rv al, iv (4 : Int32), iv (2 : Int32), rv w1] [(.ref w2)])) _
    refine XS.astore X6.here hx rfl (hb hby d1_17) rfl rfl (l' := #[iv p0, rv al, iv (4 : Int32), iv (2 : Int32), rv w2]) rfl ?_
    show Steps p.tables e below (T6.setTop (mkF m 19 #[iv p0, rv al, iv (4 : Int32), iv (2 : Int32), rv w2] [])) _
    refine XS.aload X6.here hx rfl (hb hby d1_19) rfl rfl ?_
    show Steps p.tables e below (T6.setTop (mkF m 21 #[iv p0, rv al, iv (4 : Int32), iv (2 : Int32), rv w2] [(.ref w2)])) _
    exact k
  refine own_c1 (getF X6 hx hZ hown (host := "") (Or.inl (hw _ (List.mem_of_getElem? (i := 7) rfl))) Via.refl e6 F_id_w2 rfl rfl (hb hby d1_21)) fun T8 X8 e8 => ?_
  show own_Go p e below _ (T8.setTop (mkF m 24 #[iv p0, rv al, iv (4 : Int32), iv (2 : Int32), rv w2] [(.int (32772 : Int32))]))
  refine own_by (B := T8.setTop (mkF m 21 #[iv p0, rv al, iv (4 : Int32), iv (3 : Int32), rv w3] [(.ref w3)])) (fun t k => ?_) ?_
  · show Steps p.tables e below (T8.setTop (mkF m 24 #[iv p0, rv al, iv (4 : Int32), iv (2 : Int32), rv w2] [(.int (32772 : Int32))])) _
    refine XS.iloadN X8.here hx rfl (hb hby d1_24) rfl ?_
    show Steps p.tables e below (T8.setTop (mkF m 25 #[iv p0, rv al, iv (4 : Int32), iv (2 : Int32), rv w2] [(.int p0), (.int (32772 : Int32))])) _
    refine XS.icmpYes X8.here hx rfl (pc0 := 25) (pc' := 31) rfl (hb hby d1_25) rfl (feq hp2).2 (by decide) (by decide) ?_
    show Steps p.tables e below (T8.setTop (mkF m 31 #[iv p0, rv al, iv (4 : Int32), iv (2 : Int32), rv w2] [])) _
    refine XS.iinc X8.here hx rfl (hb hby d1_31) rfl (l' := #[iv p0, rv al, iv (4 : Int32), iv (3 : Int32), rv w2]) rfl ?_
    show Steps p.tables e below (T8.setTop (mkF m 34 #[iv p0, rv al, iv (4 : Int32), iv (3 : Int32), rv w2] [])) _
    refine XS.goto X8.here hx rfl (pc0 := 34) (pc' := 9) rfl (hb hby d1_34) (by decide) (by decide) ?_
    show Steps p.tables e below (T8.setTop (mkF m 9 #[iv p0, rv al, iv (4 : Int32), iv (3 : Int32), rv w2] [])) _
    refine XS.iloadN X8.here hx rfl (hb hby d1_9) rfl ?_
    show Steps p.tables e below (T8.setTop (mkF m 10 #[iv p0, rv al, iv (4 : Int32), iv (3 : Int32), rv w2] [(.int (3 : Int32))])) _
    refine XS.iloadN X8.here hx rfl (hb hby d1_10) rfl ?_
    show Steps p.tables e below (T8.setTop (mkF m 11 #[iv p0, rv al, iv (4 : Int32), iv (3 : Int32), rv w2] [(.int (4 : Int32)), (.int (3 : Int32))])) _
    refine XS.icmpNo X8.here hx rfl (hb hby d1_11) rfl (tlt (by decide : (3 : Int32) < (4 : Int32))).2.1 ?_
    show Steps p.tables e below (T8.setTop (mkF m 14 #[iv p0, rv al, iv (4 : Int32), iv (3 : Int32), rv w2] [])) _
    refine XS.aloadN X8.here hx rfl (hb hby d1_14) rfl rfl ?_
    show Steps p.tables e below (T8.setTop (mkF m 15 #[iv p0, rv al, iv (4 : Int32), iv (3 : Int32), rv w2] [(.ref al)])) _
    refine XS.iloadN X8.here hx rfl (hb hby d1_15) rfl ?_
    show Steps p.tables e below (T8.setTop (mkF m 16 #[iv p0, rv al, iv (4 : Int32), iv (3 : Int32), rv w2] [(.int (3 : Int32)), (.ref al)])) _
    obtain ⟨cl9, Ar9, q9, S9, N9, H9, G9⟩ := id V_al
    have hin9 : ¬ ((3 : Int32) < 0 ∨ cl9.slots.size ≤ ((3 : Int32)).toNatClampNeg) := inb_of S9 ⟨by decide, by decide⟩
    have hat9 : cl9.slots[((3 : Int32)).toNatClampNeg]? = some (.ref w3) := H9.at hin9 rfl
    refine X8.aaload hx (j := (3 : Int32)) (v := (.ref w3)) (by rw [show T8.heap = h0 from e8]; exact Ar9.1) (State.isArrayOf_alike hZ.alike Ar9.2.1) rfl Ar9.2.2 hin9 hat9 (g := (mkF m 16 #[iv p0, rv al, iv (4 : Int32), iv (3 : Int32), rv w2] [(.int (3 : Int32)), (.ref al)])) rfl rfl (hb hby d1_16) _ ?_
    show Steps p.tables e below (T8.setTop (mkF m 17 #[iv p0, rv al, iv (4 : Int32), iv (3 : Int32), rv w2] [(.ref w3)])) _
    refine XS.astore X8.here hx rfl (hb hby d1_17) rfl rfl (l' := #[iv p0, rv al, iv (4 : Int32), iv (3 : Int32), rv w3]) rfl ?_
    show Steps p.tables e below (T8.setTop (mkF m 19 #[iv p0, rv al, iv (4 : Int32), iv (3 : Int32), rv w3] [])) _
    refine XS.aload X8.here hx rfl (hb hby d1_19) rfl rfl ?_
    show Steps p.tables e below (T8.setTop (mkF m 21 #[iv p0, rv al, iv (4 : Int32), iv (3 : Int32), rv w3] [(.ref w3)])) _
    exact k
  refine own_c1 (getF X8 hx hZ hown (host := "") (Or.inl (hw _ (List.mem_of_getElem? (i := 7) rfl))) Via.refl e8 F_id_w3 rfl rfl (hb hby d1_21)) fun T10 X10 e10 => ?_
  show own_Go p e below _ (T10.setTop (mkF m 24 #[iv p0, rv al, iv (4 : Int32), iv (3 : Int32), rv w3] [(.int (-1 : Int32))]))
  refine own_by (B := T10.setTop (mkF m 25 #[iv p0, rv al, iv (4 : Int32), iv (3 : Int32), rv w3] [(.int p0), (.int (-1 : Int32))])) (fun t k => ?_) ?_
  · show Steps p.tables e below (T10.setTop (mkF m 24 #[iv p0, rv al, iv (4 : Int32), iv (3 : Int32), rv w3] [(.int (-1 : Int32))])) _
    refine XS.iloadN X10.here hx rfl (hb hby d1_24) rfl ?_
    show Steps p.tables e below (T10.setTop (mkF m 25 #[iv p0, rv al, iv (4 : Int32), iv (3 : Int32), rv w3] [(.int p0), (.int (-1 : Int32))])) _
    exact k
  by_cases hc11 : (-1 : Int32) = p0
  · skip
    refine own_by (fun t k => XS.icmpNo X10.here hx rfl (hb hby d1_25) rfl (teq hc11).2 k) ?_
    show own_Go p e below _ (T10.setTop (mkF m 28 #[iv p0, rv al, iv (4 : Int32), iv (3 : Int32), rv w3] []))
    refine own_by (B := T10.setTop (mkF m 30 #[iv p0, rv al, iv (4 : Int32), iv (3 : Int32), rv w3] [(.ref w3)])) (fun t k => ?_) ?_
    · show Steps p.tables e below (T10.setTop (mkF m 28 #[iv p0, rv al, iv (4 : Int32), iv (3 : Int32), rv w3] [])) _
      refine XS.aload X10.here hx rfl (hb hby d1_28) rfl rfl ?_
      show Steps p.tables e below (T10.setTop (mkF m 30 #[iv p0, rv al, iv (4 : Int32), iv (3 : Int32), rv w3] [(.ref w3)])) _
      exact k
    exact own_retR X10 Bd.notSynchronized hx Bd.returns rfl rfl rfl (hb hby d1_30) (by
        rw [show T10.heap = h0 from e10]
        exact ⟨rfl, N0, rfl⟩) (by decide) (by decide)
  · skip
    refine own_by (fun t k => XS.icmpYes X10.here hx rfl (pc0 := 25) (pc' := 31) rfl (hb hby d1_25) rfl (feq hc11).2 (by decide) (by decide) k) ?_
    show own_Go p e below _ (T10.setTop (mkF m 31 #[iv p0, rv al, iv (4 : Int32), iv (3 : Int32), rv w3] []))
    refine own_by (B := T10.setTop (mkF m 37 #[iv p0, rv al, iv (4 : Int32), iv (4 : Int32), rv w3] [])) (fun t k => ?_) ?_
    · show Steps p.tables e below (T10.setTop (mkF m 31 #[iv p0, rv al, iv (4 : Int32), iv (3 : Int32), rv w3] [])) _
      refine XS.iinc X10.here hx rfl (hb hby d1_31) rfl (l' := #[iv p0, rv al, iv (4 : Int32), iv (4 : Int32), rv w3]) rfl ?_
      show Steps p.tables e below (T10.setTop (mkF m 34 #[iv p0, rv al, iv (4 : Int32), iv (4 : Int32), rv w3] [])) _
      refine XS.goto X10.here hx rfl (pc0 := 34) (pc' := 9) rfl (hb hby d1_34) (by decide) (by decide) ?_
      show Steps p.tables e below (T10.setTop (mkF m 9 #[iv p0, rv al, iv (4 : Int32), iv (4 : Int32), rv w3] [])) _
      refine XS.iloadN X10.here hx rfl (hb hby d1_9) rfl ?_
      show Steps p.tables e below (T10.setTop (mkF m 10 #[iv p0, rv al, iv (4 : Int32), iv (4 : Int32), rv w3] [(.int (4 : Int32))])) _
      refine XS.iloadN X10.here hx rfl (hb hby d1_10) rfl ?_
      show Steps p.tables e below (T10.setTop (mkF m 11 #[iv p0, rv al, iv (4 : Int32), iv (4 : Int32), rv w3] [(.int (4 : Int32)), (.int (4 : Int32))])) _
      refine XS.icmpYes X10.here hx rfl (pc0 := 11) (pc' := 37) rfl (hb hby d1_11) rfl (flt (by decide : ¬ ((4 : Int32) < (4 : Int32)))).2.1 (by decide) (by decide) ?_
      show Steps p.tables e below (T10.setTop (mkF m 37 #[iv p0, rv al, iv (4 : Int32), iv (4 : Int32), rv w3] [])) _
      exact k
    refine own_c1 (getS2 X10 hx hZ hown (host := "") (Or.inl (hw _ (List.mem_of_getElem? (i := 12) rfl))) Via.refl e10 (S_UNKNOWN.ext OZ.2) rfl (hb hby d1_37)) fun T12 X12 e12 => ?_
    show own_Go p e below _ (T12.setTop (mkF m 40 #[iv p0, rv al, iv (4 : Int32), iv (4 : Int32), rv w3] [(.ref w3)]))
    exact own_retR X12 Bd.notSynchronized hx Bd.returns rfl rfl rfl (hb hby d1_40) (by
        rw [show T12.heap = h0 from e12]
        exact ⟨rfl, N0, rfl⟩) (by decide) (by decide)

theorem d2_30 : decode method_3_code 30 = .ok (.getstatic 33, 3) := by decide +kernel
theorem d2_33 : decode method_3_code 33 = .ok (.areturn, 1) := by decide +kernel
def Q2_3 (Z : State) (p0 : Int32) (w3 : Addr) (h0 : Heap) (n0 : Nat) (v : Option Value) (h : Heap) (L : List Loc) : Prop := v = some (.ref w3) ∧ Fr n0 L ∧ h = h0
set_option maxRecDepth 65536 in
set_option maxHeartbeats 40000000 in
theorem rm2_3 (l : Launch) (Z : State) (a0 : Array Value) (hw : ∀ d ∈ tables_1, d.before a0 Z = true) (ws : List Jvm.Cond) (p0 : Int32) (w3 : Addr) (h0 : Heap) (n0 : Nat) (Z0 : n0 ≤ h0.size) (OZ : Old Z n0 h0) (S_UNKNOWN : Sta Z Z.heap "com/example/tidebook/tidebook/io/Protocol" "UNKNOWN" "Lcom/example/tidebook/tidebook/io/Protocol;" (.ref w3)) (hp0 : ¬ (p0 = (32770 : Int32))) (hp1 : ¬ (p0 = (32771 : Int32))) (hp2 : ¬ (p0 = (32772 : Int32))) :
    MetFree l (⟨"com/example/tidebook/tidebook/io/ProtocolOfPinLaw", "expected", "(I)Lcom/example/tidebook/tidebook/io/Protocol;"⟩ : MethodName) (head1 (Jvm.Cond.code (⟨"com/example/tidebook/tidebook/io/ProtocolOfPinLaw", "expected", "(I)Lcom/example/tidebook/tidebook/io/Protocol;"⟩ : MethodName) method_3_code 1 (some (.object "com/example/tidebook/tidebook/io/Protocol")) :: ws) ({ frames := 0, cells := 0, slots := 0, locals := 0 } : Room)) (fun a U => a = #[(.int p0)] ∧ Z.Warmed39 U.vm ∧ U.heap = h0) (fun _ _ _ _ _ => True) (fun _ U o U' => ∃ v L, o = .returned v ∧ Q2_3 Z p0 w3 h0 n0 v U'.heap L ∧ FrameEnd U o U' L ({ frames := 0, cells := 0, slots := 0, locals := 0 } : Room).cells ({ frames := 0, cells := 0, slots := 0, locals := 0 } : Room).slots) := by
  refine MetFree.of_bodySF (plainFor_of_name pn_2) hisR ?_
  intro p e s m args below meth c s₁ Bd hml0 hP hK
  obtain ⟨rfl, hZ, hh⟩ := hP
  have hx := Bd.exec
  have hby := Bd.bytes
  have hml : c.maxLocals = 1 := hml0
  have hown : s.vm.findClass "com/example/tidebook/tidebook/io/ProtocolOfPinLaw" = some m.cls := findClass_of_methodNamed Bd.named
  have hnm := (name_of_methodNamed Bd.named Bd.method).1
  have X0 : Stand p l e ({ frames := 0, cells := 0, slots := 0, locals := 0 } : Room) s m #[(.int p0)] below meth c s₁ [] 0 0 := Stand.of_body Bd
  have e0 : s₁.heap = h0 := by rw [← hh, Bd.state]; rfl
  have N0 := Fr.nil n0
  change own_Go p e below (own_Post s (Q2_3 Z p0 w3 h0 n0) ({ frames := 0, cells := 0, slots := 0, locals := 0 } : Room).cells ({ frames := 0, cells := 0, slots := 0, locals := 0 } : Room).slots) (s₁.setTop (entryFrame m #[(.int p0)] 1))
  refine own_by (fun t k => castTop (ef_2 m p0) k) ?_
  show own_Go p e below _ (s₁.setTop (mkF m 0 #[iv p0] []))
  refine own_by (B := s₁.setTop (mkF m 30 #[iv p0] [])) (fun t k => ?_) ?_
  · show Steps p.tables e below (s₁.setTop (mkF m 0 #[iv p0] [])) _
    refine XS.iloadN X0.here hx rfl (hb hby d2_0) rfl ?_
    show Steps p.tables e below (s₁.setTop (mkF m 1 #[iv p0] [(.int p0)])) _
    refine X0.ldcInt hx hown (mvT hZ (hw _ (List.mem_of_getElem? (i := 17) rfl))) (g := (mkF m 1 #[iv p0] [(.int p0)])) rfl (hb hby d2_1) _ ?_
    show Steps p.tables e below (s₁.setTop (mkF m 3 #[iv p0] [(.int (32770 : Int32)), (.int p0)])) _
    refine XS.icmpYes X0.here hx rfl (pc0 := 3) (pc' := 10) rfl (hb hby d2_3) rfl (feq hp0).2 (by decide) (by decide) ?_
    show Steps p.tables e below (s₁.setTop (mkF m 10 #[iv p0] [])) _
    refine XS.iloadN X0.here hx rfl (hb hby d2_10) rfl ?_
    show Steps p.tables e below (s₁.setTop (mkF m 11 #[iv p0] [(.int p0)])) _
    refine X0.ldcInt hx hown (mvT hZ (hw _ (List.mem_of_getElem? (i := 18) rfl))) (g := (mkF m 11 #[iv p0] [(.int p0)])) rfl (hb hby d2_11) _ ?_
    show Steps p.tables e below (s₁.setTop (mkF m 13 #[iv p0] [(.int (32771 : Int32)), (.int p0)])) _
    refine XS.icmpYes X0.here hx rfl (pc0 := 13) (pc' := 20) rfl (hb hby d2_13) rfl (feq hp1).2 (by decide) (by decide) ?_
    show Steps p.tables e below (s₁.setTop (mkF m 20 #[iv p0] [])) _
    refine XS.iloadN X0.here hx rfl (hb hby d2_20) rfl ?_
    show Steps p.tables e below (s₁.setTop (mkF m 21 #[iv p0] [(.int p0)])) _
    refine X0.ldcInt hx hown (mvT hZ (hw _ (List.mem_of_getElem? (i := 19) rfl))) (g := (mkF m 21 #[iv p0] [(.int p0)])) rfl (hb hby d2_21) _ ?_
    show Steps p.tables e below (s₁.setTop (mkF m 23 #[iv p0] [(.int (32772 : Int32)), (.int p0)])) _
    refine XS.icmpYes X0.here hx rfl (pc0 := 23) (pc' := 30) rfl (hb hby d2_23) rfl (feq hp2).2 (by decide) (by decide) ?_
    show Steps p.tables e below (s₁.setTop (mkF m 30 #[iv p0] [])) _
    exact k
  refine own_c1 (getS2 X0 hx hZ hown (host := "") (Or.inl (hw _ (List.mem_of_getElem? (i := 20) rfl))) Via.refl e0 (S_UNKNOWN.ext OZ.2) rfl (hb hby d2_30)) fun T1 X1 e1 => ?_
  show own_Go p e below _ (T1.setTop (mkF m 33 #[iv p0] [(.ref w3)]))
  exact own_retR X1 Bd.notSynchronized hx Bd.returns rfl rfl rfl (hb hby d2_33) (by
      rw [show T1.heap = h0 from e1]
      exact ⟨rfl, N0, rfl⟩) (by decide) (by decide)

theorem pn_0 : plainName "com/example/tidebook/tidebook/io/ProtocolOfPinLaw" = true := by first | (simp [plainName, overriddenIn]; done) | decide +kernel
theorem pd_0 : parseMethodDescriptor "(I)Lcom/example/tidebook/tidebook/io/Protocol;" = some ⟨[.int], some (.object "com/example/tidebook/tidebook/io/Protocol")⟩ := by decide +kernel
theorem ef_0 (m : MethodId) (x0 : Int32) (x1 : Int32) : entryFrame m #[(.int x0), (.int x1)] maxLocals = mkF m 0 #[iv x0, iv x1, oU, oU, oU] [] := by first | (simp [entryFrame, mkF, argsToLocals, Value.category, maxLocals]; done) | rfl
def Q0 (Z : State) (p0 : Int32) (p1 : Int32) (al : Addr) (ka : ClassId) (w0 : Addr) (w1 : Addr) (w2 : Addr) (w3 : Addr) (h0 : Heap) (n0 : Nat) (v : Option Value) (h : Heap) (L : List Loc) : Prop := v = some (.int (1 : Int32)) ∧ Fr n0 L
set_option maxRecDepth 65536 in
set_option maxHeartbeats 40000000 in
theorem rm0 (l : Launch) (Z : State) (a0 : Array Value) (hw : ∀ d ∈ tables_1, d.before a0 Z = true) (ws : List Jvm.Cond) (p0 : Int32) (p1 : Int32) (al : Addr) (ka : ClassId) (w0 : Addr) (w1 : Addr) (w2 : Addr) (w3 : Addr) (h0 : Heap) (n0 : Nat) (Z0 : n0 ≤ h0.size) (OZ : Old Z n0 h0) (S_ALL : Sta Z Z.heap "com/example/tidebook/tidebook/io/Protocol" "ALL" "[Lcom/example/tidebook/tidebook/io/Protocol;" (.ref al)) (S_UNKNOWN : Sta Z Z.heap "com/example/tidebook/tidebook/io/Protocol" "UNKNOWN" "Lcom/example/tidebook/tidebook/io/Protocol;" (.ref w3)) (V_al : Arv Z h0 al ka (.object "com/example/tidebook/tidebook/io/Protocol") (4 : Int32) [(.ref w0), (.ref w1), (.ref w2), (.ref w3)] .null) (F_id_w0 : Fld Z h0 w0 "com/example/tidebook/tidebook/io/Protocol" "id" "I" (.int (32770 : Int32))) (F_id_w1 : Fld Z h0 w1 "com/example/tidebook/tidebook/io/Protocol" "id" "I" (.int (32771 : Int32))) (F_id_w2 : Fld Z h0 w2 "com/example/tidebook/tidebook/io/Protocol" "id" "I" (.int (32772 : Int32))) (F_id_w3 : Fld Z h0 w3 "com/example/tidebook/tidebook/io/Protocol" "id" "I" (.int (-1 : Int32))) (S_TOPS_1_5 : Sta Z Z.heap "com/example/tidebook/tidebook/io/Protocol" "TOPS_1_5" "Lcom/example/tidebook/tidebook/io/Protocol;" (.ref w0)) (S_TOPS_1_6 : Sta Z Z.heap "com/example/tidebook/tidebook/io/Protocol" "TOPS_1_6" "Lcom/example/tidebook/tidebook/io/Protocol;" (.ref w1)) (S_DEEP_1_0 : Sta Z Z.heap "com/example/tidebook/tidebook/io/Protocol" "DEEP_1_0" "Lcom/example/tidebook/tidebook/io/Protocol;" (.ref w2)) :
    MetFree l x (head1 (Jvm.Cond.code x code maxLocals ret :: ws) room_1) (fun a U => a = #[(.int p0), (.int p1)] ∧ Z.Warmed39 U.vm ∧ U.heap = h0) (fun _ _ _ _ _ => True) (fun _ U o U' => ∃ v L, o = .returned v ∧ Q0 Z p0 p1 al ka w0 w1 w2 w3 h0 n0 v U'.heap L ∧ FrameEnd U o U' L room_1.cells room_1.slots) := by
  refine MetFree.of_bodySF (plainFor_of_name pn_0) hisR ?_
  intro p e s m args below meth c s₁ Bd hml0 hP hK
  obtain ⟨rfl, hZ, hh⟩ := hP
  have hx := Bd.exec
  have hby := Bd.bytes
  have hml : c.maxLocals = 5 := hml0
  have hown : s.vm.findClass "com/example/tidebook/tidebook/io/ProtocolOfPinLaw" = some m.cls := findClass_of_methodNamed Bd.named
  have hnm := (name_of_methodNamed Bd.named Bd.method).1
  have X0 : Stand p l e room_1 s m #[(.int p0), (.int p1)] below meth c s₁ [] 0 0 := Stand.of_body Bd
  have e0 : s₁.heap = h0 := by rw [← hh, Bd.state]; rfl
  have N0 := Fr.nil n0
  change own_Go p e below (own_Post s (Q0 Z p0 p1 al ka w0 w1 w2 w3 h0 n0) room_1.cells room_1.slots) (s₁.setTop (entryFrame m #[(.int p0), (.int p1)] maxLocals))
  refine own_by (fun t k => castTop (ef_0 m p0 p1) k) ?_
  show own_Go p e below _ (s₁.setTop (mkF m 0 #[iv p0, iv p1, oU, oU, oU] []))
  refine own_by (B := s₁.setTop (mkF m 49 #[iv p0, iv p1, iv (p0 &&& (3 : Int32)), iv (if (p0 &&& (3 : Int32)) = (0 : Int32) then p1 else (if (p0 &&& (3 : Int32)) = (1 : Int32) then ((32768 : Int32) + (p1 &&& (7 : Int32))) else (if (p0 &&& (3 : Int32)) = (2 : Int32) then (p1 &&& (65535 : Int32)) else ((p1 &&& (1 : Int32)) - (1 : Int32))))), oU] [(.int (if (p0 &&& (3 : Int32)) = (0 : Int32) then p1 else (if (p0 &&& (3 : Int32)) = (1 : Int32) then ((32768 : Int32) + (p1 &&& (7 : Int32))) else (if (p0 &&& (3 : Int32)) = (2 : Int32) then (p1 &&& (65535 : Int32)) else ((p1 &&& (1 : Int32)) - (1 : Int32))))))])) (fun t k => ?_) ?_
  · show Steps p.tables e below (s₁.setTop (mkF m 0 #[iv p0, iv p1, oU, oU, oU] [])) _
    refine XS.iloadN X0.here hx rfl (hb hby at_0) rfl ?_
    show Steps p.tables e below (s₁.setTop (mkF m 1 #[iv p0, iv p1, oU, oU, oU] [(.int p0)])) _
    refine XS.iconst X0.here hx rfl (hb hby at_1) ?_
    show Steps p.tables e below (s₁.setTop (mkF m 2 #[iv p0, iv p1, oU, oU, oU] [(.int (3 : Int32)), (.int p0)])) _
    refine XS.iand X0.here hx rfl (hb hby at_2) rfl ?_
    show Steps p.tables e below (s₁.setTop (mkF m 3 #[iv p0, iv p1, oU, oU, oU] [(.int (p0 &&& (3 : Int32)))])) _
    refine XS.istoreN X0.here hx rfl (hb hby at_3) rfl (l' := #[iv p0, iv p1, iv (p0 &&& (3 : Int32)), oU, oU]) rfl ?_
    show Steps p.tables e below (s₁.setTop (mkF m 4 #[iv p0, iv p1, iv (p0 &&& (3 : Int32)), oU, oU] [])) _
    refine XS.iloadN X0.here hx rfl (hb hby at_4) rfl ?_
    show Steps p.tables e below (s₁.setTop (mkF m 5 #[iv p0, iv p1, iv (p0 &&& (3 : Int32)), oU, oU] [(.int (p0 &&& (3 : Int32)))])) _
    refine (fun t (k : Steps p.tables e below (s₁.setTop (mkF m 48 #[iv p0, iv p1, iv (p0 &&& (3 : Int32)), iv (if (p0 &&& (3 : Int32)) = (0 : Int32) then p1 else (if (p0 &&& (3 : Int32)) = (1 : Int32) then ((32768 : Int32) + (p1 &&& (7 : Int32))) else (if (p0 &&& (3 : Int32)) = (2 : Int32) then (p1 &&& (65535 : Int32)) else ((p1 &&& (1 : Int32)) - (1 : Int32))))), oU] [])) t) => (?_ : Steps p.tables e below _ t)) _ ?_
    · by_cases hc1 : (p0 &&& (3 : Int32)) = (0 : Int32)
      · simp only [if_pos hc1] at k
        refine XS.ifNo X0.here hx rfl (hb hby at_5) rfl ((if0 _ _).trans (teq hc1).2) ?_
        show Steps p.tables e below (s₁.setTop (mkF m 8 #[iv p0, iv p1, iv (p0 &&& (3 : Int32)), oU, oU] [])) _
        refine XS.iloadN X0.here hx rfl (hb hby at_8) rfl ?_
        show Steps p.tables e below (s₁.setTop (mkF m 9 #[iv p0, iv p1, iv (p0 &&& (3 : Int32)), oU, oU] [(.int p1)])) _
        refine XS.istoreN X0.here hx rfl (hb hby at_9) rfl (l' := #[iv p0, iv p1, iv (p0 &&& (3 : Int32)), iv p1, oU]) rfl ?_
        show Steps p.tables e below (s₁.setTop (mkF m 10 #[iv p0, iv p1, iv (p0 &&& (3 : Int32)), iv p1, oU] [])) _
        refine XS.goto X0.here hx rfl (pc0 := 10) (pc' := 48) rfl (hb hby at_10) (by decide) (by decide) ?_
        show Steps p.tables e below (s₁.setTop (mkF m 48 #[iv p0, iv p1, iv (p0 &&& (3 : Int32)), iv p1, oU] [])) _
        exact k
      · simp only [if_neg hc1] at k
        refine XS.ifYes X0.here hx rfl (pc0 := 5) (pc' := 13) rfl (hb hby at_5) rfl ((if0 _ _).trans (feq hc1).2) (by decide) (by decide) ?_
        show Steps p.tables e below (s₁.setTop (mkF m 13 #[iv p0, iv p1, iv (p0 &&& (3 : Int32)), oU, oU] [])) _
        refine XS.iloadN X0.here hx rfl (hb hby at_13) rfl ?_
        show Steps p.tables e below (s₁.setTop (mkF m 14 #[iv p0, iv p1, iv (p0 &&& (3 : Int32)), oU, oU] [(.int (p0 &&& (3 : Int32)))])) _
        refine XS.iconst X0.here hx rfl (hb hby at_14) ?_
        show Steps p.tables e below (s₁.setTop (mkF m 15 #[iv p0, iv p1, iv (p0 &&& (3 : Int32)), oU, oU] [(.int (1 : Int32)), (.int (p0 &&& (3 : Int32)))])) _
        refine (fun t (k : Steps p.tables e below (s₁.setTop (mkF m 48 #[iv p0, iv p1, iv (p0 &&& (3 : Int32)), iv (if (p0 &&& (3 : Int32)) = (1 : Int32) then ((32768 : Int32) + (p1 &&& (7 : Int32))) else (if (p0 &&& (3 : Int32)) = (2 : Int32) then (p1 &&& (65535 : Int32)) else ((p1 &&& (1 : Int32)) - (1 : Int32)))), oU] [])) t) => (?_ : Steps p.tables e below _ t)) _ ?_
        · by_cases hc2 : (p0 &&& (3 : Int32)) = (1 : Int32)
          · simp only [if_pos hc2] at k
            refine XS.icmpNo X0.here hx rfl (hb hby at_15) rfl (teq hc2).2 ?_
            show Steps p.tables e below (s₁.setTop (mkF m 18 #[iv p0, iv p1, iv (p0 &&& (3 : Int32)), oU, oU] [])) _
            refine X0.ldcInt hx hown (mvT hZ (hw _ (List.mem_of_getElem? (i := 22) rfl))) (g := (mkF m 18 #[iv p0, iv p1, iv (p0 &&& (3 : Int32)), oU, oU] [])) rfl (hb hby at_18) _ ?_
            show Steps p.tables e below (s₁.setTop (mkF m 20 #[iv p0, iv p1, iv (p0 &&& (3 : Int32)), oU, oU] [(.int (32768 : Int32))])) _
            refine XS.iloadN X0.here hx rfl (hb hby at_20) rfl ?_
            show Steps p.tables e below (s₁.setTop (mkF m 21 #[iv p0, iv p1, iv (p0 &&& (3 : Int32)), oU, oU] [(.int p1), (.int (32768 : Int32))])) _
            refine XS.bipush X0.here hx rfl (hb hby at_21) ?_
            show Steps p.tables e below (s₁.setTop (mkF m 23 #[iv p0, iv p1, iv (p0 &&& (3 : Int32)), oU, oU] [(.int (7 : Int32)), (.int p1), (.int (32768 : Int32))])) _
            refine XS.iand X0.here hx rfl (hb hby at_23) rfl ?_
            show Steps p.tables e below (s₁.setTop (mkF m 24 #[iv p0, iv p1, iv (p0 &&& (3 : Int32)), oU, oU] [(.int (p1 &&& (7 : Int32))), (.int (32768 : Int32))])) _
            refine XS.iadd X0.here hx rfl (hb hby at_24) rfl ?_
            show Steps p.tables e below (s₁.setTop (mkF m 25 #[iv p0, iv p1, iv (p0 &&& (3 : Int32)), oU, oU] [(.int ((32768 : Int32) + (p1 &&& (7 : Int32))))])) _
            refine XS.istoreN X0.here hx rfl (hb hby at_25) rfl (l' := #[iv p0, iv p1, iv (p0 &&& (3 : Int32)), iv ((32768 : Int32) + (p1 &&& (7 : Int32))), oU]) rfl ?_
            show Steps p.tables e below (s₁.setTop (mkF m 26 #[iv p0, iv p1, iv (p0 &&& (3 : Int32)), iv ((32768 : Int32) + (p1 &&& (7 : Int32))), oU] [])) _
            refine XS.goto X0.here hx rfl (pc0 := 26) (pc' := 48) rfl (hb hby at_26) (by decide) (by decide) ?_
            show Steps p.tables e below (s₁.setTop (mkF m 48 #[iv p0, iv p1, iv (p0 &&& (3 : Int32)), iv ((32768 : Int32) + (p1 &&& (7 : Int32))), oU] [])) _
            exact k
          · simp only [if_neg hc2] at k
            refine XS.icmpYes X0.here hx rfl (pc0 := 15) (pc' := 29) rfl (hb hby at_15) rfl (feq hc2).2 (by decide) (by decide) ?_
            show Steps p.tables e below (s₁.setTop (mkF m 29 #[iv p0, iv p1, iv (p0 &&& (3 : Int32)), oU, oU] [])) _
            refine XS.iloadN X0.here hx rfl (hb hby at_29) rfl ?_
            show Steps p.tables e below (s₁.setTop (mkF m 30 #[iv p0, iv p1, iv (p0 &&& (3 : Int32)), oU, oU] [(.int (p0 &&& (3 : Int32)))])) _
            refine XS.iconst X0.here hx rfl (hb hby at_30) ?_
            show Steps p.tables e below (s₁.setTop (mkF m 31 #[iv p0, iv p1, iv (p0 &&& (3 : Int32)), oU, oU] [(.int (2 : Int32)), (.int (p0 &&& (3 : Int32)))])) _
            refine (fun t (k : Steps p.tables e below (s₁.setTop (mkF m 48 #[iv p0, iv p1, iv (p0 &&& (3 : Int32)), iv (if (p0 &&& (3 : Int32)) = (2 : Int32) then (p1 &&& (65535 : Int32)) else ((p1 &&& (1 : Int32)) - (1 : Int32))), oU] [])) t) => (?_ : Steps p.tables e below _ t)) _ ?_
            · by_cases hc3 : (p0 &&& (3 : Int32)) = (2 : Int32)
              · simp only [if_pos hc3] at k
                refine XS.icmpNo X0.here hx rfl (hb hby at_31) rfl (teq hc3).2 ?_
                show Steps p.tables e below (s₁.setTop (mkF m 34 #[iv p0, iv p1, iv (p0 &&& (3 : Int32)), oU, oU] [])) _
                refine XS.iloadN X0.here hx rfl (hb hby at_34) rfl ?_
                show Steps p.tables e below (s₁.setTop (mkF m 35 #[iv p0, iv p1, iv (p0 &&& (3 : Int32)), oU, oU] [(.int p1)])) _
                refine X0.ldcInt hx hown (mvT hZ (hw _ (List.mem_of_getElem? (i := 21) rfl))) (g := (mkF m 35 #[iv p0, iv p1, iv (p0 &&& (3 : Int32)), oU, oU] [(.int p1)])) rfl (hb hby at_35) _ ?_
                show Steps p.tables e below (s₁.setTop (mkF m 37 #[iv p0, iv p1, iv (p0 &&& (3 : Int32)), oU, oU] [(.int (65535 : Int32)), (.int p1)])) _
                refine XS.iand X0.here hx rfl (hb hby at_37) rfl ?_
                show Steps p.tables e below (s₁.setTop (mkF m 38 #[iv p0, iv p1, iv (p0 &&& (3 : Int32)), oU, oU] [(.int (p1 &&& (65535 : Int32)))])) _
                refine XS.istoreN X0.here hx rfl (hb hby at_38) rfl (l' := #[iv p0, iv p1, iv (p0 &&& (3 : Int32)), iv (p1 &&& (65535 : Int32)), oU]) rfl ?_
                show Steps p.tables e below (s₁.setTop (mkF m 39 #[iv p0, iv p1, iv (p0 &&& (3 : Int32)), iv (p1 &&& (65535 : Int32)), oU] [])) _
                refine XS.goto X0.here hx rfl (pc0 := 39) (pc' := 48) rfl (hb hby at_39) (by decide) (by decide) ?_
                show Steps p.tables e below (s₁.setTop (mkF m 48 #[iv p0, iv p1, iv (p0 &&& (3 : Int32)), iv (p1 &&& (65535 : Int32)), oU] [])) _
                exact k
              · simp only [if_neg hc3] at k
                refine XS.icmpYes X0.here hx rfl (pc0 := 31) (pc' := 42) rfl (hb hby at_31) rfl (feq hc3).2 (by decide) (by decide) ?_
                show Steps p.tables e below (s₁.setTop (mkF m 42 #[iv p0, iv p1, iv (p0 &&& (3 : Int32)), oU, oU] [])) _
                refine XS.iloadN X0.here hx rfl (hb hby at_42) rfl ?_
                show Steps p.tables e below (s₁.setTop (mkF m 43 #[iv p0, iv p1, iv (p0 &&& (3 : Int32)), oU, oU] [(.int p1)])) _
                refine XS.iconst X0.here hx rfl (hb hby at_43) ?_
                show Steps p.tables e below (s₁.setTop (mkF m 44 #[iv p0, iv p1, iv (p0 &&& (3 : Int32)), oU, oU] [(.int (1 : Int32)), (.int p1)])) _
                refine XS.iand X0.here hx rfl (hb hby at_44) rfl ?_
                show Steps p.tables e below (s₁.setTop (mkF m 45 #[iv p0, iv p1, iv (p0 &&& (3 : Int32)), oU, oU] [(.int (p1 &&& (1 : Int32)))])) _
                refine XS.iconst X0.here hx rfl (hb hby at_45) ?_
                show Steps p.tables e below (s₁.setTop (mkF m 46 #[iv p0, iv p1, iv (p0 &&& (3 : Int32)), oU, oU] [(.int (1 : Int32)), (.int (p1 &&& (1 : Int32)))])) _
                refine XS.isub X0.here hx rfl (hb hby at_46) rfl ?_
                show Steps p.tables e below (s₁.setTop (mkF m 47 #[iv p0, iv p1, iv (p0 &&& (3 : Int32)), oU, oU] [(.int ((p1 &&& (1 : Int32)) - (1 : Int32)))])) _
                refine XS.istoreN X0.here hx rfl (hb hby at_47) rfl (l' := #[iv p0, iv p1, iv (p0 &&& (3 : Int32)), iv ((p1 &&& (1 : Int32)) - (1 : Int32)), oU]) rfl ?_
                show Steps p.tables e below (s₁.setTop (mkF m 48 #[iv p0, iv p1, iv (p0 &&& (3 : Int32)), iv ((p1 &&& (1 : Int32)) - (1 : Int32)), oU] [])) _
                exact k
            show Steps p.tables e below (s₁.setTop (mkF m 48 #[iv p0, iv p1, iv (p0 &&& (3 : Int32)), iv (if (p0 &&& (3 : Int32)) = (2 : Int32) then (p1 &&& (65535 : Int32)) else ((p1 &&& (1 : Int32)) - (1 : Int32))), oU] [])) _
            exact k
        show Steps p.tables e below (s₁.setTop (mkF m 48 #[iv p0, iv p1, iv (p0 &&& (3 : Int32)), iv (if (p0 &&& (3 : Int32)) = (1 : Int32) then ((32768 : Int32) + (p1 &&& (7 : Int32))) else (if (p0 &&& (3 : Int32)) = (2 : Int32) then (p1 &&& (65535 : Int32)) else ((p1 &&& (1 : Int32)) - (1 : Int32)))), oU] [])) _
        exact k
    show Steps p.tables e below (s₁.setTop (mkF m 48 #[iv p0, iv p1, iv (p0 &&& (3 : Int32)), iv (if (p0 &&& (3 : Int32)) = (0 : Int32) then p1 else (if (p0 &&& (3 : Int32)) = (1 : Int32) then ((32768 : Int32) + (p1 &&& (7 : Int32))) else (if (p0 &&& (3 : Int32)) = (2 : Int32) then (p1 &&& (65535 : Int32)) else ((p1 &&& (1 : Int32)) - (1 : Int32))))), oU] [])) _
    refine XS.iloadN X0.here hx rfl (hb hby at_48) rfl ?_
    show Steps p.tables e below (s₁.setTop (mkF m 49 #[iv p0, iv p1, iv (p0 &&& (3 : Int32)), iv (if (p0 &&& (3 : Int32)) = (0 : Int32) then p1 else (if (p0 &&& (3 : Int32)) = (1 : Int32) then ((32768 : Int32) + (p1 &&& (7 : Int32))) else (if (p0 &&& (3 : Int32)) = (2 : Int32) then (p1 &&& (65535 : Int32)) else ((p1 &&& (1 : Int32)) - (1 : Int32))))), oU] [(.int (if (p0 &&& (3 : Int32)) = (0 : Int32) then p1 else (if (p0 &&& (3 : Int32)) = (1 : Int32) then ((32768 : Int32) + (p1 &&& (7 : Int32))) else (if (p0 &&& (3 : Int32)) = (2 : Int32) then (p1 &&& (65535 : Int32)) else ((p1 &&& (1 : Int32)) - (1 : Int32))))))])) _
    exact k
  generalize hid : (if (p0 &&& (3 : Int32)) = (0 : Int32) then p1 else (if (p0 &&& (3 : Int32)) = (1 : Int32) then ((32768 : Int32) + (p1 &&& (7 : Int32))) else (if (p0 &&& (3 : Int32)) = (2 : Int32) then (p1 &&& (65535 : Int32)) else ((p1 &&& (1 : Int32)) - (1 : Int32))))) = idv
  by_cases hk0 : (32770 : Int32) = idv
  · skip
    show own_Go p e below _ (s₁.setTop (mkF m 49 #[iv p0, iv p1, iv (p0 &&& (3 : Int32)), iv idv, oU] [(.int idv)]))
    refine own_cc (own_callS X0 hx hZ (y := (⟨"com/example/tidebook/tidebook/io/Protocol", "of", "(I)Lcom/example/tidebook/tidebook/io/Protocol;"⟩ : MethodName)) hown (hw _ (List.mem_of_getElem? (i := 0) rfl)) (hw _ (List.mem_of_getElem? (i := 1) rfl)) (hw _ (List.mem_of_getElem? (i := 2) rfl)) (hw _ (List.mem_of_getElem? (i := 3) rfl)) (by decide) (rm1_0 l Z a0 hw [] idv al ka w0 w1 w2 w3 h0 n0 Z0 OZ S_ALL S_UNKNOWN V_al F_id_w0 F_id_w1 F_id_w2 F_id_w3 hk0) e0 0 (by decide) (by decide) (by decide) (by decide) rfl (by rw [hml]; rfl) [(.int idv)] [] rfl (lenOf pd_0 rfl) rfl (by show 2 * 0 + _ ≤ _; exact Nat.le_of_eq rfl) (hb hby at_49)) fun T5 L5 v5 X5 hQ5 => ?_
    obtain ⟨rfl, N5, e5⟩ := hQ5
    replace N0 := Fr.app N0 N5
    show own_Go p e below _ (T5.setTop (mkF m 52 #[iv p0, iv p1, iv (p0 &&& (3 : Int32)), iv idv, oU] [(.ref w0)]))
    refine own_by (B := T5.setTop (mkF m 57 #[iv p0, iv p1, iv (p0 &&& (3 : Int32)), iv idv, rv w0] [(.int idv), (.ref w0)])) (fun t k => ?_) ?_
    · show Steps p.tables e below (T5.setTop (mkF m 52 #[iv p0, iv p1, iv (p0 &&& (3 : Int32)), iv idv, oU] [(.ref w0)])) _
      refine XS.astore X5.here hx rfl (hb hby at_52) rfl rfl (l' := #[iv p0, iv p1, iv (p0 &&& (3 : Int32)), iv idv, rv w0]) rfl ?_
      show Steps p.tables e below (T5.setTop (mkF m 54 #[iv p0, iv p1, iv (p0 &&& (3 : Int32)), iv idv, rv w0] [])) _
      refine XS.aload X5.here hx rfl (hb hby at_54) rfl rfl ?_
      show Steps p.tables e below (T5.setTop (mkF m 56 #[iv p0, iv p1, iv (p0 &&& (3 : Int32)), iv idv, rv w0] [(.ref w0)])) _
      refine XS.iloadN X5.here hx rfl (hb hby at_56) rfl ?_
      show Steps p.tables e below (T5.setTop (mkF m 57 #[iv p0, iv p1, iv (p0 &&& (3 : Int32)), iv idv, rv w0] [(.int idv), (.ref w0)])) _
      exact k
    refine own_cc (own_callS X5 hx hZ (y := (⟨"com/example/tidebook/tidebook/io/ProtocolOfPinLaw", "expected", "(I)Lcom/example/tidebook/tidebook/io/Protocol;"⟩ : MethodName)) hown (hw _ (List.mem_of_getElem? (i := 13) rfl)) (hw _ (List.mem_of_getElem? (i := 14) rfl)) (hw _ (List.mem_of_getElem? (i := 15) rfl)) (hw _ (List.mem_of_getElem? (i := 16) rfl)) (by decide) (rm2_0 l Z a0 hw [] idv w0 h0 n0 Z0 OZ S_TOPS_1_5 hk0.symm) e5 1 (by decide) (by decide) (by decide) (by decide) rfl (by rw [hml]; rfl) [(.int idv)] [(.ref w0)] rfl (lenOf pd_0 rfl) rfl (by show 2 * 0 + _ ≤ _; exact Nat.le_of_eq rfl) (hb hby at_57)) fun T7 L7 v7 X7 hQ7 => ?_
    obtain ⟨rfl, N7, e7⟩ := hQ7
    replace N0 := Fr.app N0 N7
    show own_Go p e below _ (T7.setTop (mkF m 60 #[iv p0, iv p1, iv (p0 &&& (3 : Int32)), iv idv, rv w0] [(.ref w0), (.ref w0)]))
    refine own_by (fun t k => Jvm.RoadKit.acmp (g := (mkF m 60 #[iv p0, iv p1, iv (p0 &&& (3 : Int32)), iv idv, rv w0] [(.ref w0), (.ref w0)])) X7 hx rfl rfl rfl (pc0 := 60) (pc' := 63) (same := true) rfl (hb hby at_60) rfl (decide_eq_true rfl) (by decide) (by decide) k) ?_
    show own_Go p e below _ (T7.setTop (mkF m 63 #[iv p0, iv p1, iv (p0 &&& (3 : Int32)), iv idv, rv w0] []))
    refine own_by (B := T7.setTop (mkF m 68 #[iv p0, iv p1, iv (p0 &&& (3 : Int32)), iv idv, rv w0] [(.int (1 : Int32))])) (fun t k => ?_) ?_
    · show Steps p.tables e below (T7.setTop (mkF m 63 #[iv p0, iv p1, iv (p0 &&& (3 : Int32)), iv idv, rv w0] [])) _
      refine XS.iconst X7.here hx rfl (hb hby at_63) ?_
      show Steps p.tables e below (T7.setTop (mkF m 64 #[iv p0, iv p1, iv (p0 &&& (3 : Int32)), iv idv, rv w0] [(.int (1 : Int32))])) _
      refine XS.goto X7.here hx rfl (pc0 := 64) (pc' := 68) rfl (hb hby at_64) (by decide) (by decide) ?_
      show Steps p.tables e below (T7.setTop (mkF m 68 #[iv p0, iv p1, iv (p0 &&& (3 : Int32)), iv idv, rv w0] [(.int (1 : Int32))])) _
      exact k
    exact own_retN X7 Bd.notSynchronized hx (t := .boolean) Bd.returns (by simp) (hb hby at_68) (by
        rw [show T7.heap = h0 from e7]
        exact ⟨rfl, N0⟩) (by decide) (by decide)
  · skip
    by_cases hk1 : (32771 : Int32) = idv
    · skip
      show own_Go p e below _ (s₁.setTop (mkF m 49 #[iv p0, iv p1, iv (p0 &&& (3 : Int32)), iv idv, oU] [(.int idv)]))
      refine own_cc (own_callS X0 hx hZ (y := (⟨"com/example/tidebook/tidebook/io/Protocol", "of", "(I)Lcom/example/tidebook/tidebook/io/Protocol;"⟩ : MethodName)) hown (hw _ (List.mem_of_getElem? (i := 0) rfl)) (hw _ (List.mem_of_getElem? (i := 1) rfl)) (hw _ (List.mem_of_getElem? (i := 2) rfl)) (hw _ (List.mem_of_getElem? (i := 3) rfl)) (by decide) (rm1_1 l Z a0 hw [] idv al ka w0 w1 w2 w3 h0 n0 Z0 OZ S_ALL S_UNKNOWN V_al F_id_w0 F_id_w1 F_id_w2 F_id_w3 hk0 hk1) e0 0 (by decide) (by decide) (by decide) (by decide) rfl (by rw [hml]; rfl) [(.int idv)] [] rfl (lenOf pd_0 rfl) rfl (by show 2 * 0 + _ ≤ _; exact Nat.le_of_eq rfl) (hb hby at_49)) fun T9 L9 v9 X9 hQ9 => ?_
      obtain ⟨rfl, N9, e9⟩ := hQ9
      replace N0 := Fr.app N0 N9
      show own_Go p e below _ (T9.setTop (mkF m 52 #[iv p0, iv p1, iv (p0 &&& (3 : Int32)), iv idv, oU] [(.ref w1)]))
      refine own_by (B := T9.setTop (mkF m 57 #[iv p0, iv p1, iv (p0 &&& (3 : Int32)), iv idv, rv w1] [(.int idv), (.ref w1)])) (fun t k => ?_) ?_
      · show Steps p.tables e below (T9.setTop (mkF m 52 #[iv p0, iv p1, iv (p0 &&& (3 : Int32)), iv idv, oU] [(.ref w1)])) _
        refine XS.astore X9.here hx rfl (hb hby at_52) rfl rfl (l' := #[iv p0, iv p1, iv (p0 &&& (3 : Int32)), iv idv, rv w1]) rfl ?_
        show Steps p.tables e below (T9.setTop (mkF m 54 #[iv p0, iv p1, iv (p0 &&& (3 : Int32)), iv idv, rv w1] [])) _
        refine XS.aload X9.here hx rfl (hb hby at_54) rfl rfl ?_
        show Steps p.tables e below (T9.setTop (mkF m 56 #[iv p0, iv p1, iv (p0 &&& (3 : Int32)), iv idv, rv w1] [(.ref w1)])) _
        refine XS.iloadN X9.here hx rfl (hb hby at_56) rfl ?_
        show Steps p.tables e below (T9.setTop (mkF m 57 #[iv p0, iv p1, iv (p0 &&& (3 : Int32)), iv idv, rv w1] [(.int idv), (.ref w1)])) _
        exact k
      refine own_cc (own_callS X9 hx hZ (y := (⟨"com/example/tidebook/tidebook/io/ProtocolOfPinLaw", "expected", "(I)Lcom/example/tidebook/tidebook/io/Protocol;"⟩ : MethodName)) hown (hw _ (List.mem_of_getElem? (i := 13) rfl)) (hw _ (List.mem_of_getElem? (i := 14) rfl)) (hw _ (List.mem_of_getElem? (i := 15) rfl)) (hw _ (List.mem_of_getElem? (i := 16) rfl)) (by decide) (rm2_1 l Z a0 hw [] idv w1 h0 n0 Z0 OZ S_TOPS_1_6 (Ne.symm hk0) hk1.symm) e9 1 (by decide) (by decide) (by decide) (by decide) rfl (by rw [hml]; rfl) [(.int idv)] [(.ref w1)] rfl (lenOf pd_0 rfl) rfl (by show 2 * 0 + _ ≤ _; exact Nat.le_of_eq rfl) (hb hby at_57)) fun T11 L11 v11 X11 hQ11 => ?_
      obtain ⟨rfl, N11, e11⟩ := hQ11
      replace N0 := Fr.app N0 N11
      show own_Go p e below _ (T11.setTop (mkF m 60 #[iv p0, iv p1, iv (p0 &&& (3 : Int32)), iv idv, rv w1] [(.ref w1), (.ref w1)]))
      refine own_by (fun t k => Jvm.RoadKit.acmp (g := (mkF m 60 #[iv p0, iv p1, iv (p0 &&& (3 : Int32)), iv idv, rv w1] [(.ref w1), (.ref w1)])) X11 hx rfl rfl rfl (pc0 := 60) (pc' := 63) (same := true) rfl (hb hby at_60) rfl (decide_eq_true rfl) (by decide) (by decide) k) ?_
      show own_Go p e below _ (T11.setTop (mkF m 63 #[iv p0, iv p1, iv (p0 &&& (3 : Int32)), iv idv, rv w1] []))
      refine own_by (B := T11.setTop (mkF m 68 #[iv p0, iv p1, iv (p0 &&& (3 : Int32)), iv idv, rv w1] [(.int (1 : Int32))])) (fun t k => ?_) ?_
      · show Steps p.tables e below (T11.setTop (mkF m 63 #[iv p0, iv p1, iv (p0 &&& (3 : Int32)), iv idv, rv w1] [])) _
        refine XS.iconst X11.here hx rfl (hb hby at_63) ?_
        show Steps p.tables e below (T11.setTop (mkF m 64 #[iv p0, iv p1, iv (p0 &&& (3 : Int32)), iv idv, rv w1] [(.int (1 : Int32))])) _
        refine XS.goto X11.here hx rfl (pc0 := 64) (pc' := 68) rfl (hb hby at_64) (by decide) (by decide) ?_
        show Steps p.tables e below (T11.setTop (mkF m 68 #[iv p0, iv p1, iv (p0 &&& (3 : Int32)), iv idv, rv w1] [(.int (1 : Int32))])) _
        exact k
      exact own_retN X11 Bd.notSynchronized hx (t := .boolean) Bd.returns (by simp) (hb hby at_68) (by
          rw [show T11.heap = h0 from e11]
          exact ⟨rfl, N0⟩) (by decide) (by decide)
    · skip
      by_cases hk2 : (32772 : Int32) = idv
      · skip
        show own_Go p e below _ (s₁.setTop (mkF m 49 #[iv p0, iv p1, iv (p0 &&& (3 : Int32)), iv idv, oU] [(.int idv)]))
        refine own_cc (own_callS X0 hx hZ (y := (⟨"com/example/tidebook/tidebook/io/Protocol", "of", "(I)Lcom/example/tidebook/tidebook/io/Protocol;"⟩ : MethodName)) hown (hw _ (List.mem_of_getElem? (i := 0) rfl)) (hw _ (List.mem_of_getElem? (i := 1) rfl)) (hw _ (List.mem_of_getElem? (i := 2) rfl)) (hw _ (List.mem_of_getElem? (i := 3) rfl)) (by decide) (rm1_2 l Z a0 hw [] idv al ka w0 w1 w2 w3 h0 n0 Z0 OZ S_ALL S_UNKNOWN V_al F_id_w0 F_id_w1 F_id_w2 F_id_w3 hk0 hk1 hk2) e0 0 (by decide) (by decide) (by decide) (by decide) rfl (by rw [hml]; rfl) [(.int idv)] [] rfl (lenOf pd_0 rfl) rfl (by show 2 * 0 + _ ≤ _; exact Nat.le_of_eq rfl) (hb hby at_49)) fun T13 L13 v13 X13 hQ13 => ?_
        obtain ⟨rfl, N13, e13⟩ := hQ13
        replace N0 := Fr.app N0 N13
        show own_Go p e below _ (T13.setTop (mkF m 52 #[iv p0, iv p1, iv (p0 &&& (3 : Int32)), iv idv, oU] [(.ref w2)]))
        refine own_by (B := T13.setTop (mkF m 57 #[iv p0, iv p1, iv (p0 &&& (3 : Int32)), iv idv, rv w2] [(.int idv), (.ref w2)])) (fun t k => ?_) ?_
        · show Steps p.tables e below (T13.setTop (mkF m 52 #[iv p0, iv p1, iv (p0 &&& (3 : Int32)), iv idv, oU] [(.ref w2)])) _
          refine XS.astore X13.here hx rfl (hb hby at_52) rfl rfl (l' := #[iv p0, iv p1, iv (p0 &&& (3 : Int32)), iv idv, rv w2]) rfl ?_
          show Steps p.tables e below (T13.setTop (mkF m 54 #[iv p0, iv p1, iv (p0 &&& (3 : Int32)), iv idv, rv w2] [])) _
          refine XS.aload X13.here hx rfl (hb hby at_54) rfl rfl ?_
          show Steps p.tables e below (T13.setTop (mkF m 56 #[iv p0, iv p1, iv (p0 &&& (3 : Int32)), iv idv, rv w2] [(.ref w2)])) _
          refine XS.iloadN X13.here hx rfl (hb hby at_56) rfl ?_
          show Steps p.tables e below (T13.setTop (mkF m 57 #[iv p0, iv p1, iv (p0 &&& (3 : Int32)), iv idv, rv w2] [(.int idv), (.ref w2)])) _
          exact k
        refine own_cc (own_callS X13 hx hZ (y := (⟨"com/example/tidebook/tidebook/io/ProtocolOfPinLaw", "expected", "(I)Lcom/example/tidebook/tidebook/io/Protocol;"⟩ : MethodName)) hown (hw _ (List.mem_of_getElem? (i := 13) rfl)) (hw _ (List.mem_of_getElem? (i := 14) rfl)) (hw _ (List.mem_of_getElem? (i := 15) rfl)) (hw _ (List.mem_of_getElem? (i := 16) rfl)) (by decide) (rm2_2 l Z a0 hw [] idv w2 h0 n0 Z0 OZ S_DEEP_1_0 (Ne.symm hk0) (Ne.symm hk1) hk2.symm) e13 1 (by decide) (by decide) (by decide) (by decide) rfl (by rw [hml]; rfl) [(.int idv)] [(.ref w2)] rfl (lenOf pd_0 rfl) rfl (by show 2 * 0 + _ ≤ _; exact Nat.le_of_eq rfl) (hb hby at_57)) fun T15 L15 v15 X15 hQ15 => ?_
        obtain ⟨rfl, N15, e15⟩ := hQ15
        replace N0 := Fr.app N0 N15
        show own_Go p e below _ (T15.setTop (mkF m 60 #[iv p0, iv p1, iv (p0 &&& (3 : Int32)), iv idv, rv w2] [(.ref w2), (.ref w2)]))
        refine own_by (fun t k => Jvm.RoadKit.acmp (g := (mkF m 60 #[iv p0, iv p1, iv (p0 &&& (3 : Int32)), iv idv, rv w2] [(.ref w2), (.ref w2)])) X15 hx rfl rfl rfl (pc0 := 60) (pc' := 63) (same := true) rfl (hb hby at_60) rfl (decide_eq_true rfl) (by decide) (by decide) k) ?_
        show own_Go p e below _ (T15.setTop (mkF m 63 #[iv p0, iv p1, iv (p0 &&& (3 : Int32)), iv idv, rv w2] []))
        refine own_by (B := T15.setTop (mkF m 68 #[iv p0, iv p1, iv (p0 &&& (3 : Int32)), iv idv, rv w2] [(.int (1 : Int32))])) (fun t k => ?_) ?_
        · show Steps p.tables e below (T15.setTop (mkF m 63 #[iv p0, iv p1, iv (p0 &&& (3 : Int32)), iv idv, rv w2] [])) _
          refine XS.iconst X15.here hx rfl (hb hby at_63) ?_
          show Steps p.tables e below (T15.setTop (mkF m 64 #[iv p0, iv p1, iv (p0 &&& (3 : Int32)), iv idv, rv w2] [(.int (1 : Int32))])) _
          refine XS.goto X15.here hx rfl (pc0 := 64) (pc' := 68) rfl (hb hby at_64) (by decide) (by decide) ?_
          show Steps p.tables e below (T15.setTop (mkF m 68 #[iv p0, iv p1, iv (p0 &&& (3 : Int32)), iv idv, rv w2] [(.int (1 : Int32))])) _
          exact k
        exact own_retN X15 Bd.notSynchronized hx (t := .boolean) Bd.returns (by simp) (hb hby at_68) (by
            rw [show T15.heap = h0 from e15]
            exact ⟨rfl, N0⟩) (by decide) (by decide)
      · skip
        show own_Go p e below _ (s₁.setTop (mkF m 49 #[iv p0, iv p1, iv (p0 &&& (3 : Int32)), iv idv, oU] [(.int idv)]))
        refine own_cc (own_callS X0 hx hZ (y := (⟨"com/example/tidebook/tidebook/io/Protocol", "of", "(I)Lcom/example/tidebook/tidebook/io/Protocol;"⟩ : MethodName)) hown (hw _ (List.mem_of_getElem? (i := 0) rfl)) (hw _ (List.mem_of_getElem? (i := 1) rfl)) (hw _ (List.mem_of_getElem? (i := 2) rfl)) (hw _ (List.mem_of_getElem? (i := 3) rfl)) (by decide) (rm1_3 l Z a0 hw [] idv al ka w0 w1 w2 w3 h0 n0 Z0 OZ S_ALL S_UNKNOWN V_al F_id_w0 F_id_w1 F_id_w2 F_id_w3 hk0 hk1 hk2) e0 0 (by decide) (by decide) (by decide) (by decide) rfl (by rw [hml]; rfl) [(.int idv)] [] rfl (lenOf pd_0 rfl) rfl (by show 2 * 0 + _ ≤ _; exact Nat.le_of_eq rfl) (hb hby at_49)) fun T17 L17 v17 X17 hQ17 => ?_
        obtain ⟨rfl, N17, e17⟩ := hQ17
        replace N0 := Fr.app N0 N17
        show own_Go p e below _ (T17.setTop (mkF m 52 #[iv p0, iv p1, iv (p0 &&& (3 : Int32)), iv idv, oU] [(.ref w3)]))
        refine own_by (B := T17.setTop (mkF m 57 #[iv p0, iv p1, iv (p0 &&& (3 : Int32)), iv idv, rv w3] [(.int idv), (.ref w3)])) (fun t k => ?_) ?_
        · show Steps p.tables e below (T17.setTop (mkF m 52 #[iv p0, iv p1, iv (p0 &&& (3 : Int32)), iv idv, oU] [(.ref w3)])) _
          refine XS.astore X17.here hx rfl (hb hby at_52) rfl rfl (l' := #[iv p0, iv p1, iv (p0 &&& (3 : Int32)), iv idv, rv w3]) rfl ?_
          show Steps p.tables e below (T17.setTop (mkF m 54 #[iv p0, iv p1, iv (p0 &&& (3 : Int32)), iv idv, rv w3] [])) _
          refine XS.aload X17.here hx rfl (hb hby at_54) rfl rfl ?_
          show Steps p.tables e below (T17.setTop (mkF m 56 #[iv p0, iv p1, iv (p0 &&& (3 : Int32)), iv idv, rv w3] [(.ref w3)])) _
          refine XS.iloadN X17.here hx rfl (hb hby at_56) rfl ?_
          show Steps p.tables e below (T17.setTop (mkF m 57 #[iv p0, iv p1, iv (p0 &&& (3 : Int32)), iv idv, rv w3] [(.int idv), (.ref w3)])) _
          exact k
        refine own_cc (own_callS X17 hx hZ (y := (⟨"com/example/tidebook/tidebook/io/ProtocolOfPinLaw", "expected", "(I)Lcom/example/tidebook/tidebook/io/Protocol;"⟩ : MethodName)) hown (hw _ (List.mem_of_getElem? (i := 13) rfl)) (hw _ (List.mem_of_getElem? (i := 14) rfl)) (hw _ (List.mem_of_getElem? (i := 15) rfl)) (hw _ (List.mem_of_getElem? (i := 16) rfl)) (by decide) (rm2_3 l Z a0 hw [] idv w3 h0 n0 Z0 OZ S_UNKNOWN (Ne.symm hk0) (Ne.symm hk1) (Ne.symm hk2)) e17 1 (by decide) (by decide) (by decide) (by decide) rfl (by rw [hml]; rfl) [(.int idv)] [(.ref w3)] rfl (lenOf pd_0 rfl) rfl (by show 2 * 0 + _ ≤ _; exact Nat.le_of_eq rfl) (hb hby at_57)) fun T19 L19 v19 X19 hQ19 => ?_
        obtain ⟨rfl, N19, e19⟩ := hQ19
        replace N0 := Fr.app N0 N19
        show own_Go p e below _ (T19.setTop (mkF m 60 #[iv p0, iv p1, iv (p0 &&& (3 : Int32)), iv idv, rv w3] [(.ref w3), (.ref w3)]))
        refine own_by (fun t k => Jvm.RoadKit.acmp (g := (mkF m 60 #[iv p0, iv p1, iv (p0 &&& (3 : Int32)), iv idv, rv w3] [(.ref w3), (.ref w3)])) X19 hx rfl rfl rfl (pc0 := 60) (pc' := 63) (same := true) rfl (hb hby at_60) rfl (decide_eq_true rfl) (by decide) (by decide) k) ?_
        show own_Go p e below _ (T19.setTop (mkF m 63 #[iv p0, iv p1, iv (p0 &&& (3 : Int32)), iv idv, rv w3] []))
        refine own_by (B := T19.setTop (mkF m 68 #[iv p0, iv p1, iv (p0 &&& (3 : Int32)), iv idv, rv w3] [(.int (1 : Int32))])) (fun t k => ?_) ?_
        · show Steps p.tables e below (T19.setTop (mkF m 63 #[iv p0, iv p1, iv (p0 &&& (3 : Int32)), iv idv, rv w3] [])) _
          refine XS.iconst X19.here hx rfl (hb hby at_63) ?_
          show Steps p.tables e below (T19.setTop (mkF m 64 #[iv p0, iv p1, iv (p0 &&& (3 : Int32)), iv idv, rv w3] [(.int (1 : Int32))])) _
          refine XS.goto X19.here hx rfl (pc0 := 64) (pc' := 68) rfl (hb hby at_64) (by decide) (by decide) ?_
          show Steps p.tables e below (T19.setTop (mkF m 68 #[iv p0, iv p1, iv (p0 &&& (3 : Int32)), iv idv, rv w3] [(.int (1 : Int32))])) _
          exact k
        exact own_retN X19 Bd.notSynchronized hx (t := .boolean) Bd.returns (by simp) (hb hby at_68) (by
            rw [show T19.heap = h0 from e19]
            exact ⟨rfl, N0⟩) (by decide) (by decide)

set_option maxRecDepth 65536 in
set_option maxHeartbeats 40000000 in
theorem comes_1 {Post : Tables → Env → Array Value → State → Outcome → State → Prop} (hpost : ∀ tb e args s v u, (limb_1_1.after args s (.returned v) u = true ∧ limb_1_2.after args s (.returned v) u = true ∧ True) → FrameEnd s (.returned v) u (Jvm.fieldLocs frame_1_writes args s ++ Jvm.arrayLocs frame_1_arrays args s ++ Jvm.staticLocs frame_1_statics s) 0 0 → Post tb e args s (.returned v) u) :
    ArmFor flags0 classFile x code maxLocals ret World_1 tables_1 room_1 Calls_1 rest_1 Pre_1 Post := by
  intro l hfl _ _ p e ha hc hk s m args below hf hA hF happ hP
  obtain ⟨hcalls, hrest, hpre⟩ := hP
  obtain ⟨-, -, -, hnamed, -, -, -, hat⟩ := (Spec.applies_iff hf).mp happ
  obtain ⟨hg, hn⟩ := and_e (Cond.before_iff.mp (show (Jvm.Cond.and given_1 narrow_1).before args s = true from hpre))
  obtain ⟨g0, g0'⟩ := and_e hg
  obtain ⟨g1, g1'⟩ := and_e g0'
  obtain ⟨w0, w1, rfl⟩ : ∃ w0 w1 : Value, args = #[w0, w1] := by
    have hs : args.size = 2 := by simpa [Cond.value, given_1] using g0
    obtain ⟨L⟩ := args
    match L, hs with
    | [w0, w1], _ => exact ⟨w0, w1, rfl⟩
  have hw := fun d (hd : d ∈ tables_1) => atoms_spec (ws := Jvm.Cond.code x code maxLocals ret :: tables_1) hat d (List.mem_cons_of_mem _ hd)
  have hfit : Fit s := fun {y c} hc i hi => by
    obtain ⟨ha, rfl⟩ := Array.getElem?_eq_some_iff.mp hc
    have q := List.all_eq_true.mp ((Array.all_eq_true_iff_forall_mem.mp hF) _ (Array.getElem_mem ha)) i (List.mem_range.mpr hi)
    simpa [Array.getElem?_eq_getElem hi] using q
  obtain ⟨i0, ei0⟩ := is_v g1
  obtain rfl : w0 = (.int i0) := Option.some.inj ei0
  obtain ⟨i1, ei1⟩ := is_v g1'
  obtain rfl : w1 = (.int i1) := Option.some.inj ei1
  obtain ⟨m0, m0'⟩ := and_e hn
  obtain ⟨m1, m1'⟩ := and_e m0'
  obtain ⟨m2, m2'⟩ := and_e m1'
  obtain ⟨m3, m3'⟩ := and_e m2'
  obtain ⟨m4, m4'⟩ := and_e m3'
  obtain ⟨m5, m5'⟩ := and_e m4'
  obtain ⟨m6, m6'⟩ := and_e m5'
  obtain ⟨m7, m7'⟩ := and_e m6'
  obtain ⟨m8, m8'⟩ := and_e m7'
  obtain ⟨m9, m9'⟩ := and_e m8'
  obtain ⟨m10, m10'⟩ := and_e m9'
  obtain ⟨m11, m11'⟩ := and_e m10'
  obtain ⟨m12, m12'⟩ := and_e m11'
  have m13 := m12'
  obtain ⟨al, val⟩ := arr_v m0
  have S_ALL := Sta.start val (Or.inr ⟨(hw _ (List.mem_of_getElem? (i := 2) rfl)), (hw _ (List.mem_of_getElem? (i := 5) rfl))⟩)
  obtain ⟨cl, A, hA1, hA2⟩ := own_arr val m0 m1
  obtain ⟨w0, v0, S_0, E_0⟩ := own_sta m2 (hw _ (List.mem_of_getElem? (i := 2) rfl)) (hw _ (List.mem_of_getElem? (i := 6) rfl))
  have q0 := own_elem val A (own_eqR m3 v0)
  have F_0 := own_ord v0 m4
  obtain ⟨w1, v1, S_1, E_1⟩ := own_sta m5 (hw _ (List.mem_of_getElem? (i := 2) rfl)) (hw _ (List.mem_of_getElem? (i := 9) rfl))
  have q1 := own_elem val A (own_eqR m6 v1)
  have F_1 := own_ord v1 m7
  obtain ⟨w2, v2, S_2, E_2⟩ := own_sta m8 (hw _ (List.mem_of_getElem? (i := 2) rfl)) (hw _ (List.mem_of_getElem? (i := 10) rfl))
  have q2 := own_elem val A (own_eqR m9 v2)
  have F_2 := own_ord v2 m10
  obtain ⟨w3, v3, S_3, E_3⟩ := own_sta m11 (hw _ (List.mem_of_getElem? (i := 2) rfl)) (hw _ (List.mem_of_getElem? (i := 11) rfl))
  have q3 := own_elem val A (own_eqR m12 v3)
  have F_3 := own_ord v3 m13
  have V : Arv s s.heap al cl.cls (.object "com/example/tidebook/tidebook/io/Protocol") (4 : Int32) [.ref w0, .ref w1, .ref w2, .ref w3] .null := Arv.start hfit A hA1 hA2 (by decide) rfl ⟨q0, q1, q2, q3, trivial⟩
  obtain ⟨n, o, h1, h2, h3, _, L, rfl, ⟨rfl, N⟩, hq⟩ := rm0 l s _ hw tables_1 i0 i1 al cl.cls w0 w1 w2 w3 s.heap s.heap.size (Nat.le_refl _) (Old.start s) S_ALL S_3 V F_0 F_1 F_2 F_3 S_0 S_1 S_2 p e ha hc hk s m _ below hf ((Spec.applies_iff_loose hf).mp happ).1 ⟨rfl, State.Warmed39.refl s, rfl⟩ trivial
  refine ⟨n, _, h1, h2, h3, hpost _ _ _ _ _ _ ⟨Cond.after_iff.mpr rfl, Cond.after_iff.mpr (eq_i res_at (Term.int_eval (1)) rfl), trivial⟩ ⟨hq.1, hq.2.1, (hq.2.2.sift fun y hy => Or.inr (N y hy)).mono (by decide) (by decide)⟩⟩
theorem main_1_1 : Claimed_1_1 := comes_1 fun _ _ _ _ _ _ h hF => ⟨h.1, hF⟩
theorem main_1_2 : Claimed_1_2 := comes_1 fun _ _ _ _ _ _ h hF => ⟨h.2.1, hF⟩
end Jvm.Pilot.@@N@@
namespace Jvm.Pilot.@@N@@
open Jvm Jvm.ClassFile Sem Op Lib Jvm.Free Jvm.Stand Jvm.Pilot.@@N@@.Jvm.D
/-! MADE BY PROGRAM (witnessworld.py) out of the Statement's table words and the real class files: 13 classes; the members and pool entries that the words name. The judged class is class 1, her method 1. -/
namespace start1
open Jvm.ClassFile
def u (s : String) : CpInfo := .utf8 (stringToUtf16 s)
/-- a pool by its gaps: so many unusable entries, then the entry; so many at the end -/
def gap : Nat → List CpInfo → List CpInfo
  | 0, r => r
  | n + 1, r => .unusable :: gap n r
def poolList (es : List (Nat × CpInfo)) (last : Nat) : List CpInfo := es.foldr (fun e r => gap e.1 (e.2 :: r)) (gap last [])
def pool (es : List (Nat × CpInfo)) (last : Nat) : Array CpInfo := ⟨poolList es last⟩
def fileOf (pool : Array CpInfo) (this : Nat) (attrs : Array Attribute := #[]) (ms : Array MethodInfo := #[]) (fl : Nat := 33) (sup : Nat := 0) (ifs : Array Nat := #[]) (fds : Array FieldInfo := #[]) : ClassFile where
  minorVersion := 0
  majorVersion := 65
  constantPool := pool
  accessFlags := fl
  thisClass := this
  superClass := sup
  interfaces := ifs
  fields := fds
  methods := ms
  attributes := attrs
def plain (name : String) (sup : Option ClassId) : Class where
  name := name
  kind := .ordinary
  loader := none
  accessFlags := 33
  super := sup
  interfaces := #[]
  cf := none
  fields := #[]
  methods := #[]
  instanceTypes := #[]
  staticTypes := #[]
  resolved := #[]
  callSites := []
  init := .initialized
  statics := none
  mirror := none

def pool0 : Array CpInfo := pool [(5, u "<init>"), (0, u "()V"), (1, .class_ 10), (1, u "java/lang/Object")] 113

def k0m0 : Method := { name := "<init>", desc := "()V", sig := { parameters := [], returnType := none }, accessFlags := 1, code := none }
/-- java/lang/Object -/
def k0 : Class := { plain "java/lang/Object" none with
  accessFlags := 33
  interfaces := #[]
  cf := some (fileOf pool0 8 #[] #[{ accessFlags := 1, nameIndex := 5, descriptorIndex := 6, attributes := #[] }] 33 0 #[] #[])
  fields := #[]
  methods := #[k0m0]
  instanceTypes := #[]
  staticTypes := #[]
  resolved := Array.replicate 124 none
  statics := none }

def pool1 : Array CpInfo := pool [(2, .class_ 4), (1, u "java/lang/Object"), (0, u "<init>"), (0, u "()V"), (0, .integer 32768), (0, .integer 65535), (0, .methodref 10 11), (0, .class_ 12), (0, .nameAndType 13 14), (0, u "com/example/tidebook/tidebook/io/Protocol"), (0, u "of"), (0, u "(I)Lcom/example/tidebook/tidebook/io/Protocol;"), (0, .methodref 16 17), (0, .class_ 18), (0, .nameAndType 19 14), (0, u "com/example/tidebook/tidebook/io/ProtocolOfPinLaw"), (0, u "expected"), (0, .integer 32770), (0, .fieldref 10 22), (0, .nameAndType 23 24), (0, u "TOPS_1_5"), (0, u "Lcom/example/tidebook/tidebook/io/Protocol;"), (0, .integer 32771), (0, .fieldref 10 27), (0, .nameAndType 28 24), (0, u "TOPS_1_6"), (0, .integer 32772), (0, .fieldref 10 31), (0, .nameAndType 32 24), (0, u "DEEP_1_0"), (0, .fieldref 10 34), (0, .nameAndType 35 24), (0, u "UNKNOWN"), (2, u "law"), (0, u "(II)Z")] 3

def k1m0 : Method := { name := "<init>", desc := "()V", sig := { parameters := [], returnType := none }, accessFlags := 1, code := none }
def k1c1 : Code := { maxStack := 3, maxLocals := 5, code := code, exceptionTable := #[], attributes := #[] }
def k1m1 : Method := { name := "law", desc := "(II)Z", sig := { parameters := [.int, .int], returnType := some .boolean }, accessFlags := 9, code := some k1c1 }
def k1c2 : Code := { maxStack := 2, maxLocals := 1, code := method_3_code, exceptionTable := #[], attributes := #[] }
def k1m2 : Method := { name := "expected", desc := "(I)Lcom/example/tidebook/tidebook/io/Protocol;", sig := { parameters := [.int], returnType := some (.object "com/example/tidebook/tidebook/io/Protocol") }, accessFlags := 10, code := some k1c2 }
/-- com/example/tidebook/tidebook/io/ProtocolOfPinLaw -/
def k1 : Class := { plain "com/example/tidebook/tidebook/io/ProtocolOfPinLaw" (some 0) with
  accessFlags := 49
  interfaces := #[]
  cf := some (fileOf pool1 16 #[] #[{ accessFlags := 1, nameIndex := 5, descriptorIndex := 6, attributes := #[] }, { accessFlags := 9, nameIndex := 38, descriptorIndex := 39, attributes := #[] }, { accessFlags := 10, nameIndex := 19, descriptorIndex := 14, attributes := #[] }] 49 2 #[] #[])
  fields := #[]
  methods := #[k1m0, k1m1, k1m2]
  instanceTypes := #[]
  staticTypes := #[]
  resolved := Array.replicate 43 none
  statics := none }

def pool2 : Array CpInfo := pool [(1, .class_ 2), (0, u "java/lang/constant/Constable"), (0, .class_ 4), (0, u "java/lang/Object")] 6

/-- java/lang/constant/Constable -/
def k2 : Class := { plain "java/lang/constant/Constable" (some 0) with
  accessFlags := 1537
  interfaces := #[]
  cf := some (fileOf pool2 1 #[] #[] 1537 3 #[] #[])
  fields := #[]
  methods := #[]
  instanceTypes := #[]
  staticTypes := #[]
  resolved := Array.replicate 11 none
  statics := none }

def pool3 : Array CpInfo := pool [(1, .class_ 2), (0, u "java/lang/Comparable"), (0, .class_ 4), (0, u "java/lang/Object")] 7

/-- java/lang/Comparable -/
def k3 : Class := { plain "java/lang/Comparable" (some 0) with
  accessFlags := 1537
  interfaces := #[]
  cf := some (fileOf pool3 1 #[] #[] 1537 3 #[] #[])
  fields := #[]
  methods := #[]
  instanceTypes := #[]
  staticTypes := #[]
  resolved := Array.replicate 12 none
  statics := none }

def pool4 : Array CpInfo := pool [(1, .class_ 2), (0, u "java/io/Serializable"), (0, .class_ 4), (0, u "java/lang/Object")] 2

/-- java/io/Serializable -/
def k4 : Class := { plain "java/io/Serializable" (some 0) with
  accessFlags := 1537
  interfaces := #[]
  cf := some (fileOf pool4 1 #[] #[] 1537 3 #[] #[])
  fields := #[]
  methods := #[]
  instanceTypes := #[]
  staticTypes := #[]
  resolved := Array.replicate 7 none
  statics := none }

def pool5 : Array CpInfo := pool [(2, .class_ 4), (1, u "java/lang/Enum"), (0, u "name"), (0, u "Ljava/lang/String;"), (2, u "ordinal"), (0, u "I"), (1, .class_ 14), (1, u "java/lang/Object"), (4, u "hash"), (86, .class_ 108), (1, u "java/lang/Enum$EnumDesc"), (2, .class_ 112), (0, u "java/lang/constant/Constable"), (0, .class_ 114), (0, u "java/lang/Comparable"), (0, .class_ 116), (0, u "java/io/Serializable")] 87

/-- java/lang/Enum -/
def k5 : Class := { plain "java/lang/Enum" (some 0) with
  accessFlags := 1057
  interfaces := #[2, 3, 4]
  cf := some (fileOf pool5 2 #[.nestMembers #[106]] #[] 1057 12 #[111, 113, 115] #[{ accessFlags := 18, nameIndex := 5, descriptorIndex := 6, attributes := #[] }, { accessFlags := 18, nameIndex := 9, descriptorIndex := 10, attributes := #[] }, { accessFlags := 2, nameIndex := 19, descriptorIndex := 10, attributes := #[] }])
  fields := #[{ name := "name", type := (.object "java/lang/String"), accessFlags := 18, slot := 0, constantValue := 0 }, { name := "ordinal", type := .int, accessFlags := 18, slot := 1, constantValue := 0 }, { name := "hash", type := .int, accessFlags := 2, slot := 2, constantValue := 0 }]
  methods := #[]
  instanceTypes := #[(.object "java/lang/String"), .int, .int]
  staticTypes := #[]
  resolved := Array.replicate 204 none
  statics := none }

def pool6 : Array CpInfo := pool [(1, .class_ 2), (0, u "com/example/tidebook/tidebook/io/Protocol"), (2, u "TOPS_1_5"), (0, u "Lcom/example/tidebook/tidebook/io/Protocol;"), (2, u "TOPS_1_6"), (2, u "DEEP_1_0"), (0, .fieldref 1 14), (0, .nameAndType 15 6), (0, u "UNKNOWN"), (2, u "$VALUES"), (0, u "[Lcom/example/tidebook/tidebook/io/Protocol;"), (6, .class_ 28), (1, u "java/lang/Enum"), (10, u "layouts"), (0, u "[Lcom/example/tidebook/tidebook/io/MessageLayout;"), (0, .fieldref 1 42), (0, .nameAndType 43 44), (0, u "id"), (0, u "I"), (2, u "label"), (0, u "Ljava/lang/String;"), (4, .fieldref 1 54), (0, .nameAndType 55 19), (0, u "ALL"), (82, u "of"), (0, u "(I)Lcom/example/tidebook/tidebook/io/Protocol;")] 7

def k6c0 : Code := { maxStack := 2, maxLocals := 5, code := prog_27_method_4_code, exceptionTable := #[], attributes := #[] }
def k6m0 : Method := { name := "of", desc := "(I)Lcom/example/tidebook/tidebook/io/Protocol;", sig := { parameters := [.int], returnType := some (.object "com/example/tidebook/tidebook/io/Protocol") }, accessFlags := 9, code := some k6c0 }
/-- com/example/tidebook/tidebook/io/Protocol -/
def k6 : Class := { plain "com/example/tidebook/tidebook/io/Protocol" (some 5) with
  accessFlags := 16433
  interfaces := #[]
  cf := some (fileOf pool6 1 #[] #[{ accessFlags := 9, nameIndex := 138, descriptorIndex := 139, attributes := #[] }] 16433 26 #[] #[{ accessFlags := 16409, nameIndex := 5, descriptorIndex := 6, attributes := #[] }, { accessFlags := 16409, nameIndex := 9, descriptorIndex := 6, attributes := #[] }, { accessFlags := 16409, nameIndex := 12, descriptorIndex := 6, attributes := #[] }, { accessFlags := 16409, nameIndex := 15, descriptorIndex := 6, attributes := #[] }, { accessFlags := 26, nameIndex := 55, descriptorIndex := 19, attributes := #[] }, { accessFlags := 18, nameIndex := 43, descriptorIndex := 44, attributes := #[] }, { accessFlags := 18, nameIndex := 47, descriptorIndex := 48, attributes := #[] }, { accessFlags := 18, nameIndex := 39, descriptorIndex := 40, attributes := #[] }, { accessFlags := 4122, nameIndex := 18, descriptorIndex := 19, attributes := #[] }])
  fields := #[{ name := "TOPS_1_5", type := (.object "com/example/tidebook/tidebook/io/Protocol"), accessFlags := 16409, slot := 0, constantValue := 0 }, { name := "TOPS_1_6", type := (.object "com/example/tidebook/tidebook/io/Protocol"), accessFlags := 16409, slot := 1, constantValue := 0 }, { name := "DEEP_1_0", type := (.object "com/example/tidebook/tidebook/io/Protocol"), accessFlags := 16409, slot := 2, constantValue := 0 }, { name := "UNKNOWN", type := (.object "com/example/tidebook/tidebook/io/Protocol"), accessFlags := 16409, slot := 3, constantValue := 0 }, { name := "ALL", type := (.array (.object "com/example/tidebook/tidebook/io/Protocol")), accessFlags := 26, slot := 4, constantValue := 0 }, { name := "id", type := .int, accessFlags := 18, slot := 3, constantValue := 0 }, { name := "label", type := (.object "java/lang/String"), accessFlags := 18, slot := 4, constantValue := 0 }, { name := "layouts", type := (.array (.object "com/example/tidebook/tidebook/io/MessageLayout")), accessFlags := 18, slot := 5, constantValue := 0 }, { name := "$VALUES", type := (.array (.object "com/example/tidebook/tidebook/io/Protocol")), accessFlags := 4122, slot := 5, constantValue := 0 }]
  methods := #[k6m0]
  instanceTypes := #[(.object "java/lang/String"), .int, .int, .int, (.object "java/lang/String"), (.array (.object "com/example/tidebook/tidebook/io/MessageLayout"))]
  staticTypes := #[(.object "com/example/tidebook/tidebook/io/Protocol"), (.object "com/example/tidebook/tidebook/io/Protocol"), (.object "com/example/tidebook/tidebook/io/Protocol"), (.object "com/example/tidebook/tidebook/io/Protocol"), (.array (.object "com/example/tidebook/tidebook/io/Protocol")), (.array (.object "com/example/tidebook/tidebook/io/Protocol"))]
  resolved := Array.replicate 147 none
  statics := some 0 }

def pool7 : Array CpInfo := pool [(1, u "java/lang/Cloneable"), (0, .class_ 1), (0, u "java/lang/Object"), (0, .class_ 3)] 3

/-- java/lang/Cloneable -/
def k7 : Class := { plain "java/lang/Cloneable" (some 0) with
  accessFlags := 1537
  interfaces := #[]
  cf := some (fileOf pool7 2 #[] #[] 1537 4 #[] #[])
  fields := #[]
  methods := #[]
  instanceTypes := #[]
  staticTypes := #[]
  resolved := Array.replicate 8 none
  statics := none }

/-- the primitive byte -/
def k8 : Class := { plain "byte" none with kind := .primitive 'B', accessFlags := 0x411 }
/-- [B -/
def k9 : Class := { plain "[B" (some 0) with kind := .array 8 .byte, interfaces := #[7, 4], accessFlags := 1041 }

/-- the primitive int -/
def k10 : Class := { plain "int" none with kind := .primitive 'I', accessFlags := 0x411 }
/-- [I -/
def k11 : Class := { plain "[I" (some 0) with kind := .array 10 .int, interfaces := #[7, 4], accessFlags := 1041 }

/-- [Lcom/example/tidebook/tidebook/io/Protocol; -/
def k12 : Class := { plain "[Lcom/example/tidebook/tidebook/io/Protocol;" (some 0) with kind := .array 6 (.object "com/example/tidebook/tidebook/io/Protocol"), interfaces := #[7, 4], accessFlags := 1041 }

def heap : Heap := #[{ cls := 6, slots := #[.ref 2, .ref 3, .ref 4, .ref 5, .ref 1, .null], vm := .statics 6 },
  { cls := 12, slots := #[.ref 2, .ref 3, .ref 4, .ref 5], vm := .none },
  { cls := 6, slots := #[.null, .int 0, .int 0, .int 32770, .null, .null], vm := .none },
  { cls := 6, slots := #[.null, .int 1, .int 0, .int 32771, .null, .null], vm := .none },
  { cls := 6, slots := #[.null, .int 2, .int 0, .int 32772, .null, .null], vm := .none },
  { cls := 6, slots := #[.null, .int 3, .int 0, .int (-1), .null, .null], vm := .none }]
def classes : Array Class := #[k0, k1, k2, k3, k4, k5, k6, k7, k8, k9, k10, k11, k12]
def interned : List (Array UInt16 × Addr) := []
def slotsUsed : Nat := 34
def theMethod : MethodId := ⟨1, 1⟩
def args0 : Array Value := #[.int 5, .int 6]
def aboutOver (below : List Frame) : State where
  vm := { classes := classes, interned := interned.toArray }
  heap := heap
  slotsUsed := slotsUsed
  threads := #[{ frames := .invoking theMethod args0 :: below }]
def below0 : List Frame := [.native { method := ⟨0, 0⟩, args := #[] }]
def about1 : State := aboutOver below0
def p0 : Program := .bare "" "" ""
def e0 : Env := launch0.env 0 0 0
theorem w_frames : about1.frames = Frame.invoking theMethod args0 :: below0 := rfl
set_option maxRecDepth 65536 in
theorem w_args : argsFit about1.vm theMethod args0 = true := by decide +kernel
set_option maxRecDepth 65536 in
theorem w_heap : heapFits about1 = true := by decide +kernel
set_option maxRecDepth 65536 in
theorem w_runnable : about1.curStatus? = some .runnable := by decide +kernel
set_option maxRecDepth 65536 in
theorem w_alone : about1.alone = true := by decide +kernel
set_option maxRecDepth 65536 in
theorem w_named : about1.methodNamed? x = some theMethod := by decide +kernel
set_option maxRecDepth 65536 in
theorem w_hears : about1.hears theMethod below0 = true := by decide +kernel
set_option maxRecDepth 65536 in
theorem w_ripe : about1.ripe theMethod args0 below0 = true := by decide +kernel
theorem w_running : about1.status = .running := rfl
set_option maxRecDepth 65536 in
theorem w_room : about1.hasRoom e0.platform room_1 = true :=
  launch0.hasRoom_least _ room_1 (by decide +kernel) (by decide +kernel) (by decide +kernel) (by decide +kernel) (by decide +kernel) (by decide +kernel)
theorem allAtoms_all (ts : List Jvm.Cond) (a : Array Jvm.Value) (st : Jvm.State) : (allAtoms ts).before a st = ts.all (fun c => c.before a st) := by
  induction ts with
  | nil => rfl
  | cons c t ih =>
    show (Jvm.Cond.and c (allAtoms t)).before a st = _
    rw [Jvm.Cond.before_and, ih, List.all_cons]
def words1 : List Jvm.Cond := Jvm.Cond.code x code maxLocals ret :: tables_1
/-- a 'code' word, met by the world's own term for the bytes: nothing is compared byte by byte -/
theorem code_word {y : MethodName} {bytes : ByteArray} {mx : Nat} {rt : Option FieldType} {a : Array Value} {s : State} {m : MethodId} {meth : Method} {c : Code} (h1 : s.methodNamed? y = some m) (h2 : s.vm.method? m = some meth) (h3 : meth.code = some c) (h4 : c.code = bytes)
    (h5 : (c.maxLocals == mx && c.exceptionTable.isEmpty && decide (c.maxStack ≤ mostOperands) && decide (meth.sig.returnType = rt) && !meth.locks && decide (parseMethodDescriptor y.desc = some meth.sig)) = true) : (Jvm.Cond.code y bytes mx rt).before a s = true := by
  simp only [Bool.and_eq_true, beq_iff_eq, Bool.not_eq_true', decide_eq_true_eq] at h5
  obtain ⟨⟨⟨⟨⟨g1, g2⟩, g3⟩, g4⟩, g5⟩, g6⟩ := h5
  simp [Cond.before, Cond.holds, Cond.value, h1, h2, h3, h4, g1, g2, g3, g4, g5, g6]
def isCode : Jvm.Cond → Bool
  | .code _ _ _ _ => true
  | _ => false
theorem all_split {L : List Jvm.Cond} {P : Jvm.Cond → Bool} (h1 : L.all (fun c => isCode c || P c) = true) (h2 : ∀ c ∈ L.filter isCode, P c = true) : L.all P = true := by
  refine List.all_eq_true.mpr fun c hc => ?_
  have h := List.all_eq_true.mp h1 c hc
  rcases Bool.eq_false_or_eq_true (isCode c) with hi | hi
  · exact h2 c (List.mem_filter.mpr ⟨hc, hi⟩)
  · simpa [hi] using h
set_option maxRecDepth 65536 in
theorem w_c0 : (Jvm.Cond.code x code maxLocals ret).before args0 about1 = true := code_word (m := ⟨1, 1⟩) (meth := k1m1) (c := k1c1) (by decide +kernel) rfl rfl rfl (by decide +kernel)
set_option maxRecDepth 65536 in
theorem w_c1 : (Jvm.Cond.code ({ cls := "com/example/tidebook/tidebook/io/Protocol", name := "of", desc := "(I)Lcom/example/tidebook/tidebook/io/Protocol;" } : Jvm.MethodName) prog_27_method_4_code (5 : Nat) (Option.some (Jvm.ClassFile.FieldType.object "com/example/tidebook/tidebook/io/Protocol"))).before args0 about1 = true := code_word (m := ⟨6, 0⟩) (meth := k6m0) (c := k6c0) (by decide +kernel) rfl rfl rfl (by decide +kernel)
set_option maxRecDepth 65536 in
theorem w_c2 : (Jvm.Cond.code ({ cls := "com/example/tidebook/tidebook/io/ProtocolOfPinLaw", name := "expected", desc := "(I)Lcom/example/tidebook/tidebook/io/Protocol;" } : Jvm.MethodName) method_3_code (1 : Nat) (Option.some (Jvm.ClassFile.FieldType.object "com/example/tidebook/tidebook/io/Protocol"))).before args0 about1 = true := code_word (m := ⟨1, 2⟩) (meth := k1m2) (c := k1c2) (by decide +kernel) rfl rfl rfl (by decide +kernel)
def codes1 : List Jvm.Cond := [Jvm.Cond.code x code maxLocals ret, Jvm.Cond.code ({ cls := "com/example/tidebook/tidebook/io/Protocol", name := "of", desc := "(I)Lcom/example/tidebook/tidebook/io/Protocol;" } : Jvm.MethodName) prog_27_method_4_code (5 : Nat) (Option.some (Jvm.ClassFile.FieldType.object "com/example/tidebook/tidebook/io/Protocol")), Jvm.Cond.code ({ cls := "com/example/tidebook/tidebook/io/ProtocolOfPinLaw", name := "expected", desc := "(I)Lcom/example/tidebook/tidebook/io/Protocol;" } : Jvm.MethodName) method_3_code (1 : Nat) (Option.some (Jvm.ClassFile.FieldType.object "com/example/tidebook/tidebook/io/Protocol"))]
set_option maxRecDepth 65536 in
theorem codes_eq : words1.filter isCode = codes1 := rfl
theorem w_codes : ∀ c ∈ words1.filter isCode, c.before args0 about1 = true := by
  rw [codes_eq]
  intro c hc
  simp only [codes1, List.mem_cons, List.not_mem_nil, or_false] at hc
  rcases hc with rfl | rfl | rfl
  · exact w_c0
  · exact w_c1
  · exact w_c2
set_option maxRecDepth 65536 in
theorem w_t1 : (words1.take 24).all (fun c => isCode c || c.before args0 about1) = true := by decide +kernel
set_option maxRecDepth 65536 in
theorem w_t2 : (words1.drop 24).all (fun c => isCode c || c.before args0 about1) = true := by decide +kernel
theorem w_tables : (allAtoms (Jvm.Cond.code x code maxLocals ret :: tables_1)).before args0 about1 = true := by
  rw [allAtoms_all]
  show words1.all (fun c => c.before args0 about1) = true
  refine all_split ?_ w_codes
  rw [← List.take_append_drop 24 words1, List.all_append, w_t1, w_t2]
  rfl
set_option maxRecDepth 65536 in
theorem w_case : (Jvm.Cond.and given_1 narrow_1).before args0 about1 = true := by decide +kernel
theorem w_applies : (headSpec (Jvm.Cond.code x code maxLocals ret :: tables_1) room_1).applies x e0.platform about1 = true :=
  (Spec.applies_iff w_frames).mpr ⟨w_running, w_runnable, w_alone, w_named, w_hears, w_ripe, w_room, w_tables⟩
theorem atStart : AtStart classFile x code maxLocals ret World_1 tables_1 room_1 Calls_1 rest_1 Pre_1 launch0 p0 e0 about1 theMethod args0 below0 :=
  ⟨lists_1, trivial, launch0.admits_env _ _ _, launch0.least_env, fairChoices_fair.cas, fairChoices_fair.clock, w_frames, w_args, w_heap, w_applies, trivial, trivial, w_case⟩
end start1
theorem witness_1 : WitnessClaimed_1 := ⟨start1.p0, start1.e0, start1.about1, start1.theMethod, start1.args0, start1.below0, start1.atStart⟩
end Jvm.Pilot.@@N@@
