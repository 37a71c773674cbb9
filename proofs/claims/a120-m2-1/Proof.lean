import JvmDerived
import JvmDerived.Pilot.@@N@@Statement
import JvmDerived.Pilot.@@N@@Code
set_option linter.unusedVariables false
set_option linter.unusedSimpArgs false
namespace Jvm.RoadKit
open Sem ClassFile Op Lib Jvm.Stand Jvm.Free Jvm.LawKit
section New
variable {p : Program} {l : Launch} {e : Env} {R : Room} {s : State} {m : MethodId} {args : Array Value} {below : List Frame} {meth : Method} {c : Code} {T : State} {locs : List Loc} {cells slots : Nat}
theorem retI (X : Stand p l e R s m args below meth c T locs cells slots) (hx : p.tables.exec = Jvm.exec) {pc : Nat} {Ls : Array Slot} {z : Int32} {rest : List Value} (hret : meth.sig.returnType = some .int) (hd : decode c.code pc = .ok (.ireturn, 1)) {fs : List Frame}
    (hl : ∀ (f : JFrame) (acts : List Action), f.method = m → f.locked = none → f.entered = [] → (doReturn e (T.setTop f) acts (some (.int z))).1 = T.setFrames fs) : Steps p.tables e below (T.setTop (mkF m pc Ls (.int z :: rest))) (T.setFrames fs) :=
  retOut X hx hret rfl (Or.inl ⟨rfl, Or.inl rfl, _, rfl⟩) hd hl
def Elt (Z : State) (h : Heap) (a : Addr) (ty : FieldType) (j : Int32) (v : Value) : Prop := ∃ cl : Cell, Arr Z h a cl ty ∧ ¬ (j < 0 ∨ cl.slots.size ≤ j.toNatClampNeg) ∧ cl.slots[j.toNatClampNeg]? = some v
theorem Elt.of {Z : State} {h : Heap} {a : Addr} {k : ClassId} {ty : FieldType} {n j : Int32} {vs : List Value} {d v : Value} (F : Arv Z h a k ty n vs d) (q : ¬ j < 0 ∧ j < n) (u : vs.getD j.toNatClampNeg d = v) : Elt Z h a ty j v := by
  obtain ⟨c, A, _, S, _, H, _⟩ := F
  exact ⟨c, A, inb_of S q, H.at (inb_of S q) u⟩
def Goes (tb : Tables) (e : Env) (below : List Frame) (P : State → Outcome → Prop) (A : State) : Prop := ∃ s₂ o, Steps tb e below A s₂ ∧ P s₂ o
theorem Goes.start {tb : Tables} {e : Env} {below : List Frame} {P : State → Outcome → Prop} {A : State} (h : Goes tb e below P A) : ∃ s₂ o, Steps tb e below A s₂ ∧ P s₂ o := h
theorem Goes.by {tb : Tables} {e : Env} {below : List Frame} {P : State → Outcome → Prop} {A B : State} (h : ∀ t, Steps tb e below B t → Steps tb e below A t) (g : Goes tb e below P B) : Goes tb e below P A := by
  obtain ⟨s₂, o, h1, h2⟩ := g
  exact ⟨s₂, o, h _ h1, h2⟩
theorem Goes.mk {tb : Tables} {e : Env} {below : List Frame} {P : State → Outcome → Prop} {A : State} (s₂ : State) (o : Outcome) (h : Steps tb e below A s₂) (hp : P s₂ o) : Goes tb e below P A := ⟨s₂, o, h, hp⟩
end New
end Jvm.RoadKit
namespace Jvm.RoadKit
open Sem ClassFile Op Lib Jvm.Stand Jvm.Free Jvm.LawKit
section Ref
variable {p : Program} {l : Launch} {e : Env} {R : Room} {s : State} {m : MethodId} {args : Array Value} {below : List Frame} {meth : Method} {c : Code} {T : State} {locs : List Loc} {cells slots : Nat} {Z : State} {a0 : Array Value} {h : Heap}
theorem own_ready (X : Stand p l e R s m args below meth c T locs cells slots) (hZ : Z.Warmed39 s.vm) {own O n d : String} {index : Nat} (hown : s.vm.findClass own = some m.cls) (w : (Cond.fieldRef own index O n d).before a0 Z = true)
    {cf i : Nat} {k : Class} {f : Field} (h2 : Z.fieldFound? O n d = some (cf, k, i, f)) : T.vm.fieldReady m.cls index cf f := by
  have hU : Z.Warmed39 T.vm := wtrans hZ X.warmed
  have w' := Cond.fieldRef_warmed39 hU w
  have hc : (Z.setVm T.vm).vm.findClass own = some m.cls := by
    show T.vm.findClass own = some m.cls
    rw [X.warmed.alike.findClass]; exact hown
  obtain ⟨c1, k1, i1, f1, e1, e2⟩ := Cond.fieldRef_spec hc w'
  obtain ⟨k', e3, -⟩ := State.fieldFound?_setVm (s := Z) hU.alike h2
  cases e1.symm.trans e3
  exact e2
theorem getFR (X : Stand p l e R s m args below meth c T locs cells slots) (hx : p.tables.exec = Jvm.exec) (hZ : Z.Warmed39 s.vm) {own O n d : String} {index : Nat} (hown : s.vm.findClass own = some m.cls) (w : (Cond.fieldRef own index O n d).before a0 Z = true)
    (eT : T.heap = h) {a : Addr} {v : Value} (F : Fld Z h a O n d v) {g : JFrame} (hg : g.method = m) {rest : List Value} (hs : g.stack = .ref a :: rest) (hd : decode c.code g.pc = .ok (.getfield index, 3)) {target : State}
    (hr : Steps p.tables e below (T.setTop { g with pc := g.pc + 3, stack := v :: rest }) target) : Steps p.tables e below (T.setTop g) target := by
  obtain ⟨cell, cf, k, i, f, h1, h2, h3, h4, -, -, h7⟩ := F
  exact (X.getfieldR hx hg (own_ready X hZ hown w h2) h3 hs (by rw [eT]; exact h1) h4 h7 hd (Steps.refl _)).trans hr
theorem putFR (X : Stand p l e R s m args below meth c T locs cells slots) (hx : p.tables.exec = Jvm.exec) (hZ : Z.Warmed39 s.vm) {own O n d C : String} {index kk : Nat} {ty : FieldType} (hown : s.vm.findClass own = some m.cls) (w : (Cond.fieldRef own index O n d).before a0 Z = true)
    (eT : T.heap = h) {a : Addr} {v old : Value} (F : Fld Z h a O n d old) (E : Exa Z h a C) (L : (Cond.lays C O n d).before a0 Z = true) (wi : (Cond.instantiable C kk).before a0 Z = true)
    (hty : parseFieldDescriptor d = some ty) (hn : narrow ty v = v) (hf : fits ty v = true) {g : JFrame} (hg : g.method = m) {rest : List Value} (hs : g.stack = v :: .ref a :: rest) (hd : decode c.code g.pc = .ok (.putfield index, 3)) :
    ∃ T' h', Stand p l e R s m args below meth c T' (locs ++ [⟨a, slotOf Z O n d⟩]) cells slots ∧ T'.heap = h' ∧ Wr h h' a (slotOf Z O n d) v ∧ ∀ target, Steps p.tables e below (T'.setTop { g with pc := g.pc + 3, stack := rest }) target → Steps p.tables e below (T.setTop g) target := by
  obtain ⟨cell, cf, k, i, f, h1, h2, h3, h4, h5, -, h7⟩ := F
  obtain ⟨cell', kc, e1, e2, e3, -⟩ := E
  cases h1.symm.trans e1
  obtain ⟨c1, k1, cf1, kf1, i1, f1, a1, a2, a3, -, a5, -, a6, -⟩ := Cond.lays_spec L
  cases h2.symm.trans a3
  cases e2.symm.trans a1
  obtain ⟨c2, k2, i1, i2, i3, -⟩ := Cond.instantiable_spec wi
  cases e2.symm.trans i1
  cases a2.symm.trans i2
  have ht := (State.fieldFound?_type h2 hty).2
  have hfit : Z.fitsSlot cell.cls cell.vm f.slot v = true := by
    have q : Z.slotType? cell.cls cell.vm f.slot = some ty := by
      simp only [State.slotType?, a2, Option.bind_eq_bind, Option.bind_some, i3]
      cases hq : cell.vm <;> first | (rw [hq] at h5; exact Bool.noConfusion h5) | (rw [a6, ht])
    simp [State.fitsSlot, q, hf]
  have hal := (wtrans hZ X.warmed : Z.Warmed39 T.vm).alike
  have hfit' : T.fitsSlot cell.cls cell.vm f.slot v = true := by
    have hq := hfit
    rw [← State.fitsSlot_setVm hal] at hq; exact hq
  have hlt := (Array.getElem?_eq_some_iff.mp h7).1
  have es : slotOf Z O n d = f.slot := by simp [slotOf, h2]
  rw [es]
  obtain ⟨X', st⟩ := X.putfieldReady hx (own_ready X hZ hown w h2) h3 (Or.inl a5) (by rw [eT]; exact h1) h4 hlt (by rw [ht]; exact hn) hfit' hg hs hd
  exact ⟨_, _, X', rfl, ⟨cell, h1, h5, hlt, by rw [← eT]; rfl⟩, st⟩
theorem own_sel {y : MethodName} {kk : Nat} (hZ : Z.Warmed39 s.vm) (wi : (Cond.instantiable y.cls kk).before a0 Z = true) (wp : (Cond.privateMethod y).before a0 Z = true) (wm : (Cond.instanceMethod y).before a0 Z = true) (hy : y.cls ≠ "java/lang/invoke/MethodHandle" ∧ y.cls ≠ "java/lang/invoke/VarHandle") : (Cond.selects y.cls y y).before args s = true := by
  obtain ⟨c, k, h1, h2, -, h4, -, -⟩ := Cond.instantiable_spec (mvT (args := args) hZ wi)
  exact selects_self_of_private h1 h2 (Bool.or_eq_false_iff.mp h4).1 (Cond.privateMethod_at (mvP hZ wp (args := args))) (mvT hZ wm) hy
end Ref
end Jvm.RoadKit
namespace Jvm.RoadKit
open Sem ClassFile Op Lib Jvm.Stand Jvm.Free Jvm.LawKit
section Calls
variable {p : Program} {l : Launch} {e : Env} {R : Room} {s : State} {m : MethodId} {args : Array Value} {below : List Frame} {meth : Method} {c : Code} {T : State} {locs : List Loc} {cells slots : Nat} {Z : State} {a0 : Array Value} {h : Heap}
theorem own_cs (X : Stand p l e R s m args below meth c T locs cells slots) (hx : p.tables.exec = Jvm.exec) (hZ : Z.Warmed39 s.vm) {own : String} {index : Nat} {y : MethodName} {bytes : ByteArray} {maxL : Nat} {ret : Option FieldType} {rm : Room} {W : Nat} {as' : Array Value} {Q : Option Value → Heap → List Loc → Prop} (hown : s.vm.findClass own = some m.cls)
    (w1 : (Cond.methodLink own index y).before a0 Z = true) (w2 : (Cond.static y).before a0 Z = true) (w3 : (Cond.initialized y.cls).before a0 Z = true) (w4 : (Cond.code y bytes maxL ret).before a0 Z = true) (hy : y.cls ≠ "java/lang/invoke/MethodHandle" ∧ y.cls ≠ "java/lang/invoke/VarHandle")
    (hM : MetFree l y (head1 [Cond.code y bytes maxL ret] rm) (fun a U => a = as' ∧ Z.Warmed39 U.vm ∧ U.heap = h) (fun _ _ _ _ _ => True) (fun _ U o U' => ∃ v L, o = .returned v ∧ Q v U'.heap L ∧ FrameEnd U o U' L rm.cells rm.slots)) (hf : rm.frames + 1 ≤ R.frames) (hl : W + (maxL + 11) + rm.locals ≤ R.locals)
    {g : JFrame} (hg : g.method = m) (hsize : g.locals.size = c.maxLocals) {argsL rest : List Value} (ha : argsL.toArray = as') (hlen : ∀ sig, parseMethodDescriptor y.desc = some sig → argsL.length = sig.parameters.length) (hstack : g.stack = argsL.reverse ++ rest) (hW : 2 * g.monitorRoom + (rest.map fun v => v.category).sum ≤ W)
    (hdg : decode c.code g.pc = .ok (.invokestatic index, 3)) (eT : T.heap = h) (hc : cells + rm.cells ≤ R.cells) (hs : slots + rm.slots ≤ R.slots) {c' s' : Nat} (ec : cells + rm.cells = c') (es : slots + rm.slots = s') {n0 : Nat} (N : Fr n0 locs) :
    ∃ (v : Option Value) (T' : State) (L' L : List Loc), Stand p l e R s m args below meth c T' L' c' s' ∧ (Fr n0 L → Fr n0 L') ∧ Q v T'.heap L ∧ ∀ target, Steps p.tables e below (T'.setTop { g with pc := g.pc + 3, stack := v.toList ++ rest }) target → Steps p.tables e below (T.setTop g) target := by
  obtain ⟨v, vm1, ⟨T', L', k', n'⟩, -, X', ⟨L, hQ, l1, y1, z1⟩, st⟩ := Jvm.LawKit.callS X hx (y := y) hown (mvT hZ w1) (mvT hZ w2) (mvT hZ w3) (mvT hZ w4) hy (backOf (W := W) hM hZ w4 w3 hf hl) (g := g) hg hsize (argsL := argsL) (rest := rest) hlen hstack hW hdg (fun _ _ => ⟨ha, eT, hc, hs⟩)
  dsimp only [Pt.U, Pt.locs, Pt.cells, Pt.slots] at X' l1 y1 z1 st hQ
  subst l1 y1 z1 ec es
  exact ⟨v, T', _, L, X', fun q => N.app q, hQ, st⟩
theorem own_ci (X : Stand p l e R s m args below meth c T locs cells slots) (hx : p.tables.exec = Jvm.exec) (hZ : Z.Warmed39 s.vm) {own : String} {index : Nat} {y : MethodName} {bytes : ByteArray} {maxL : Nat} {rm : Room} {W : Nat} {as' : Array Value} {Q : Option Value → Heap → List Loc → Prop} (hy1 : y.name = "<init>") (hown : s.vm.findClass own = some m.cls)
    (w1 : (Cond.methodLink own index y).before a0 Z = true) (w2 : (Cond.instanceMethod y).before a0 Z = true) (w3 : (Cond.initialized y.cls).before a0 Z = true) (w4 : (Cond.code y bytes maxL none).before a0 Z = true) (hy : y.cls ≠ "java/lang/invoke/MethodHandle" ∧ y.cls ≠ "java/lang/invoke/VarHandle")
    (hM : MetFree l y (head1 [Cond.code y bytes maxL none] rm) (fun a U => a = as' ∧ Z.Warmed39 U.vm ∧ U.heap = h) (fun _ _ _ _ _ => True) (fun _ U o U' => ∃ v L, o = .returned v ∧ Q v U'.heap L ∧ FrameEnd U o U' L rm.cells rm.slots)) (hf : rm.frames + 1 ≤ R.frames) (hl : W + (maxL + 11) + rm.locals ≤ R.locals)
    {g : JFrame} (hg : g.method = m) (hsize : g.locals.size = c.maxLocals) {a : Addr} {argsL rest : List Value} (ha : (Value.ref a :: argsL).toArray = as') (hlen : ∀ sig, parseMethodDescriptor y.desc = some sig → argsL.length = sig.parameters.length) (hstack : g.stack = argsL.reverse ++ .ref a :: rest) (hW : 2 * g.monitorRoom + (rest.map fun v => v.category).sum ≤ W)
    (hdg : decode c.code g.pc = .ok (.invokespecial index, 3)) (eT : T.heap = h) (hc : cells + rm.cells ≤ R.cells) (hs : slots + rm.slots ≤ R.slots) {c' s' : Nat} (ec : cells + rm.cells = c') (es : slots + rm.slots = s') {n0 : Nat} (N : Fr n0 locs) :
    ∃ (v : Option Value) (T' : State) (L' L : List Loc), Stand p l e R s m args below meth c T' L' c' s' ∧ (Fr n0 L → Fr n0 L') ∧ Q v T'.heap L ∧ ∀ target, Steps p.tables e below (T'.setTop { g with pc := g.pc + 3, stack := v.toList ++ rest }) target → Steps p.tables e below (T.setTop g) target := by
  obtain ⟨v, vm1, ⟨T', L', k', n'⟩, -, X', ⟨L, hQ, l1, y1, z1⟩, st⟩ := X.specialBack hx (y := y) hy1 hown (mvT hZ w1) (mvT hZ w2) (mvT hZ w4) hy (backOf (W := W) hM hZ w4 w3 hf hl) (g := g) hg hsize (Steps.refl _) (a := a) (argsL := argsL) (rest := rest) hlen hstack hW hdg (fun _ _ => ⟨ha, eT, hc, hs⟩)
  dsimp only [Pt.U, Pt.locs, Pt.cells, Pt.slots] at X' l1 y1 z1 st hQ
  subst l1 y1 z1 ec es
  exact ⟨v, T', _, L, X', fun q => N.app q, hQ, fun _ k => st.trans k⟩
theorem own_cv (X : Stand p l e R s m args below meth c T locs cells slots) (hx : p.tables.exec = Jvm.exec) (hZ : Z.Warmed39 s.vm) {own C : String} {index : Nat} {y : MethodName} {bytes : ByteArray} {maxL : Nat} {ret : Option FieldType} {rm : Room} {W : Nat} {as' : Array Value} {Q : Option Value → Heap → List Loc → Prop} (hown : s.vm.findClass own = some m.cls)
    (w1 : (Cond.methodLink own index y).before a0 Z = true) (w2 : (Cond.declares y).before a0 Z = true) (w5 : (Cond.selects C y y).before a0 Z = true) (w6 : (Cond.instanceMethod y).before a0 Z = true) (w3 : (Cond.initialized y.cls).before a0 Z = true) (w4 : (Cond.code y bytes maxL ret).before a0 Z = true) (hy : y.cls ≠ "java/lang/invoke/MethodHandle" ∧ y.cls ≠ "java/lang/invoke/VarHandle")
    (hM : MetFree l y (head1 [Cond.code y bytes maxL ret] rm) (fun a U => a = as' ∧ Z.Warmed39 U.vm ∧ U.heap = h) (fun _ _ _ _ _ => True) (fun _ U o U' => ∃ v L, o = .returned v ∧ Q v U'.heap L ∧ FrameEnd U o U' L rm.cells rm.slots)) (hf : rm.frames + 1 ≤ R.frames) (hl : W + (maxL + 11) + rm.locals ≤ R.locals)
    {g : JFrame} (hg : g.method = m) (hsize : g.locals.size = c.maxLocals) {a : Addr} (E : Exa Z h a C) {argsL rest : List Value} (ha : (Value.ref a :: argsL).toArray = as') (hlen : ∀ sig, parseMethodDescriptor y.desc = some sig → argsL.length = sig.parameters.length) (hstack : g.stack = argsL.reverse ++ .ref a :: rest) (hW : 2 * g.monitorRoom + (rest.map fun v => v.category).sum ≤ W)
    (hdg : decode c.code g.pc = .ok (.invokevirtual index, 3)) (eT : T.heap = h) (hc : cells + rm.cells ≤ R.cells) (hs : slots + rm.slots ≤ R.slots) {c' s' : Nat} (ec : cells + rm.cells = c') (es : slots + rm.slots = s') {n0 : Nat} (N : Fr n0 locs) :
    ∃ (v : Option Value) (T' : State) (L' L : List Loc), Stand p l e R s m args below meth c T' L' c' s' ∧ (Fr n0 L → Fr n0 L') ∧ Q v T'.heap L ∧ ∀ target, Steps p.tables e below (T'.setTop { g with pc := g.pc + 3, stack := v.toList ++ rest }) target → Steps p.tables e below (T.setTop g) target := by
  obtain ⟨cq, kq, qa, qb, qc⟩ := isOf hZ eT E
  obtain ⟨v, vm1, ⟨T', L', k', n'⟩, -, X', ⟨L, hQ, l1, y1, z1⟩, st⟩ := X.virtualBack hx (y := y) (z := y) hown (mvT hZ w1) (mvT hZ w2) (notFace_of_selects (args := #[]) (mvT hZ w5)) (mvT hZ w5) (mvT hZ w6) hy (backOf (W := W) hM hZ w4 w3 hf hl) qa qc (g := g) hg hsize (Steps.refl _) (argsL := argsL) (rest := rest) hlen hstack hW hdg (fun _ _ => ⟨ha, eT, hc, hs⟩)
  dsimp only [Pt.U, Pt.locs, Pt.cells, Pt.slots] at X' l1 y1 z1 st hQ
  subst l1 y1 z1 ec es
  exact ⟨v, T', _, L, X', fun q => N.app q, hQ, fun _ k => st.trans k⟩
theorem own_cp (X : Stand p l e R s m args below meth c T locs cells slots) (hx : p.tables.exec = Jvm.exec) (hZ : Z.Warmed39 s.vm) {own C : String} {index kk : Nat} {y : MethodName} {bytes : ByteArray} {maxL : Nat} {ret : Option FieldType} {rm : Room} {W : Nat} {as' : Array Value} {Q : Option Value → Heap → List Loc → Prop} (hown : s.vm.findClass own = some m.cls)
    (w1 : (Cond.methodLink own index y).before a0 Z = true) (w2 : (Cond.privateMethod y).before a0 Z = true) (w5 : (Cond.instantiable y.cls kk).before a0 Z = true) (w6 : (Cond.instanceMethod y).before a0 Z = true) (w3 : (Cond.initialized y.cls).before a0 Z = true) (w4 : (Cond.code y bytes maxL ret).before a0 Z = true) (hy : y.cls ≠ "java/lang/invoke/MethodHandle" ∧ y.cls ≠ "java/lang/invoke/VarHandle")
    (hM : MetFree l y (head1 [Cond.code y bytes maxL ret] rm) (fun a U => a = as' ∧ Z.Warmed39 U.vm ∧ U.heap = h) (fun _ _ _ _ _ => True) (fun _ U o U' => ∃ v L, o = .returned v ∧ Q v U'.heap L ∧ FrameEnd U o U' L rm.cells rm.slots)) (hf : rm.frames + 1 ≤ R.frames) (hl : W + (maxL + 11) + rm.locals ≤ R.locals)
    {g : JFrame} (hg : g.method = m) (hsize : g.locals.size = c.maxLocals) {a : Addr} (E : Exa Z h a C) {argsL rest : List Value} (ha : (Value.ref a :: argsL).toArray = as') (hlen : ∀ sig, parseMethodDescriptor y.desc = some sig → argsL.length = sig.parameters.length) (hstack : g.stack = argsL.reverse ++ .ref a :: rest) (hW : 2 * g.monitorRoom + (rest.map fun v => v.category).sum ≤ W)
    (hdg : decode c.code g.pc = .ok (.invokevirtual index, 3)) (eT : T.heap = h) (hc : cells + rm.cells ≤ R.cells) (hs : slots + rm.slots ≤ R.slots) {c' s' : Nat} (ec : cells + rm.cells = c') (es : slots + rm.slots = s') {n0 : Nat} (N : Fr n0 locs) :
    ∃ (v : Option Value) (T' : State) (L' L : List Loc), Stand p l e R s m args below meth c T' L' c' s' ∧ (Fr n0 L → Fr n0 L') ∧ Q v T'.heap L ∧ ∀ target, Steps p.tables e below (T'.setTop { g with pc := g.pc + 3, stack := v.toList ++ rest }) target → Steps p.tables e below (T.setTop g) target := by
  obtain ⟨cq, q, q'⟩ := E.cell
  obtain ⟨v, vm1, ⟨T', L', k', n'⟩, -, X', ⟨L, hQ, l1, y1, z1⟩, st⟩ := X.privateBack hx (y := y) hown (mvT hZ w1) (mvT hZ w6) (own_sel hZ w5 w2 w6 hy) (Cond.privateMethod_at (mvP hZ w2 (args := #[]))) (mvT hZ w4) hy (backOf (W := W) hM hZ w4 w3 hf hl) (g := g) hg hsize (Steps.refl _) (a := a) (by rw [eT]; exact q) q' (argsL := argsL) (rest := rest) hlen hstack hW hdg (fun _ _ => ⟨ha, eT, hc, hs⟩)
  dsimp only [Pt.U, Pt.locs, Pt.cells, Pt.slots] at X' l1 y1 z1 st hQ
  subst l1 y1 z1 ec es
  exact ⟨v, T', _, L, X', fun q => N.app q, hQ, fun _ k => st.trans k⟩
end Calls
end Jvm.RoadKit
namespace Jvm.Pilot.@@N@@
open Jvm Jvm.ClassFile Sem Op Lib Jvm.Free Jvm.Stand Jvm.LawKit Jvm.RoadKit Bundle Jvm.Pilot.@@N@@.Jvm.D
theorem d1_0 : decode prog_1_method_5_code 0 = .ok (.aload_n 0, 1) := by decide +kernel
theorem d1_1 : decode prog_1_method_5_code 1 = .ok (.iload_n 1, 1) := by decide +kernel
theorem d1_2 : decode prog_1_method_5_code 2 = .ok (.iload_n 2, 1) := by decide +kernel
theorem d1_3 : decode prog_1_method_5_code 3 = .ok (.bipush 24, 2) := by decide +kernel
theorem d1_5 : decode prog_1_method_5_code 5 = .ok (.iushr, 1) := by decide +kernel
theorem d1_6 : decode prog_1_method_5_code 6 = .ok (.i2b, 1) := by decide +kernel
theorem d1_7 : decode prog_1_method_5_code 7 = .ok (.bastore, 1) := by decide +kernel
theorem d1_8 : decode prog_1_method_5_code 8 = .ok (.aload_n 0, 1) := by decide +kernel
theorem d1_9 : decode prog_1_method_5_code 9 = .ok (.iload_n 1, 1) := by decide +kernel
theorem d1_10 : decode prog_1_method_5_code 10 = .ok (.iconst 1, 1) := by decide +kernel
theorem d1_11 : decode prog_1_method_5_code 11 = .ok (.iadd, 1) := by decide +kernel
theorem d1_12 : decode prog_1_method_5_code 12 = .ok (.iload_n 2, 1) := by decide +kernel
theorem d1_13 : decode prog_1_method_5_code 13 = .ok (.bipush 16, 2) := by decide +kernel
theorem d1_15 : decode prog_1_method_5_code 15 = .ok (.iushr, 1) := by decide +kernel
theorem d1_16 : decode prog_1_method_5_code 16 = .ok (.i2b, 1) := by decide +kernel
theorem d1_17 : decode prog_1_method_5_code 17 = .ok (.bastore, 1) := by decide +kernel
theorem d1_18 : decode prog_1_method_5_code 18 = .ok (.aload_n 0, 1) := by decide +kernel
theorem d1_19 : decode prog_1_method_5_code 19 = .ok (.iload_n 1, 1) := by decide +kernel
theorem d1_20 : decode prog_1_method_5_code 20 = .ok (.iconst 2, 1) := by decide +kernel
theorem d1_21 : decode prog_1_method_5_code 21 = .ok (.iadd, 1) := by decide +kernel
theorem d1_22 : decode prog_1_method_5_code 22 = .ok (.iload_n 2, 1) := by decide +kernel
theorem d1_23 : decode prog_1_method_5_code 23 = .ok (.bipush 8, 2) := by decide +kernel
theorem d1_25 : decode prog_1_method_5_code 25 = .ok (.iushr, 1) := by decide +kernel
theorem d1_26 : decode prog_1_method_5_code 26 = .ok (.i2b, 1) := by decide +kernel
theorem d1_27 : decode prog_1_method_5_code 27 = .ok (.bastore, 1) := by decide +kernel
theorem d1_28 : decode prog_1_method_5_code 28 = .ok (.aload_n 0, 1) := by decide +kernel
theorem d1_29 : decode prog_1_method_5_code 29 = .ok (.iload_n 1, 1) := by decide +kernel
theorem d1_30 : decode prog_1_method_5_code 30 = .ok (.iconst 3, 1) := by decide +kernel
theorem d1_31 : decode prog_1_method_5_code 31 = .ok (.iadd, 1) := by decide +kernel
theorem d1_32 : decode prog_1_method_5_code 32 = .ok (.iload_n 2, 1) := by decide +kernel
theorem d1_33 : decode prog_1_method_5_code 33 = .ok (.i2b, 1) := by decide +kernel
theorem d1_34 : decode prog_1_method_5_code 34 = .ok (.bastore, 1) := by decide +kernel
theorem d1_35 : decode prog_1_method_5_code 35 = .ok (.return_, 1) := by decide +kernel
def QPut0 (Z : State) (a0 : Addr) (p2 : Int32) (kk : ClassId) (v0 : Int32) (v1 : Int32) (v2 : Int32) (v3 : Int32) (v4 : Int32) (v5 : Int32) (v6 : Int32) (v7 : Int32) (h0 : Heap) (n0 : Nat) (v : Option Value) (h : Heap) (L : List Loc) : Prop := v = none ∧ Fr n0 L ∧ Keep h0 h [a0] ∧ Arv Z h a0 kk .byte (8 : Int32) [(.int ((((p2.toUInt32 >>> ((24 : Int32) &&& 31).toUInt32).toInt32).toInt8.toInt32).toInt8.toInt32)), (.int ((((p2.toUInt32 >>> ((16 : Int32) &&& 31).toUInt32).toInt32).toInt8.toInt32).toInt8.toInt32)), (.int ((((p2.toUInt32 >>> ((8 : Int32) &&& 31).toUInt32).toInt32).toInt8.toInt32).toInt8.toInt32)), (.int ((p2.toInt8.toInt32).toInt8.toInt32)), (.int v4), (.int v5), (.int v6), (.int v7)] (.int (0 : Int32))
theorem own_pn_com_example_moraine_moraine_BigEndian : plainName "com/example/moraine/moraine/BigEndian" = true := by first | (simp [plainName, overriddenIn]; done) | decide +kernel
theorem efPut0 (m : MethodId) (x0 : Addr) (x1 : Int32) (x2 : Int32) : entryFrame m #[(.ref x0), (.int x1), (.int x2)] 3 = mkF m 0 #[.val (.ref x0), .val (.int x1), .val (.int x2)] [] := by first | (simp [entryFrame, mkF, argsToLocals, Value.category]; done) | rfl
set_option maxRecDepth 65536 in
set_option maxHeartbeats 40000000 in
theorem rmPut0 (l : Launch) (Z : State) (az : Array Value) (hw : ∀ d ∈ tables_1, d.before az Z = true) (ws : List Jvm.Cond) (a0 : Addr) (p2 : Int32) (kk : ClassId) (v0 : Int32) (v1 : Int32) (v2 : Int32) (v3 : Int32) (v4 : Int32) (v5 : Int32) (v6 : Int32) (v7 : Int32) (h0 : Heap) (n0 : Nat) (Z0 : n0 ≤ h0.size) (F0 : Arv Z h0 a0 kk .byte (8 : Int32) [(.int v0), (.int v1), (.int v2), (.int v3), (.int v4), (.int v5), (.int v6), (.int v7)] (.int (0 : Int32))) (Ge0 : n0 ≤ a0) :
    MetFree l (⟨"com/example/moraine/moraine/BigEndian", "putInt", "([BII)V"⟩ : MethodName) (head1 (Jvm.Cond.code (⟨"com/example/moraine/moraine/BigEndian", "putInt", "([BII)V"⟩ : MethodName) prog_1_method_5_code 3 none :: ws) ({ frames := 0, cells := 0, slots := 0, locals := 0 } : Room)) (fun a U => a = #[(.ref a0), (.int (0 : Int32)), (.int p2)] ∧ Z.Warmed39 U.vm ∧ U.heap = h0) (fun _ _ _ _ _ => True) (fun _ U o U' => ∃ v L, o = .returned v ∧ QPut0 Z a0 p2 kk v0 v1 v2 v3 v4 v5 v6 v7 h0 n0 v U'.heap L ∧ FrameEnd U o U' L ({ frames := 0, cells := 0, slots := 0, locals := 0 } : Room).cells ({ frames := 0, cells := 0, slots := 0, locals := 0 } : Room).slots) := by
  refine MetFree.of_bodySF (plainFor_of_name own_pn_com_example_moraine_moraine_BigEndian) hisR ?_
  intro p e s m args below meth c s₁ Bd hml0 hP hK
  obtain ⟨rfl, hZ, hh⟩ := hP
  have hx := Bd.exec
  have hby := Bd.bytes
  have hml : c.maxLocals = 3 := hml0
  have hown : s.vm.findClass "com/example/moraine/moraine/BigEndian" = some m.cls := findClass_of_methodNamed Bd.named
  have hnm := (name_of_methodNamed Bd.named Bd.method).1
  have X0 : Stand p l e ({ frames := 0, cells := 0, slots := 0, locals := 0 } : Room) s m #[(.ref a0), (.int (0 : Int32)), (.int p2)] below meth c s₁ [] 0 0 := Stand.of_body Bd
  have e0 : s₁.heap = h0 := by rw [← hh, Bd.state]; rfl
  have N0 := Fr.nil n0
  have Kp0 : Keep h0 h0 [a0] := Keep.refl _ _
  refine Goes.start ?_
  refine Goes.by (B := s₁.setTop (mkF m 0 #[.val (.ref a0), .val (.int (0 : Int32)), .val (.int p2)] [])) (fun t k => castTop (efPut0 m a0 (0 : Int32) p2) k) ?_
  refine Goes.by (B := s₁.setTop (mkF m 7 #[.val (.ref a0), .val (.int (0 : Int32)), .val (.int p2)] [(.int (((p2.toUInt32 >>> ((24 : Int32) &&& 31).toUInt32).toInt32).toInt8.toInt32)), (.int (0 : Int32)), (.ref a0)])) (fun t k => ?_) ?_
  · show Steps p.tables e below (s₁.setTop (mkF m 0 #[.val (.ref a0), .val (.int (0 : Int32)), .val (.int p2)] [])) t
    refine XS.aloadN X0.here hx rfl (hb hby d1_0) rfl rfl ?_
    show Steps p.tables e below (s₁.setTop (mkF m 1 #[.val (.ref a0), .val (.int (0 : Int32)), .val (.int p2)] [(.ref a0)])) t
    refine XS.iloadN X0.here hx rfl (hb hby d1_1) rfl ?_
    show Steps p.tables e below (s₁.setTop (mkF m 2 #[.val (.ref a0), .val (.int (0 : Int32)), .val (.int p2)] [(.int (0 : Int32)), (.ref a0)])) t
    refine XS.iloadN X0.here hx rfl (hb hby d1_2) rfl ?_
    show Steps p.tables e below (s₁.setTop (mkF m 3 #[.val (.ref a0), .val (.int (0 : Int32)), .val (.int p2)] [(.int p2), (.int (0 : Int32)), (.ref a0)])) t
    refine XS.bipush X0.here hx rfl (hb hby d1_3) ?_
    show Steps p.tables e below (s₁.setTop (mkF m 5 #[.val (.ref a0), .val (.int (0 : Int32)), .val (.int p2)] [(.int (24 : Int32)), (.int p2), (.int (0 : Int32)), (.ref a0)])) t
    refine XS.iushr X0.here hx rfl (hb hby d1_5) rfl ?_
    show Steps p.tables e below (s₁.setTop (mkF m 6 #[.val (.ref a0), .val (.int (0 : Int32)), .val (.int p2)] [(.int ((p2.toUInt32 >>> ((24 : Int32) &&& 31).toUInt32).toInt32)), (.int (0 : Int32)), (.ref a0)])) t
    refine XS.i2b X0.here hx rfl (hb hby d1_6) rfl ?_
    exact k
  obtain ⟨cl1, cl1A, cl1q, cl1S, cl1N, cl1H, cl1G⟩ := id F0
  have cl1I : ¬ ((0 : Int32) < 0 ∨ cl1.slots.size ≤ ((0 : Int32)).toNatClampNeg) := inb_of cl1S ⟨by decide, by decide⟩
  obtain ⟨T1, h1, X1, e1, W1, st1⟩ := stB X0 hx hZ e0 cl1A (j := (0 : Int32)) cl1I (g := (mkF m 7 #[.val (.ref a0), .val (.int (0 : Int32)), .val (.int p2)] [(.int (((p2.toUInt32 >>> ((24 : Int32) &&& 31).toUInt32).toInt32).toInt8.toInt32)), (.int (0 : Int32)), (.ref a0)])) rfl rfl (hb hby d1_7)
  have f2 : Arv Z h1 a0 kk .byte (8 : Int32) [(.int ((((p2.toUInt32 >>> ((24 : Int32) &&& 31).toUInt32).toInt32).toInt8.toInt32).toInt8.toInt32)), (.int v1), (.int v2), (.int v3), (.int v4), (.int v5), (.int v6), (.int v7)] (.int (0 : Int32)) := Arv.set cl1A cl1q cl1S cl1N cl1H cl1G (fits_nar_byte _) W1 0 rfl (Nat.le_of_ble_eq_true rfl)
  have Kp1 : Keep h0 h1 [a0] := Kp0.wr W1 (Or.inl (List.mem_of_getElem? (i := 0) rfl))
  have Z3 : n0 ≤ h1.size := Nat.le_trans Z0 (Nat.le_of_eq W1.size.symm)
  have N4 := Fr.snoc X1 N0 Ge0
  refine Goes.by st1 ?_
  clear X0 N0
  show Goes p.tables e below _ (T1.setTop (mkF m 8 #[.val (.ref a0), .val (.int (0 : Int32)), .val (.int p2)] []))
  refine Goes.by (B := T1.setTop (mkF m 17 #[.val (.ref a0), .val (.int (0 : Int32)), .val (.int p2)] [(.int (((p2.toUInt32 >>> ((16 : Int32) &&& 31).toUInt32).toInt32).toInt8.toInt32)), (.int (1 : Int32)), (.ref a0)])) (fun t k => ?_) ?_
  · show Steps p.tables e below (T1.setTop (mkF m 8 #[.val (.ref a0), .val (.int (0 : Int32)), .val (.int p2)] [])) t
    refine XS.aloadN X1.here hx rfl (hb hby d1_8) rfl rfl ?_
    show Steps p.tables e below (T1.setTop (mkF m 9 #[.val (.ref a0), .val (.int (0 : Int32)), .val (.int p2)] [(.ref a0)])) t
    refine XS.iloadN X1.here hx rfl (hb hby d1_9) rfl ?_
    show Steps p.tables e below (T1.setTop (mkF m 10 #[.val (.ref a0), .val (.int (0 : Int32)), .val (.int p2)] [(.int (0 : Int32)), (.ref a0)])) t
    refine XS.iconst X1.here hx rfl (hb hby d1_10) ?_
    show Steps p.tables e below (T1.setTop (mkF m 11 #[.val (.ref a0), .val (.int (0 : Int32)), .val (.int p2)] [(.int (1 : Int32)), (.int (0 : Int32)), (.ref a0)])) t
    refine XS.iadd X1.here hx rfl (hb hby d1_11) rfl ?_
    show Steps p.tables e below (T1.setTop (mkF m 12 #[.val (.ref a0), .val (.int (0 : Int32)), .val (.int p2)] [(.int (1 : Int32)), (.ref a0)])) t
    refine XS.iloadN X1.here hx rfl (hb hby d1_12) rfl ?_
    show Steps p.tables e below (T1.setTop (mkF m 13 #[.val (.ref a0), .val (.int (0 : Int32)), .val (.int p2)] [(.int p2), (.int (1 : Int32)), (.ref a0)])) t
    refine XS.bipush X1.here hx rfl (hb hby d1_13) ?_
    show Steps p.tables e below (T1.setTop (mkF m 15 #[.val (.ref a0), .val (.int (0 : Int32)), .val (.int p2)] [(.int (16 : Int32)), (.int p2), (.int (1 : Int32)), (.ref a0)])) t
    refine XS.iushr X1.here hx rfl (hb hby d1_15) rfl ?_
    show Steps p.tables e below (T1.setTop (mkF m 16 #[.val (.ref a0), .val (.int (0 : Int32)), .val (.int p2)] [(.int ((p2.toUInt32 >>> ((16 : Int32) &&& 31).toUInt32).toInt32)), (.int (1 : Int32)), (.ref a0)])) t
    refine XS.i2b X1.here hx rfl (hb hby d1_16) rfl ?_
    exact k
  obtain ⟨cl5, cl5A, cl5q, cl5S, cl5N, cl5H, cl5G⟩ := id f2
  have cl5I : ¬ ((1 : Int32) < 0 ∨ cl5.slots.size ≤ ((1 : Int32)).toNatClampNeg) := inb_of cl5S ⟨by decide, by decide⟩
  obtain ⟨T5, h5, X5, e5, W5, st5⟩ := stB X1 hx hZ e1 cl5A (j := (1 : Int32)) cl5I (g := (mkF m 17 #[.val (.ref a0), .val (.int (0 : Int32)), .val (.int p2)] [(.int (((p2.toUInt32 >>> ((16 : Int32) &&& 31).toUInt32).toInt32).toInt8.toInt32)), (.int (1 : Int32)), (.ref a0)])) rfl rfl (hb hby d1_17)
  have f6 : Arv Z h5 a0 kk .byte (8 : Int32) [(.int ((((p2.toUInt32 >>> ((24 : Int32) &&& 31).toUInt32).toInt32).toInt8.toInt32).toInt8.toInt32)), (.int ((((p2.toUInt32 >>> ((16 : Int32) &&& 31).toUInt32).toInt32).toInt8.toInt32).toInt8.toInt32)), (.int v2), (.int v3), (.int v4), (.int v5), (.int v6), (.int v7)] (.int (0 : Int32)) := Arv.set cl5A cl5q cl5S cl5N cl5H cl5G (fits_nar_byte _) W5 1 rfl (Nat.le_of_ble_eq_true rfl)
  have Kp5 : Keep h0 h5 [a0] := Kp1.wr W5 (Or.inl (List.mem_of_getElem? (i := 0) rfl))
  have Z7 : n0 ≤ h5.size := Nat.le_trans Z3 (Nat.le_of_eq W5.size.symm)
  have N8 := Fr.snoc X5 N4 Ge0
  refine Goes.by st5 ?_
  clear f2 X1 N4 Z3 Kp1 e1
  show Goes p.tables e below _ (T5.setTop (mkF m 18 #[.val (.ref a0), .val (.int (0 : Int32)), .val (.int p2)] []))
  refine Goes.by (B := T5.setTop (mkF m 27 #[.val (.ref a0), .val (.int (0 : Int32)), .val (.int p2)] [(.int (((p2.toUInt32 >>> ((8 : Int32) &&& 31).toUInt32).toInt32).toInt8.toInt32)), (.int (2 : Int32)), (.ref a0)])) (fun t k => ?_) ?_
  · show Steps p.tables e below (T5.setTop (mkF m 18 #[.val (.ref a0), .val (.int (0 : Int32)), .val (.int p2)] [])) t
    refine XS.aloadN X5.here hx rfl (hb hby d1_18) rfl rfl ?_
    show Steps p.tables e below (T5.setTop (mkF m 19 #[.val (.ref a0), .val (.int (0 : Int32)), .val (.int p2)] [(.ref a0)])) t
    refine XS.iloadN X5.here hx rfl (hb hby d1_19) rfl ?_
    show Steps p.tables e below (T5.setTop (mkF m 20 #[.val (.ref a0), .val (.int (0 : Int32)), .val (.int p2)] [(.int (0 : Int32)), (.ref a0)])) t
    refine XS.iconst X5.here hx rfl (hb hby d1_20) ?_
    show Steps p.tables e below (T5.setTop (mkF m 21 #[.val (.ref a0), .val (.int (0 : Int32)), .val (.int p2)] [(.int (2 : Int32)), (.int (0 : Int32)), (.ref a0)])) t
    refine XS.iadd X5.here hx rfl (hb hby d1_21) rfl ?_
    show Steps p.tables e below (T5.setTop (mkF m 22 #[.val (.ref a0), .val (.int (0 : Int32)), .val (.int p2)] [(.int (2 : Int32)), (.ref a0)])) t
    refine XS.iloadN X5.here hx rfl (hb hby d1_22) rfl ?_
    show Steps p.tables e below (T5.setTop (mkF m 23 #[.val (.ref a0), .val (.int (0 : Int32)), .val (.int p2)] [(.int p2), (.int (2 : Int32)), (.ref a0)])) t
    refine XS.bipush X5.here hx rfl (hb hby d1_23) ?_
    show Steps p.tables e below (T5.setTop (mkF m 25 #[.val (.ref a0), .val (.int (0 : Int32)), .val (.int p2)] [(.int (8 : Int32)), (.int p2), (.int (2 : Int32)), (.ref a0)])) t
    refine XS.iushr X5.here hx rfl (hb hby d1_25) rfl ?_
    show Steps p.tables e below (T5.setTop (mkF m 26 #[.val (.ref a0), .val (.int (0 : Int32)), .val (.int p2)] [(.int ((p2.toUInt32 >>> ((8 : Int32) &&& 31).toUInt32).toInt32)), (.int (2 : Int32)), (.ref a0)])) t
    refine XS.i2b X5.here hx rfl (hb hby d1_26) rfl ?_
    exact k
  obtain ⟨cl9, cl9A, cl9q, cl9S, cl9N, cl9H, cl9G⟩ := id f6
  have cl9I : ¬ ((2 : Int32) < 0 ∨ cl9.slots.size ≤ ((2 : Int32)).toNatClampNeg) := inb_of cl9S ⟨by decide, by decide⟩
  obtain ⟨T9, h9, X9, e9, W9, st9⟩ := stB X5 hx hZ e5 cl9A (j := (2 : Int32)) cl9I (g := (mkF m 27 #[.val (.ref a0), .val (.int (0 : Int32)), .val (.int p2)] [(.int (((p2.toUInt32 >>> ((8 : Int32) &&& 31).toUInt32).toInt32).toInt8.toInt32)), (.int (2 : Int32)), (.ref a0)])) rfl rfl (hb hby d1_27)
  have f10 : Arv Z h9 a0 kk .byte (8 : Int32) [(.int ((((p2.toUInt32 >>> ((24 : Int32) &&& 31).toUInt32).toInt32).toInt8.toInt32).toInt8.toInt32)), (.int ((((p2.toUInt32 >>> ((16 : Int32) &&& 31).toUInt32).toInt32).toInt8.toInt32).toInt8.toInt32)), (.int ((((p2.toUInt32 >>> ((8 : Int32) &&& 31).toUInt32).toInt32).toInt8.toInt32).toInt8.toInt32)), (.int v3), (.int v4), (.int v5), (.int v6), (.int v7)] (.int (0 : Int32)) := Arv.set cl9A cl9q cl9S cl9N cl9H cl9G (fits_nar_byte _) W9 2 rfl (Nat.le_of_ble_eq_true rfl)
  have Kp9 : Keep h0 h9 [a0] := Kp5.wr W9 (Or.inl (List.mem_of_getElem? (i := 0) rfl))
  have Z11 : n0 ≤ h9.size := Nat.le_trans Z7 (Nat.le_of_eq W9.size.symm)
  have N12 := Fr.snoc X9 N8 Ge0
  refine Goes.by st9 ?_
  clear f6 X5 N8 Z7 Kp5 e5
  show Goes p.tables e below _ (T9.setTop (mkF m 28 #[.val (.ref a0), .val (.int (0 : Int32)), .val (.int p2)] []))
  refine Goes.by (B := T9.setTop (mkF m 34 #[.val (.ref a0), .val (.int (0 : Int32)), .val (.int p2)] [(.int (p2.toInt8.toInt32)), (.int (3 : Int32)), (.ref a0)])) (fun t k => ?_) ?_
  · show Steps p.tables e below (T9.setTop (mkF m 28 #[.val (.ref a0), .val (.int (0 : Int32)), .val (.int p2)] [])) t
    refine XS.aloadN X9.here hx rfl (hb hby d1_28) rfl rfl ?_
    show Steps p.tables e below (T9.setTop (mkF m 29 #[.val (.ref a0), .val (.int (0 : Int32)), .val (.int p2)] [(.ref a0)])) t
    refine XS.iloadN X9.here hx rfl (hb hby d1_29) rfl ?_
    show Steps p.tables e below (T9.setTop (mkF m 30 #[.val (.ref a0), .val (.int (0 : Int32)), .val (.int p2)] [(.int (0 : Int32)), (.ref a0)])) t
    refine XS.iconst X9.here hx rfl (hb hby d1_30) ?_
    show Steps p.tables e below (T9.setTop (mkF m 31 #[.val (.ref a0), .val (.int (0 : Int32)), .val (.int p2)] [(.int (3 : Int32)), (.int (0 : Int32)), (.ref a0)])) t
    refine XS.iadd X9.here hx rfl (hb hby d1_31) rfl ?_
    show Steps p.tables e below (T9.setTop (mkF m 32 #[.val (.ref a0), .val (.int (0 : Int32)), .val (.int p2)] [(.int (3 : Int32)), (.ref a0)])) t
    refine XS.iloadN X9.here hx rfl (hb hby d1_32) rfl ?_
    show Steps p.tables e below (T9.setTop (mkF m 33 #[.val (.ref a0), .val (.int (0 : Int32)), .val (.int p2)] [(.int p2), (.int (3 : Int32)), (.ref a0)])) t
    refine XS.i2b X9.here hx rfl (hb hby d1_33) rfl ?_
    exact k
  obtain ⟨cl13, cl13A, cl13q, cl13S, cl13N, cl13H, cl13G⟩ := id f10
  have cl13I : ¬ ((3 : Int32) < 0 ∨ cl13.slots.size ≤ ((3 : Int32)).toNatClampNeg) := inb_of cl13S ⟨by decide, by decide⟩
  obtain ⟨T13, h13, X13, e13, W13, st13⟩ := stB X9 hx hZ e9 cl13A (j := (3 : Int32)) cl13I (g := (mkF m 34 #[.val (.ref a0), .val (.int (0 : Int32)), .val (.int p2)] [(.int (p2.toInt8.toInt32)), (.int (3 : Int32)), (.ref a0)])) rfl rfl (hb hby d1_34)
  have f14 : Arv Z h13 a0 kk .byte (8 : Int32) [(.int ((((p2.toUInt32 >>> ((24 : Int32) &&& 31).toUInt32).toInt32).toInt8.toInt32).toInt8.toInt32)), (.int ((((p2.toUInt32 >>> ((16 : Int32) &&& 31).toUInt32).toInt32).toInt8.toInt32).toInt8.toInt32)), (.int ((((p2.toUInt32 >>> ((8 : Int32) &&& 31).toUInt32).toInt32).toInt8.toInt32).toInt8.toInt32)), (.int ((p2.toInt8.toInt32).toInt8.toInt32)), (.int v4), (.int v5), (.int v6), (.int v7)] (.int (0 : Int32)) := Arv.set cl13A cl13q cl13S cl13N cl13H cl13G (fits_nar_byte _) W13 3 rfl (Nat.le_of_ble_eq_true rfl)
  have Kp13 : Keep h0 h13 [a0] := Kp9.wr W13 (Or.inl (List.mem_of_getElem? (i := 0) rfl))
  have Z15 : n0 ≤ h13.size := Nat.le_trans Z11 (Nat.le_of_eq W13.size.symm)
  have N16 := Fr.snoc X13 N12 Ge0
  refine Goes.by st13 ?_
  clear f10 X9 N12 Z11 Kp9 e9
  show Goes p.tables e below _ (T13.setTop (mkF m 35 #[.val (.ref a0), .val (.int (0 : Int32)), .val (.int p2)] []))
  obtain ⟨fs, hr, hrun, hended, hW, hsame⟩ := X13.leave (v := none) (fun _ => rfl)
  refine Goes.mk _ _ ?_ ⟨hrun, hended, _, _, rfl, ?_, ⟨_, rfl⟩, hW, hsame.mono (by decide) (by decide)⟩
  · exact X13.returnOut hx Bd.returns (hb hby d1_35) hr
  · show QPut0 Z a0 p2 kk v0 v1 v2 v3 v4 v5 v6 v7 h0 n0 _ T13.heap _
    rw [e13]
    exact ⟨rfl, N16, Kp13, f14⟩
def QPut1 (Z : State) (a0 : Addr) (p2 : Int32) (kk : ClassId) (v0 : Int32) (v1 : Int32) (v2 : Int32) (v3 : Int32) (v4 : Int32) (v5 : Int32) (v6 : Int32) (v7 : Int32) (h0 : Heap) (n0 : Nat) (v : Option Value) (h : Heap) (L : List Loc) : Prop := v = none ∧ Fr n0 L ∧ Keep h0 h [a0] ∧ Arv Z h a0 kk .byte (8 : Int32) [(.int v0), (.int ((((p2.toUInt32 >>> ((24 : Int32) &&& 31).toUInt32).toInt32).toInt8.toInt32).toInt8.toInt32)), (.int ((((p2.toUInt32 >>> ((16 : Int32) &&& 31).toUInt32).toInt32).toInt8.toInt32).toInt8.toInt32)), (.int ((((p2.toUInt32 >>> ((8 : Int32) &&& 31).toUInt32).toInt32).toInt8.toInt32).toInt8.toInt32)), (.int ((p2.toInt8.toInt32).toInt8.toInt32)), (.int v5), (.int v6), (.int v7)] (.int (0 : Int32))
theorem efPut1 (m : MethodId) (x0 : Addr) (x1 : Int32) (x2 : Int32) : entryFrame m #[(.ref x0), (.int x1), (.int x2)] 3 = mkF m 0 #[.val (.ref x0), .val (.int x1), .val (.int x2)] [] := by first | (simp [entryFrame, mkF, argsToLocals, Value.category]; done) | rfl
set_option maxRecDepth 65536 in
set_option maxHeartbeats 40000000 in
theorem rmPut1 (l : Launch) (Z : State) (az : Array Value) (hw : ∀ d ∈ tables_1, d.before az Z = true) (ws : List Jvm.Cond) (a0 : Addr) (p2 : Int32) (kk : ClassId) (v0 : Int32) (v1 : Int32) (v2 : Int32) (v3 : Int32) (v4 : Int32) (v5 : Int32) (v6 : Int32) (v7 : Int32) (h0 : Heap) (n0 : Nat) (Z0 : n0 ≤ h0.size) (F0 : Arv Z h0 a0 kk .byte (8 : Int32) [(.int v0), (.int v1), (.int v2), (.int v3), (.int v4), (.int v5), (.int v6), (.int v7)] (.int (0 : Int32))) (Ge0 : n0 ≤ a0) :
    MetFree l (⟨"com/example/moraine/moraine/BigEndian", "putInt", "([BII)V"⟩ : MethodName) (head1 (Jvm.Cond.code (⟨"com/example/moraine/moraine/BigEndian", "putInt", "([BII)V"⟩ : MethodName) prog_1_method_5_code 3 none :: ws) ({ frames := 0, cells := 0, slots := 0, locals := 0 } : Room)) (fun a U => a = #[(.ref a0), (.int (1 : Int32)), (.int p2)] ∧ Z.Warmed39 U.vm ∧ U.heap = h0) (fun _ _ _ _ _ => True) (fun _ U o U' => ∃ v L, o = .returned v ∧ QPut1 Z a0 p2 kk v0 v1 v2 v3 v4 v5 v6 v7 h0 n0 v U'.heap L ∧ FrameEnd U o U' L ({ frames := 0, cells := 0, slots := 0, locals := 0 } : Room).cells ({ frames := 0, cells := 0, slots := 0, locals := 0 } : Room).slots) := by
  refine MetFree.of_bodySF (plainFor_of_name own_pn_com_example_moraine_moraine_BigEndian) hisR ?_
  intro p e s m args below meth c s₁ Bd hml0 hP hK
  obtain ⟨rfl, hZ, hh⟩ := hP
  have hx := Bd.exec
  have hby := Bd.bytes
  have hml : c.maxLocals = 3 := hml0
  have hown : s.vm.findClass "com/example/moraine/moraine/BigEndian" = some m.cls := findClass_of_methodNamed Bd.named
  have hnm := (name_of_methodNamed Bd.named Bd.method).1
  have X0 : Stand p l e ({ frames := 0, cells := 0, slots := 0, locals := 0 } : Room) s m #[(.ref a0), (.int (1 : Int32)), (.int p2)] below meth c s₁ [] 0 0 := Stand.of_body Bd
  have e0 : s₁.heap = h0 := by rw [← hh, Bd.state]; rfl
  have N0 := Fr.nil n0
  have Kp0 : Keep h0 h0 [a0] := Keep.refl _ _
  refine Goes.start ?_
  refine Goes.by (B := s₁.setTop (mkF m 0 #[.val (.ref a0), .val (.int (1 : Int32)), .val (.int p2)] [])) (fun t k => castTop (efPut1 m a0 (1 : Int32) p2) k) ?_
  refine Goes.by (B := s₁.setTop (mkF m 7 #[.val (.ref a0), .val (.int (1 : Int32)), .val (.int p2)] [(.int (((p2.toUInt32 >>> ((24 : Int32) &&& 31).toUInt32).toInt32).toInt8.toInt32)), (.int (1 : Int32)), (.ref a0)])) (fun t k => ?_) ?_
  · show Steps p.tables e below (s₁.setTop (mkF m 0 #[.val (.ref a0), .val (.int (1 : Int32)), .val (.int p2)] [])) t
    refine XS.aloadN X0.here hx rfl (hb hby d1_0) rfl rfl ?_
    show Steps p.tables e below (s₁.setTop (mkF m 1 #[.val (.ref a0), .val (.int (1 : Int32)), .val (.int p2)] [(.ref a0)])) t
    refine XS.iloadN X0.here hx rfl (hb hby d1_1) rfl ?_
    show Steps p.tables e below (s₁.setTop (mkF m 2 #[.val (.ref a0), .val (.int (1 : Int32)), .val (.int p2)] [(.int (1 : Int32)), (.ref a0)])) t
    refine XS.iloadN X0.here hx rfl (hb hby d1_2) rfl ?_
    show Steps p.tables e below (s₁.setTop (mkF m 3 #[.val (.ref a0), .val (.int (1 : Int32)), .val (.int p2)] [(.int p2), (.int (1 : Int32)), (.ref a0)])) t
    refine XS.bipush X0.here hx rfl (hb hby d1_3) ?_
    show Steps p.tables e below (s₁.setTop (mkF m 5 #[.val (.ref a0), .val (.int (1 : Int32)), .val (.int p2)] [(.int (24 : Int32)), (.int p2), (.int (1 : Int32)), (.ref a0)])) t
    refine XS.iushr X0.here hx rfl (hb hby d1_5) rfl ?_
    show Steps p.tables e below (s₁.setTop (mkF m 6 #[.val (.ref a0), .val (.int (1 : Int32)), .val (.int p2)] [(.int ((p2.toUInt32 >>> ((24 : Int32) &&& 31).toUInt32).toInt32)), (.int (1 : Int32)), (.ref a0)])) t
    refine XS.i2b X0.here hx rfl (hb hby d1_6) rfl ?_
    exact k
  obtain ⟨cl1, cl1A, cl1q, cl1S, cl1N, cl1H, cl1G⟩ := id F0
  have cl1I : ¬ ((1 : Int32) < 0 ∨ cl1.slots.size ≤ ((1 : Int32)).toNatClampNeg) := inb_of cl1S ⟨by decide, by decide⟩
  obtain ⟨T1, h1, X1, e1, W1, st1⟩ := stB X0 hx hZ e0 cl1A (j := (1 : Int32)) cl1I (g := (mkF m 7 #[.val (.ref a0), .val (.int (1 : Int32)), .val (.int p2)] [(.int (((p2.toUInt32 >>> ((24 : Int32) &&& 31).toUInt32).toInt32).toInt8.toInt32)), (.int (1 : Int32)), (.ref a0)])) rfl rfl (hb hby d1_7)
  have f2 : Arv Z h1 a0 kk .byte (8 : Int32) [(.int v0), (.int ((((p2.toUInt32 >>> ((24 : Int32) &&& 31).toUInt32).toInt32).toInt8.toInt32).toInt8.toInt32)), (.int v2), (.int v3), (.int v4), (.int v5), (.int v6), (.int v7)] (.int (0 : Int32)) := Arv.set cl1A cl1q cl1S cl1N cl1H cl1G (fits_nar_byte _) W1 1 rfl (Nat.le_of_ble_eq_true rfl)
  have Kp1 : Keep h0 h1 [a0] := Kp0.wr W1 (Or.inl (List.mem_of_getElem? (i := 0) rfl))
  have Z3 : n0 ≤ h1.size := Nat.le_trans Z0 (Nat.le_of_eq W1.size.symm)
  have N4 := Fr.snoc X1 N0 Ge0
  refine Goes.by st1 ?_
  clear X0 N0
  show Goes p.tables e below _ (T1.setTop (mkF m 8 #[.val (.ref a0), .val (.int (1 : Int32)), .val (.int p2)] []))
  refine Goes.by (B := T1.setTop (mkF m 17 #[.val (.ref a0), .val (.int (1 : Int32)), .val (.int p2)] [(.int (((p2.toUInt32 >>> ((16 : Int32) &&& 31).toUInt32).toInt32).toInt8.toInt32)), (.int (2 : Int32)), (.ref a0)])) (fun t k => ?_) ?_
  · show Steps p.tables e below (T1.setTop (mkF m 8 #[.val (.ref a0), .val (.int (1 : Int32)), .val (.int p2)] [])) t
    refine XS.aloadN X1.here hx rfl (hb hby d1_8) rfl rfl ?_
    show Steps p.tables e below (T1.setTop (mkF m 9 #[.val (.ref a0), .val (.int (1 : Int32)), .val (.int p2)] [(.ref a0)])) t
    refine XS.iloadN X1.here hx rfl (hb hby d1_9) rfl ?_
    show Steps p.tables e below (T1.setTop (mkF m 10 #[.val (.ref a0), .val (.int (1 : Int32)), .val (.int p2)] [(.int (1 : Int32)), (.ref a0)])) t
    refine XS.iconst X1.here hx rfl (hb hby d1_10) ?_
    show Steps p.tables e below (T1.setTop (mkF m 11 #[.val (.ref a0), .val (.int (1 : Int32)), .val (.int p2)] [(.int (1 : Int32)), (.int (1 : Int32)), (.ref a0)])) t
    refine XS.iadd X1.here hx rfl (hb hby d1_11) rfl ?_
    show Steps p.tables e below (T1.setTop (mkF m 12 #[.val (.ref a0), .val (.int (1 : Int32)), .val (.int p2)] [(.int (2 : Int32)), (.ref a0)])) t
    refine XS.iloadN X1.here hx rfl (hb hby d1_12) rfl ?_
    show Steps p.tables e below (T1.setTop (mkF m 13 #[.val (.ref a0), .val (.int (1 : Int32)), .val (.int p2)] [(.int p2), (.int (2 : Int32)), (.ref a0)])) t
    refine XS.bipush X1.here hx rfl (hb hby d1_13) ?_
    show Steps p.tables e below (T1.setTop (mkF m 15 #[.val (.ref a0), .val (.int (1 : Int32)), .val (.int p2)] [(.int (16 : Int32)), (.int p2), (.int (2 : Int32)), (.ref a0)])) t
    refine XS.iushr X1.here hx rfl (hb hby d1_15) rfl ?_
    show Steps p.tables e below (T1.setTop (mkF m 16 #[.val (.ref a0), .val (.int (1 : Int32)), .val (.int p2)] [(.int ((p2.toUInt32 >>> ((16 : Int32) &&& 31).toUInt32).toInt32)), (.int (2 : Int32)), (.ref a0)])) t
    refine XS.i2b X1.here hx rfl (hb hby d1_16) rfl ?_
    exact k
  obtain ⟨cl5, cl5A, cl5q, cl5S, cl5N, cl5H, cl5G⟩ := id f2
  have cl5I : ¬ ((2 : Int32) < 0 ∨ cl5.slots.size ≤ ((2 : Int32)).toNatClampNeg) := inb_of cl5S ⟨by decide, by decide⟩
  obtain ⟨T5, h5, X5, e5, W5, st5⟩ := stB X1 hx hZ e1 cl5A (j := (2 : Int32)) cl5I (g := (mkF m 17 #[.val (.ref a0), .val (.int (1 : Int32)), .val (.int p2)] [(.int (((p2.toUInt32 >>> ((16 : Int32) &&& 31).toUInt32).toInt32).toInt8.toInt32)), (.int (2 : Int32)), (.ref a0)])) rfl rfl (hb hby d1_17)
  have f6 : Arv Z h5 a0 kk .byte (8 : Int32) [(.int v0), (.int ((((p2.toUInt32 >>> ((24 : Int32) &&& 31).toUInt32).toInt32).toInt8.toInt32).toInt8.toInt32)), (.int ((((p2.toUInt32 >>> ((16 : Int32) &&& 31).toUInt32).toInt32).toInt8.toInt32).toInt8.toInt32)), (.int v3), (.int v4), (.int v5), (.int v6), (.int v7)] (.int (0 : Int32)) := Arv.set cl5A cl5q cl5S cl5N cl5H cl5G (fits_nar_byte _) W5 2 rfl (Nat.le_of_ble_eq_true rfl)
  have Kp5 : Keep h0 h5 [a0] := Kp1.wr W5 (Or.inl (List.mem_of_getElem? (i := 0) rfl))
  have Z7 : n0 ≤ h5.size := Nat.le_trans Z3 (Nat.le_of_eq W5.size.symm)
  have N8 := Fr.snoc X5 N4 Ge0
  refine Goes.by st5 ?_
  clear f2 X1 N4 Z3 Kp1 e1
  show Goes p.tables e below _ (T5.setTop (mkF m 18 #[.val (.ref a0), .val (.int (1 : Int32)), .val (.int p2)] []))
  refine Goes.by (B := T5.setTop (mkF m 27 #[.val (.ref a0), .val (.int (1 : Int32)), .val (.int p2)] [(.int (((p2.toUInt32 >>> ((8 : Int32) &&& 31).toUInt32).toInt32).toInt8.toInt32)), (.int (3 : Int32)), (.ref a0)])) (fun t k => ?_) ?_
  · show Steps p.tables e below (T5.setTop (mkF m 18 #[.val (.ref a0), .val (.int (1 : Int32)), .val (.int p2)] [])) t
    refine XS.aloadN X5.here hx rfl (hb hby d1_18) rfl rfl ?_
    show Steps p.tables e below (T5.setTop (mkF m 19 #[.val (.ref a0), .val (.int (1 : Int32)), .val (.int p2)] [(.ref a0)])) t
    refine XS.iloadN X5.here hx rfl (hb hby d1_19) rfl ?_
    show Steps p.tables e below (T5.setTop (mkF m 20 #[.val (.ref a0), .val (.int (1 : Int32)), .val (.int p2)] [(.int (1 : Int32)), (.ref a0)])) t
    refine XS.iconst X5.here hx rfl (hb hby d1_20) ?_
    show Steps p.tables e below (T5.setTop (mkF m 21 #[.val (.ref a0), .val (.int (1 : Int32)), .val (.int p2)] [(.int (2 : Int32)), (.int (1 : Int32)), (.ref a0)])) t
    refine XS.iadd X5.here hx rfl (hb hby d1_21) rfl ?_
    show Steps p.tables e below (T5.setTop (mkF m 22 #[.val (.ref a0), .val (.int (1 : Int32)), .val (.int p2)] [(.int (3 : Int32)), (.ref a0)])) t
    refine XS.iloadN X5.here hx rfl (hb hby d1_22) rfl ?_
    show Steps p.tables e below (T5.setTop (mkF m 23 #[.val (.ref a0), .val (.int (1 : Int32)), .val (.int p2)] [(.int p2), (.int (3 : Int32)), (.ref a0)])) t
    refine XS.bipush X5.here hx rfl (hb hby d1_23) ?_
    show Steps p.tables e below (T5.setTop (mkF m 25 #[.val (.ref a0), .val (.int (1 : Int32)), .val (.int p2)] [(.int (8 : Int32)), (.int p2), (.int (3 : Int32)), (.ref a0)])) t
    refine XS.iushr X5.here hx rfl (hb hby d1_25) rfl ?_
    show Steps p.tables e below (T5.setTop (mkF m 26 #[.val (.ref a0), .val (.int (1 : Int32)), .val (.int p2)] [(.int ((p2.toUInt32 >>> ((8 : Int32) &&& 31).toUInt32).toInt32)), (.int (3 : Int32)), (.ref a0)])) t
    refine XS.i2b X5.here hx rfl (hb hby d1_26) rfl ?_
    exact k
  obtain ⟨cl9, cl9A, cl9q, cl9S, cl9N, cl9H, cl9G⟩ := id f6
  have cl9I : ¬ ((3 : Int32) < 0 ∨ cl9.slots.size ≤ ((3 : Int32)).toNatClampNeg) := inb_of cl9S ⟨by decide, by decide⟩
  obtain ⟨T9, h9, X9, e9, W9, st9⟩ := stB X5 hx hZ e5 cl9A (j := (3 : Int32)) cl9I (g := (mkF m 27 #[.val (.ref a0), .val (.int (1 : Int32)), .val (.int p2)] [(.int (((p2.toUInt32 >>> ((8 : Int32) &&& 31).toUInt32).toInt32).toInt8.toInt32)), (.int (3 : Int32)), (.ref a0)])) rfl rfl (hb hby d1_27)
  have f10 : Arv Z h9 a0 kk .byte (8 : Int32) [(.int v0), (.int ((((p2.toUInt32 >>> ((24 : Int32) &&& 31).toUInt32).toInt32).toInt8.toInt32).toInt8.toInt32)), (.int ((((p2.toUInt32 >>> ((16 : Int32) &&& 31).toUInt32).toInt32).toInt8.toInt32).toInt8.toInt32)), (.int ((((p2.toUInt32 >>> ((8 : Int32) &&& 31).toUInt32).toInt32).toInt8.toInt32).toInt8.toInt32)), (.int v4), (.int v5), (.int v6), (.int v7)] (.int (0 : Int32)) := Arv.set cl9A cl9q cl9S cl9N cl9H cl9G (fits_nar_byte _) W9 3 rfl (Nat.le_of_ble_eq_true rfl)
  have Kp9 : Keep h0 h9 [a0] := Kp5.wr W9 (Or.inl (List.mem_of_getElem? (i := 0) rfl))
  have Z11 : n0 ≤ h9.size := Nat.le_trans Z7 (Nat.le_of_eq W9.size.symm)
  have N12 := Fr.snoc X9 N8 Ge0
  refine Goes.by st9 ?_
  clear f6 X5 N8 Z7 Kp5 e5
  show Goes p.tables e below _ (T9.setTop (mkF m 28 #[.val (.ref a0), .val (.int (1 : Int32)), .val (.int p2)] []))
  refine Goes.by (B := T9.setTop (mkF m 34 #[.val (.ref a0), .val (.int (1 : Int32)), .val (.int p2)] [(.int (p2.toInt8.toInt32)), (.int (4 : Int32)), (.ref a0)])) (fun t k => ?_) ?_
  · show Steps p.tables e below (T9.setTop (mkF m 28 #[.val (.ref a0), .val (.int (1 : Int32)), .val (.int p2)] [])) t
    refine XS.aloadN X9.here hx rfl (hb hby d1_28) rfl rfl ?_
    show Steps p.tables e below (T9.setTop (mkF m 29 #[.val (.ref a0), .val (.int (1 : Int32)), .val (.int p2)] [(.ref a0)])) t
    refine XS.iloadN X9.here hx rfl (hb hby d1_29) rfl ?_
    show Steps p.tables e below (T9.setTop (mkF m 30 #[.val (.ref a0), .val (.int (1 : Int32)), .val (.int p2)] [(.int (1 : Int32)), (.ref a0)])) t
    refine XS.iconst X9.here hx rfl (hb hby d1_30) ?_
    show Steps p.tables e below (T9.setTop (mkF m 31 #[.val (.ref a0), .val (.int (1 : Int32)), .val (.int p2)] [(.int (3 : Int32)), (.int (1 : Int32)), (.ref a0)])) t
    refine XS.iadd X9.here hx rfl (hb hby d1_31) rfl ?_
    show Steps p.tables e below (T9.setTop (mkF m 32 #[.val (.ref a0), .val (.int (1 : Int32)), .val (.int p2)] [(.int (4 : Int32)), (.ref a0)])) t
    refine XS.iloadN X9.here hx rfl (hb hby d1_32) rfl ?_
    show Steps p.tables e below (T9.setTop (mkF m 33 #[.val (.ref a0), .val (.int (1 : Int32)), .val (.int p2)] [(.int p2), (.int (4 : Int32)), (.ref a0)])) t
    refine XS.i2b X9.here hx rfl (hb hby d1_33) rfl ?_
    exact k
  obtain ⟨cl13, cl13A, cl13q, cl13S, cl13N, cl13H, cl13G⟩ := id f10
  have cl13I : ¬ ((4 : Int32) < 0 ∨ cl13.slots.size ≤ ((4 : Int32)).toNatClampNeg) := inb_of cl13S ⟨by decide, by decide⟩
  obtain ⟨T13, h13, X13, e13, W13, st13⟩ := stB X9 hx hZ e9 cl13A (j := (4 : Int32)) cl13I (g := (mkF m 34 #[.val (.ref a0), .val (.int (1 : Int32)), .val (.int p2)] [(.int (p2.toInt8.toInt32)), (.int (4 : Int32)), (.ref a0)])) rfl rfl (hb hby d1_34)
  have f14 : Arv Z h13 a0 kk .byte (8 : Int32) [(.int v0), (.int ((((p2.toUInt32 >>> ((24 : Int32) &&& 31).toUInt32).toInt32).toInt8.toInt32).toInt8.toInt32)), (.int ((((p2.toUInt32 >>> ((16 : Int32) &&& 31).toUInt32).toInt32).toInt8.toInt32).toInt8.toInt32)), (.int ((((p2.toUInt32 >>> ((8 : Int32) &&& 31).toUInt32).toInt32).toInt8.toInt32).toInt8.toInt32)), (.int ((p2.toInt8.toInt32).toInt8.toInt32)), (.int v5), (.int v6), (.int v7)] (.int (0 : Int32)) := Arv.set cl13A cl13q cl13S cl13N cl13H cl13G (fits_nar_byte _) W13 4 rfl (Nat.le_of_ble_eq_true rfl)
  have Kp13 : Keep h0 h13 [a0] := Kp9.wr W13 (Or.inl (List.mem_of_getElem? (i := 0) rfl))
  have Z15 : n0 ≤ h13.size := Nat.le_trans Z11 (Nat.le_of_eq W13.size.symm)
  have N16 := Fr.snoc X13 N12 Ge0
  refine Goes.by st13 ?_
  clear f10 X9 N12 Z11 Kp9 e9
  show Goes p.tables e below _ (T13.setTop (mkF m 35 #[.val (.ref a0), .val (.int (1 : Int32)), .val (.int p2)] []))
  obtain ⟨fs, hr, hrun, hended, hW, hsame⟩ := X13.leave (v := none) (fun _ => rfl)
  refine Goes.mk _ _ ?_ ⟨hrun, hended, _, _, rfl, ?_, ⟨_, rfl⟩, hW, hsame.mono (by decide) (by decide)⟩
  · exact X13.returnOut hx Bd.returns (hb hby d1_35) hr
  · show QPut1 Z a0 p2 kk v0 v1 v2 v3 v4 v5 v6 v7 h0 n0 _ T13.heap _
    rw [e13]
    exact ⟨rfl, N16, Kp13, f14⟩
def QPut2 (Z : State) (a0 : Addr) (p2 : Int32) (kk : ClassId) (v0 : Int32) (v1 : Int32) (v2 : Int32) (v3 : Int32) (v4 : Int32) (v5 : Int32) (v6 : Int32) (v7 : Int32) (h0 : Heap) (n0 : Nat) (v : Option Value) (h : Heap) (L : List Loc) : Prop := v = none ∧ Fr n0 L ∧ Keep h0 h [a0] ∧ Arv Z h a0 kk .byte (8 : Int32) [(.int v0), (.int v1), (.int ((((p2.toUInt32 >>> ((24 : Int32) &&& 31).toUInt32).toInt32).toInt8.toInt32).toInt8.toInt32)), (.int ((((p2.toUInt32 >>> ((16 : Int32) &&& 31).toUInt32).toInt32).toInt8.toInt32).toInt8.toInt32)), (.int ((((p2.toUInt32 >>> ((8 : Int32) &&& 31).toUInt32).toInt32).toInt8.toInt32).toInt8.toInt32)), (.int ((p2.toInt8.toInt32).toInt8.toInt32)), (.int v6), (.int v7)] (.int (0 : Int32))
theorem efPut2 (m : MethodId) (x0 : Addr) (x1 : Int32) (x2 : Int32) : entryFrame m #[(.ref x0), (.int x1), (.int x2)] 3 = mkF m 0 #[.val (.ref x0), .val (.int x1), .val (.int x2)] [] := by first | (simp [entryFrame, mkF, argsToLocals, Value.category]; done) | rfl
set_option maxRecDepth 65536 in
set_option maxHeartbeats 40000000 in
theorem rmPut2 (l : Launch) (Z : State) (az : Array Value) (hw : ∀ d ∈ tables_1, d.before az Z = true) (ws : List Jvm.Cond) (a0 : Addr) (p2 : Int32) (kk : ClassId) (v0 : Int32) (v1 : Int32) (v2 : Int32) (v3 : Int32) (v4 : Int32) (v5 : Int32) (v6 : Int32) (v7 : Int32) (h0 : Heap) (n0 : Nat) (Z0 : n0 ≤ h0.size) (F0 : Arv Z h0 a0 kk .byte (8 : Int32) [(.int v0), (.int v1), (.int v2), (.int v3), (.int v4), (.int v5), (.int v6), (.int v7)] (.int (0 : Int32))) (Ge0 : n0 ≤ a0) :
    MetFree l (⟨"com/example/moraine/moraine/BigEndian", "putInt", "([BII)V"⟩ : MethodName) (head1 (Jvm.Cond.code (⟨"com/example/moraine/moraine/BigEndian", "putInt", "([BII)V"⟩ : MethodName) prog_1_method_5_code 3 none :: ws) ({ frames := 0, cells := 0, slots := 0, locals := 0 } : Room)) (fun a U => a = #[(.ref a0), (.int (2 : Int32)), (.int p2)] ∧ Z.Warmed39 U.vm ∧ U.heap = h0) (fun _ _ _ _ _ => True) (fun _ U o U' => ∃ v L, o = .returned v ∧ QPut2 Z a0 p2 kk v0 v1 v2 v3 v4 v5 v6 v7 h0 n0 v U'.heap L ∧ FrameEnd U o U' L ({ frames := 0, cells := 0, slots := 0, locals := 0 } : Room).cells ({ frames := 0, cells := 0, slots := 0, locals := 0 } : Room).slots) := by
  refine MetFree.of_bodySF (plainFor_of_name own_pn_com_example_moraine_moraine_BigEndian) hisR ?_
  intro p e s m args below meth c s₁ Bd hml0 hP hK
  obtain ⟨rfl, hZ, hh⟩ := hP
  have hx := Bd.exec
  have hby := Bd.bytes
  have hml : c.maxLocals = 3 := hml0
  have hown : s.vm.findClass "com/example/moraine/moraine/BigEndian" = some m.cls := findClass_of_methodNamed Bd.named
  have hnm := (name_of_methodNamed Bd.named Bd.method).1
  have X0 : Stand p l e ({ frames := 0, cells := 0, slots := 0, locals := 0 } : Room) s m #[(.ref a0), (.int (2 : Int32)), (.int p2)] below meth c s₁ [] 0 0 := Stand.of_body Bd
  have e0 : s₁.heap = h0 := by rw [← hh, Bd.state]; rfl
  have N0 := Fr.nil n0
  have Kp0 : Keep h0 h0 [a0] := Keep.refl _ _
  refine Goes.start ?_
  refine Goes.by (B := s₁.setTop (mkF m 0 #[.val (.ref a0), .val (.int (2 : Int32)), .val (.int p2)] [])) (fun t k => castTop (efPut2 m a0 (2 : Int32) p2) k) ?_
  refine Goes.by (B := s₁.setTop (mkF m 7 #[.val (.ref a0), .val (.int (2 : Int32)), .val (.int p2)] [(.int (((p2.toUInt32 >>> ((24 : Int32) &&& 31).toUInt32).toInt32).toInt8.toInt32)), (.int (2 : Int32)), (.ref a0)])) (fun t k => ?_) ?_
  · show Steps p.tables e below (s₁.setTop (mkF m 0 #[.val (.ref a0), .val (.int (2 : Int32)), .val (.int p2)] [])) t
    refine XS.aloadN X0.here hx rfl (hb hby d1_0) rfl rfl ?_
    show Steps p.tables e below (s₁.setTop (mkF m 1 #[.val (.ref a0), .val (.int (2 : Int32)), .val (.int p2)] [(.ref a0)])) t
    refine XS.iloadN X0.here hx rfl (hb hby d1_1) rfl ?_
    show Steps p.tables e below (s₁.setTop (mkF m 2 #[.val (.ref a0), .val (.int (2 : Int32)), .val (.int p2)] [(.int (2 : Int32)), (.ref a0)])) t
    refine XS.iloadN X0.here hx rfl (hb hby d1_2) rfl ?_
    show Steps p.tables e below (s₁.setTop (mkF m 3 #[.val (.ref a0), .val (.int (2 : Int32)), .val (.int p2)] [(.int p2), (.int (2 : Int32)), (.ref a0)])) t
    refine XS.bipush X0.here hx rfl (hb hby d1_3) ?_
    show Steps p.tables e below (s₁.setTop (mkF m 5 #[.val (.ref a0), .val (.int (2 : Int32)), .val (.int p2)] [(.int (24 : Int32)), (.int p2), (.int (2 : Int32)), (.ref a0)])) t
    refine XS.iushr X0.here hx rfl (hb hby d1_5) rfl ?_
    show Steps p.tables e below (s₁.setTop (mkF m 6 #[.val (.ref a0), .val (.int (2 : Int32)), .val (.int p2)] [(.int ((p2.toUInt32 >>> ((24 : Int32) &&& 31).toUInt32).toInt32)), (.int (2 : Int32)), (.ref a0)])) t
    refine XS.i2b X0.here hx rfl (hb hby d1_6) rfl ?_
    exact k
  obtain ⟨cl1, cl1A, cl1q, cl1S, cl1N, cl1H, cl1G⟩ := id F0
  have cl1I : ¬ ((2 : Int32) < 0 ∨ cl1.slots.size ≤ ((2 : Int32)).toNatClampNeg) := inb_of cl1S ⟨by decide, by decide⟩
  obtain ⟨T1, h1, X1, e1, W1, st1⟩ := stB X0 hx hZ e0 cl1A (j := (2 : Int32)) cl1I (g := (mkF m 7 #[.val (.ref a0), .val (.int (2 : Int32)), .val (.int p2)] [(.int (((p2.toUInt32 >>> ((24 : Int32) &&& 31).toUInt32).toInt32).toInt8.toInt32)), (.int (2 : Int32)), (.ref a0)])) rfl rfl (hb hby d1_7)
  have f2 : Arv Z h1 a0 kk .byte (8 : Int32) [(.int v0), (.int v1), (.int ((((p2.toUInt32 >>> ((24 : Int32) &&& 31).toUInt32).toInt32).toInt8.toInt32).toInt8.toInt32)), (.int v3), (.int v4), (.int v5), (.int v6), (.int v7)] (.int (0 : Int32)) := Arv.set cl1A cl1q cl1S cl1N cl1H cl1G (fits_nar_byte _) W1 2 rfl (Nat.le_of_ble_eq_true rfl)
  have Kp1 : Keep h0 h1 [a0] := Kp0.wr W1 (Or.inl (List.mem_of_getElem? (i := 0) rfl))
  have Z3 : n0 ≤ h1.size := Nat.le_trans Z0 (Nat.le_of_eq W1.size.symm)
  have N4 := Fr.snoc X1 N0 Ge0
  refine Goes.by st1 ?_
  clear X0 N0
  show Goes p.tables e below _ (T1.setTop (mkF m 8 #[.val (.ref a0), .val (.int (2 : Int32)), .val (.int p2)] []))
  refine Goes.by (B := T1.setTop (mkF m 17 #[.val (.ref a0), .val (.int (2 : Int32)), .val (.int p2)] [(.int (((p2.toUInt32 >>> ((16 : Int32) &&& 31).toUInt32).toInt32).toInt8.toInt32)), (.int (3 : Int32)), (.ref a0)])) (fun t k => ?_) ?_
  · show Steps p.tables e below (T1.setTop (mkF m 8 #[.val (.ref a0), .val (.int (2 : Int32)), .val (.int p2)] [])) t
    refine XS.aloadN X1.here hx rfl (hb hby d1_8) rfl rfl ?_
    show Steps p.tables e below (T1.setTop (mkF m 9 #[.val (.ref a0), .val (.int (2 : Int32)), .val (.int p2)] [(.ref a0)])) t
    refine XS.iloadN X1.here hx rfl (hb hby d1_9) rfl ?_
    show Steps p.tables e below (T1.setTop (mkF m 10 #[.val (.ref a0), .val (.int (2 : Int32)), .val (.int p2)] [(.int (2 : Int32)), (.ref a0)])) t
    refine XS.iconst X1.here hx rfl (hb hby d1_10) ?_
    show Steps p.tables e below (T1.setTop (mkF m 11 #[.val (.ref a0), .val (.int (2 : Int32)), .val (.int p2)] [(.int (1 : Int32)), (.int (2 : Int32)), (.ref a0)])) t
    refine XS.iadd X1.here hx rfl (hb hby d1_11) rfl ?_
    show Steps p.tables e below (T1.setTop (mkF m 12 #[.val (.ref a0), .val (.int (2 : Int32)), .val (.int p2)] [(.int (3 : Int32)), (.ref a0)])) t
    refine XS.iloadN X1.here hx rfl (hb hby d1_12) rfl ?_
    show Steps p.tables e below (T1.setTop (mkF m 13 #[.val (.ref a0), .val (.int (2 : Int32)), .val (.int p2)] [(.int p2), (.int (3 : Int32)), (.ref a0)])) t
    refine XS.bipush X1.here hx rfl (hb hby d1_13) ?_
    show Steps p.tables e below (T1.setTop (mkF m 15 #[.val (.ref a0), .val (.int (2 : Int32)), .val (.int p2)] [(.int (16 : Int32)), (.int p2), (.int (3 : Int32)), (.ref a0)])) t
    refine XS.iushr X1.here hx rfl (hb hby d1_15) rfl ?_
    show Steps p.tables e below (T1.setTop (mkF m 16 #[.val (.ref a0), .val (.int (2 : Int32)), .val (.int p2)] [(.int ((p2.toUInt32 >>> ((16 : Int32) &&& 31).toUInt32).toInt32)), (.int (3 : Int32)), (.ref a0)])) t
    refine XS.i2b X1.here hx rfl (hb hby d1_16) rfl ?_
    exact k
  obtain ⟨cl5, cl5A, cl5q, cl5S, cl5N, cl5H, cl5G⟩ := id f2
  have cl5I : ¬ ((3 : Int32) < 0 ∨ cl5.slots.size ≤ ((3 : Int32)).toNatClampNeg) := inb_of cl5S ⟨by decide, by decide⟩
  obtain ⟨T5, h5, X5, e5, W5, st5⟩ := stB X1 hx hZ e1 cl5A (j := (3 : Int32)) cl5I (g := (mkF m 17 #[.val (.ref a0), .val (.int (2 : Int32)), .val (.int p2)] [(.int (((p2.toUInt32 >>> ((16 : Int32) &&& 31).toUInt32).toInt32).toInt8.toInt32)), (.int (3 : Int32)), (.ref a0)])) rfl rfl (hb hby d1_17)
  have f6 : Arv Z h5 a0 kk .byte (8 : Int32) [(.int v0), (.int v1), (.int ((((p2.toUInt32 >>> ((24 : Int32) &&& 31).toUInt32).toInt32).toInt8.toInt32).toInt8.toInt32)), (.int ((((p2.toUInt32 >>> ((16 : Int32) &&& 31).toUInt32).toInt32).toInt8.toInt32).toInt8.toInt32)), (.int v4), (.int v5), (.int v6), (.int v7)] (.int (0 : Int32)) := Arv.set cl5A cl5q cl5S cl5N cl5H cl5G (fits_nar_byte _) W5 3 rfl (Nat.le_of_ble_eq_true rfl)
  have Kp5 : Keep h0 h5 [a0] := Kp1.wr W5 (Or.inl (List.mem_of_getElem? (i := 0) rfl))
  have Z7 : n0 ≤ h5.size := Nat.le_trans Z3 (Nat.le_of_eq W5.size.symm)
  have N8 := Fr.snoc X5 N4 Ge0
  refine Goes.by st5 ?_
  clear f2 X1 N4 Z3 Kp1 e1
  show Goes p.tables e below _ (T5.setTop (mkF m 18 #[.val (.ref a0), .val (.int (2 : Int32)), .val (.int p2)] []))
  refine Goes.by (B := T5.setTop (mkF m 27 #[.val (.ref a0), .val (.int (2 : Int32)), .val (.int p2)] [(.int (((p2.toUInt32 >>> ((8 : Int32) &&& 31).toUInt32).toInt32).toInt8.toInt32)), (.int (4 : Int32)), (.ref a0)])) (fun t k => ?_) ?_
  · show Steps p.tables e below (T5.setTop (mkF m 18 #[.val (.ref a0), .val (.int (2 : Int32)), .val (.int p2)] [])) t
    refine XS.aloadN X5.here hx rfl (hb hby d1_18) rfl rfl ?_
    show Steps p.tables e below (T5.setTop (mkF m 19 #[.val (.ref a0), .val (.int (2 : Int32)), .val (.int p2)] [(.ref a0)])) t
    refine XS.iloadN X5.here hx rfl (hb hby d1_19) rfl ?_
    show Steps p.tables e below (T5.setTop (mkF m 20 #[.val (.ref a0), .val (.int (2 : Int32)), .val (.int p2)] [(.int (2 : Int32)), (.ref a0)])) t
    refine XS.iconst X5.here hx rfl (hb hby d1_20) ?_
    show Steps p.tables e below (T5.setTop (mkF m 21 #[.val (.ref a0), .val (.int (2 : Int32)), .val (.int p2)] [(.int (2 : Int32)), (.int (2 : Int32)), (.ref a0)])) t
    refine XS.iadd X5.here hx rfl (hb hby d1_21) rfl ?_
    show Steps p.tables e below (T5.setTop (mkF m 22 #[.val (.ref a0), .val (.int (2 : Int32)), .val (.int p2)] [(.int (4 : Int32)), (.ref a0)])) t
    refine XS.iloadN X5.here hx rfl (hb hby d1_22) rfl ?_
    show Steps p.tables e below (T5.setTop (mkF m 23 #[.val (.ref a0), .val (.int (2 : Int32)), .val (.int p2)] [(.int p2), (.int (4 : Int32)), (.ref a0)])) t
    refine XS.bipush X5.here hx rfl (hb hby d1_23) ?_
    show Steps p.tables e below (T5.setTop (mkF m 25 #[.val (.ref a0), .val (.int (2 : Int32)), .val (.int p2)] [(.int (8 : Int32)), (.int p2), (.int (4 : Int32)), (.ref a0)])) t
    refine XS.iushr X5.here hx rfl (hb hby d1_25) rfl ?_
    show Steps p.tables e below (T5.setTop (mkF m 26 #[.val (.ref a0), .val (.int (2 : Int32)), .val (.int p2)] [(.int ((p2.toUInt32 >>> ((8 : Int32) &&& 31).toUInt32).toInt32)), (.int (4 : Int32)), (.ref a0)])) t
    refine XS.i2b X5.here hx rfl (hb hby d1_26) rfl ?_
    exact k
  obtain ⟨cl9, cl9A, cl9q, cl9S, cl9N, cl9H, cl9G⟩ := id f6
  have cl9I : ¬ ((4 : Int32) < 0 ∨ cl9.slots.size ≤ ((4 : Int32)).toNatClampNeg) := inb_of cl9S ⟨by decide, by decide⟩
  obtain ⟨T9, h9, X9, e9, W9, st9⟩ := stB X5 hx hZ e5 cl9A (j := (4 : Int32)) cl9I (g := (mkF m 27 #[.val (.ref a0), .val (.int (2 : Int32)), .val (.int p2)] [(.int (((p2.toUInt32 >>> ((8 : Int32) &&& 31).toUInt32).toInt32).toInt8.toInt32)), (.int (4 : Int32)), (.ref a0)])) rfl rfl (hb hby d1_27)
  have f10 : Arv Z h9 a0 kk .byte (8 : Int32) [(.int v0), (.int v1), (.int ((((p2.toUInt32 >>> ((24 : Int32) &&& 31).toUInt32).toInt32).toInt8.toInt32).toInt8.toInt32)), (.int ((((p2.toUInt32 >>> ((16 : Int32) &&& 31).toUInt32).toInt32).toInt8.toInt32).toInt8.toInt32)), (.int ((((p2.toUInt32 >>> ((8 : Int32) &&& 31).toUInt32).toInt32).toInt8.toInt32).toInt8.toInt32)), (.int v5), (.int v6), (.int v7)] (.int (0 : Int32)) := Arv.set cl9A cl9q cl9S cl9N cl9H cl9G (fits_nar_byte _) W9 4 rfl (Nat.le_of_ble_eq_true rfl)
  have Kp9 : Keep h0 h9 [a0] := Kp5.wr W9 (Or.inl (List.mem_of_getElem? (i := 0) rfl))
  have Z11 : n0 ≤ h9.size := Nat.le_trans Z7 (Nat.le_of_eq W9.size.symm)
  have N12 := Fr.snoc X9 N8 Ge0
  refine Goes.by st9 ?_
  clear f6 X5 N8 Z7 Kp5 e5
  show Goes p.tables e below _ (T9.setTop (mkF m 28 #[.val (.ref a0), .val (.int (2 : Int32)), .val (.int p2)] []))
  refine Goes.by (B := T9.setTop (mkF m 34 #[.val (.ref a0), .val (.int (2 : Int32)), .val (.int p2)] [(.int (p2.toInt8.toInt32)), (.int (5 : Int32)), (.ref a0)])) (fun t k => ?_) ?_
  · show Steps p.tables e below (T9.setTop (mkF m 28 #[.val (.ref a0), .val (.int (2 : Int32)), .val (.int p2)] [])) t
    refine XS.aloadN X9.here hx rfl (hb hby d1_28) rfl rfl ?_
    show Steps p.tables e below (T9.setTop (mkF m 29 #[.val (.ref a0), .val (.int (2 : Int32)), .val (.int p2)] [(.ref a0)])) t
    refine XS.iloadN X9.here hx rfl (hb hby d1_29) rfl ?_
    show Steps p.tables e below (T9.setTop (mkF m 30 #[.val (.ref a0), .val (.int (2 : Int32)), .val (.int p2)] [(.int (2 : Int32)), (.ref a0)])) t
    refine XS.iconst X9.here hx rfl (hb hby d1_30) ?_
    show Steps p.tables e below (T9.setTop (mkF m 31 #[.val (.ref a0), .val (.int (2 : Int32)), .val (.int p2)] [(.int (3 : Int32)), (.int (2 : Int32)), (.ref a0)])) t
    refine XS.iadd X9.here hx rfl (hb hby d1_31) rfl ?_
    show Steps p.tables e below (T9.setTop (mkF m 32 #[.val (.ref a0), .val (.int (2 : Int32)), .val (.int p2)] [(.int (5 : Int32)), (.ref a0)])) t
    refine XS.iloadN X9.here hx rfl (hb hby d1_32) rfl ?_
    show Steps p.tables e below (T9.setTop (mkF m 33 #[.val (.ref a0), .val (.int (2 : Int32)), .val (.int p2)] [(.int p2), (.int (5 : Int32)), (.ref a0)])) t
    refine XS.i2b X9.here hx rfl (hb hby d1_33) rfl ?_
    exact k
  obtain ⟨cl13, cl13A, cl13q, cl13S, cl13N, cl13H, cl13G⟩ := id f10
  have cl13I : ¬ ((5 : Int32) < 0 ∨ cl13.slots.size ≤ ((5 : Int32)).toNatClampNeg) := inb_of cl13S ⟨by decide, by decide⟩
  obtain ⟨T13, h13, X13, e13, W13, st13⟩ := stB X9 hx hZ e9 cl13A (j := (5 : Int32)) cl13I (g := (mkF m 34 #[.val (.ref a0), .val (.int (2 : Int32)), .val (.int p2)] [(.int (p2.toInt8.toInt32)), (.int (5 : Int32)), (.ref a0)])) rfl rfl (hb hby d1_34)
  have f14 : Arv Z h13 a0 kk .byte (8 : Int32) [(.int v0), (.int v1), (.int ((((p2.toUInt32 >>> ((24 : Int32) &&& 31).toUInt32).toInt32).toInt8.toInt32).toInt8.toInt32)), (.int ((((p2.toUInt32 >>> ((16 : Int32) &&& 31).toUInt32).toInt32).toInt8.toInt32).toInt8.toInt32)), (.int ((((p2.toUInt32 >>> ((8 : Int32) &&& 31).toUInt32).toInt32).toInt8.toInt32).toInt8.toInt32)), (.int ((p2.toInt8.toInt32).toInt8.toInt32)), (.int v6), (.int v7)] (.int (0 : Int32)) := Arv.set cl13A cl13q cl13S cl13N cl13H cl13G (fits_nar_byte _) W13 5 rfl (Nat.le_of_ble_eq_true rfl)
  have Kp13 : Keep h0 h13 [a0] := Kp9.wr W13 (Or.inl (List.mem_of_getElem? (i := 0) rfl))
  have Z15 : n0 ≤ h13.size := Nat.le_trans Z11 (Nat.le_of_eq W13.size.symm)
  have N16 := Fr.snoc X13 N12 Ge0
  refine Goes.by st13 ?_
  clear f10 X9 N12 Z11 Kp9 e9
  show Goes p.tables e below _ (T13.setTop (mkF m 35 #[.val (.ref a0), .val (.int (2 : Int32)), .val (.int p2)] []))
  obtain ⟨fs, hr, hrun, hended, hW, hsame⟩ := X13.leave (v := none) (fun _ => rfl)
  refine Goes.mk _ _ ?_ ⟨hrun, hended, _, _, rfl, ?_, ⟨_, rfl⟩, hW, hsame.mono (by decide) (by decide)⟩
  · exact X13.returnOut hx Bd.returns (hb hby d1_35) hr
  · show QPut2 Z a0 p2 kk v0 v1 v2 v3 v4 v5 v6 v7 h0 n0 _ T13.heap _
    rw [e13]
    exact ⟨rfl, N16, Kp13, f14⟩
def QPut3 (Z : State) (a0 : Addr) (p2 : Int32) (kk : ClassId) (v0 : Int32) (v1 : Int32) (v2 : Int32) (v3 : Int32) (v4 : Int32) (v5 : Int32) (v6 : Int32) (v7 : Int32) (h0 : Heap) (n0 : Nat) (v : Option Value) (h : Heap) (L : List Loc) : Prop := v = none ∧ Fr n0 L ∧ Keep h0 h [a0] ∧ Arv Z h a0 kk .byte (8 : Int32) [(.int v0), (.int v1), (.int v2), (.int ((((p2.toUInt32 >>> ((24 : Int32) &&& 31).toUInt32).toInt32).toInt8.toInt32).toInt8.toInt32)), (.int ((((p2.toUInt32 >>> ((16 : Int32) &&& 31).toUInt32).toInt32).toInt8.toInt32).toInt8.toInt32)), (.int ((((p2.toUInt32 >>> ((8 : Int32) &&& 31).toUInt32).toInt32).toInt8.toInt32).toInt8.toInt32)), (.int ((p2.toInt8.toInt32).toInt8.toInt32)), (.int v7)] (.int (0 : Int32))
theorem efPut3 (m : MethodId) (x0 : Addr) (x1 : Int32) (x2 : Int32) : entryFrame m #[(.ref x0), (.int x1), (.int x2)] 3 = mkF m 0 #[.val (.ref x0), .val (.int x1), .val (.int x2)] [] := by first | (simp [entryFrame, mkF, argsToLocals, Value.category]; done) | rfl
set_option maxRecDepth 65536 in
set_option maxHeartbeats 40000000 in
theorem rmPut3 (l : Launch) (Z : State) (az : Array Value) (hw : ∀ d ∈ tables_1, d.before az Z = true) (ws : List Jvm.Cond) (a0 : Addr) (p2 : Int32) (kk : ClassId) (v0 : Int32) (v1 : Int32) (v2 : Int32) (v3 : Int32) (v4 : Int32) (v5 : Int32) (v6 : Int32) (v7 : Int32) (h0 : Heap) (n0 : Nat) (Z0 : n0 ≤ h0.size) (F0 : Arv Z h0 a0 kk .byte (8 : Int32) [(.int v0), (.int v1), (.int v2), (.int v3), (.int v4), (.int v5), (.int v6), (.int v7)] (.int (0 : Int32))) (Ge0 : n0 ≤ a0) :
    MetFree l (⟨"com/example/moraine/moraine/BigEndian", "putInt", "([BII)V"⟩ : MethodName) (head1 (Jvm.Cond.code (⟨"com/example/moraine/moraine/BigEndian", "putInt", "([BII)V"⟩ : MethodName) prog_1_method_5_code 3 none :: ws) ({ frames := 0, cells := 0, slots := 0, locals := 0 } : Room)) (fun a U => a = #[(.ref a0), (.int (3 : Int32)), (.int p2)] ∧ Z.Warmed39 U.vm ∧ U.heap = h0) (fun _ _ _ _ _ => True) (fun _ U o U' => ∃ v L, o = .returned v ∧ QPut3 Z a0 p2 kk v0 v1 v2 v3 v4 v5 v6 v7 h0 n0 v U'.heap L ∧ FrameEnd U o U' L ({ frames := 0, cells := 0, slots := 0, locals := 0 } : Room).cells ({ frames := 0, cells := 0, slots := 0, locals := 0 } : Room).slots) := by
  refine MetFree.of_bodySF (plainFor_of_name own_pn_com_example_moraine_moraine_BigEndian) hisR ?_
  intro p e s m args below meth c s₁ Bd hml0 hP hK
  obtain ⟨rfl, hZ, hh⟩ := hP
  have hx := Bd.exec
  have hby := Bd.bytes
  have hml : c.maxLocals = 3 := hml0
  have hown : s.vm.findClass "com/example/moraine/moraine/BigEndian" = some m.cls := findClass_of_methodNamed Bd.named
  have hnm := (name_of_methodNamed Bd.named Bd.method).1
  have X0 : Stand p l e ({ frames := 0, cells := 0, slots := 0, locals := 0 } : Room) s m #[(.ref a0), (.int (3 : Int32)), (.int p2)] below meth c s₁ [] 0 0 := Stand.of_body Bd
  have e0 : s₁.heap = h0 := by rw [← hh, Bd.state]; rfl
  have N0 := Fr.nil n0
  have Kp0 : Keep h0 h0 [a0] := Keep.refl _ _
  refine Goes.start ?_
  refine Goes.by (B := s₁.setTop (mkF m 0 #[.val (.ref a0), .val (.int (3 : Int32)), .val (.int p2)] [])) (fun t k => castTop (efPut3 m a0 (3 : Int32) p2) k) ?_
  refine Goes.by (B := s₁.setTop (mkF m 7 #[.val (.ref a0), .val (.int (3 : Int32)), .val (.int p2)] [(.int (((p2.toUInt32 >>> ((24 : Int32) &&& 31).toUInt32).toInt32).toInt8.toInt32)), (.int (3 : Int32)), (.ref a0)])) (fun t k => ?_) ?_
  · show Steps p.tables e below (s₁.setTop (mkF m 0 #[.val (.ref a0), .val (.int (3 : Int32)), .val (.int p2)] [])) t
    refine XS.aloadN X0.here hx rfl (hb hby d1_0) rfl rfl ?_
    show Steps p.tables e below (s₁.setTop (mkF m 1 #[.val (.ref a0), .val (.int (3 : Int32)), .val (.int p2)] [(.ref a0)])) t
    refine XS.iloadN X0.here hx rfl (hb hby d1_1) rfl ?_
    show Steps p.tables e below (s₁.setTop (mkF m 2 #[.val (.ref a0), .val (.int (3 : Int32)), .val (.int p2)] [(.int (3 : Int32)), (.ref a0)])) t
    refine XS.iloadN X0.here hx rfl (hb hby d1_2) rfl ?_
    show Steps p.tables e below (s₁.setTop (mkF m 3 #[.val (.ref a0), .val (.int (3 : Int32)), .val (.int p2)] [(.int p2), (.int (3 : Int32)), (.ref a0)])) t
    refine XS.bipush X0.here hx rfl (hb hby d1_3) ?_
    show Steps p.tables e below (s₁.setTop (mkF m 5 #[.val (.ref a0), .val (.int (3 : Int32)), .val (.int p2)] [(.int (24 : Int32)), (.int p2), (.int (3 : Int32)), (.ref a0)])) t
    refine XS.iushr X0.here hx rfl (hb hby d1_5) rfl ?_
    show Steps p.tables e below (s₁.setTop (mkF m 6 #[.val (.ref a0), .val (.int (3 : Int32)), .val (.int p2)] [(.int ((p2.toUInt32 >>> ((24 : Int32) &&& 31).toUInt32).toInt32)), (.int (3 : Int32)), (.ref a0)])) t
    refine XS.i2b X0.here hx rfl (hb hby d1_6) rfl ?_
    exact k
  obtain ⟨cl1, cl1A, cl1q, cl1S, cl1N, cl1H, cl1G⟩ := id F0
  have cl1I : ¬ ((3 : Int32) < 0 ∨ cl1.slots.size ≤ ((3 : Int32)).toNatClampNeg) := inb_of cl1S ⟨by decide, by decide⟩
  obtain ⟨T1, h1, X1, e1, W1, st1⟩ := stB X0 hx hZ e0 cl1A (j := (3 : Int32)) cl1I (g := (mkF m 7 #[.val (.ref a0), .val (.int (3 : Int32)), .val (.int p2)] [(.int (((p2.toUInt32 >>> ((24 : Int32) &&& 31).toUInt32).toInt32).toInt8.toInt32)), (.int (3 : Int32)), (.ref a0)])) rfl rfl (hb hby d1_7)
  have f2 : Arv Z h1 a0 kk .byte (8 : Int32) [(.int v0), (.int v1), (.int v2), (.int ((((p2.toUInt32 >>> ((24 : Int32) &&& 31).toUInt32).toInt32).toInt8.toInt32).toInt8.toInt32)), (.int v4), (.int v5), (.int v6), (.int v7)] (.int (0 : Int32)) := Arv.set cl1A cl1q cl1S cl1N cl1H cl1G (fits_nar_byte _) W1 3 rfl (Nat.le_of_ble_eq_true rfl)
  have Kp1 : Keep h0 h1 [a0] := Kp0.wr W1 (Or.inl (List.mem_of_getElem? (i := 0) rfl))
  have Z3 : n0 ≤ h1.size := Nat.le_trans Z0 (Nat.le_of_eq W1.size.symm)
  have N4 := Fr.snoc X1 N0 Ge0
  refine Goes.by st1 ?_
  clear X0 N0
  show Goes p.tables e below _ (T1.setTop (mkF m 8 #[.val (.ref a0), .val (.int (3 : Int32)), .val (.int p2)] []))
  refine Goes.by (B := T1.setTop (mkF m 17 #[.val (.ref a0), .val (.int (3 : Int32)), .val (.int p2)] [(.int (((p2.toUInt32 >>> ((16 : Int32) &&& 31).toUInt32).toInt32).toInt8.toInt32)), (.int (4 : Int32)), (.ref a0)])) (fun t k => ?_) ?_
  · show Steps p.tables e below (T1.setTop (mkF m 8 #[.val (.ref a0), .val (.int (3 : Int32)), .val (.int p2)] [])) t
    refine XS.aloadN X1.here hx rfl (hb hby d1_8) rfl rfl ?_
    show Steps p.tables e below (T1.setTop (mkF m 9 #[.val (.ref a0), .val (.int (3 : Int32)), .val (.int p2)] [(.ref a0)])) t
    refine XS.iloadN X1.here hx rfl (hb hby d1_9) rfl ?_
    show Steps p.tables e below (T1.setTop (mkF m 10 #[.val (.ref a0), .val (.int (3 : Int32)), .val (.int p2)] [(.int (3 : Int32)), (.ref a0)])) t
    refine XS.iconst X1.here hx rfl (hb hby d1_10) ?_
    show Steps p.tables e below (T1.setTop (mkF m 11 #[.val (.ref a0), .val (.int (3 : Int32)), .val (.int p2)] [(.int (1 : Int32)), (.int (3 : Int32)), (.ref a0)])) t
    refine XS.iadd X1.here hx rfl (hb hby d1_11) rfl ?_
    show Steps p.tables e below (T1.setTop (mkF m 12 #[.val (.ref a0), .val (.int (3 : Int32)), .val (.int p2)] [(.int (4 : Int32)), (.ref a0)])) t
    refine XS.iloadN X1.here hx rfl (hb hby d1_12) rfl ?_
    show Steps p.tables e below (T1.setTop (mkF m 13 #[.val (.ref a0), .val (.int (3 : Int32)), .val (.int p2)] [(.int p2), (.int (4 : Int32)), (.ref a0)])) t
    refine XS.bipush X1.here hx rfl (hb hby d1_13) ?_
    show Steps p.tables e below (T1.setTop (mkF m 15 #[.val (.ref a0), .val (.int (3 : Int32)), .val (.int p2)] [(.int (16 : Int32)), (.int p2), (.int (4 : Int32)), (.ref a0)])) t
    refine XS.iushr X1.here hx rfl (hb hby d1_15) rfl ?_
    show Steps p.tables e below (T1.setTop (mkF m 16 #[.val (.ref a0), .val (.int (3 : Int32)), .val (.int p2)] [(.int ((p2.toUInt32 >>> ((16 : Int32) &&& 31).toUInt32).toInt32)), (.int (4 : Int32)), (.ref a0)])) t
    refine XS.i2b X1.here hx rfl (hb hby d1_16) rfl ?_
    exact k
  obtain ⟨cl5, cl5A, cl5q, cl5S, cl5N, cl5H, cl5G⟩ := id f2
  have cl5I : ¬ ((4 : Int32) < 0 ∨ cl5.slots.size ≤ ((4 : Int32)).toNatClampNeg) := inb_of cl5S ⟨by decide, by decide⟩
  obtain ⟨T5, h5, X5, e5, W5, st5⟩ := stB X1 hx hZ e1 cl5A (j := (4 : Int32)) cl5I (g := (mkF m 17 #[.val (.ref a0), .val (.int (3 : Int32)), .val (.int p2)] [(.int (((p2.toUInt32 >>> ((16 : Int32) &&& 31).toUInt32).toInt32).toInt8.toInt32)), (.int (4 : Int32)), (.ref a0)])) rfl rfl (hb hby d1_17)
  have f6 : Arv Z h5 a0 kk .byte (8 : Int32) [(.int v0), (.int v1), (.int v2), (.int ((((p2.toUInt32 >>> ((24 : Int32) &&& 31).toUInt32).toInt32).toInt8.toInt32).toInt8.toInt32)), (.int ((((p2.toUInt32 >>> ((16 : Int32) &&& 31).toUInt32).toInt32).toInt8.toInt32).toInt8.toInt32)), (.int v5), (.int v6), (.int v7)] (.int (0 : Int32)) := Arv.set cl5A cl5q cl5S cl5N cl5H cl5G (fits_nar_byte _) W5 4 rfl (Nat.le_of_ble_eq_true rfl)
  have Kp5 : Keep h0 h5 [a0] := Kp1.wr W5 (Or.inl (List.mem_of_getElem? (i := 0) rfl))
  have Z7 : n0 ≤ h5.size := Nat.le_trans Z3 (Nat.le_of_eq W5.size.symm)
  have N8 := Fr.snoc X5 N4 Ge0
  refine Goes.by st5 ?_
  clear f2 X1 N4 Z3 Kp1 e1
  show Goes p.tables e below _ (T5.setTop (mkF m 18 #[.val (.ref a0), .val (.int (3 : Int32)), .val (.int p2)] []))
  refine Goes.by (B := T5.setTop (mkF m 27 #[.val (.ref a0), .val (.int (3 : Int32)), .val (.int p2)] [(.int (((p2.toUInt32 >>> ((8 : Int32) &&& 31).toUInt32).toInt32).toInt8.toInt32)), (.int (5 : Int32)), (.ref a0)])) (fun t k => ?_) ?_
  · show Steps p.tables e below (T5.setTop (mkF m 18 #[.val (.ref a0), .val (.int (3 : Int32)), .val (.int p2)] [])) t
    refine XS.aloadN X5.here hx rfl (hb hby d1_18) rfl rfl ?_
    show Steps p.tables e below (T5.setTop (mkF m 19 #[.val (.ref a0), .val (.int (3 : Int32)), .val (.int p2)] [(.ref a0)])) t
    refine XS.iloadN X5.here hx rfl (hb hby d1_19) rfl ?_
    show Steps p.tables e below (T5.setTop (mkF m 20 #[.val (.ref a0), .val (.int (3 : Int32)), .val (.int p2)] [(.int (3 : Int32)), (.ref a0)])) t
    refine XS.iconst X5.here hx rfl (hb hby d1_20) ?_
    show Steps p.tables e below (T5.setTop (mkF m 21 #[.val (.ref a0), .val (.int (3 : Int32)), .val (.int p2)] [(.int (2 : Int32)), (.int (3 : Int32)), (.ref a0)])) t
    refine XS.iadd X5.here hx rfl (hb hby d1_21) rfl ?_
    show Steps p.tables e below (T5.setTop (mkF m 22 #[.val (.ref a0), .val (.int (3 : Int32)), .val (.int p2)] [(.int (5 : Int32)), (.ref a0)])) t
    refine XS.iloadN X5.here hx rfl (hb hby d1_22) rfl ?_
    show Steps p.tables e below (T5.setTop (mkF m 23 #[.val (.ref a0), .val (.int (3 : Int32)), .val (.int p2)] [(.int p2), (.int (5 : Int32)), (.ref a0)])) t
    refine XS.bipush X5.here hx rfl (hb hby d1_23) ?_
    show Steps p.tables e below (T5.setTop (mkF m 25 #[.val (.ref a0), .val (.int (3 : Int32)), .val (.int p2)] [(.int (8 : Int32)), (.int p2), (.int (5 : Int32)), (.ref a0)])) t
    refine XS.iushr X5.here hx rfl (hb hby d1_25) rfl ?_
    show Steps p.tables e below (T5.setTop (mkF m 26 #[.val (.ref a0), .val (.int (3 : Int32)), .val (.int p2)] [(.int ((p2.toUInt32 >>> ((8 : Int32) &&& 31).toUInt32).toInt32)), (.int (5 : Int32)), (.ref a0)])) t
    refine XS.i2b X5.here hx rfl (hb hby d1_26) rfl ?_
    exact k
  obtain ⟨cl9, cl9A, cl9q, cl9S, cl9N, cl9H, cl9G⟩ := id f6
  have cl9I : ¬ ((5 : Int32) < 0 ∨ cl9.slots.size ≤ ((5 : Int32)).toNatClampNeg) := inb_of cl9S ⟨by decide, by decide⟩
  obtain ⟨T9, h9, X9, e9, W9, st9⟩ := stB X5 hx hZ e5 cl9A (j := (5 : Int32)) cl9I (g := (mkF m 27 #[.val (.ref a0), .val (.int (3 : Int32)), .val (.int p2)] [(.int (((p2.toUInt32 >>> ((8 : Int32) &&& 31).toUInt32).toInt32).toInt8.toInt32)), (.int (5 : Int32)), (.ref a0)])) rfl rfl (hb hby d1_27)
  have f10 : Arv Z h9 a0 kk .byte (8 : Int32) [(.int v0), (.int v1), (.int v2), (.int ((((p2.toUInt32 >>> ((24 : Int32) &&& 31).toUInt32).toInt32).toInt8.toInt32).toInt8.toInt32)), (.int ((((p2.toUInt32 >>> ((16 : Int32) &&& 31).toUInt32).toInt32).toInt8.toInt32).toInt8.toInt32)), (.int ((((p2.toUInt32 >>> ((8 : Int32) &&& 31).toUInt32).toInt32).toInt8.toInt32).toInt8.toInt32)), (.int v6), (.int v7)] (.int (0 : Int32)) := Arv.set cl9A cl9q cl9S cl9N cl9H cl9G (fits_nar_byte _) W9 5 rfl (Nat.le_of_ble_eq_true rfl)
  have Kp9 : Keep h0 h9 [a0] := Kp5.wr W9 (Or.inl (List.mem_of_getElem? (i := 0) rfl))
  have Z11 : n0 ≤ h9.size := Nat.le_trans Z7 (Nat.le_of_eq W9.size.symm)
  have N12 := Fr.snoc X9 N8 Ge0
  refine Goes.by st9 ?_
  clear f6 X5 N8 Z7 Kp5 e5
  show Goes p.tables e below _ (T9.setTop (mkF m 28 #[.val (.ref a0), .val (.int (3 : Int32)), .val (.int p2)] []))
  refine Goes.by (B := T9.setTop (mkF m 34 #[.val (.ref a0), .val (.int (3 : Int32)), .val (.int p2)] [(.int (p2.toInt8.toInt32)), (.int (6 : Int32)), (.ref a0)])) (fun t k => ?_) ?_
  · show Steps p.tables e below (T9.setTop (mkF m 28 #[.val (.ref a0), .val (.int (3 : Int32)), .val (.int p2)] [])) t
    refine XS.aloadN X9.here hx rfl (hb hby d1_28) rfl rfl ?_
    show Steps p.tables e below (T9.setTop (mkF m 29 #[.val (.ref a0), .val (.int (3 : Int32)), .val (.int p2)] [(.ref a0)])) t
    refine XS.iloadN X9.here hx rfl (hb hby d1_29) rfl ?_
    show Steps p.tables e below (T9.setTop (mkF m 30 #[.val (.ref a0), .val (.int (3 : Int32)), .val (.int p2)] [(.int (3 : Int32)), (.ref a0)])) t
    refine XS.iconst X9.here hx rfl (hb hby d1_30) ?_
    show Steps p.tables e below (T9.setTop (mkF m 31 #[.val (.ref a0), .val (.int (3 : Int32)), .val (.int p2)] [(.int (3 : Int32)), (.int (3 : Int32)), (.ref a0)])) t
    refine XS.iadd X9.here hx rfl (hb hby d1_31) rfl ?_
    show Steps p.tables e below (T9.setTop (mkF m 32 #[.val (.ref a0), .val (.int (3 : Int32)), .val (.int p2)] [(.int (6 : Int32)), (.ref a0)])) t
    refine XS.iloadN X9.here hx rfl (hb hby d1_32) rfl ?_
    show Steps p.tables e below (T9.setTop (mkF m 33 #[.val (.ref a0), .val (.int (3 : Int32)), .val (.int p2)] [(.int p2), (.int (6 : Int32)), (.ref a0)])) t
    refine XS.i2b X9.here hx rfl (hb hby d1_33) rfl ?_
    exact k
  obtain ⟨cl13, cl13A, cl13q, cl13S, cl13N, cl13H, cl13G⟩ := id f10
  have cl13I : ¬ ((6 : Int32) < 0 ∨ cl13.slots.size ≤ ((6 : Int32)).toNatClampNeg) := inb_of cl13S ⟨by decide, by decide⟩
  obtain ⟨T13, h13, X13, e13, W13, st13⟩ := stB X9 hx hZ e9 cl13A (j := (6 : Int32)) cl13I (g := (mkF m 34 #[.val (.ref a0), .val (.int (3 : Int32)), .val (.int p2)] [(.int (p2.toInt8.toInt32)), (.int (6 : Int32)), (.ref a0)])) rfl rfl (hb hby d1_34)
  have f14 : Arv Z h13 a0 kk .byte (8 : Int32) [(.int v0), (.int v1), (.int v2), (.int ((((p2.toUInt32 >>> ((24 : Int32) &&& 31).toUInt32).toInt32).toInt8.toInt32).toInt8.toInt32)), (.int ((((p2.toUInt32 >>> ((16 : Int32) &&& 31).toUInt32).toInt32).toInt8.toInt32).toInt8.toInt32)), (.int ((((p2.toUInt32 >>> ((8 : Int32) &&& 31).toUInt32).toInt32).toInt8.toInt32).toInt8.toInt32)), (.int ((p2.toInt8.toInt32).toInt8.toInt32)), (.int v7)] (.int (0 : Int32)) := Arv.set cl13A cl13q cl13S cl13N cl13H cl13G (fits_nar_byte _) W13 6 rfl (Nat.le_of_ble_eq_true rfl)
  have Kp13 : Keep h0 h13 [a0] := Kp9.wr W13 (Or.inl (List.mem_of_getElem? (i := 0) rfl))
  have Z15 : n0 ≤ h13.size := Nat.le_trans Z11 (Nat.le_of_eq W13.size.symm)
  have N16 := Fr.snoc X13 N12 Ge0
  refine Goes.by st13 ?_
  clear f10 X9 N12 Z11 Kp9 e9
  show Goes p.tables e below _ (T13.setTop (mkF m 35 #[.val (.ref a0), .val (.int (3 : Int32)), .val (.int p2)] []))
  obtain ⟨fs, hr, hrun, hended, hW, hsame⟩ := X13.leave (v := none) (fun _ => rfl)
  refine Goes.mk _ _ ?_ ⟨hrun, hended, _, _, rfl, ?_, ⟨_, rfl⟩, hW, hsame.mono (by decide) (by decide)⟩
  · exact X13.returnOut hx Bd.returns (hb hby d1_35) hr
  · show QPut3 Z a0 p2 kk v0 v1 v2 v3 v4 v5 v6 v7 h0 n0 _ T13.heap _
    rw [e13]
    exact ⟨rfl, N16, Kp13, f14⟩
def QPut4 (Z : State) (a0 : Addr) (p2 : Int32) (kk : ClassId) (v0 : Int32) (v1 : Int32) (v2 : Int32) (v3 : Int32) (v4 : Int32) (v5 : Int32) (v6 : Int32) (v7 : Int32) (h0 : Heap) (n0 : Nat) (v : Option Value) (h : Heap) (L : List Loc) : Prop := v = none ∧ Fr n0 L ∧ Keep h0 h [a0] ∧ Arv Z h a0 kk .byte (8 : Int32) [(.int v0), (.int v1), (.int v2), (.int v3), (.int ((((p2.toUInt32 >>> ((24 : Int32) &&& 31).toUInt32).toInt32).toInt8.toInt32).toInt8.toInt32)), (.int ((((p2.toUInt32 >>> ((16 : Int32) &&& 31).toUInt32).toInt32).toInt8.toInt32).toInt8.toInt32)), (.int ((((p2.toUInt32 >>> ((8 : Int32) &&& 31).toUInt32).toInt32).toInt8.toInt32).toInt8.toInt32)), (.int ((p2.toInt8.toInt32).toInt8.toInt32))] (.int (0 : Int32))
theorem efPut4 (m : MethodId) (x0 : Addr) (x1 : Int32) (x2 : Int32) : entryFrame m #[(.ref x0), (.int x1), (.int x2)] 3 = mkF m 0 #[.val (.ref x0), .val (.int x1), .val (.int x2)] [] := by first | (simp [entryFrame, mkF, argsToLocals, Value.category]; done) | rfl
set_option maxRecDepth 65536 in
set_option maxHeartbeats 40000000 in
theorem rmPut4 (l : Launch) (Z : State) (az : Array Value) (hw : ∀ d ∈ tables_1, d.before az Z = true) (ws : List Jvm.Cond) (a0 : Addr) (p2 : Int32) (kk : ClassId) (v0 : Int32) (v1 : Int32) (v2 : Int32) (v3 : Int32) (v4 : Int32) (v5 : Int32) (v6 : Int32) (v7 : Int32) (h0 : Heap) (n0 : Nat) (Z0 : n0 ≤ h0.size) (F0 : Arv Z h0 a0 kk .byte (8 : Int32) [(.int v0), (.int v1), (.int v2), (.int v3), (.int v4), (.int v5), (.int v6), (.int v7)] (.int (0 : Int32))) (Ge0 : n0 ≤ a0) :
    MetFree l (⟨"com/example/moraine/moraine/BigEndian", "putInt", "([BII)V"⟩ : MethodName) (head1 (Jvm.Cond.code (⟨"com/example/moraine/moraine/BigEndian", "putInt", "([BII)V"⟩ : MethodName) prog_1_method_5_code 3 none :: ws) ({ frames := 0, cells := 0, slots := 0, locals := 0 } : Room)) (fun a U => a = #[(.ref a0), (.int (4 : Int32)), (.int p2)] ∧ Z.Warmed39 U.vm ∧ U.heap = h0) (fun _ _ _ _ _ => True) (fun _ U o U' => ∃ v L, o = .returned v ∧ QPut4 Z a0 p2 kk v0 v1 v2 v3 v4 v5 v6 v7 h0 n0 v U'.heap L ∧ FrameEnd U o U' L ({ frames := 0, cells := 0, slots := 0, locals := 0 } : Room).cells ({ frames := 0, cells := 0, slots := 0, locals := 0 } : Room).slots) := by
  refine MetFree.of_bodySF (plainFor_of_name own_pn_com_example_moraine_moraine_BigEndian) hisR ?_
  intro p e s m args below meth c s₁ Bd hml0 hP hK
  obtain ⟨rfl, hZ, hh⟩ := hP
  have hx := Bd.exec
  have hby := Bd.bytes
  have hml : c.maxLocals = 3 := hml0
  have hown : s.vm.findClass "com/example/moraine/moraine/BigEndian" = some m.cls := findClass_of_methodNamed Bd.named
  have hnm := (name_of_methodNamed Bd.named Bd.method).1
  have X0 : Stand p l e ({ frames := 0, cells := 0, slots := 0, locals := 0 } : Room) s m #[(.ref a0), (.int (4 : Int32)), (.int p2)] below meth c s₁ [] 0 0 := Stand.of_body Bd
  have e0 : s₁.heap = h0 := by rw [← hh, Bd.state]; rfl
  have N0 := Fr.nil n0
  have Kp0 : Keep h0 h0 [a0] := Keep.refl _ _
  refine Goes.start ?_
  refine Goes.by (B := s₁.setTop (mkF m 0 #[.val (.ref a0), .val (.int (4 : Int32)), .val (.int p2)] [])) (fun t k => castTop (efPut4 m a0 (4 : Int32) p2) k) ?_
  refine Goes.by (B := s₁.setTop (mkF m 7 #[.val (.ref a0), .val (.int (4 : Int32)), .val (.int p2)] [(.int (((p2.toUInt32 >>> ((24 : Int32) &&& 31).toUInt32).toInt32).toInt8.toInt32)), (.int (4 : Int32)), (.ref a0)])) (fun t k => ?_) ?_
  · show Steps p.tables e below (s₁.setTop (mkF m 0 #[.val (.ref a0), .val (.int (4 : Int32)), .val (.int p2)] [])) t
    refine XS.aloadN X0.here hx rfl (hb hby d1_0) rfl rfl ?_
    show Steps p.tables e below (s₁.setTop (mkF m 1 #[.val (.ref a0), .val (.int (4 : Int32)), .val (.int p2)] [(.ref a0)])) t
    refine XS.iloadN X0.here hx rfl (hb hby d1_1) rfl ?_
    show Steps p.tables e below (s₁.setTop (mkF m 2 #[.val (.ref a0), .val (.int (4 : Int32)), .val (.int p2)] [(.int (4 : Int32)), (.ref a0)])) t
    refine XS.iloadN X0.here hx rfl (hb hby d1_2) rfl ?_
    show Steps p.tables e below (s₁.setTop (mkF m 3 #[.val (.ref a0), .val (.int (4 : Int32)), .val (.int p2)] [(.int p2), (.int (4 : Int32)), (.ref a0)])) t
    refine XS.bipush X0.here hx rfl (hb hby d1_3) ?_
    show Steps p.tables e below (s₁.setTop (mkF m 5 #[.val (.ref a0), .val (.int (4 : Int32)), .val (.int p2)] [(.int (24 : Int32)), (.int p2), (.int (4 : Int32)), (.ref a0)])) t
    refine XS.iushr X0.here hx rfl (hb hby d1_5) rfl ?_
    show Steps p.tables e below (s₁.setTop (mkF m 6 #[.val (.ref a0), .val (.int (4 : Int32)), .val (.int p2)] [(.int ((p2.toUInt32 >>> ((24 : Int32) &&& 31).toUInt32).toInt32)), (.int (4 : Int32)), (.ref a0)])) t
    refine XS.i2b X0.here hx rfl (hb hby d1_6) rfl ?_
    exact k
  obtain ⟨cl1, cl1A, cl1q, cl1S, cl1N, cl1H, cl1G⟩ := id F0
  have cl1I : ¬ ((4 : Int32) < 0 ∨ cl1.slots.size ≤ ((4 : Int32)).toNatClampNeg) := inb_of cl1S ⟨by decide, by decide⟩
  obtain ⟨T1, h1, X1, e1, W1, st1⟩ := stB X0 hx hZ e0 cl1A (j := (4 : Int32)) cl1I (g := (mkF m 7 #[.val (.ref a0), .val (.int (4 : Int32)), .val (.int p2)] [(.int (((p2.toUInt32 >>> ((24 : Int32) &&& 31).toUInt32).toInt32).toInt8.toInt32)), (.int (4 : Int32)), (.ref a0)])) rfl rfl (hb hby d1_7)
  have f2 : Arv Z h1 a0 kk .byte (8 : Int32) [(.int v0), (.int v1), (.int v2), (.int v3), (.int ((((p2.toUInt32 >>> ((24 : Int32) &&& 31).toUInt32).toInt32).toInt8.toInt32).toInt8.toInt32)), (.int v5), (.int v6), (.int v7)] (.int (0 : Int32)) := Arv.set cl1A cl1q cl1S cl1N cl1H cl1G (fits_nar_byte _) W1 4 rfl (Nat.le_of_ble_eq_true rfl)
  have Kp1 : Keep h0 h1 [a0] := Kp0.wr W1 (Or.inl (List.mem_of_getElem? (i := 0) rfl))
  have Z3 : n0 ≤ h1.size := Nat.le_trans Z0 (Nat.le_of_eq W1.size.symm)
  have N4 := Fr.snoc X1 N0 Ge0
  refine Goes.by st1 ?_
  clear X0 N0
  show Goes p.tables e below _ (T1.setTop (mkF m 8 #[.val (.ref a0), .val (.int (4 : Int32)), .val (.int p2)] []))
  refine Goes.by (B := T1.setTop (mkF m 17 #[.val (.ref a0), .val (.int (4 : Int32)), .val (.int p2)] [(.int (((p2.toUInt32 >>> ((16 : Int32) &&& 31).toUInt32).toInt32).toInt8.toInt32)), (.int (5 : Int32)), (.ref a0)])) (fun t k => ?_) ?_
  · show Steps p.tables e below (T1.setTop (mkF m 8 #[.val (.ref a0), .val (.int (4 : Int32)), .val (.int p2)] [])) t
    refine XS.aloadN X1.here hx rfl (hb hby d1_8) rfl rfl ?_
    show Steps p.tables e below (T1.setTop (mkF m 9 #[.val (.ref a0), .val (.int (4 : Int32)), .val (.int p2)] [(.ref a0)])) t
    refine XS.iloadN X1.here hx rfl (hb hby d1_9) rfl ?_
    show Steps p.tables e below (T1.setTop (mkF m 10 #[.val (.ref a0), .val (.int (4 : Int32)), .val (.int p2)] [(.int (4 : Int32)), (.ref a0)])) t
    refine XS.iconst X1.here hx rfl (hb hby d1_10) ?_
    show Steps p.tables e below (T1.setTop (mkF m 11 #[.val (.ref a0), .val (.int (4 : Int32)), .val (.int p2)] [(.int (1 : Int32)), (.int (4 : Int32)), (.ref a0)])) t
    refine XS.iadd X1.here hx rfl (hb hby d1_11) rfl ?_
    show Steps p.tables e below (T1.setTop (mkF m 12 #[.val (.ref a0), .val (.int (4 : Int32)), .val (.int p2)] [(.int (5 : Int32)), (.ref a0)])) t
    refine XS.iloadN X1.here hx rfl (hb hby d1_12) rfl ?_
    show Steps p.tables e below (T1.setTop (mkF m 13 #[.val (.ref a0), .val (.int (4 : Int32)), .val (.int p2)] [(.int p2), (.int (5 : Int32)), (.ref a0)])) t
    refine XS.bipush X1.here hx rfl (hb hby d1_13) ?_
    show Steps p.tables e below (T1.setTop (mkF m 15 #[.val (.ref a0), .val (.int (4 : Int32)), .val (.int p2)] [(.int (16 : Int32)), (.int p2), (.int (5 : Int32)), (.ref a0)])) t
    refine XS.iushr X1.here hx rfl (hb hby d1_15) rfl ?_
    show Steps p.tables e below (T1.setTop (mkF m 16 #[.val (.ref a0), .val (.int (4 : Int32)), .val (.int p2)] [(.int ((p2.toUInt32 >>> ((16 : Int32) &&& 31).toUInt32).toInt32)), (.int (5 : Int32)), (.ref a0)])) t
    refine XS.i2b X1.here hx rfl (hb hby d1_16) rfl ?_
    exact k
  obtain ⟨cl5, cl5A, cl5q, cl5S, cl5N, cl5H, cl5G⟩ := id f2
  have cl5I : ¬ ((5 : Int32) < 0 ∨ cl5.slots.size ≤ ((5 : Int32)).toNatClampNeg) := inb_of cl5S ⟨by decide, by decide⟩
  obtain ⟨T5, h5, X5, e5, W5, st5⟩ := stB X1 hx hZ e1 cl5A (j := (5 : Int32)) cl5I (g := (mkF m 17 #[.val (.ref a0), .val (.int (4 : Int32)), .val (.int p2)] [(.int (((p2.toUInt32 >>> ((16 : Int32) &&& 31).toUInt32).toInt32).toInt8.toInt32)), (.int (5 : Int32)), (.ref a0)])) rfl rfl (hb hby d1_17)
  have f6 : Arv Z h5 a0 kk .byte (8 : Int32) [(.int v0), (.int v1), (.int v2), (.int v3), (.int ((((p2.toUInt32 >>> ((24 : Int32) &&& 31).toUInt32).toInt32).toInt8.toInt32).toInt8.toInt32)), (.int ((((p2.toUInt32 >>> ((16 : Int32) &&& 31).toUInt32).toInt32).toInt8.toInt32).toInt8.toInt32)), (.int v6), (.int v7)] (.int (0 : Int32)) := Arv.set cl5A cl5q cl5S cl5N cl5H cl5G (fits_nar_byte _) W5 5 rfl (Nat.le_of_ble_eq_true rfl)
  have Kp5 : Keep h0 h5 [a0] := Kp1.wr W5 (Or.inl (List.mem_of_getElem? (i := 0) rfl))
  have Z7 : n0 ≤ h5.size := Nat.le_trans Z3 (Nat.le_of_eq W5.size.symm)
  have N8 := Fr.snoc X5 N4 Ge0
  refine Goes.by st5 ?_
  clear f2 X1 N4 Z3 Kp1 e1
  show Goes p.tables e below _ (T5.setTop (mkF m 18 #[.val (.ref a0), .val (.int (4 : Int32)), .val (.int p2)] []))
  refine Goes.by (B := T5.setTop (mkF m 27 #[.val (.ref a0), .val (.int (4 : Int32)), .val (.int p2)] [(.int (((p2.toUInt32 >>> ((8 : Int32) &&& 31).toUInt32).toInt32).toInt8.toInt32)), (.int (6 : Int32)), (.ref a0)])) (fun t k => ?_) ?_
  · show Steps p.tables e below (T5.setTop (mkF m 18 #[.val (.ref a0), .val (.int (4 : Int32)), .val (.int p2)] [])) t
    refine XS.aloadN X5.here hx rfl (hb hby d1_18) rfl rfl ?_
    show Steps p.tables e below (T5.setTop (mkF m 19 #[.val (.ref a0), .val (.int (4 : Int32)), .val (.int p2)] [(.ref a0)])) t
    refine XS.iloadN X5.here hx rfl (hb hby d1_19) rfl ?_
    show Steps p.tables e below (T5.setTop (mkF m 20 #[.val (.ref a0), .val (.int (4 : Int32)), .val (.int p2)] [(.int (4 : Int32)), (.ref a0)])) t
    refine XS.iconst X5.here hx rfl (hb hby d1_20) ?_
    show Steps p.tables e below (T5.setTop (mkF m 21 #[.val (.ref a0), .val (.int (4 : Int32)), .val (.int p2)] [(.int (2 : Int32)), (.int (4 : Int32)), (.ref a0)])) t
    refine XS.iadd X5.here hx rfl (hb hby d1_21) rfl ?_
    show Steps p.tables e below (T5.setTop (mkF m 22 #[.val (.ref a0), .val (.int (4 : Int32)), .val (.int p2)] [(.int (6 : Int32)), (.ref a0)])) t
    refine XS.iloadN X5.here hx rfl (hb hby d1_22) rfl ?_
    show Steps p.tables e below (T5.setTop (mkF m 23 #[.val (.ref a0), .val (.int (4 : Int32)), .val (.int p2)] [(.int p2), (.int (6 : Int32)), (.ref a0)])) t
    refine XS.bipush X5.here hx rfl (hb hby d1_23) ?_
    show Steps p.tables e below (T5.setTop (mkF m 25 #[.val (.ref a0), .val (.int (4 : Int32)), .val (.int p2)] [(.int (8 : Int32)), (.int p2), (.int (6 : Int32)), (.ref a0)])) t
    refine XS.iushr X5.here hx rfl (hb hby d1_25) rfl ?_
    show Steps p.tables e below (T5.setTop (mkF m 26 #[.val (.ref a0), .val (.int (4 : Int32)), .val (.int p2)] [(.int ((p2.toUInt32 >>> ((8 : Int32) &&& 31).toUInt32).toInt32)), (.int (6 : Int32)), (.ref a0)])) t
    refine XS.i2b X5.here hx rfl (hb hby d1_26) rfl ?_
    exact k
  obtain ⟨cl9, cl9A, cl9q, cl9S, cl9N, cl9H, cl9G⟩ := id f6
  have cl9I : ¬ ((6 : Int32) < 0 ∨ cl9.slots.size ≤ ((6 : Int32)).toNatClampNeg) := inb_of cl9S ⟨by decide, by decide⟩
  obtain ⟨T9, h9, X9, e9, W9, st9⟩ := stB X5 hx hZ e5 cl9A (j := (6 : Int32)) cl9I (g := (mkF m 27 #[.val (.ref a0), .val (.int (4 : Int32)), .val (.int p2)] [(.int (((p2.toUInt32 >>> ((8 : Int32) &&& 31).toUInt32).toInt32).toInt8.toInt32)), (.int (6 : Int32)), (.ref a0)])) rfl rfl (hb hby d1_27)
  have f10 : Arv Z h9 a0 kk .byte (8 : Int32) [(.int v0), (.int v1), (.int v2), (.int v3), (.int ((((p2.toUInt32 >>> ((24 : Int32) &&& 31).toUInt32).toInt32).toInt8.toInt32).toInt8.toInt32)), (.int ((((p2.toUInt32 >>> ((16 : Int32) &&& 31).toUInt32).toInt32).toInt8.toInt32).toInt8.toInt32)), (.int ((((p2.toUInt32 >>> ((8 : Int32) &&& 31).toUInt32).toInt32).toInt8.toInt32).toInt8.toInt32)), (.int v7)] (.int (0 : Int32)) := Arv.set cl9A cl9q cl9S cl9N cl9H cl9G (fits_nar_byte _) W9 6 rfl (Nat.le_of_ble_eq_true rfl)
  have Kp9 : Keep h0 h9 [a0] := Kp5.wr W9 (Or.inl (List.mem_of_getElem? (i := 0) rfl))
  have Z11 : n0 ≤ h9.size := Nat.le_trans Z7 (Nat.le_of_eq W9.size.symm)
  have N12 := Fr.snoc X9 N8 Ge0
  refine Goes.by st9 ?_
  clear f6 X5 N8 Z7 Kp5 e5
  show Goes p.tables e below _ (T9.setTop (mkF m 28 #[.val (.ref a0), .val (.int (4 : Int32)), .val (.int p2)] []))
  refine Goes.by (B := T9.setTop (mkF m 34 #[.val (.ref a0), .val (.int (4 : Int32)), .val (.int p2)] [(.int (p2.toInt8.toInt32)), (.int (7 : Int32)), (.ref a0)])) (fun t k => ?_) ?_
  · show Steps p.tables e below (T9.setTop (mkF m 28 #[.val (.ref a0), .val (.int (4 : Int32)), .val (.int p2)] [])) t
    refine XS.aloadN X9.here hx rfl (hb hby d1_28) rfl rfl ?_
    show Steps p.tables e below (T9.setTop (mkF m 29 #[.val (.ref a0), .val (.int (4 : Int32)), .val (.int p2)] [(.ref a0)])) t
    refine XS.iloadN X9.here hx rfl (hb hby d1_29) rfl ?_
    show Steps p.tables e below (T9.setTop (mkF m 30 #[.val (.ref a0), .val (.int (4 : Int32)), .val (.int p2)] [(.int (4 : Int32)), (.ref a0)])) t
    refine XS.iconst X9.here hx rfl (hb hby d1_30) ?_
    show Steps p.tables e below (T9.setTop (mkF m 31 #[.val (.ref a0), .val (.int (4 : Int32)), .val (.int p2)] [(.int (3 : Int32)), (.int (4 : Int32)), (.ref a0)])) t
    refine XS.iadd X9.here hx rfl (hb hby d1_31) rfl ?_
    show Steps p.tables e below (T9.setTop (mkF m 32 #[.val (.ref a0), .val (.int (4 : Int32)), .val (.int p2)] [(.int (7 : Int32)), (.ref a0)])) t
    refine XS.iloadN X9.here hx rfl (hb hby d1_32) rfl ?_
    show Steps p.tables e below (T9.setTop (mkF m 33 #[.val (.ref a0), .val (.int (4 : Int32)), .val (.int p2)] [(.int p2), (.int (7 : Int32)), (.ref a0)])) t
    refine XS.i2b X9.here hx rfl (hb hby d1_33) rfl ?_
    exact k
  obtain ⟨cl13, cl13A, cl13q, cl13S, cl13N, cl13H, cl13G⟩ := id f10
  have cl13I : ¬ ((7 : Int32) < 0 ∨ cl13.slots.size ≤ ((7 : Int32)).toNatClampNeg) := inb_of cl13S ⟨by decide, by decide⟩
  obtain ⟨T13, h13, X13, e13, W13, st13⟩ := stB X9 hx hZ e9 cl13A (j := (7 : Int32)) cl13I (g := (mkF m 34 #[.val (.ref a0), .val (.int (4 : Int32)), .val (.int p2)] [(.int (p2.toInt8.toInt32)), (.int (7 : Int32)), (.ref a0)])) rfl rfl (hb hby d1_34)
  have f14 : Arv Z h13 a0 kk .byte (8 : Int32) [(.int v0), (.int v1), (.int v2), (.int v3), (.int ((((p2.toUInt32 >>> ((24 : Int32) &&& 31).toUInt32).toInt32).toInt8.toInt32).toInt8.toInt32)), (.int ((((p2.toUInt32 >>> ((16 : Int32) &&& 31).toUInt32).toInt32).toInt8.toInt32).toInt8.toInt32)), (.int ((((p2.toUInt32 >>> ((8 : Int32) &&& 31).toUInt32).toInt32).toInt8.toInt32).toInt8.toInt32)), (.int ((p2.toInt8.toInt32).toInt8.toInt32))] (.int (0 : Int32)) := Arv.set cl13A cl13q cl13S cl13N cl13H cl13G (fits_nar_byte _) W13 7 rfl (Nat.le_of_ble_eq_true rfl)
  have Kp13 : Keep h0 h13 [a0] := Kp9.wr W13 (Or.inl (List.mem_of_getElem? (i := 0) rfl))
  have Z15 : n0 ≤ h13.size := Nat.le_trans Z11 (Nat.le_of_eq W13.size.symm)
  have N16 := Fr.snoc X13 N12 Ge0
  refine Goes.by st13 ?_
  clear f10 X9 N12 Z11 Kp9 e9
  show Goes p.tables e below _ (T13.setTop (mkF m 35 #[.val (.ref a0), .val (.int (4 : Int32)), .val (.int p2)] []))
  obtain ⟨fs, hr, hrun, hended, hW, hsame⟩ := X13.leave (v := none) (fun _ => rfl)
  refine Goes.mk _ _ ?_ ⟨hrun, hended, _, _, rfl, ?_, ⟨_, rfl⟩, hW, hsame.mono (by decide) (by decide)⟩
  · exact X13.returnOut hx Bd.returns (hb hby d1_35) hr
  · show QPut4 Z a0 p2 kk v0 v1 v2 v3 v4 v5 v6 v7 h0 n0 _ T13.heap _
    rw [e13]
    exact ⟨rfl, N16, Kp13, f14⟩
theorem d2_0 : decode method_3_code 0 = .ok (.iload_n 2, 1) := by decide +kernel
theorem d2_1 : decode method_3_code 1 = .ok (.iload_n 3, 1) := by decide +kernel
theorem d2_2 : decode method_3_code 2 = .ok (.isub, 1) := by decide +kernel
theorem d2_3 : decode method_3_code 3 = .ok (.istore 6, 2) := by decide +kernel
theorem d2_5 : decode method_3_code 5 = .ok (.iload 6, 2) := by decide +kernel
theorem d2_7 : decode method_3_code 7 = .ok (.ifCond .lt 9, 3) := by decide +kernel
theorem d2_16 : decode method_3_code 16 = .ok (.aload_n 0, 1) := by decide +kernel
theorem d2_17 : decode method_3_code 17 = .ok (.iload_n 2, 1) := by decide +kernel
theorem d2_18 : decode method_3_code 18 = .ok (.baload, 1) := by decide +kernel
theorem d2_19 : decode method_3_code 19 = .ok (.aload_n 1, 1) := by decide +kernel
theorem d2_20 : decode method_3_code 20 = .ok (.iload_n 2, 1) := by decide +kernel
theorem d2_21 : decode method_3_code 21 = .ok (.baload, 1) := by decide +kernel
theorem d2_22 : decode method_3_code 22 = .ok (.if_icmp .ne 7, 3) := by decide +kernel
theorem d2_25 : decode method_3_code 25 = .ok (.iconst 1, 1) := by decide +kernel
theorem d2_26 : decode method_3_code 26 = .ok (.goto 4, 3) := by decide +kernel
theorem d2_30 : decode method_3_code 30 = .ok (.ireturn, 1) := by decide +kernel
theorem d2_29 : decode method_3_code 29 = .ok (.iconst 0, 1) := by decide +kernel
theorem d2_10 : decode method_3_code 10 = .ok (.iload 6, 2) := by decide +kernel
theorem d2_12 : decode method_3_code 12 = .ok (.iconst 3, 1) := by decide +kernel
theorem d2_13 : decode method_3_code 13 = .ok (.if_icmp .le 18, 3) := by decide +kernel
theorem d2_31 : decode method_3_code 31 = .ok (.iload 6, 2) := by decide +kernel
theorem d2_33 : decode method_3_code 33 = .ok (.ifCond .ne 14, 3) := by decide +kernel
theorem d2_36 : decode method_3_code 36 = .ok (.lload 4, 2) := by decide +kernel
theorem d2_38 : decode method_3_code 38 = .ok (.ldc2_w 22, 3) := by decide +kernel
theorem d2_41 : decode method_3_code 41 = .ok (.ldiv, 1) := by decide +kernel
theorem d2_42 : decode method_3_code 42 = .ok (.lstore 7, 2) := by decide +kernel
theorem d2_44 : decode method_3_code 44 = .ok (.goto 53, 3) := by decide +kernel
theorem d2_97 : decode method_3_code 97 = .ok (.aload_n 0, 1) := by decide +kernel
theorem d2_98 : decode method_3_code 98 = .ok (.iload_n 2, 1) := by decide +kernel
theorem d2_99 : decode method_3_code 99 = .ok (.baload, 1) := by decide +kernel
theorem d2_100 : decode method_3_code 100 = .ok (.sipush 255, 3) := by decide +kernel
theorem d2_103 : decode method_3_code 103 = .ok (.iand, 1) := by decide +kernel
theorem d2_104 : decode method_3_code 104 = .ok (.i2l, 1) := by decide +kernel
theorem d2_105 : decode method_3_code 105 = .ok (.lload 7, 2) := by decide +kernel
theorem d2_107 : decode method_3_code 107 = .ok (.lcmp, 1) := by decide +kernel
theorem d2_108 : decode method_3_code 108 = .ok (.ifCond .ne 7, 3) := by decide +kernel
theorem d2_111 : decode method_3_code 111 = .ok (.iconst 1, 1) := by decide +kernel
theorem d2_112 : decode method_3_code 112 = .ok (.goto 4, 3) := by decide +kernel
theorem d2_116 : decode method_3_code 116 = .ok (.ireturn, 1) := by decide +kernel
theorem d2_115 : decode method_3_code 115 = .ok (.iconst 0, 1) := by decide +kernel
theorem d2_47 : decode method_3_code 47 = .ok (.iload 6, 2) := by decide +kernel
theorem d2_49 : decode method_3_code 49 = .ok (.iconst 1, 1) := by decide +kernel
theorem d2_50 : decode method_3_code 50 = .ok (.if_icmp .ne 18, 3) := by decide +kernel
theorem d2_53 : decode method_3_code 53 = .ok (.lload 4, 2) := by decide +kernel
theorem d2_55 : decode method_3_code 55 = .ok (.ldc2_w 24, 3) := by decide +kernel
theorem d2_58 : decode method_3_code 58 = .ok (.ldiv, 1) := by decide +kernel
theorem d2_59 : decode method_3_code 59 = .ok (.ldc2_w 26, 3) := by decide +kernel
theorem d2_62 : decode method_3_code 62 = .ok (.lrem, 1) := by decide +kernel
theorem d2_63 : decode method_3_code 63 = .ok (.lstore 7, 2) := by decide +kernel
theorem d2_65 : decode method_3_code 65 = .ok (.goto 32, 3) := by decide +kernel
theorem d2_68 : decode method_3_code 68 = .ok (.iload 6, 2) := by decide +kernel
theorem d2_70 : decode method_3_code 70 = .ok (.iconst 2, 1) := by decide +kernel
theorem d2_71 : decode method_3_code 71 = .ok (.if_icmp .ne 18, 3) := by decide +kernel
theorem d2_74 : decode method_3_code 74 = .ok (.lload 4, 2) := by decide +kernel
theorem d2_76 : decode method_3_code 76 = .ok (.ldc2_w 26, 3) := by decide +kernel
theorem d2_79 : decode method_3_code 79 = .ok (.ldiv, 1) := by decide +kernel
theorem d2_80 : decode method_3_code 80 = .ok (.ldc2_w 26, 3) := by decide +kernel
theorem d2_83 : decode method_3_code 83 = .ok (.lrem, 1) := by decide +kernel
theorem d2_84 : decode method_3_code 84 = .ok (.lstore 7, 2) := by decide +kernel
theorem d2_86 : decode method_3_code 86 = .ok (.goto 11, 3) := by decide +kernel
theorem d2_89 : decode method_3_code 89 = .ok (.lload 4, 2) := by decide +kernel
theorem d2_91 : decode method_3_code 91 = .ok (.ldc2_w 26, 3) := by decide +kernel
theorem d2_94 : decode method_3_code 94 = .ok (.lrem, 1) := by decide +kernel
theorem d2_95 : decode method_3_code 95 = .ok (.lstore 7, 2) := by decide +kernel
def fOk (p2 : Int32) (p3 : Int32) (q4 : Int64) (x : Int32) (y : Int32) : Int32 := (if (p2 - p3) < (0 : Int32) then (if x = y then (1 : Int32) else (0 : Int32)) else (if (3 : Int32) < (p2 - p3) then (if x = y then (1 : Int32) else (0 : Int32)) else (if (p2 - p3) = (0 : Int32) then (if ((x &&& (255 : Int32)).toInt64) = (q4 / (16777216 : Int64)) then (1 : Int32) else (0 : Int32)) else (if (p2 - p3) = (1 : Int32) then (if ((x &&& (255 : Int32)).toInt64) = ((q4 / (65536 : Int64)) - (q4 / (65536 : Int64)) / (256 : Int64) * (256 : Int64)) then (1 : Int32) else (0 : Int32)) else (if (p2 - p3) = (2 : Int32) then (if ((x &&& (255 : Int32)).toInt64) = ((q4 / (256 : Int64)) - (q4 / (256 : Int64)) / (256 : Int64) * (256 : Int64)) then (1 : Int32) else (0 : Int32)) else (if ((x &&& (255 : Int32)).toInt64) = (q4 - q4 / (256 : Int64) * (256 : Int64)) then (1 : Int32) else (0 : Int32)))))))
def QOk (Z : State) (a0 : Addr) (a1 : Addr) (p2 : Int32) (p3 : Int32) (q4 : Int64) (x : Int32) (y : Int32) (h0 : Heap) (n0 : Nat) (v : Option Value) (h : Heap) (L : List Loc) : Prop := v = some (.int (fOk p2 p3 q4 x y)) ∧ Fr n0 L ∧ h = h0
theorem own_pn_com_example_moraine_moraine_BigEndianPutIntPinLaw : plainName "com/example/moraine/moraine/BigEndianPutIntPinLaw" = true := by first | (simp [plainName, overriddenIn]; done) | decide +kernel
theorem efOk (m : MethodId) (x0 : Addr) (x1 : Addr) (x2 : Int32) (x3 : Int32) (x4 : Int64) : entryFrame m #[(.ref x0), (.ref x1), (.int x2), (.int x3), (.long x4)] 9 = mkF m 0 #[.val (.ref x0), .val (.ref x1), .val (.int x2), .val (.int x3), .val (.long x4), .second, .unset, .unset, .unset] [] := by first | (simp [entryFrame, mkF, argsToLocals, Value.category]; done) | rfl
set_option maxRecDepth 65536 in
set_option maxHeartbeats 40000000 in
theorem rmOk (l : Launch) (Z : State) (az : Array Value) (hw : ∀ d ∈ tables_1, d.before az Z = true) (ws : List Jvm.Cond) (a0 : Addr) (a1 : Addr) (p2 : Int32) (p3 : Int32) (q4 : Int64) (x : Int32) (y : Int32) (h0 : Heap) (n0 : Nat) (Z0 : n0 ≤ h0.size) (F0 : Elt Z h0 a0 .byte p2 (.int x)) (F1 : Elt Z h0 a1 .byte p2 (.int y)) :
    MetFree l (⟨"com/example/moraine/moraine/BigEndianPutIntPinLaw", "ok", "([B[BIIJ)Z"⟩ : MethodName) (head1 (Jvm.Cond.code (⟨"com/example/moraine/moraine/BigEndianPutIntPinLaw", "ok", "([B[BIIJ)Z"⟩ : MethodName) method_3_code 9 (some .boolean) :: ws) ({ frames := 0, cells := 0, slots := 0, locals := 0 } : Room)) (fun a U => a = #[(.ref a0), (.ref a1), (.int p2), (.int p3), (.long q4)] ∧ Z.Warmed39 U.vm ∧ U.heap = h0) (fun _ _ _ _ _ => True) (fun _ U o U' => ∃ v L, o = .returned v ∧ QOk Z a0 a1 p2 p3 q4 x y h0 n0 v U'.heap L ∧ FrameEnd U o U' L ({ frames := 0, cells := 0, slots := 0, locals := 0 } : Room).cells ({ frames := 0, cells := 0, slots := 0, locals := 0 } : Room).slots) := by
  refine MetFree.of_bodySF (plainFor_of_name own_pn_com_example_moraine_moraine_BigEndianPutIntPinLaw) hisR ?_
  intro p e s m args below meth c s₁ Bd hml0 hP hK
  obtain ⟨rfl, hZ, hh⟩ := hP
  have hx := Bd.exec
  have hby := Bd.bytes
  have hml : c.maxLocals = 9 := hml0
  have hown : s.vm.findClass "com/example/moraine/moraine/BigEndianPutIntPinLaw" = some m.cls := findClass_of_methodNamed Bd.named
  have hnm := (name_of_methodNamed Bd.named Bd.method).1
  have X0 : Stand p l e ({ frames := 0, cells := 0, slots := 0, locals := 0 } : Room) s m #[(.ref a0), (.ref a1), (.int p2), (.int p3), (.long q4)] below meth c s₁ [] 0 0 := Stand.of_body Bd
  have e0 : s₁.heap = h0 := by rw [← hh, Bd.state]; rfl
  have N0 := Fr.nil n0
  have Kp0 : Keep h0 h0 [] := Keep.refl _ _
  refine Goes.start ?_
  refine Goes.by (B := s₁.setTop (mkF m 0 #[.val (.ref a0), .val (.ref a1), .val (.int p2), .val (.int p3), .val (.long q4), .second, .unset, .unset, .unset] [])) (fun t k => castTop (efOk m a0 a1 p2 p3 q4) k) ?_
  refine Goes.by (B := s₁.setTop (mkF m 7 #[.val (.ref a0), .val (.ref a1), .val (.int p2), .val (.int p3), .val (.long q4), .second, .val (.int (p2 - p3)), .unset, .unset] [(.int (p2 - p3))])) (fun t k => ?_) ?_
  · show Steps p.tables e below (s₁.setTop (mkF m 0 #[.val (.ref a0), .val (.ref a1), .val (.int p2), .val (.int p3), .val (.long q4), .second, .unset, .unset, .unset] [])) t
    refine XS.iloadN X0.here hx rfl (hb hby d2_0) rfl ?_
    show Steps p.tables e below (s₁.setTop (mkF m 1 #[.val (.ref a0), .val (.ref a1), .val (.int p2), .val (.int p3), .val (.long q4), .second, .unset, .unset, .unset] [(.int p2)])) t
    refine XS.iloadN X0.here hx rfl (hb hby d2_1) rfl ?_
    show Steps p.tables e below (s₁.setTop (mkF m 2 #[.val (.ref a0), .val (.ref a1), .val (.int p2), .val (.int p3), .val (.long q4), .second, .unset, .unset, .unset] [(.int p3), (.int p2)])) t
    refine XS.isub X0.here hx rfl (hb hby d2_2) rfl ?_
    show Steps p.tables e below (s₁.setTop (mkF m 3 #[.val (.ref a0), .val (.ref a1), .val (.int p2), .val (.int p3), .val (.long q4), .second, .unset, .unset, .unset] [(.int (p2 - p3))])) t
    refine XS.istore X0.here hx rfl (hb hby d2_3) rfl (l' := #[.val (.ref a0), .val (.ref a1), .val (.int p2), .val (.int p3), .val (.long q4), .second, .val (.int (p2 - p3)), .unset, .unset]) rfl ?_
    show Steps p.tables e below (s₁.setTop (mkF m 5 #[.val (.ref a0), .val (.ref a1), .val (.int p2), .val (.int p3), .val (.long q4), .second, .val (.int (p2 - p3)), .unset, .unset] [])) t
    refine XS.iload X0.here hx rfl (hb hby d2_5) rfl ?_
    exact k
  by_cases hc1 : (p2 - p3) < (0 : Int32)
  · refine Goes.by (B := s₁.setTop (mkF m 18 #[.val (.ref a0), .val (.ref a1), .val (.int p2), .val (.int p3), .val (.long q4), .second, .val (.int (p2 - p3)), .unset, .unset] [(.int p2), (.ref a0)])) (fun t k => ?_) ?_
    · show Steps p.tables e below (s₁.setTop (mkF m 7 #[.val (.ref a0), .val (.ref a1), .val (.int p2), .val (.int p3), .val (.long q4), .second, .val (.int (p2 - p3)), .unset, .unset] [(.int (p2 - p3))])) t
      refine XS.ifYes X0.here hx rfl (pc0 := 7) (pc' := 16) rfl (hb hby d2_7) rfl ((if0 _ _).trans (tlt hc1).1) (by decide) (by decide) ?_
      show Steps p.tables e below (s₁.setTop (mkF m 16 #[.val (.ref a0), .val (.ref a1), .val (.int p2), .val (.int p3), .val (.long q4), .second, .val (.int (p2 - p3)), .unset, .unset] [])) t
      refine XS.aloadN X0.here hx rfl (hb hby d2_16) rfl rfl ?_
      show Steps p.tables e below (s₁.setTop (mkF m 17 #[.val (.ref a0), .val (.ref a1), .val (.int p2), .val (.int p3), .val (.long q4), .second, .val (.int (p2 - p3)), .unset, .unset] [(.ref a0)])) t
      refine XS.iloadN X0.here hx rfl (hb hby d2_17) rfl ?_
      exact k
    obtain ⟨cl2, cl2A, cl2I, cl2T⟩ := id F0
    refine Goes.by (B := s₁.setTop (mkF m 21 #[.val (.ref a0), .val (.ref a1), .val (.int p2), .val (.int p3), .val (.long q4), .second, .val (.int (p2 - p3)), .unset, .unset] [(.int p2), (.ref a1), (.int x)])) (fun t k => ?_) ?_
    · show Steps p.tables e below (s₁.setTop (mkF m 18 #[.val (.ref a0), .val (.ref a1), .val (.int p2), .val (.int p3), .val (.long q4), .second, .val (.int (p2 - p3)), .unset, .unset] [(.int p2), (.ref a0)])) t
      refine X0.baloadBytes hx (j := p2) (v := (.int x)) (by rw [e0]; exact cl2A.1) (State.isArrayOf_alike hZ.alike cl2A.2.1) cl2A.2.2 cl2I cl2T (g := (mkF m 18 #[.val (.ref a0), .val (.ref a1), .val (.int p2), .val (.int p3), .val (.long q4), .second, .val (.int (p2 - p3)), .unset, .unset] [(.int p2), (.ref a0)])) rfl rfl (hb hby d2_18) _ ?_
      show Steps p.tables e below (s₁.setTop (mkF m 19 #[.val (.ref a0), .val (.ref a1), .val (.int p2), .val (.int p3), .val (.long q4), .second, .val (.int (p2 - p3)), .unset, .unset] [(.int x)])) t
      refine XS.aloadN X0.here hx rfl (hb hby d2_19) rfl rfl ?_
      show Steps p.tables e below (s₁.setTop (mkF m 20 #[.val (.ref a0), .val (.ref a1), .val (.int p2), .val (.int p3), .val (.long q4), .second, .val (.int (p2 - p3)), .unset, .unset] [(.ref a1), (.int x)])) t
      refine XS.iloadN X0.here hx rfl (hb hby d2_20) rfl ?_
      exact k
    obtain ⟨cl3, cl3A, cl3I, cl3T⟩ := id F1
    refine Goes.by (B := s₁.setTop (mkF m 22 #[.val (.ref a0), .val (.ref a1), .val (.int p2), .val (.int p3), .val (.long q4), .second, .val (.int (p2 - p3)), .unset, .unset] [(.int y), (.int x)])) (fun t k => ?_) ?_
    · show Steps p.tables e below (s₁.setTop (mkF m 21 #[.val (.ref a0), .val (.ref a1), .val (.int p2), .val (.int p3), .val (.long q4), .second, .val (.int (p2 - p3)), .unset, .unset] [(.int p2), (.ref a1), (.int x)])) t
      refine X0.baloadBytes hx (j := p2) (v := (.int y)) (by rw [e0]; exact cl3A.1) (State.isArrayOf_alike hZ.alike cl3A.2.1) cl3A.2.2 cl3I cl3T (g := (mkF m 21 #[.val (.ref a0), .val (.ref a1), .val (.int p2), .val (.int p3), .val (.long q4), .second, .val (.int (p2 - p3)), .unset, .unset] [(.int p2), (.ref a1), (.int x)])) rfl rfl (hb hby d2_21) _ ?_
      exact k
    by_cases hc4 : x = y
    · refine Goes.by (B := s₁.setTop (mkF m 30 #[.val (.ref a0), .val (.ref a1), .val (.int p2), .val (.int p3), .val (.long q4), .second, .val (.int (p2 - p3)), .unset, .unset] [(.int (1 : Int32))])) (fun t k => ?_) ?_
      · show Steps p.tables e below (s₁.setTop (mkF m 22 #[.val (.ref a0), .val (.ref a1), .val (.int p2), .val (.int p3), .val (.long q4), .second, .val (.int (p2 - p3)), .unset, .unset] [(.int y), (.int x)])) t
        refine XS.icmpNo X0.here hx rfl (hb hby d2_22) rfl (teq hc4).2 ?_
        show Steps p.tables e below (s₁.setTop (mkF m 25 #[.val (.ref a0), .val (.ref a1), .val (.int p2), .val (.int p3), .val (.long q4), .second, .val (.int (p2 - p3)), .unset, .unset] [])) t
        refine XS.iconst X0.here hx rfl (hb hby d2_25) ?_
        show Steps p.tables e below (s₁.setTop (mkF m 26 #[.val (.ref a0), .val (.ref a1), .val (.int p2), .val (.int p3), .val (.long q4), .second, .val (.int (p2 - p3)), .unset, .unset] [(.int (1 : Int32))])) t
        refine XS.goto X0.here hx rfl (pc0 := 26) (pc' := 30) rfl (hb hby d2_26) (by decide) (by decide) ?_
        exact k
      obtain ⟨fs, hr, hrun, hended, hW, hsame⟩ := X0.leave (v := some (.int (1 : Int32))) (fun h => by rw [Bd.returns] at h; cases h)
      refine Goes.mk _ _ ?_ ⟨hrun, hended, _, _, rfl, ?_, ⟨_, rfl⟩, hW, hsame.mono (by decide) (by decide)⟩
      · exact retN X0 hx (t := .boolean) Bd.returns (by simp) (hb hby d2_30) hr
      · show QOk Z a0 a1 p2 p3 q4 x y h0 n0 _ s₁.heap _
        rw [e0]
        exact ⟨(by simp only [fOk, if_pos hc1, if_pos hc4]), N0, rfl⟩
    · refine Goes.by (B := s₁.setTop (mkF m 30 #[.val (.ref a0), .val (.ref a1), .val (.int p2), .val (.int p3), .val (.long q4), .second, .val (.int (p2 - p3)), .unset, .unset] [(.int (0 : Int32))])) (fun t k => ?_) ?_
      · show Steps p.tables e below (s₁.setTop (mkF m 22 #[.val (.ref a0), .val (.ref a1), .val (.int p2), .val (.int p3), .val (.long q4), .second, .val (.int (p2 - p3)), .unset, .unset] [(.int y), (.int x)])) t
        refine XS.icmpYes X0.here hx rfl (pc0 := 22) (pc' := 29) rfl (hb hby d2_22) rfl (feq hc4).2 (by decide) (by decide) ?_
        show Steps p.tables e below (s₁.setTop (mkF m 29 #[.val (.ref a0), .val (.ref a1), .val (.int p2), .val (.int p3), .val (.long q4), .second, .val (.int (p2 - p3)), .unset, .unset] [])) t
        refine XS.iconst X0.here hx rfl (hb hby d2_29) ?_
        exact k
      obtain ⟨fs, hr, hrun, hended, hW, hsame⟩ := X0.leave (v := some (.int (0 : Int32))) (fun h => by rw [Bd.returns] at h; cases h)
      refine Goes.mk _ _ ?_ ⟨hrun, hended, _, _, rfl, ?_, ⟨_, rfl⟩, hW, hsame.mono (by decide) (by decide)⟩
      · exact retN X0 hx (t := .boolean) Bd.returns (by simp) (hb hby d2_30) hr
      · show QOk Z a0 a1 p2 p3 q4 x y h0 n0 _ s₁.heap _
        rw [e0]
        exact ⟨(by simp only [fOk, if_pos hc1, if_neg hc4]), N0, rfl⟩
  · refine Goes.by (B := s₁.setTop (mkF m 13 #[.val (.ref a0), .val (.ref a1), .val (.int p2), .val (.int p3), .val (.long q4), .second, .val (.int (p2 - p3)), .unset, .unset] [(.int (3 : Int32)), (.int (p2 - p3))])) (fun t k => ?_) ?_
    · show Steps p.tables e below (s₁.setTop (mkF m 7 #[.val (.ref a0), .val (.ref a1), .val (.int p2), .val (.int p3), .val (.long q4), .second, .val (.int (p2 - p3)), .unset, .unset] [(.int (p2 - p3))])) t
      refine XS.ifNo X0.here hx rfl (hb hby d2_7) rfl ((if0 _ _).trans (flt hc1).1) ?_
      show Steps p.tables e below (s₁.setTop (mkF m 10 #[.val (.ref a0), .val (.ref a1), .val (.int p2), .val (.int p3), .val (.long q4), .second, .val (.int (p2 - p3)), .unset, .unset] [])) t
      refine XS.iload X0.here hx rfl (hb hby d2_10) rfl ?_
      show Steps p.tables e below (s₁.setTop (mkF m 12 #[.val (.ref a0), .val (.ref a1), .val (.int p2), .val (.int p3), .val (.long q4), .second, .val (.int (p2 - p3)), .unset, .unset] [(.int (p2 - p3))])) t
      refine XS.iconst X0.here hx rfl (hb hby d2_12) ?_
      exact k
    by_cases hc5 : (3 : Int32) < (p2 - p3)
    · refine Goes.by (B := s₁.setTop (mkF m 18 #[.val (.ref a0), .val (.ref a1), .val (.int p2), .val (.int p3), .val (.long q4), .second, .val (.int (p2 - p3)), .unset, .unset] [(.int p2), (.ref a0)])) (fun t k => ?_) ?_
      · show Steps p.tables e below (s₁.setTop (mkF m 13 #[.val (.ref a0), .val (.ref a1), .val (.int p2), .val (.int p3), .val (.long q4), .second, .val (.int (p2 - p3)), .unset, .unset] [(.int (3 : Int32)), (.int (p2 - p3))])) t
        refine XS.icmpNo X0.here hx rfl (hb hby d2_13) rfl (tlt hc5).2.2.2 ?_
        show Steps p.tables e below (s₁.setTop (mkF m 16 #[.val (.ref a0), .val (.ref a1), .val (.int p2), .val (.int p3), .val (.long q4), .second, .val (.int (p2 - p3)), .unset, .unset] [])) t
        refine XS.aloadN X0.here hx rfl (hb hby d2_16) rfl rfl ?_
        show Steps p.tables e below (s₁.setTop (mkF m 17 #[.val (.ref a0), .val (.ref a1), .val (.int p2), .val (.int p3), .val (.long q4), .second, .val (.int (p2 - p3)), .unset, .unset] [(.ref a0)])) t
        refine XS.iloadN X0.here hx rfl (hb hby d2_17) rfl ?_
        exact k
      obtain ⟨cl6, cl6A, cl6I, cl6T⟩ := id F0
      refine Goes.by (B := s₁.setTop (mkF m 21 #[.val (.ref a0), .val (.ref a1), .val (.int p2), .val (.int p3), .val (.long q4), .second, .val (.int (p2 - p3)), .unset, .unset] [(.int p2), (.ref a1), (.int x)])) (fun t k => ?_) ?_
      · show Steps p.tables e below (s₁.setTop (mkF m 18 #[.val (.ref a0), .val (.ref a1), .val (.int p2), .val (.int p3), .val (.long q4), .second, .val (.int (p2 - p3)), .unset, .unset] [(.int p2), (.ref a0)])) t
        refine X0.baloadBytes hx (j := p2) (v := (.int x)) (by rw [e0]; exact cl6A.1) (State.isArrayOf_alike hZ.alike cl6A.2.1) cl6A.2.2 cl6I cl6T (g := (mkF m 18 #[.val (.ref a0), .val (.ref a1), .val (.int p2), .val (.int p3), .val (.long q4), .second, .val (.int (p2 - p3)), .unset, .unset] [(.int p2), (.ref a0)])) rfl rfl (hb hby d2_18) _ ?_
        show Steps p.tables e below (s₁.setTop (mkF m 19 #[.val (.ref a0), .val (.ref a1), .val (.int p2), .val (.int p3), .val (.long q4), .second, .val (.int (p2 - p3)), .unset, .unset] [(.int x)])) t
        refine XS.aloadN X0.here hx rfl (hb hby d2_19) rfl rfl ?_
        show Steps p.tables e below (s₁.setTop (mkF m 20 #[.val (.ref a0), .val (.ref a1), .val (.int p2), .val (.int p3), .val (.long q4), .second, .val (.int (p2 - p3)), .unset, .unset] [(.ref a1), (.int x)])) t
        refine XS.iloadN X0.here hx rfl (hb hby d2_20) rfl ?_
        exact k
      obtain ⟨cl7, cl7A, cl7I, cl7T⟩ := id F1
      refine Goes.by (B := s₁.setTop (mkF m 22 #[.val (.ref a0), .val (.ref a1), .val (.int p2), .val (.int p3), .val (.long q4), .second, .val (.int (p2 - p3)), .unset, .unset] [(.int y), (.int x)])) (fun t k => ?_) ?_
      · show Steps p.tables e below (s₁.setTop (mkF m 21 #[.val (.ref a0), .val (.ref a1), .val (.int p2), .val (.int p3), .val (.long q4), .second, .val (.int (p2 - p3)), .unset, .unset] [(.int p2), (.ref a1), (.int x)])) t
        refine X0.baloadBytes hx (j := p2) (v := (.int y)) (by rw [e0]; exact cl7A.1) (State.isArrayOf_alike hZ.alike cl7A.2.1) cl7A.2.2 cl7I cl7T (g := (mkF m 21 #[.val (.ref a0), .val (.ref a1), .val (.int p2), .val (.int p3), .val (.long q4), .second, .val (.int (p2 - p3)), .unset, .unset] [(.int p2), (.ref a1), (.int x)])) rfl rfl (hb hby d2_21) _ ?_
        exact k
      by_cases hc8 : x = y
      · refine Goes.by (B := s₁.setTop (mkF m 30 #[.val (.ref a0), .val (.ref a1), .val (.int p2), .val (.int p3), .val (.long q4), .second, .val (.int (p2 - p3)), .unset, .unset] [(.int (1 : Int32))])) (fun t k => ?_) ?_
        · show Steps p.tables e below (s₁.setTop (mkF m 22 #[.val (.ref a0), .val (.ref a1), .val (.int p2), .val (.int p3), .val (.long q4), .second, .val (.int (p2 - p3)), .unset, .unset] [(.int y), (.int x)])) t
          refine XS.icmpNo X0.here hx rfl (hb hby d2_22) rfl (teq hc8).2 ?_
          show Steps p.tables e below (s₁.setTop (mkF m 25 #[.val (.ref a0), .val (.ref a1), .val (.int p2), .val (.int p3), .val (.long q4), .second, .val (.int (p2 - p3)), .unset, .unset] [])) t
          refine XS.iconst X0.here hx rfl (hb hby d2_25) ?_
          show Steps p.tables e below (s₁.setTop (mkF m 26 #[.val (.ref a0), .val (.ref a1), .val (.int p2), .val (.int p3), .val (.long q4), .second, .val (.int (p2 - p3)), .unset, .unset] [(.int (1 : Int32))])) t
          refine XS.goto X0.here hx rfl (pc0 := 26) (pc' := 30) rfl (hb hby d2_26) (by decide) (by decide) ?_
          exact k
        obtain ⟨fs, hr, hrun, hended, hW, hsame⟩ := X0.leave (v := some (.int (1 : Int32))) (fun h => by rw [Bd.returns] at h; cases h)
        refine Goes.mk _ _ ?_ ⟨hrun, hended, _, _, rfl, ?_, ⟨_, rfl⟩, hW, hsame.mono (by decide) (by decide)⟩
        · exact retN X0 hx (t := .boolean) Bd.returns (by simp) (hb hby d2_30) hr
        · show QOk Z a0 a1 p2 p3 q4 x y h0 n0 _ s₁.heap _
          rw [e0]
          exact ⟨(by simp only [fOk, if_neg hc1, if_pos hc5, if_pos hc8]), N0, rfl⟩
      · refine Goes.by (B := s₁.setTop (mkF m 30 #[.val (.ref a0), .val (.ref a1), .val (.int p2), .val (.int p3), .val (.long q4), .second, .val (.int (p2 - p3)), .unset, .unset] [(.int (0 : Int32))])) (fun t k => ?_) ?_
        · show Steps p.tables e below (s₁.setTop (mkF m 22 #[.val (.ref a0), .val (.ref a1), .val (.int p2), .val (.int p3), .val (.long q4), .second, .val (.int (p2 - p3)), .unset, .unset] [(.int y), (.int x)])) t
          refine XS.icmpYes X0.here hx rfl (pc0 := 22) (pc' := 29) rfl (hb hby d2_22) rfl (feq hc8).2 (by decide) (by decide) ?_
          show Steps p.tables e below (s₁.setTop (mkF m 29 #[.val (.ref a0), .val (.ref a1), .val (.int p2), .val (.int p3), .val (.long q4), .second, .val (.int (p2 - p3)), .unset, .unset] [])) t
          refine XS.iconst X0.here hx rfl (hb hby d2_29) ?_
          exact k
        obtain ⟨fs, hr, hrun, hended, hW, hsame⟩ := X0.leave (v := some (.int (0 : Int32))) (fun h => by rw [Bd.returns] at h; cases h)
        refine Goes.mk _ _ ?_ ⟨hrun, hended, _, _, rfl, ?_, ⟨_, rfl⟩, hW, hsame.mono (by decide) (by decide)⟩
        · exact retN X0 hx (t := .boolean) Bd.returns (by simp) (hb hby d2_30) hr
        · show QOk Z a0 a1 p2 p3 q4 x y h0 n0 _ s₁.heap _
          rw [e0]
          exact ⟨(by simp only [fOk, if_neg hc1, if_pos hc5, if_neg hc8]), N0, rfl⟩
    · refine Goes.by (B := s₁.setTop (mkF m 33 #[.val (.ref a0), .val (.ref a1), .val (.int p2), .val (.int p3), .val (.long q4), .second, .val (.int (p2 - p3)), .unset, .unset] [(.int (p2 - p3))])) (fun t k => ?_) ?_
      · show Steps p.tables e below (s₁.setTop (mkF m 13 #[.val (.ref a0), .val (.ref a1), .val (.int p2), .val (.int p3), .val (.long q4), .second, .val (.int (p2 - p3)), .unset, .unset] [(.int (3 : Int32)), (.int (p2 - p3))])) t
        refine XS.icmpYes X0.here hx rfl (pc0 := 13) (pc' := 31) rfl (hb hby d2_13) rfl (flt hc5).2.2.2 (by decide) (by decide) ?_
        show Steps p.tables e below (s₁.setTop (mkF m 31 #[.val (.ref a0), .val (.ref a1), .val (.int p2), .val (.int p3), .val (.long q4), .second, .val (.int (p2 - p3)), .unset, .unset] [])) t
        refine XS.iload X0.here hx rfl (hb hby d2_31) rfl ?_
        exact k
      by_cases hc9 : (p2 - p3) = (0 : Int32)
      · refine Goes.by (B := s₁.setTop (mkF m 99 #[.val (.ref a0), .val (.ref a1), .val (.int p2), .val (.int p3), .val (.long q4), .second, .val (.int (p2 - p3)), .val (.long (q4 / (16777216 : Int64))), .second] [(.int p2), (.ref a0)])) (fun t k => ?_) ?_
        · show Steps p.tables e below (s₁.setTop (mkF m 33 #[.val (.ref a0), .val (.ref a1), .val (.int p2), .val (.int p3), .val (.long q4), .second, .val (.int (p2 - p3)), .unset, .unset] [(.int (p2 - p3))])) t
          refine XS.ifNo X0.here hx rfl (hb hby d2_33) rfl ((if0 _ _).trans (teq hc9).2) ?_
          show Steps p.tables e below (s₁.setTop (mkF m 36 #[.val (.ref a0), .val (.ref a1), .val (.int p2), .val (.int p3), .val (.long q4), .second, .val (.int (p2 - p3)), .unset, .unset] [])) t
          refine XS.lload X0.here hx rfl (hb hby d2_36) rfl ?_
          show Steps p.tables e below (s₁.setTop (mkF m 38 #[.val (.ref a0), .val (.ref a1), .val (.int p2), .val (.int p3), .val (.long q4), .second, .val (.int (p2 - p3)), .unset, .unset] [(.long q4)])) t
          refine X0.ldc2Long hx hown (mvT hZ (hw _ (List.mem_of_getElem? (i := 11) rfl))) (g := (mkF m 38 #[.val (.ref a0), .val (.ref a1), .val (.int p2), .val (.int p3), .val (.long q4), .second, .val (.int (p2 - p3)), .unset, .unset] [(.long q4)])) rfl (hb hby d2_38) _ ?_
          show Steps p.tables e below (s₁.setTop (mkF m 41 #[.val (.ref a0), .val (.ref a1), .val (.int p2), .val (.int p3), .val (.long q4), .second, .val (.int (p2 - p3)), .unset, .unset] [(.long (16777216 : Int64)), (.long q4)])) t
          refine XS.ldiv X0.here hx rfl (hb hby d2_41) rfl (by decide) ?_
          show Steps p.tables e below (s₁.setTop (mkF m 42 #[.val (.ref a0), .val (.ref a1), .val (.int p2), .val (.int p3), .val (.long q4), .second, .val (.int (p2 - p3)), .unset, .unset] [(.long (q4 / (16777216 : Int64)))])) t
          refine XS.lstore X0.here hx rfl (hb hby d2_42) rfl (l' := #[.val (.ref a0), .val (.ref a1), .val (.int p2), .val (.int p3), .val (.long q4), .second, .val (.int (p2 - p3)), .val (.long (q4 / (16777216 : Int64))), .second]) rfl ?_
          show Steps p.tables e below (s₁.setTop (mkF m 44 #[.val (.ref a0), .val (.ref a1), .val (.int p2), .val (.int p3), .val (.long q4), .second, .val (.int (p2 - p3)), .val (.long (q4 / (16777216 : Int64))), .second] [])) t
          refine XS.goto X0.here hx rfl (pc0 := 44) (pc' := 97) rfl (hb hby d2_44) (by decide) (by decide) ?_
          show Steps p.tables e below (s₁.setTop (mkF m 97 #[.val (.ref a0), .val (.ref a1), .val (.int p2), .val (.int p3), .val (.long q4), .second, .val (.int (p2 - p3)), .val (.long (q4 / (16777216 : Int64))), .second] [])) t
          refine XS.aloadN X0.here hx rfl (hb hby d2_97) rfl rfl ?_
          show Steps p.tables e below (s₁.setTop (mkF m 98 #[.val (.ref a0), .val (.ref a1), .val (.int p2), .val (.int p3), .val (.long q4), .second, .val (.int (p2 - p3)), .val (.long (q4 / (16777216 : Int64))), .second] [(.ref a0)])) t
          refine XS.iloadN X0.here hx rfl (hb hby d2_98) rfl ?_
          exact k
        obtain ⟨cl10, cl10A, cl10I, cl10T⟩ := id F0
        refine Goes.by (B := s₁.setTop (mkF m 108 #[.val (.ref a0), .val (.ref a1), .val (.int p2), .val (.int p3), .val (.long q4), .second, .val (.int (p2 - p3)), .val (.long (q4 / (16777216 : Int64))), .second] [(.int (lcmpW ((x &&& (255 : Int32)).toInt64) (q4 / (16777216 : Int64))))])) (fun t k => ?_) ?_
        · show Steps p.tables e below (s₁.setTop (mkF m 99 #[.val (.ref a0), .val (.ref a1), .val (.int p2), .val (.int p3), .val (.long q4), .second, .val (.int (p2 - p3)), .val (.long (q4 / (16777216 : Int64))), .second] [(.int p2), (.ref a0)])) t
          refine X0.baloadBytes hx (j := p2) (v := (.int x)) (by rw [e0]; exact cl10A.1) (State.isArrayOf_alike hZ.alike cl10A.2.1) cl10A.2.2 cl10I cl10T (g := (mkF m 99 #[.val (.ref a0), .val (.ref a1), .val (.int p2), .val (.int p3), .val (.long q4), .second, .val (.int (p2 - p3)), .val (.long (q4 / (16777216 : Int64))), .second] [(.int p2), (.ref a0)])) rfl rfl (hb hby d2_99) _ ?_
          show Steps p.tables e below (s₁.setTop (mkF m 100 #[.val (.ref a0), .val (.ref a1), .val (.int p2), .val (.int p3), .val (.long q4), .second, .val (.int (p2 - p3)), .val (.long (q4 / (16777216 : Int64))), .second] [(.int x)])) t
          refine XS.sipush X0.here hx rfl (hb hby d2_100) ?_
          show Steps p.tables e below (s₁.setTop (mkF m 103 #[.val (.ref a0), .val (.ref a1), .val (.int p2), .val (.int p3), .val (.long q4), .second, .val (.int (p2 - p3)), .val (.long (q4 / (16777216 : Int64))), .second] [(.int (255 : Int32)), (.int x)])) t
          refine XS.iand X0.here hx rfl (hb hby d2_103) rfl ?_
          show Steps p.tables e below (s₁.setTop (mkF m 104 #[.val (.ref a0), .val (.ref a1), .val (.int p2), .val (.int p3), .val (.long q4), .second, .val (.int (p2 - p3)), .val (.long (q4 / (16777216 : Int64))), .second] [(.int (x &&& (255 : Int32)))])) t
          refine XS.i2l X0.here hx rfl (hb hby d2_104) rfl ?_
          show Steps p.tables e below (s₁.setTop (mkF m 105 #[.val (.ref a0), .val (.ref a1), .val (.int p2), .val (.int p3), .val (.long q4), .second, .val (.int (p2 - p3)), .val (.long (q4 / (16777216 : Int64))), .second] [(.long ((x &&& (255 : Int32)).toInt64))])) t
          refine XS.lload X0.here hx rfl (hb hby d2_105) rfl ?_
          show Steps p.tables e below (s₁.setTop (mkF m 107 #[.val (.ref a0), .val (.ref a1), .val (.int p2), .val (.int p3), .val (.long q4), .second, .val (.int (p2 - p3)), .val (.long (q4 / (16777216 : Int64))), .second] [(.long (q4 / (16777216 : Int64))), (.long ((x &&& (255 : Int32)).toInt64))])) t
          refine XS.lcmp X0.here hx rfl (hb hby d2_107) rfl ?_
          exact k
        by_cases hc11 : ((x &&& (255 : Int32)).toInt64) = (q4 / (16777216 : Int64))
        · refine Goes.by (B := s₁.setTop (mkF m 116 #[.val (.ref a0), .val (.ref a1), .val (.int p2), .val (.int p3), .val (.long q4), .second, .val (.int (p2 - p3)), .val (.long (q4 / (16777216 : Int64))), .second] [(.int (1 : Int32))])) (fun t k => ?_) ?_
          · show Steps p.tables e below (s₁.setTop (mkF m 108 #[.val (.ref a0), .val (.ref a1), .val (.int p2), .val (.int p3), .val (.long q4), .second, .val (.int (p2 - p3)), .val (.long (q4 / (16777216 : Int64))), .second] [(.int (lcmpW ((x &&& (255 : Int32)).toInt64) (q4 / (16777216 : Int64))))])) t
            refine XS.ifNo X0.here hx rfl (hb hby d2_108) rfl ((if0 _ _).trans (teq ((lw_eq ((x &&& (255 : Int32)).toInt64) (q4 / (16777216 : Int64))).mpr hc11)).2) ?_
            show Steps p.tables e below (s₁.setTop (mkF m 111 #[.val (.ref a0), .val (.ref a1), .val (.int p2), .val (.int p3), .val (.long q4), .second, .val (.int (p2 - p3)), .val (.long (q4 / (16777216 : Int64))), .second] [])) t
            refine XS.iconst X0.here hx rfl (hb hby d2_111) ?_
            show Steps p.tables e below (s₁.setTop (mkF m 112 #[.val (.ref a0), .val (.ref a1), .val (.int p2), .val (.int p3), .val (.long q4), .second, .val (.int (p2 - p3)), .val (.long (q4 / (16777216 : Int64))), .second] [(.int (1 : Int32))])) t
            refine XS.goto X0.here hx rfl (pc0 := 112) (pc' := 116) rfl (hb hby d2_112) (by decide) (by decide) ?_
            exact k
          obtain ⟨fs, hr, hrun, hended, hW, hsame⟩ := X0.leave (v := some (.int (1 : Int32))) (fun h => by rw [Bd.returns] at h; cases h)
          refine Goes.mk _ _ ?_ ⟨hrun, hended, _, _, rfl, ?_, ⟨_, rfl⟩, hW, hsame.mono (by decide) (by decide)⟩
          · exact retN X0 hx (t := .boolean) Bd.returns (by simp) (hb hby d2_116) hr
          · show QOk Z a0 a1 p2 p3 q4 x y h0 n0 _ s₁.heap _
            rw [e0]
            exact ⟨(by simp only [fOk, if_neg hc1, if_neg hc5, if_pos hc9, if_pos hc11]), N0, rfl⟩
        · refine Goes.by (B := s₁.setTop (mkF m 116 #[.val (.ref a0), .val (.ref a1), .val (.int p2), .val (.int p3), .val (.long q4), .second, .val (.int (p2 - p3)), .val (.long (q4 / (16777216 : Int64))), .second] [(.int (0 : Int32))])) (fun t k => ?_) ?_
          · show Steps p.tables e below (s₁.setTop (mkF m 108 #[.val (.ref a0), .val (.ref a1), .val (.int p2), .val (.int p3), .val (.long q4), .second, .val (.int (p2 - p3)), .val (.long (q4 / (16777216 : Int64))), .second] [(.int (lcmpW ((x &&& (255 : Int32)).toInt64) (q4 / (16777216 : Int64))))])) t
            refine XS.ifYes X0.here hx rfl (pc0 := 108) (pc' := 115) rfl (hb hby d2_108) rfl ((if0 _ _).trans (feq (fun z => hc11 ((lw_eq ((x &&& (255 : Int32)).toInt64) (q4 / (16777216 : Int64))).mp z))).2) (by decide) (by decide) ?_
            show Steps p.tables e below (s₁.setTop (mkF m 115 #[.val (.ref a0), .val (.ref a1), .val (.int p2), .val (.int p3), .val (.long q4), .second, .val (.int (p2 - p3)), .val (.long (q4 / (16777216 : Int64))), .second] [])) t
            refine XS.iconst X0.here hx rfl (hb hby d2_115) ?_
            exact k
          obtain ⟨fs, hr, hrun, hended, hW, hsame⟩ := X0.leave (v := some (.int (0 : Int32))) (fun h => by rw [Bd.returns] at h; cases h)
          refine Goes.mk _ _ ?_ ⟨hrun, hended, _, _, rfl, ?_, ⟨_, rfl⟩, hW, hsame.mono (by decide) (by decide)⟩
          · exact retN X0 hx (t := .boolean) Bd.returns (by simp) (hb hby d2_116) hr
          · show QOk Z a0 a1 p2 p3 q4 x y h0 n0 _ s₁.heap _
            rw [e0]
            exact ⟨(by simp only [fOk, if_neg hc1, if_neg hc5, if_pos hc9, if_neg hc11]), N0, rfl⟩
      · refine Goes.by (B := s₁.setTop (mkF m 50 #[.val (.ref a0), .val (.ref a1), .val (.int p2), .val (.int p3), .val (.long q4), .second, .val (.int (p2 - p3)), .unset, .unset] [(.int (1 : Int32)), (.int (p2 - p3))])) (fun t k => ?_) ?_
        · show Steps p.tables e below (s₁.setTop (mkF m 33 #[.val (.ref a0), .val (.ref a1), .val (.int p2), .val (.int p3), .val (.long q4), .second, .val (.int (p2 - p3)), .unset, .unset] [(.int (p2 - p3))])) t
          refine XS.ifYes X0.here hx rfl (pc0 := 33) (pc' := 47) rfl (hb hby d2_33) rfl ((if0 _ _).trans (feq hc9).2) (by decide) (by decide) ?_
          show Steps p.tables e below (s₁.setTop (mkF m 47 #[.val (.ref a0), .val (.ref a1), .val (.int p2), .val (.int p3), .val (.long q4), .second, .val (.int (p2 - p3)), .unset, .unset] [])) t
          refine XS.iload X0.here hx rfl (hb hby d2_47) rfl ?_
          show Steps p.tables e below (s₁.setTop (mkF m 49 #[.val (.ref a0), .val (.ref a1), .val (.int p2), .val (.int p3), .val (.long q4), .second, .val (.int (p2 - p3)), .unset, .unset] [(.int (p2 - p3))])) t
          refine XS.iconst X0.here hx rfl (hb hby d2_49) ?_
          exact k
        by_cases hc12 : (p2 - p3) = (1 : Int32)
        · refine Goes.by (B := s₁.setTop (mkF m 99 #[.val (.ref a0), .val (.ref a1), .val (.int p2), .val (.int p3), .val (.long q4), .second, .val (.int (p2 - p3)), .val (.long ((q4 / (65536 : Int64)) - (q4 / (65536 : Int64)) / (256 : Int64) * (256 : Int64))), .second] [(.int p2), (.ref a0)])) (fun t k => ?_) ?_
          · show Steps p.tables e below (s₁.setTop (mkF m 50 #[.val (.ref a0), .val (.ref a1), .val (.int p2), .val (.int p3), .val (.long q4), .second, .val (.int (p2 - p3)), .unset, .unset] [(.int (1 : Int32)), (.int (p2 - p3))])) t
            refine XS.icmpNo X0.here hx rfl (hb hby d2_50) rfl (teq hc12).2 ?_
            show Steps p.tables e below (s₁.setTop (mkF m 53 #[.val (.ref a0), .val (.ref a1), .val (.int p2), .val (.int p3), .val (.long q4), .second, .val (.int (p2 - p3)), .unset, .unset] [])) t
            refine XS.lload X0.here hx rfl (hb hby d2_53) rfl ?_
            show Steps p.tables e below (s₁.setTop (mkF m 55 #[.val (.ref a0), .val (.ref a1), .val (.int p2), .val (.int p3), .val (.long q4), .second, .val (.int (p2 - p3)), .unset, .unset] [(.long q4)])) t
            refine X0.ldc2Long hx hown (mvT hZ (hw _ (List.mem_of_getElem? (i := 12) rfl))) (g := (mkF m 55 #[.val (.ref a0), .val (.ref a1), .val (.int p2), .val (.int p3), .val (.long q4), .second, .val (.int (p2 - p3)), .unset, .unset] [(.long q4)])) rfl (hb hby d2_55) _ ?_
            show Steps p.tables e below (s₁.setTop (mkF m 58 #[.val (.ref a0), .val (.ref a1), .val (.int p2), .val (.int p3), .val (.long q4), .second, .val (.int (p2 - p3)), .unset, .unset] [(.long (65536 : Int64)), (.long q4)])) t
            refine XS.ldiv X0.here hx rfl (hb hby d2_58) rfl (by decide) ?_
            show Steps p.tables e below (s₁.setTop (mkF m 59 #[.val (.ref a0), .val (.ref a1), .val (.int p2), .val (.int p3), .val (.long q4), .second, .val (.int (p2 - p3)), .unset, .unset] [(.long (q4 / (65536 : Int64)))])) t
            refine X0.ldc2Long hx hown (mvT hZ (hw _ (List.mem_of_getElem? (i := 13) rfl))) (g := (mkF m 59 #[.val (.ref a0), .val (.ref a1), .val (.int p2), .val (.int p3), .val (.long q4), .second, .val (.int (p2 - p3)), .unset, .unset] [(.long (q4 / (65536 : Int64)))])) rfl (hb hby d2_59) _ ?_
            show Steps p.tables e below (s₁.setTop (mkF m 62 #[.val (.ref a0), .val (.ref a1), .val (.int p2), .val (.int p3), .val (.long q4), .second, .val (.int (p2 - p3)), .unset, .unset] [(.long (256 : Int64)), (.long (q4 / (65536 : Int64)))])) t
            refine XS.lrem X0.here hx rfl (hb hby d2_62) rfl (by decide) ?_
            show Steps p.tables e below (s₁.setTop (mkF m 63 #[.val (.ref a0), .val (.ref a1), .val (.int p2), .val (.int p3), .val (.long q4), .second, .val (.int (p2 - p3)), .unset, .unset] [(.long ((q4 / (65536 : Int64)) - (q4 / (65536 : Int64)) / (256 : Int64) * (256 : Int64)))])) t
            refine XS.lstore X0.here hx rfl (hb hby d2_63) rfl (l' := #[.val (.ref a0), .val (.ref a1), .val (.int p2), .val (.int p3), .val (.long q4), .second, .val (.int (p2 - p3)), .val (.long ((q4 / (65536 : Int64)) - (q4 / (65536 : Int64)) / (256 : Int64) * (256 : Int64))), .second]) rfl ?_
            show Steps p.tables e below (s₁.setTop (mkF m 65 #[.val (.ref a0), .val (.ref a1), .val (.int p2), .val (.int p3), .val (.long q4), .second, .val (.int (p2 - p3)), .val (.long ((q4 / (65536 : Int64)) - (q4 / (65536 : Int64)) / (256 : Int64) * (256 : Int64))), .second] [])) t
            refine XS.goto X0.here hx rfl (pc0 := 65) (pc' := 97) rfl (hb hby d2_65) (by decide) (by decide) ?_
            show Steps p.tables e below (s₁.setTop (mkF m 97 #[.val (.ref a0), .val (.ref a1), .val (.int p2), .val (.int p3), .val (.long q4), .second, .val (.int (p2 - p3)), .val (.long ((q4 / (65536 : Int64)) - (q4 / (65536 : Int64)) / (256 : Int64) * (256 : Int64))), .second] [])) t
            refine XS.aloadN X0.here hx rfl (hb hby d2_97) rfl rfl ?_
            show Steps p.tables e below (s₁.setTop (mkF m 98 #[.val (.ref a0), .val (.ref a1), .val (.int p2), .val (.int p3), .val (.long q4), .second, .val (.int (p2 - p3)), .val (.long ((q4 / (65536 : Int64)) - (q4 / (65536 : Int64)) / (256 : Int64) * (256 : Int64))), .second] [(.ref a0)])) t
            refine XS.iloadN X0.here hx rfl (hb hby d2_98) rfl ?_
            exact k
          obtain ⟨cl13, cl13A, cl13I, cl13T⟩ := id F0
          refine Goes.by (B := s₁.setTop (mkF m 108 #[.val (.ref a0), .val (.ref a1), .val (.int p2), .val (.int p3), .val (.long q4), .second, .val (.int (p2 - p3)), .val (.long ((q4 / (65536 : Int64)) - (q4 / (65536 : Int64)) / (256 : Int64) * (256 : Int64))), .second] [(.int (lcmpW ((x &&& (255 : Int32)).toInt64) ((q4 / (65536 : Int64)) - (q4 / (65536 : Int64)) / (256 : Int64) * (256 : Int64))))])) (fun t k => ?_) ?_
          · show Steps p.tables e below (s₁.setTop (mkF m 99 #[.val (.ref a0), .val (.ref a1), .val (.int p2), .val (.int p3), .val (.long q4), .second, .val (.int (p2 - p3)), .val (.long ((q4 / (65536 : Int64)) - (q4 / (65536 : Int64)) / (256 : Int64) * (256 : Int64))), .second] [(.int p2), (.ref a0)])) t
            refine X0.baloadBytes hx (j := p2) (v := (.int x)) (by rw [e0]; exact cl13A.1) (State.isArrayOf_alike hZ.alike cl13A.2.1) cl13A.2.2 cl13I cl13T (g := (mkF m 99 #[.val (.ref a0), .val (.ref a1), .val (.int p2), .val (.int p3), .val (.long q4), .second, .val (.int (p2 - p3)), .val (.long ((q4 / (65536 : Int64)) - (q4 / (65536 : Int64)) / (256 : Int64) * (256 : Int64))), .second] [(.int p2), (.ref a0)])) rfl rfl (hb hby d2_99) _ ?_
            show Steps p.tables e below (s₁.setTop (mkF m 100 #[.val (.ref a0), .val (.ref a1), .val (.int p2), .val (.int p3), .val (.long q4), .second, .val (.int (p2 - p3)), .val (.long ((q4 / (65536 : Int64)) - (q4 / (65536 : Int64)) / (256 : Int64) * (256 : Int64))), .second] [(.int x)])) t
            refine XS.sipush X0.here hx rfl (hb hby d2_100) ?_
            show Steps p.tables e below (s₁.setTop (mkF m 103 #[.val (.ref a0), .val (.ref a1), .val (.int p2), .val (.int p3), .val (.long q4), .second, .val (.int (p2 - p3)), .val (.long ((q4 / (65536 : Int64)) - (q4 / (65536 : Int64)) / (256 : Int64) * (256 : Int64))), .second] [(.int (255 : Int32)), (.int x)])) t
            refine XS.iand X0.here hx rfl (hb hby d2_103) rfl ?_
            show Steps p.tables e below (s₁.setTop (mkF m 104 #[.val (.ref a0), .val (.ref a1), .val (.int p2), .val (.int p3), .val (.long q4), .second, .val (.int (p2 - p3)), .val (.long ((q4 / (65536 : Int64)) - (q4 / (65536 : Int64)) / (256 : Int64) * (256 : Int64))), .second] [(.int (x &&& (255 : Int32)))])) t
            refine XS.i2l X0.here hx rfl (hb hby d2_104) rfl ?_
            show Steps p.tables e below (s₁.setTop (mkF m 105 #[.val (.ref a0), .val (.ref a1), .val (.int p2), .val (.int p3), .val (.long q4), .second, .val (.int (p2 - p3)), .val (.long ((q4 / (65536 : Int64)) - (q4 / (65536 : Int64)) / (256 : Int64) * (256 : Int64))), .second] [(.long ((x &&& (255 : Int32)).toInt64))])) t
            refine XS.lload X0.here hx rfl (hb hby d2_105) rfl ?_
            show Steps p.tables e below (s₁.setTop (mkF m 107 #[.val (.ref a0), .val (.ref a1), .val (.int p2), .val (.int p3), .val (.long q4), .second, .val (.int (p2 - p3)), .val (.long ((q4 / (65536 : Int64)) - (q4 / (65536 : Int64)) / (256 : Int64) * (256 : Int64))), .second] [(.long ((q4 / (65536 : Int64)) - (q4 / (65536 : Int64)) / (256 : Int64) * (256 : Int64))), (.long ((x &&& (255 : Int32)).toInt64))])) t
            refine XS.lcmp X0.here hx rfl (hb hby d2_107) rfl ?_
            exact k
          by_cases hc14 : ((x &&& (255 : Int32)).toInt64) = ((q4 / (65536 : Int64)) - (q4 / (65536 : Int64)) / (256 : Int64) * (256 : Int64))
          · refine Goes.by (B := s₁.setTop (mkF m 116 #[.val (.ref a0), .val (.ref a1), .val (.int p2), .val (.int p3), .val (.long q4), .second, .val (.int (p2 - p3)), .val (.long ((q4 / (65536 : Int64)) - (q4 / (65536 : Int64)) / (256 : Int64) * (256 : Int64))), .second] [(.int (1 : Int32))])) (fun t k => ?_) ?_
            · show Steps p.tables e below (s₁.setTop (mkF m 108 #[.val (.ref a0), .val (.ref a1), .val (.int p2), .val (.int p3), .val (.long q4), .second, .val (.int (p2 - p3)), .val (.long ((q4 / (65536 : Int64)) - (q4 / (65536 : Int64)) / (256 : Int64) * (256 : Int64))), .second] [(.int (lcmpW ((x &&& (255 : Int32)).toInt64) ((q4 / (65536 : Int64)) - (q4 / (65536 : Int64)) / (256 : Int64) * (256 : Int64))))])) t
              refine XS.ifNo X0.here hx rfl (hb hby d2_108) rfl ((if0 _ _).trans (teq ((lw_eq ((x &&& (255 : Int32)).toInt64) ((q4 / (65536 : Int64)) - (q4 / (65536 : Int64)) / (256 : Int64) * (256 : Int64))).mpr hc14)).2) ?_
              show Steps p.tables e below (s₁.setTop (mkF m 111 #[.val (.ref a0), .val (.ref a1), .val (.int p2), .val (.int p3), .val (.long q4), .second, .val (.int (p2 - p3)), .val (.long ((q4 / (65536 : Int64)) - (q4 / (65536 : Int64)) / (256 : Int64) * (256 : Int64))), .second] [])) t
              refine XS.iconst X0.here hx rfl (hb hby d2_111) ?_
              show Steps p.tables e below (s₁.setTop (mkF m 112 #[.val (.ref a0), .val (.ref a1), .val (.int p2), .val (.int p3), .val (.long q4), .second, .val (.int (p2 - p3)), .val (.long ((q4 / (65536 : Int64)) - (q4 / (65536 : Int64)) / (256 : Int64) * (256 : Int64))), .second] [(.int (1 : Int32))])) t
              refine XS.goto X0.here hx rfl (pc0 := 112) (pc' := 116) rfl (hb hby d2_112) (by decide) (by decide) ?_
              exact k
            obtain ⟨fs, hr, hrun, hended, hW, hsame⟩ := X0.leave (v := some (.int (1 : Int32))) (fun h => by rw [Bd.returns] at h; cases h)
            refine Goes.mk _ _ ?_ ⟨hrun, hended, _, _, rfl, ?_, ⟨_, rfl⟩, hW, hsame.mono (by decide) (by decide)⟩
            · exact retN X0 hx (t := .boolean) Bd.returns (by simp) (hb hby d2_116) hr
            · show QOk Z a0 a1 p2 p3 q4 x y h0 n0 _ s₁.heap _
              rw [e0]
              exact ⟨(by simp only [fOk, if_neg hc1, if_neg hc5, if_neg hc9, if_pos hc12, if_pos hc14]), N0, rfl⟩
          · refine Goes.by (B := s₁.setTop (mkF m 116 #[.val (.ref a0), .val (.ref a1), .val (.int p2), .val (.int p3), .val (.long q4), .second, .val (.int (p2 - p3)), .val (.long ((q4 / (65536 : Int64)) - (q4 / (65536 : Int64)) / (256 : Int64) * (256 : Int64))), .second] [(.int (0 : Int32))])) (fun t k => ?_) ?_
            · show Steps p.tables e below (s₁.setTop (mkF m 108 #[.val (.ref a0), .val (.ref a1), .val (.int p2), .val (.int p3), .val (.long q4), .second, .val (.int (p2 - p3)), .val (.long ((q4 / (65536 : Int64)) - (q4 / (65536 : Int64)) / (256 : Int64) * (256 : Int64))), .second] [(.int (lcmpW ((x &&& (255 : Int32)).toInt64) ((q4 / (65536 : Int64)) - (q4 / (65536 : Int64)) / (256 : Int64) * (256 : Int64))))])) t
              refine XS.ifYes X0.here hx rfl (pc0 := 108) (pc' := 115) rfl (hb hby d2_108) rfl ((if0 _ _).trans (feq (fun z => hc14 ((lw_eq ((x &&& (255 : Int32)).toInt64) ((q4 / (65536 : Int64)) - (q4 / (65536 : Int64)) / (256 : Int64) * (256 : Int64))).mp z))).2) (by decide) (by decide) ?_
              show Steps p.tables e below (s₁.setTop (mkF m 115 #[.val (.ref a0), .val (.ref a1), .val (.int p2), .val (.int p3), .val (.long q4), .second, .val (.int (p2 - p3)), .val (.long ((q4 / (65536 : Int64)) - (q4 / (65536 : Int64)) / (256 : Int64) * (256 : Int64))), .second] [])) t
              refine XS.iconst X0.here hx rfl (hb hby d2_115) ?_
              exact k
            obtain ⟨fs, hr, hrun, hended, hW, hsame⟩ := X0.leave (v := some (.int (0 : Int32))) (fun h => by rw [Bd.returns] at h; cases h)
            refine Goes.mk _ _ ?_ ⟨hrun, hended, _, _, rfl, ?_, ⟨_, rfl⟩, hW, hsame.mono (by decide) (by decide)⟩
            · exact retN X0 hx (t := .boolean) Bd.returns (by simp) (hb hby d2_116) hr
            · show QOk Z a0 a1 p2 p3 q4 x y h0 n0 _ s₁.heap _
              rw [e0]
              exact ⟨(by simp only [fOk, if_neg hc1, if_neg hc5, if_neg hc9, if_pos hc12, if_neg hc14]), N0, rfl⟩
        · refine Goes.by (B := s₁.setTop (mkF m 71 #[.val (.ref a0), .val (.ref a1), .val (.int p2), .val (.int p3), .val (.long q4), .second, .val (.int (p2 - p3)), .unset, .unset] [(.int (2 : Int32)), (.int (p2 - p3))])) (fun t k => ?_) ?_
          · show Steps p.tables e below (s₁.setTop (mkF m 50 #[.val (.ref a0), .val (.ref a1), .val (.int p2), .val (.int p3), .val (.long q4), .second, .val (.int (p2 - p3)), .unset, .unset] [(.int (1 : Int32)), (.int (p2 - p3))])) t
            refine XS.icmpYes X0.here hx rfl (pc0 := 50) (pc' := 68) rfl (hb hby d2_50) rfl (feq hc12).2 (by decide) (by decide) ?_
            show Steps p.tables e below (s₁.setTop (mkF m 68 #[.val (.ref a0), .val (.ref a1), .val (.int p2), .val (.int p3), .val (.long q4), .second, .val (.int (p2 - p3)), .unset, .unset] [])) t
            refine XS.iload X0.here hx rfl (hb hby d2_68) rfl ?_
            show Steps p.tables e below (s₁.setTop (mkF m 70 #[.val (.ref a0), .val (.ref a1), .val (.int p2), .val (.int p3), .val (.long q4), .second, .val (.int (p2 - p3)), .unset, .unset] [(.int (p2 - p3))])) t
            refine XS.iconst X0.here hx rfl (hb hby d2_70) ?_
            exact k
          by_cases hc15 : (p2 - p3) = (2 : Int32)
          · refine Goes.by (B := s₁.setTop (mkF m 99 #[.val (.ref a0), .val (.ref a1), .val (.int p2), .val (.int p3), .val (.long q4), .second, .val (.int (p2 - p3)), .val (.long ((q4 / (256 : Int64)) - (q4 / (256 : Int64)) / (256 : Int64) * (256 : Int64))), .second] [(.int p2), (.ref a0)])) (fun t k => ?_) ?_
            · show Steps p.tables e below (s₁.setTop (mkF m 71 #[.val (.ref a0), .val (.ref a1), .val (.int p2), .val (.int p3), .val (.long q4), .second, .val (.int (p2 - p3)), .unset, .unset] [(.int (2 : Int32)), (.int (p2 - p3))])) t
              refine XS.icmpNo X0.here hx rfl (hb hby d2_71) rfl (teq hc15).2 ?_
              show Steps p.tables e below (s₁.setTop (mkF m 74 #[.val (.ref a0), .val (.ref a1), .val (.int p2), .val (.int p3), .val (.long q4), .second, .val (.int (p2 - p3)), .unset, .unset] [])) t
              refine XS.lload X0.here hx rfl (hb hby d2_74) rfl ?_
              show Steps p.tables e below (s₁.setTop (mkF m 76 #[.val (.ref a0), .val (.ref a1), .val (.int p2), .val (.int p3), .val (.long q4), .second, .val (.int (p2 - p3)), .unset, .unset] [(.long q4)])) t
              refine X0.ldc2Long hx hown (mvT hZ (hw _ (List.mem_of_getElem? (i := 13) rfl))) (g := (mkF m 76 #[.val (.ref a0), .val (.ref a1), .val (.int p2), .val (.int p3), .val (.long q4), .second, .val (.int (p2 - p3)), .unset, .unset] [(.long q4)])) rfl (hb hby d2_76) _ ?_
              show Steps p.tables e below (s₁.setTop (mkF m 79 #[.val (.ref a0), .val (.ref a1), .val (.int p2), .val (.int p3), .val (.long q4), .second, .val (.int (p2 - p3)), .unset, .unset] [(.long (256 : Int64)), (.long q4)])) t
              refine XS.ldiv X0.here hx rfl (hb hby d2_79) rfl (by decide) ?_
              show Steps p.tables e below (s₁.setTop (mkF m 80 #[.val (.ref a0), .val (.ref a1), .val (.int p2), .val (.int p3), .val (.long q4), .second, .val (.int (p2 - p3)), .unset, .unset] [(.long (q4 / (256 : Int64)))])) t
              refine X0.ldc2Long hx hown (mvT hZ (hw _ (List.mem_of_getElem? (i := 13) rfl))) (g := (mkF m 80 #[.val (.ref a0), .val (.ref a1), .val (.int p2), .val (.int p3), .val (.long q4), .second, .val (.int (p2 - p3)), .unset, .unset] [(.long (q4 / (256 : Int64)))])) rfl (hb hby d2_80) _ ?_
              show Steps p.tables e below (s₁.setTop (mkF m 83 #[.val (.ref a0), .val (.ref a1), .val (.int p2), .val (.int p3), .val (.long q4), .second, .val (.int (p2 - p3)), .unset, .unset] [(.long (256 : Int64)), (.long (q4 / (256 : Int64)))])) t
              refine XS.lrem X0.here hx rfl (hb hby d2_83) rfl (by decide) ?_
              show Steps p.tables e below (s₁.setTop (mkF m 84 #[.val (.ref a0), .val (.ref a1), .val (.int p2), .val (.int p3), .val (.long q4), .second, .val (.int (p2 - p3)), .unset, .unset] [(.long ((q4 / (256 : Int64)) - (q4 / (256 : Int64)) / (256 : Int64) * (256 : Int64)))])) t
              refine XS.lstore X0.here hx rfl (hb hby d2_84) rfl (l' := #[.val (.ref a0), .val (.ref a1), .val (.int p2), .val (.int p3), .val (.long q4), .second, .val (.int (p2 - p3)), .val (.long ((q4 / (256 : Int64)) - (q4 / (256 : Int64)) / (256 : Int64) * (256 : Int64))), .second]) rfl ?_
              show Steps p.tables e below (s₁.setTop (mkF m 86 #[.val (.ref a0), .val (.ref a1), .val (.int p2), .val (.int p3), .val (.long q4), .second, .val (.int (p2 - p3)), .val (.long ((q4 / (256 : Int64)) - (q4 / (256 : Int64)) / (256 : Int64) * (256 : Int64))), .second] [])) t
              refine XS.goto X0.here hx rfl (pc0 := 86) (pc' := 97) rfl (hb hby d2_86) (by decide) (by decide) ?_
              show Steps p.tables e below (s₁.setTop (mkF m 97 #[.val (.ref a0), .val (.ref a1), .val (.int p2), .val (.int p3), .val (.long q4), .second, .val (.int (p2 - p3)), .val (.long ((q4 / (256 : Int64)) - (q4 / (256 : Int64)) / (256 : Int64) * (256 : Int64))), .second] [])) t
              refine XS.aloadN X0.here hx rfl (hb hby d2_97) rfl rfl ?_
              show Steps p.tables e below (s₁.setTop (mkF m 98 #[.val (.ref a0), .val (.ref a1), .val (.int p2), .val (.int p3), .val (.long q4), .second, .val (.int (p2 - p3)), .val (.long ((q4 / (256 : Int64)) - (q4 / (256 : Int64)) / (256 : Int64) * (256 : Int64))), .second] [(.ref a0)])) t
              refine XS.iloadN X0.here hx rfl (hb hby d2_98) rfl ?_
              exact k
            obtain ⟨cl16, cl16A, cl16I, cl16T⟩ := id F0
            refine Goes.by (B := s₁.setTop (mkF m 108 #[.val (.ref a0), .val (.ref a1), .val (.int p2), .val (.int p3), .val (.long q4), .second, .val (.int (p2 - p3)), .val (.long ((q4 / (256 : Int64)) - (q4 / (256 : Int64)) / (256 : Int64) * (256 : Int64))), .second] [(.int (lcmpW ((x &&& (255 : Int32)).toInt64) ((q4 / (256 : Int64)) - (q4 / (256 : Int64)) / (256 : Int64) * (256 : Int64))))])) (fun t k => ?_) ?_
            · show Steps p.tables e below (s₁.setTop (mkF m 99 #[.val (.ref a0), .val (.ref a1), .val (.int p2), .val (.int p3), .val (.long q4), .second, .val (.int (p2 - p3)), .val (.long ((q4 / (256 : Int64)) - (q4 / (256 : Int64)) / (256 : Int64) * (256 : Int64))), .second] [(.int p2), (.ref a0)])) t
              refine X0.baloadBytes hx (j := p2) (v := (.int x)) (by rw [e0]; exact cl16A.1) (State.isArrayOf_alike hZ.alike cl16A.2.1) cl16A.2.2 cl16I cl16T (g := (mkF m 99 #[.val (.ref a0), .val (.ref a1), .val (.int p2), .val (.int p3), .val (.long q4), .second, .val (.int (p2 - p3)), .val (.long ((q4 / (256 : Int64)) - (q4 / (256 : Int64)) / (256 : Int64) * (256 : Int64))), .second] [(.int p2), (.ref a0)])) rfl rfl (hb hby d2_99) _ ?_
              show Steps p.tables e below (s₁.setTop (mkF m 100 #[.val (.ref a0), .val (.ref a1), .val (.int p2), .val (.int p3), .val (.long q4), .second, .val (.int (p2 - p3)), .val (.long ((q4 / (256 : Int64)) - (q4 / (256 : Int64)) / (256 : Int64) * (256 : Int64))), .second] [(.int x)])) t
              refine XS.sipush X0.here hx rfl (hb hby d2_100) ?_
              show Steps p.tables e below (s₁.setTop (mkF m 103 #[.val (.ref a0), .val (.ref a1), .val (.int p2), .val (.int p3), .val (.long q4), .second, .val (.int (p2 - p3)), .val (.long ((q4 / (256 : Int64)) - (q4 / (256 : Int64)) / (256 : Int64) * (256 : Int64))), .second] [(.int (255 : Int32)), (.int x)])) t
              refine XS.iand X0.here hx rfl (hb hby d2_103) rfl ?_
              show Steps p.tables e below (s₁.setTop (mkF m 104 #[.val (.ref a0), .val (.ref a1), .val (.int p2), .val (.int p3), .val (.long q4), .second, .val (.int (p2 - p3)), .val (.long ((q4 / (256 : Int64)) - (q4 / (256 : Int64)) / (256 : Int64) * (256 : Int64))), .second] [(.int (x &&& (255 : Int32)))])) t
              refine XS.i2l X0.here hx rfl (hb hby d2_104) rfl ?_
              show Steps p.tables e below (s₁.setTop (mkF m 105 #[.val (.ref a0), .val (.ref a1), .val (.int p2), .val (.int p3), .val (.long q4), .second, .val (.int (p2 - p3)), .val (.long ((q4 / (256 : Int64)) - (q4 / (256 : Int64)) / (256 : Int64) * (256 : Int64))), .second] [(.long ((x &&& (255 : Int32)).toInt64))])) t
              refine XS.lload X0.here hx rfl (hb hby d2_105) rfl ?_
              show Steps p.tables e below (s₁.setTop (mkF m 107 #[.val (.ref a0), .val (.ref a1), .val (.int p2), .val (.int p3), .val (.long q4), .second, .val (.int (p2 - p3)), .val (.long ((q4 / (256 : Int64)) - (q4 / (256 : Int64)) / (256 : Int64) * (256 : Int64))), .second] [(.long ((q4 / (256 : Int64)) - (q4 / (256 : Int64)) / (256 : Int64) * (256 : Int64))), (.long ((x &&& (255 : Int32)).toInt64))])) t
              refine XS.lcmp X0.here hx rfl (hb hby d2_107) rfl ?_
              exact k
            by_cases hc17 : ((x &&& (255 : Int32)).toInt64) = ((q4 / (256 : Int64)) - (q4 / (256 : Int64)) / (256 : Int64) * (256 : Int64))
            · refine Goes.by (B := s₁.setTop (mkF m 116 #[.val (.ref a0), .val (.ref a1), .val (.int p2), .val (.int p3), .val (.long q4), .second, .val (.int (p2 - p3)), .val (.long ((q4 / (256 : Int64)) - (q4 / (256 : Int64)) / (256 : Int64) * (256 : Int64))), .second] [(.int (1 : Int32))])) (fun t k => ?_) ?_
              · show Steps p.tables e below (s₁.setTop (mkF m 108 #[.val (.ref a0), .val (.ref a1), .val (.int p2), .val (.int p3), .val (.long q4), .second, .val (.int (p2 - p3)), .val (.long ((q4 / (256 : Int64)) - (q4 / (256 : Int64)) / (256 : Int64) * (256 : Int64))), .second] [(.int (lcmpW ((x &&& (255 : Int32)).toInt64) ((q4 / (256 : Int64)) - (q4 / (256 : Int64)) / (256 : Int64) * (256 : Int64))))])) t
                refine XS.ifNo X0.here hx rfl (hb hby d2_108) rfl ((if0 _ _).trans (teq ((lw_eq ((x &&& (255 : Int32)).toInt64) ((q4 / (256 : Int64)) - (q4 / (256 : Int64)) / (256 : Int64) * (256 : Int64))).mpr hc17)).2) ?_
                show Steps p.tables e below (s₁.setTop (mkF m 111 #[.val (.ref a0), .val (.ref a1), .val (.int p2), .val (.int p3), .val (.long q4), .second, .val (.int (p2 - p3)), .val (.long ((q4 / (256 : Int64)) - (q4 / (256 : Int64)) / (256 : Int64) * (256 : Int64))), .second] [])) t
                refine XS.iconst X0.here hx rfl (hb hby d2_111) ?_
                show Steps p.tables e below (s₁.setTop (mkF m 112 #[.val (.ref a0), .val (.ref a1), .val (.int p2), .val (.int p3), .val (.long q4), .second, .val (.int (p2 - p3)), .val (.long ((q4 / (256 : Int64)) - (q4 / (256 : Int64)) / (256 : Int64) * (256 : Int64))), .second] [(.int (1 : Int32))])) t
                refine XS.goto X0.here hx rfl (pc0 := 112) (pc' := 116) rfl (hb hby d2_112) (by decide) (by decide) ?_
                exact k
              obtain ⟨fs, hr, hrun, hended, hW, hsame⟩ := X0.leave (v := some (.int (1 : Int32))) (fun h => by rw [Bd.returns] at h; cases h)
              refine Goes.mk _ _ ?_ ⟨hrun, hended, _, _, rfl, ?_, ⟨_, rfl⟩, hW, hsame.mono (by decide) (by decide)⟩
              · exact retN X0 hx (t := .boolean) Bd.returns (by simp) (hb hby d2_116) hr
              · show QOk Z a0 a1 p2 p3 q4 x y h0 n0 _ s₁.heap _
                rw [e0]
                exact ⟨(by simp only [fOk, if_neg hc1, if_neg hc5, if_neg hc9, if_neg hc12, if_pos hc15, if_pos hc17]), N0, rfl⟩
            · refine Goes.by (B := s₁.setTop (mkF m 116 #[.val (.ref a0), .val (.ref a1), .val (.int p2), .val (.int p3), .val (.long q4), .second, .val (.int (p2 - p3)), .val (.long ((q4 / (256 : Int64)) - (q4 / (256 : Int64)) / (256 : Int64) * (256 : Int64))), .second] [(.int (0 : Int32))])) (fun t k => ?_) ?_
              · show Steps p.tables e below (s₁.setTop (mkF m 108 #[.val (.ref a0), .val (.ref a1), .val (.int p2), .val (.int p3), .val (.long q4), .second, .val (.int (p2 - p3)), .val (.long ((q4 / (256 : Int64)) - (q4 / (256 : Int64)) / (256 : Int64) * (256 : Int64))), .second] [(.int (lcmpW ((x &&& (255 : Int32)).toInt64) ((q4 / (256 : Int64)) - (q4 / (256 : Int64)) / (256 : Int64) * (256 : Int64))))])) t
                refine XS.ifYes X0.here hx rfl (pc0 := 108) (pc' := 115) rfl (hb hby d2_108) rfl ((if0 _ _).trans (feq (fun z => hc17 ((lw_eq ((x &&& (255 : Int32)).toInt64) ((q4 / (256 : Int64)) - (q4 / (256 : Int64)) / (256 : Int64) * (256 : Int64))).mp z))).2) (by decide) (by decide) ?_
                show Steps p.tables e below (s₁.setTop (mkF m 115 #[.val (.ref a0), .val (.ref a1), .val (.int p2), .val (.int p3), .val (.long q4), .second, .val (.int (p2 - p3)), .val (.long ((q4 / (256 : Int64)) - (q4 / (256 : Int64)) / (256 : Int64) * (256 : Int64))), .second] [])) t
                refine XS.iconst X0.here hx rfl (hb hby d2_115) ?_
                exact k
              obtain ⟨fs, hr, hrun, hended, hW, hsame⟩ := X0.leave (v := some (.int (0 : Int32))) (fun h => by rw [Bd.returns] at h; cases h)
              refine Goes.mk _ _ ?_ ⟨hrun, hended, _, _, rfl, ?_, ⟨_, rfl⟩, hW, hsame.mono (by decide) (by decide)⟩
              · exact retN X0 hx (t := .boolean) Bd.returns (by simp) (hb hby d2_116) hr
              · show QOk Z a0 a1 p2 p3 q4 x y h0 n0 _ s₁.heap _
                rw [e0]
                exact ⟨(by simp only [fOk, if_neg hc1, if_neg hc5, if_neg hc9, if_neg hc12, if_pos hc15, if_neg hc17]), N0, rfl⟩
          · refine Goes.by (B := s₁.setTop (mkF m 99 #[.val (.ref a0), .val (.ref a1), .val (.int p2), .val (.int p3), .val (.long q4), .second, .val (.int (p2 - p3)), .val (.long (q4 - q4 / (256 : Int64) * (256 : Int64))), .second] [(.int p2), (.ref a0)])) (fun t k => ?_) ?_
            · show Steps p.tables e below (s₁.setTop (mkF m 71 #[.val (.ref a0), .val (.ref a1), .val (.int p2), .val (.int p3), .val (.long q4), .second, .val (.int (p2 - p3)), .unset, .unset] [(.int (2 : Int32)), (.int (p2 - p3))])) t
              refine XS.icmpYes X0.here hx rfl (pc0 := 71) (pc' := 89) rfl (hb hby d2_71) rfl (feq hc15).2 (by decide) (by decide) ?_
              show Steps p.tables e below (s₁.setTop (mkF m 89 #[.val (.ref a0), .val (.ref a1), .val (.int p2), .val (.int p3), .val (.long q4), .second, .val (.int (p2 - p3)), .unset, .unset] [])) t
              refine XS.lload X0.here hx rfl (hb hby d2_89) rfl ?_
              show Steps p.tables e below (s₁.setTop (mkF m 91 #[.val (.ref a0), .val (.ref a1), .val (.int p2), .val (.int p3), .val (.long q4), .second, .val (.int (p2 - p3)), .unset, .unset] [(.long q4)])) t
              refine X0.ldc2Long hx hown (mvT hZ (hw _ (List.mem_of_getElem? (i := 13) rfl))) (g := (mkF m 91 #[.val (.ref a0), .val (.ref a1), .val (.int p2), .val (.int p3), .val (.long q4), .second, .val (.int (p2 - p3)), .unset, .unset] [(.long q4)])) rfl (hb hby d2_91) _ ?_
              show Steps p.tables e below (s₁.setTop (mkF m 94 #[.val (.ref a0), .val (.ref a1), .val (.int p2), .val (.int p3), .val (.long q4), .second, .val (.int (p2 - p3)), .unset, .unset] [(.long (256 : Int64)), (.long q4)])) t
              refine XS.lrem X0.here hx rfl (hb hby d2_94) rfl (by decide) ?_
              show Steps p.tables e below (s₁.setTop (mkF m 95 #[.val (.ref a0), .val (.ref a1), .val (.int p2), .val (.int p3), .val (.long q4), .second, .val (.int (p2 - p3)), .unset, .unset] [(.long (q4 - q4 / (256 : Int64) * (256 : Int64)))])) t
              refine XS.lstore X0.here hx rfl (hb hby d2_95) rfl (l' := #[.val (.ref a0), .val (.ref a1), .val (.int p2), .val (.int p3), .val (.long q4), .second, .val (.int (p2 - p3)), .val (.long (q4 - q4 / (256 : Int64) * (256 : Int64))), .second]) rfl ?_
              show Steps p.tables e below (s₁.setTop (mkF m 97 #[.val (.ref a0), .val (.ref a1), .val (.int p2), .val (.int p3), .val (.long q4), .second, .val (.int (p2 - p3)), .val (.long (q4 - q4 / (256 : Int64) * (256 : Int64))), .second] [])) t
              refine XS.aloadN X0.here hx rfl (hb hby d2_97) rfl rfl ?_
              show Steps p.tables e below (s₁.setTop (mkF m 98 #[.val (.ref a0), .val (.ref a1), .val (.int p2), .val (.int p3), .val (.long q4), .second, .val (.int (p2 - p3)), .val (.long (q4 - q4 / (256 : Int64) * (256 : Int64))), .second] [(.ref a0)])) t
              refine XS.iloadN X0.here hx rfl (hb hby d2_98) rfl ?_
              exact k
            obtain ⟨cl18, cl18A, cl18I, cl18T⟩ := id F0
            refine Goes.by (B := s₁.setTop (mkF m 108 #[.val (.ref a0), .val (.ref a1), .val (.int p2), .val (.int p3), .val (.long q4), .second, .val (.int (p2 - p3)), .val (.long (q4 - q4 / (256 : Int64) * (256 : Int64))), .second] [(.int (lcmpW ((x &&& (255 : Int32)).toInt64) (q4 - q4 / (256 : Int64) * (256 : Int64))))])) (fun t k => ?_) ?_
            · show Steps p.tables e below (s₁.setTop (mkF m 99 #[.val (.ref a0), .val (.ref a1), .val (.int p2), .val (.int p3), .val (.long q4), .second, .val (.int (p2 - p3)), .val (.long (q4 - q4 / (256 : Int64) * (256 : Int64))), .second] [(.int p2), (.ref a0)])) t
              refine X0.baloadBytes hx (j := p2) (v := (.int x)) (by rw [e0]; exact cl18A.1) (State.isArrayOf_alike hZ.alike cl18A.2.1) cl18A.2.2 cl18I cl18T (g := (mkF m 99 #[.val (.ref a0), .val (.ref a1), .val (.int p2), .val (.int p3), .val (.long q4), .second, .val (.int (p2 - p3)), .val (.long (q4 - q4 / (256 : Int64) * (256 : Int64))), .second] [(.int p2), (.ref a0)])) rfl rfl (hb hby d2_99) _ ?_
              show Steps p.tables e below (s₁.setTop (mkF m 100 #[.val (.ref a0), .val (.ref a1), .val (.int p2), .val (.int p3), .val (.long q4), .second, .val (.int (p2 - p3)), .val (.long (q4 - q4 / (256 : Int64) * (256 : Int64))), .second] [(.int x)])) t
              refine XS.sipush X0.here hx rfl (hb hby d2_100) ?_
              show Steps p.tables e below (s₁.setTop (mkF m 103 #[.val (.ref a0), .val (.ref a1), .val (.int p2), .val (.int p3), .val (.long q4), .second, .val (.int (p2 - p3)), .val (.long (q4 - q4 / (256 : Int64) * (256 : Int64))), .second] [(.int (255 : Int32)), (.int x)])) t
              refine XS.iand X0.here hx rfl (hb hby d2_103) rfl ?_
              show Steps p.tables e below (s₁.setTop (mkF m 104 #[.val (.ref a0), .val (.ref a1), .val (.int p2), .val (.int p3), .val (.long q4), .second, .val (.int (p2 - p3)), .val (.long (q4 - q4 / (256 : Int64) * (256 : Int64))), .second] [(.int (x &&& (255 : Int32)))])) t
              refine XS.i2l X0.here hx rfl (hb hby d2_104) rfl ?_
              show Steps p.tables e below (s₁.setTop (mkF m 105 #[.val (.ref a0), .val (.ref a1), .val (.int p2), .val (.int p3), .val (.long q4), .second, .val (.int (p2 - p3)), .val (.long (q4 - q4 / (256 : Int64) * (256 : Int64))), .second] [(.long ((x &&& (255 : Int32)).toInt64))])) t
              refine XS.lload X0.here hx rfl (hb hby d2_105) rfl ?_
              show Steps p.tables e below (s₁.setTop (mkF m 107 #[.val (.ref a0), .val (.ref a1), .val (.int p2), .val (.int p3), .val (.long q4), .second, .val (.int (p2 - p3)), .val (.long (q4 - q4 / (256 : Int64) * (256 : Int64))), .second] [(.long (q4 - q4 / (256 : Int64) * (256 : Int64))), (.long ((x &&& (255 : Int32)).toInt64))])) t
              refine XS.lcmp X0.here hx rfl (hb hby d2_107) rfl ?_
              exact k
            by_cases hc19 : ((x &&& (255 : Int32)).toInt64) = (q4 - q4 / (256 : Int64) * (256 : Int64))
            · refine Goes.by (B := s₁.setTop (mkF m 116 #[.val (.ref a0), .val (.ref a1), .val (.int p2), .val (.int p3), .val (.long q4), .second, .val (.int (p2 - p3)), .val (.long (q4 - q4 / (256 : Int64) * (256 : Int64))), .second] [(.int (1 : Int32))])) (fun t k => ?_) ?_
              · show Steps p.tables e below (s₁.setTop (mkF m 108 #[.val (.ref a0), .val (.ref a1), .val (.int p2), .val (.int p3), .val (.long q4), .second, .val (.int (p2 - p3)), .val (.long (q4 - q4 / (256 : Int64) * (256 : Int64))), .second] [(.int (lcmpW ((x &&& (255 : Int32)).toInt64) (q4 - q4 / (256 : Int64) * (256 : Int64))))])) t
                refine XS.ifNo X0.here hx rfl (hb hby d2_108) rfl ((if0 _ _).trans (teq ((lw_eq ((x &&& (255 : Int32)).toInt64) (q4 - q4 / (256 : Int64) * (256 : Int64))).mpr hc19)).2) ?_
                show Steps p.tables e below (s₁.setTop (mkF m 111 #[.val (.ref a0), .val (.ref a1), .val (.int p2), .val (.int p3), .val (.long q4), .second, .val (.int (p2 - p3)), .val (.long (q4 - q4 / (256 : Int64) * (256 : Int64))), .second] [])) t
                refine XS.iconst X0.here hx rfl (hb hby d2_111) ?_
                show Steps p.tables e below (s₁.setTop (mkF m 112 #[.val (.ref a0), .val (.ref a1), .val (.int p2), .val (.int p3), .val (.long q4), .second, .val (.int (p2 - p3)), .val (.long (q4 - q4 / (256 : Int64) * (256 : Int64))), .second] [(.int (1 : Int32))])) t
                refine XS.goto X0.here hx rfl (pc0 := 112) (pc' := 116) rfl (hb hby d2_112) (by decide) (by decide) ?_
                exact k
              obtain ⟨fs, hr, hrun, hended, hW, hsame⟩ := X0.leave (v := some (.int (1 : Int32))) (fun h => by rw [Bd.returns] at h; cases h)
              refine Goes.mk _ _ ?_ ⟨hrun, hended, _, _, rfl, ?_, ⟨_, rfl⟩, hW, hsame.mono (by decide) (by decide)⟩
              · exact retN X0 hx (t := .boolean) Bd.returns (by simp) (hb hby d2_116) hr
              · show QOk Z a0 a1 p2 p3 q4 x y h0 n0 _ s₁.heap _
                rw [e0]
                exact ⟨(by simp only [fOk, if_neg hc1, if_neg hc5, if_neg hc9, if_neg hc12, if_neg hc15, if_pos hc19]), N0, rfl⟩
            · refine Goes.by (B := s₁.setTop (mkF m 116 #[.val (.ref a0), .val (.ref a1), .val (.int p2), .val (.int p3), .val (.long q4), .second, .val (.int (p2 - p3)), .val (.long (q4 - q4 / (256 : Int64) * (256 : Int64))), .second] [(.int (0 : Int32))])) (fun t k => ?_) ?_
              · show Steps p.tables e below (s₁.setTop (mkF m 108 #[.val (.ref a0), .val (.ref a1), .val (.int p2), .val (.int p3), .val (.long q4), .second, .val (.int (p2 - p3)), .val (.long (q4 - q4 / (256 : Int64) * (256 : Int64))), .second] [(.int (lcmpW ((x &&& (255 : Int32)).toInt64) (q4 - q4 / (256 : Int64) * (256 : Int64))))])) t
                refine XS.ifYes X0.here hx rfl (pc0 := 108) (pc' := 115) rfl (hb hby d2_108) rfl ((if0 _ _).trans (feq (fun z => hc19 ((lw_eq ((x &&& (255 : Int32)).toInt64) (q4 - q4 / (256 : Int64) * (256 : Int64))).mp z))).2) (by decide) (by decide) ?_
                show Steps p.tables e below (s₁.setTop (mkF m 115 #[.val (.ref a0), .val (.ref a1), .val (.int p2), .val (.int p3), .val (.long q4), .second, .val (.int (p2 - p3)), .val (.long (q4 - q4 / (256 : Int64) * (256 : Int64))), .second] [])) t
                refine XS.iconst X0.here hx rfl (hb hby d2_115) ?_
                exact k
              obtain ⟨fs, hr, hrun, hended, hW, hsame⟩ := X0.leave (v := some (.int (0 : Int32))) (fun h => by rw [Bd.returns] at h; cases h)
              refine Goes.mk _ _ ?_ ⟨hrun, hended, _, _, rfl, ?_, ⟨_, rfl⟩, hW, hsame.mono (by decide) (by decide)⟩
              · exact retN X0 hx (t := .boolean) Bd.returns (by simp) (hb hby d2_116) hr
              · show QOk Z a0 a1 p2 p3 q4 x y h0 n0 _ s₁.heap _
                rw [e0]
                exact ⟨(by simp only [fOk, if_neg hc1, if_neg hc5, if_neg hc9, if_neg hc12, if_neg hc15, if_neg hc19]), N0, rfl⟩
theorem own_bb (x : Int32) : x.toInt8.toInt32.toInt8.toInt32 = x.toInt8.toInt32 := by
  have h1 := c_i2b x
  have h2 := c_i2b x.toInt8.toInt32
  exact Int32.toInt_inj.mp (by omega)
theorem own_o (p o : Int32) (h : ((p &&& (2147483647 : Int32)) % (5 : Int32)) = o) : o = 0 ∨ o = 1 ∨ o = 2 ∨ o = 3 ∨ o = 4 := by
  have m := c_mask p (2147483647 : Int32) 31 (by decide) (by decide)
  have r := c_irem (p &&& (2147483647 : Int32)) (5 : Int32) 5 (by decide)
  have e : ((2 ^ 31 : Nat) : Int) = 2147483648 := rfl
  rw [e] at m
  have r1 := r.1 (by omega)
  rw [h] at r1
  have c : o.toInt = 0 ∨ o.toInt = 1 ∨ o.toInt = 2 ∨ o.toInt = 3 ∨ o.toInt = 4 := by omega
  rcases c with c | c | c | c | c
  · exact Or.inl (Int32.toInt_inj.mp c)
  · exact Or.inr (Or.inl (Int32.toInt_inj.mp c))
  · exact Or.inr (Or.inr (Or.inl (Int32.toInt_inj.mp c)))
  · exact Or.inr (Or.inr (Or.inr (Or.inl (Int32.toInt_inj.mp c))))
  · exact Or.inr (Or.inr (Or.inr (Or.inr (Int32.toInt_inj.mp c))))
theorem own_ok_out (z i off : Int32) (u : Int64) (h : (i - off) < (0 : Int32) ∨ ¬ ((i - off) < (0 : Int32)) ∧ (3 : Int32) < (i - off)) : ¬ (fOk i off u (z.toInt8.toInt32.toInt8.toInt32) (z.toInt8.toInt32) = (0 : Int32)) := by
  rw [own_bb]
  rcases h with h | ⟨h1, h2⟩
  · simp only [fOk, if_pos h, if_true]; decide
  · simp only [fOk, if_neg h1, if_pos h2, if_true]; decide
theorem own_u (p : Int32) : (p.toInt64 &&& (4294967295 : Int64)).toInt = p.toInt % 4294967296 := by
  have m := c_maskL p.toInt64 (4294967295 : Int64) 32 (by decide) (by decide)
  have e : ((2 ^ 32 : Nat) : Int) = 4294967296 := rfl
  rw [e, c_i2l] at m
  exact m
theorem own_x (x : Int32) : ((x.toInt8.toInt32.toInt8.toInt32 &&& (255 : Int32)).toInt64).toInt = x.toInt % 256 := by
  rw [own_bb, c_i2l]
  have m := c_mask x.toInt8.toInt32 (255 : Int32) 8 (by decide) (by decide)
  have e : ((2 ^ 8 : Nat) : Int) = 256 := rfl
  rw [e] at m
  have h1 := c_i2b x
  omega
theorem own_ok0 (p y i off : Int32) (h : ¬ ((i - off) < (0 : Int32)) ∧ ¬ ((3 : Int32) < (i - off)) ∧ (i - off) = (0 : Int32)) : ¬ (fOk i off ((p.toInt64) &&& (4294967295 : Int64)) ((((p.toUInt32 >>> ((24 : Int32) &&& 31).toUInt32).toInt32).toInt8.toInt32).toInt8.toInt32) y = (0 : Int32)) := by
  obtain ⟨h1, h2, h3⟩ := h
  have u := own_u p
  have x := own_x ((p.toUInt32 >>> ((24 : Int32) &&& 31).toUInt32).toInt32)
  have s := c_iushr p (24 : Int32) 24 (by decide) (by decide)
  have e : ((2 ^ 24 : Nat) : Int) = 16777216 := rfl
  rw [e] at s
  have d := (c_ldiv ((p.toInt64) &&& (4294967295 : Int64)) (16777216 : Int64) 16777216 (by decide) (by decide)).1 (by omega)
  have q : (((((p.toUInt32 >>> ((24 : Int32) &&& 31).toUInt32).toInt32).toInt8.toInt32).toInt8.toInt32 &&& (255 : Int32)).toInt64) = (((p.toInt64) &&& (4294967295 : Int64)) / (16777216 : Int64)) := Int64.toInt_inj.mp (by omega)
  simp only [fOk, if_neg h1, if_neg h2, if_pos h3, if_pos q]; decide
theorem own_ok1 (p y i off : Int32) (h : ¬ ((i - off) < (0 : Int32)) ∧ ¬ ((3 : Int32) < (i - off)) ∧ ¬ ((i - off) = (0 : Int32)) ∧ (i - off) = (1 : Int32)) : ¬ (fOk i off ((p.toInt64) &&& (4294967295 : Int64)) ((((p.toUInt32 >>> ((16 : Int32) &&& 31).toUInt32).toInt32).toInt8.toInt32).toInt8.toInt32) y = (0 : Int32)) := by
  obtain ⟨h1, h2, h3, h4⟩ := h
  have u := own_u p
  have x := own_x ((p.toUInt32 >>> ((16 : Int32) &&& 31).toUInt32).toInt32)
  have s := c_iushr p (16 : Int32) 16 (by decide) (by decide)
  have e : ((2 ^ 16 : Nat) : Int) = 65536 := rfl
  rw [e] at s
  have d := (c_ldiv ((p.toInt64) &&& (4294967295 : Int64)) (65536 : Int64) 65536 (by decide) (by decide)).1 (by omega)
  have r := (c_lrem (((p.toInt64) &&& (4294967295 : Int64)) / (65536 : Int64)) (256 : Int64) 256 (by decide)).1 (by omega)
  have q : (((((p.toUInt32 >>> ((16 : Int32) &&& 31).toUInt32).toInt32).toInt8.toInt32).toInt8.toInt32 &&& (255 : Int32)).toInt64) = ((((p.toInt64) &&& (4294967295 : Int64)) / (65536 : Int64)) - (((p.toInt64) &&& (4294967295 : Int64)) / (65536 : Int64)) / (256 : Int64) * (256 : Int64)) := Int64.toInt_inj.mp (by omega)
  simp only [fOk, if_neg h1, if_neg h2, if_neg h3, if_pos h4, if_pos q]; decide
theorem own_ok2 (p y i off : Int32) (h : ¬ ((i - off) < (0 : Int32)) ∧ ¬ ((3 : Int32) < (i - off)) ∧ ¬ ((i - off) = (0 : Int32)) ∧ ¬ ((i - off) = (1 : Int32)) ∧ (i - off) = (2 : Int32)) : ¬ (fOk i off ((p.toInt64) &&& (4294967295 : Int64)) ((((p.toUInt32 >>> ((8 : Int32) &&& 31).toUInt32).toInt32).toInt8.toInt32).toInt8.toInt32) y = (0 : Int32)) := by
  obtain ⟨h1, h2, h3, h4, h5⟩ := h
  have u := own_u p
  have x := own_x ((p.toUInt32 >>> ((8 : Int32) &&& 31).toUInt32).toInt32)
  have s := c_iushr p (8 : Int32) 8 (by decide) (by decide)
  have e : ((2 ^ 8 : Nat) : Int) = 256 := rfl
  rw [e] at s
  have d := (c_ldiv ((p.toInt64) &&& (4294967295 : Int64)) (256 : Int64) 256 (by decide) (by decide)).1 (by omega)
  have r := (c_lrem (((p.toInt64) &&& (4294967295 : Int64)) / (256 : Int64)) (256 : Int64) 256 (by decide)).1 (by omega)
  have q : (((((p.toUInt32 >>> ((8 : Int32) &&& 31).toUInt32).toInt32).toInt8.toInt32).toInt8.toInt32 &&& (255 : Int32)).toInt64) = ((((p.toInt64) &&& (4294967295 : Int64)) / (256 : Int64)) - (((p.toInt64) &&& (4294967295 : Int64)) / (256 : Int64)) / (256 : Int64) * (256 : Int64)) := Int64.toInt_inj.mp (by omega)
  simp only [fOk, if_neg h1, if_neg h2, if_neg h3, if_neg h4, if_pos h5, if_pos q]; decide
theorem own_ok3 (p y i off : Int32) (h : ¬ ((i - off) < (0 : Int32)) ∧ ¬ ((3 : Int32) < (i - off)) ∧ ¬ ((i - off) = (0 : Int32)) ∧ ¬ ((i - off) = (1 : Int32)) ∧ ¬ ((i - off) = (2 : Int32))) : ¬ (fOk i off ((p.toInt64) &&& (4294967295 : Int64)) ((p.toInt8.toInt32).toInt8.toInt32) y = (0 : Int32)) := by
  obtain ⟨h1, h2, h3, h4, h5⟩ := h
  have u := own_u p
  have x := own_x p
  have r := (c_lrem ((p.toInt64) &&& (4294967295 : Int64)) (256 : Int64) 256 (by decide)).1 (by omega)
  have q : (((p.toInt8.toInt32).toInt8.toInt32 &&& (255 : Int32)).toInt64) = (((p.toInt64) &&& (4294967295 : Int64)) - ((p.toInt64) &&& (4294967295 : Int64)) / (256 : Int64) * (256 : Int64)) := Int64.toInt_inj.mp (by omega)
  simp only [fOk, if_neg h1, if_neg h2, if_neg h3, if_neg h4, if_neg h5, if_pos q]; decide
theorem own_pd0 : parseMethodDescriptor "([BII)V" = some ⟨[(.array .byte), .int, .int], none⟩ := by decide +kernel
theorem own_pd1 : parseMethodDescriptor "([B[BIIJ)Z" = some ⟨[(.array .byte), (.array .byte), .int, .int, .long], some .boolean⟩ := by decide +kernel
def Q0 (Z : State) (p0 : Int32) (p1 : Int32) (p2 : Int32) (h0 : Heap) (n0 : Nat) (v : Option Value) (h : Heap) (L : List Loc) : Prop := v = some (.int 1) ∧ Fr n0 L
theorem ef0 (m : MethodId) (x0 : Int32) (x1 : Int32) (x2 : Int32) : entryFrame m #[(.int x0), (.int x1), (.int x2)] maxLocals = mkF m 0 #[.val (.int x0), .val (.int x1), .val (.int x2), .unset, .unset, .unset, .unset, .unset] [] := by first | (simp [entryFrame, mkF, argsToLocals, Value.category, maxLocals]; done) | rfl
set_option maxRecDepth 65536 in
set_option maxHeartbeats 40000000 in
theorem rm0 (l : Launch) (Z : State) (az : Array Value) (hw : ∀ d ∈ tables_1, d.before az Z = true) (ws : List Jvm.Cond) (p0 : Int32) (p1 : Int32) (p2 : Int32) (h0 : Heap) (n0 : Nat) (Z0 : n0 ≤ h0.size) :
    MetFree l x (head1 (Jvm.Cond.code x code maxLocals ret :: ws) room_1) (fun a U => a = #[(.int p0), (.int p1), (.int p2)] ∧ Z.Warmed39 U.vm ∧ U.heap = h0) (fun _ _ _ _ _ => True) (fun _ U o U' => ∃ v L, o = .returned v ∧ Q0 Z p0 p1 p2 h0 n0 v U'.heap L ∧ FrameEnd U o U' L 2 16) := by
  refine MetFree.of_bodySF (plainFor_of_name own_pn_com_example_moraine_moraine_BigEndianPutIntPinLaw) hisR ?_
  intro p e s m args below meth c s₁ Bd hml0 hP hK
  obtain ⟨rfl, hZ, hh⟩ := hP
  have hx := Bd.exec
  have hby := Bd.bytes
  have hml : c.maxLocals = 8 := hml0
  have hown : s.vm.findClass "com/example/moraine/moraine/BigEndianPutIntPinLaw" = some m.cls := findClass_of_methodNamed Bd.named
  have hnm := (name_of_methodNamed Bd.named Bd.method).1
  have X0 : Stand p l e room_1 s m #[(.int p0), (.int p1), (.int p2)] below meth c s₁ [] 0 0 := Stand.of_body Bd
  have e0 : s₁.heap = h0 := by rw [← hh, Bd.state]; rfl
  have N0 := Fr.nil n0
  have Kp0 : Keep h0 h0 [] := Keep.refl _ _
  refine Goes.start ?_
  refine Goes.by (B := s₁.setTop (mkF m 0 #[.val (.int p0), .val (.int p1), .val (.int p2), .unset, .unset, .unset, .unset, .unset] [])) (fun t k => castTop (ef0 m p0 p1 p2) k) ?_
  refine Goes.by (B := s₁.setTop (mkF m 7 #[.val (.int p0), .val (.int p1), .val (.int p2), .val (.int ((p1 &&& (2147483647 : Int32)) % (5 : Int32))), .unset, .unset, .unset, .unset] [])) (fun t k => ?_) ?_
  · show Steps p.tables e below (s₁.setTop (mkF m 0 #[.val (.int p0), .val (.int p1), .val (.int p2), .unset, .unset, .unset, .unset, .unset] [])) t
    refine XS.iloadN X0.here hx rfl (hb hby at_0) rfl ?_
    show Steps p.tables e below (s₁.setTop (mkF m 1 #[.val (.int p0), .val (.int p1), .val (.int p2), .unset, .unset, .unset, .unset, .unset] [(.int p1)])) t
    refine X0.ldcInt hx hown (mvT hZ (hw _ (List.mem_of_getElem? (i := 0) rfl))) (g := (mkF m 1 #[.val (.int p0), .val (.int p1), .val (.int p2), .unset, .unset, .unset, .unset, .unset] [(.int p1)])) rfl (hb hby at_1) _ ?_
    show Steps p.tables e below (s₁.setTop (mkF m 3 #[.val (.int p0), .val (.int p1), .val (.int p2), .unset, .unset, .unset, .unset, .unset] [(.int (2147483647 : Int32)), (.int p1)])) t
    refine XS.iand X0.here hx rfl (hb hby at_3) rfl ?_
    show Steps p.tables e below (s₁.setTop (mkF m 4 #[.val (.int p0), .val (.int p1), .val (.int p2), .unset, .unset, .unset, .unset, .unset] [(.int (p1 &&& (2147483647 : Int32)))])) t
    refine XS.iconst X0.here hx rfl (hb hby at_4) ?_
    show Steps p.tables e below (s₁.setTop (mkF m 5 #[.val (.int p0), .val (.int p1), .val (.int p2), .unset, .unset, .unset, .unset, .unset] [(.int (5 : Int32)), (.int (p1 &&& (2147483647 : Int32)))])) t
    refine iremM X0 hx rfl (hb hby at_5) rfl (by decide) ?_
    show Steps p.tables e below (s₁.setTop (mkF m 6 #[.val (.int p0), .val (.int p1), .val (.int p2), .unset, .unset, .unset, .unset, .unset] [(.int ((p1 &&& (2147483647 : Int32)) % (5 : Int32)))])) t
    refine XS.istoreN X0.here hx rfl (hb hby at_6) rfl (l' := #[.val (.int p0), .val (.int p1), .val (.int p2), .val (.int ((p1 &&& (2147483647 : Int32)) % (5 : Int32))), .unset, .unset, .unset, .unset]) rfl ?_
    exact k
  generalize hg_o : ((p1 &&& (2147483647 : Int32)) % (5 : Int32)) = o
  refine Goes.by (B := s₁.setTop (mkF m 9 #[.val (.int p0), .val (.int p1), .val (.int p2), .val (.int o), .unset, .unset, .unset, .unset] [(.int (8 : Int32))])) (fun t k => ?_) ?_
  · show Steps p.tables e below (s₁.setTop (mkF m 7 #[.val (.int p0), .val (.int p1), .val (.int p2), .val (.int o), .unset, .unset, .unset, .unset] [])) t
    refine XS.bipush X0.here hx rfl (hb hby at_7) ?_
    exact k
  obtain ⟨T1, h1, k1, X1, e1, E1, A1, st1⟩ := newP X0 hx hZ (hw _ (List.mem_of_getElem? (i := 1) rfl)) e0 (g := (mkF m 9 #[.val (.int p0), .val (.int p1), .val (.int p2), .val (.int o), .unset, .unset, .unset, .unset] [(.int (8 : Int32))])) rfl (hb hby at_9) rfl (by decide) (cap := 8) (by decide) (by decide) (by decide) (by decide)
  obtain ⟨b2, g1⟩ : ∃ z, z = h0.size := ⟨_, rfl⟩
  rw [← g1] at A1 st1
  have ge3 : n0 ≤ b2 := Nat.le_trans Z0 (Nat.le_of_eq g1.symm)
  have sz4 : h0.size ≤ b2 := Nat.le_trans Kp0.1 (Nat.le_of_eq g1.symm)
  have f5 : Arv Z h1 b2 k1 .byte (8 : Int32) [(.int (0 : Int32)), (.int (0 : Int32)), (.int (0 : Int32)), (.int (0 : Int32)), (.int (0 : Int32)), (.int (0 : Int32)), (.int (0 : Int32)), (.int (0 : Int32))] (.int (0 : Int32)) := (Arv.new A1 (by decide)).pad (pad_rep [] (.int (0 : Int32)) 8)
  have Kp1 : Keep h0 h1 [] := Kp0.ext E1
  have Z6 : n0 ≤ h1.size := Nat.le_trans Z0 E1.1
  refine Goes.by st1 ?_
  clear X0
  show Goes p.tables e below _ (T1.setTop (mkF m 11 #[.val (.int p0), .val (.int p1), .val (.int p2), .val (.int o), .unset, .unset, .unset, .unset] [(.ref b2)]))
  refine Goes.by (B := T1.setTop (mkF m 18 #[.val (.int p0), .val (.int p1), .val (.int p2), .val (.int o), .val (.ref b2), .unset, .unset, .unset] [(.int (p2.toInt8.toInt32)), (.int (0 : Int32)), (.ref b2)])) (fun t k => ?_) ?_
  · show Steps p.tables e below (T1.setTop (mkF m 11 #[.val (.int p0), .val (.int p1), .val (.int p2), .val (.int o), .unset, .unset, .unset, .unset] [(.ref b2)])) t
    refine XS.astore X1.here hx rfl (hb hby at_11) rfl rfl (l' := #[.val (.int p0), .val (.int p1), .val (.int p2), .val (.int o), .val (.ref b2), .unset, .unset, .unset]) rfl ?_
    show Steps p.tables e below (T1.setTop (mkF m 13 #[.val (.int p0), .val (.int p1), .val (.int p2), .val (.int o), .val (.ref b2), .unset, .unset, .unset] [])) t
    refine XS.aload X1.here hx rfl (hb hby at_13) rfl rfl ?_
    show Steps p.tables e below (T1.setTop (mkF m 15 #[.val (.int p0), .val (.int p1), .val (.int p2), .val (.int o), .val (.ref b2), .unset, .unset, .unset] [(.ref b2)])) t
    refine XS.iconst X1.here hx rfl (hb hby at_15) ?_
    show Steps p.tables e below (T1.setTop (mkF m 16 #[.val (.int p0), .val (.int p1), .val (.int p2), .val (.int o), .val (.ref b2), .unset, .unset, .unset] [(.int (0 : Int32)), (.ref b2)])) t
    refine XS.iloadN X1.here hx rfl (hb hby at_16) rfl ?_
    show Steps p.tables e below (T1.setTop (mkF m 17 #[.val (.int p0), .val (.int p1), .val (.int p2), .val (.int o), .val (.ref b2), .unset, .unset, .unset] [(.int p2), (.int (0 : Int32)), (.ref b2)])) t
    refine XS.i2b X1.here hx rfl (hb hby at_17) rfl ?_
    exact k
  obtain ⟨cl7, cl7A, cl7q, cl7S, cl7N, cl7H, cl7G⟩ := id f5
  have cl7I : ¬ ((0 : Int32) < 0 ∨ cl7.slots.size ≤ ((0 : Int32)).toNatClampNeg) := inb_of cl7S ⟨by decide, by decide⟩
  obtain ⟨T7, h7, X7, e7, W7, st7⟩ := stB X1 hx hZ e1 cl7A (j := (0 : Int32)) cl7I (g := (mkF m 18 #[.val (.int p0), .val (.int p1), .val (.int p2), .val (.int o), .val (.ref b2), .unset, .unset, .unset] [(.int (p2.toInt8.toInt32)), (.int (0 : Int32)), (.ref b2)])) rfl rfl (hb hby at_18)
  have f8 : Arv Z h7 b2 k1 .byte (8 : Int32) [(.int ((p2.toInt8.toInt32).toInt8.toInt32)), (.int (0 : Int32)), (.int (0 : Int32)), (.int (0 : Int32)), (.int (0 : Int32)), (.int (0 : Int32)), (.int (0 : Int32)), (.int (0 : Int32))] (.int (0 : Int32)) := Arv.set cl7A cl7q cl7S cl7N cl7H cl7G (fits_nar_byte _) W7 0 rfl (Nat.le_of_ble_eq_true rfl)
  have Kp7 : Keep h0 h7 [] := Kp1.wr W7 (Or.inr sz4)
  have Z9 : n0 ≤ h7.size := Nat.le_trans Z6 (Nat.le_of_eq W7.size.symm)
  have N10 := Fr.snoc X7 N0 ge3
  refine Goes.by st7 ?_
  clear f5 X1 N0 Z6 Kp1 e1
  show Goes p.tables e below _ (T7.setTop (mkF m 19 #[.val (.int p0), .val (.int p1), .val (.int p2), .val (.int o), .val (.ref b2), .unset, .unset, .unset] []))
  refine Goes.by (B := T7.setTop (mkF m 27 #[.val (.int p0), .val (.int p1), .val (.int p2), .val (.int o), .val (.ref b2), .unset, .unset, .unset] [(.int ((p2 + (37 : Int32)).toInt8.toInt32)), (.int (1 : Int32)), (.ref b2)])) (fun t k => ?_) ?_
  · show Steps p.tables e below (T7.setTop (mkF m 19 #[.val (.int p0), .val (.int p1), .val (.int p2), .val (.int o), .val (.ref b2), .unset, .unset, .unset] [])) t
    refine XS.aload X7.here hx rfl (hb hby at_19) rfl rfl ?_
    show Steps p.tables e below (T7.setTop (mkF m 21 #[.val (.int p0), .val (.int p1), .val (.int p2), .val (.int o), .val (.ref b2), .unset, .unset, .unset] [(.ref b2)])) t
    refine XS.iconst X7.here hx rfl (hb hby at_21) ?_
    show Steps p.tables e below (T7.setTop (mkF m 22 #[.val (.int p0), .val (.int p1), .val (.int p2), .val (.int o), .val (.ref b2), .unset, .unset, .unset] [(.int (1 : Int32)), (.ref b2)])) t
    refine XS.iloadN X7.here hx rfl (hb hby at_22) rfl ?_
    show Steps p.tables e below (T7.setTop (mkF m 23 #[.val (.int p0), .val (.int p1), .val (.int p2), .val (.int o), .val (.ref b2), .unset, .unset, .unset] [(.int p2), (.int (1 : Int32)), (.ref b2)])) t
    refine XS.bipush X7.here hx rfl (hb hby at_23) ?_
    show Steps p.tables e below (T7.setTop (mkF m 25 #[.val (.int p0), .val (.int p1), .val (.int p2), .val (.int o), .val (.ref b2), .unset, .unset, .unset] [(.int (37 : Int32)), (.int p2), (.int (1 : Int32)), (.ref b2)])) t
    refine XS.iadd X7.here hx rfl (hb hby at_25) rfl ?_
    show Steps p.tables e below (T7.setTop (mkF m 26 #[.val (.int p0), .val (.int p1), .val (.int p2), .val (.int o), .val (.ref b2), .unset, .unset, .unset] [(.int (p2 + (37 : Int32))), (.int (1 : Int32)), (.ref b2)])) t
    refine XS.i2b X7.here hx rfl (hb hby at_26) rfl ?_
    exact k
  obtain ⟨cl11, cl11A, cl11q, cl11S, cl11N, cl11H, cl11G⟩ := id f8
  have cl11I : ¬ ((1 : Int32) < 0 ∨ cl11.slots.size ≤ ((1 : Int32)).toNatClampNeg) := inb_of cl11S ⟨by decide, by decide⟩
  obtain ⟨T11, h11, X11, e11, W11, st11⟩ := stB X7 hx hZ e7 cl11A (j := (1 : Int32)) cl11I (g := (mkF m 27 #[.val (.int p0), .val (.int p1), .val (.int p2), .val (.int o), .val (.ref b2), .unset, .unset, .unset] [(.int ((p2 + (37 : Int32)).toInt8.toInt32)), (.int (1 : Int32)), (.ref b2)])) rfl rfl (hb hby at_27)
  have f12 : Arv Z h11 b2 k1 .byte (8 : Int32) [(.int ((p2.toInt8.toInt32).toInt8.toInt32)), (.int (((p2 + (37 : Int32)).toInt8.toInt32).toInt8.toInt32)), (.int (0 : Int32)), (.int (0 : Int32)), (.int (0 : Int32)), (.int (0 : Int32)), (.int (0 : Int32)), (.int (0 : Int32))] (.int (0 : Int32)) := Arv.set cl11A cl11q cl11S cl11N cl11H cl11G (fits_nar_byte _) W11 1 rfl (Nat.le_of_ble_eq_true rfl)
  have Kp11 : Keep h0 h11 [] := Kp7.wr W11 (Or.inr sz4)
  have Z13 : n0 ≤ h11.size := Nat.le_trans Z9 (Nat.le_of_eq W11.size.symm)
  have N14 := Fr.snoc X11 N10 ge3
  refine Goes.by st11 ?_
  clear f8 X7 N10 Z9 Kp7 e7
  show Goes p.tables e below _ (T11.setTop (mkF m 28 #[.val (.int p0), .val (.int p1), .val (.int p2), .val (.int o), .val (.ref b2), .unset, .unset, .unset] []))
  refine Goes.by (B := T11.setTop (mkF m 36 #[.val (.int p0), .val (.int p1), .val (.int p2), .val (.int o), .val (.ref b2), .unset, .unset, .unset] [(.int ((p2 + (74 : Int32)).toInt8.toInt32)), (.int (2 : Int32)), (.ref b2)])) (fun t k => ?_) ?_
  · show Steps p.tables e below (T11.setTop (mkF m 28 #[.val (.int p0), .val (.int p1), .val (.int p2), .val (.int o), .val (.ref b2), .unset, .unset, .unset] [])) t
    refine XS.aload X11.here hx rfl (hb hby at_28) rfl rfl ?_
    show Steps p.tables e below (T11.setTop (mkF m 30 #[.val (.int p0), .val (.int p1), .val (.int p2), .val (.int o), .val (.ref b2), .unset, .unset, .unset] [(.ref b2)])) t
    refine XS.iconst X11.here hx rfl (hb hby at_30) ?_
    show Steps p.tables e below (T11.setTop (mkF m 31 #[.val (.int p0), .val (.int p1), .val (.int p2), .val (.int o), .val (.ref b2), .unset, .unset, .unset] [(.int (2 : Int32)), (.ref b2)])) t
    refine XS.iloadN X11.here hx rfl (hb hby at_31) rfl ?_
    show Steps p.tables e below (T11.setTop (mkF m 32 #[.val (.int p0), .val (.int p1), .val (.int p2), .val (.int o), .val (.ref b2), .unset, .unset, .unset] [(.int p2), (.int (2 : Int32)), (.ref b2)])) t
    refine XS.bipush X11.here hx rfl (hb hby at_32) ?_
    show Steps p.tables e below (T11.setTop (mkF m 34 #[.val (.int p0), .val (.int p1), .val (.int p2), .val (.int o), .val (.ref b2), .unset, .unset, .unset] [(.int (74 : Int32)), (.int p2), (.int (2 : Int32)), (.ref b2)])) t
    refine XS.iadd X11.here hx rfl (hb hby at_34) rfl ?_
    show Steps p.tables e below (T11.setTop (mkF m 35 #[.val (.int p0), .val (.int p1), .val (.int p2), .val (.int o), .val (.ref b2), .unset, .unset, .unset] [(.int (p2 + (74 : Int32))), (.int (2 : Int32)), (.ref b2)])) t
    refine XS.i2b X11.here hx rfl (hb hby at_35) rfl ?_
    exact k
  obtain ⟨cl15, cl15A, cl15q, cl15S, cl15N, cl15H, cl15G⟩ := id f12
  have cl15I : ¬ ((2 : Int32) < 0 ∨ cl15.slots.size ≤ ((2 : Int32)).toNatClampNeg) := inb_of cl15S ⟨by decide, by decide⟩
  obtain ⟨T15, h15, X15, e15, W15, st15⟩ := stB X11 hx hZ e11 cl15A (j := (2 : Int32)) cl15I (g := (mkF m 36 #[.val (.int p0), .val (.int p1), .val (.int p2), .val (.int o), .val (.ref b2), .unset, .unset, .unset] [(.int ((p2 + (74 : Int32)).toInt8.toInt32)), (.int (2 : Int32)), (.ref b2)])) rfl rfl (hb hby at_36)
  have f16 : Arv Z h15 b2 k1 .byte (8 : Int32) [(.int ((p2.toInt8.toInt32).toInt8.toInt32)), (.int (((p2 + (37 : Int32)).toInt8.toInt32).toInt8.toInt32)), (.int (((p2 + (74 : Int32)).toInt8.toInt32).toInt8.toInt32)), (.int (0 : Int32)), (.int (0 : Int32)), (.int (0 : Int32)), (.int (0 : Int32)), (.int (0 : Int32))] (.int (0 : Int32)) := Arv.set cl15A cl15q cl15S cl15N cl15H cl15G (fits_nar_byte _) W15 2 rfl (Nat.le_of_ble_eq_true rfl)
  have Kp15 : Keep h0 h15 [] := Kp11.wr W15 (Or.inr sz4)
  have Z17 : n0 ≤ h15.size := Nat.le_trans Z13 (Nat.le_of_eq W15.size.symm)
  have N18 := Fr.snoc X15 N14 ge3
  refine Goes.by st15 ?_
  clear f12 X11 N14 Z13 Kp11 e11
  show Goes p.tables e below _ (T15.setTop (mkF m 37 #[.val (.int p0), .val (.int p1), .val (.int p2), .val (.int o), .val (.ref b2), .unset, .unset, .unset] []))
  refine Goes.by (B := T15.setTop (mkF m 45 #[.val (.int p0), .val (.int p1), .val (.int p2), .val (.int o), .val (.ref b2), .unset, .unset, .unset] [(.int ((p2 + (111 : Int32)).toInt8.toInt32)), (.int (3 : Int32)), (.ref b2)])) (fun t k => ?_) ?_
  · show Steps p.tables e below (T15.setTop (mkF m 37 #[.val (.int p0), .val (.int p1), .val (.int p2), .val (.int o), .val (.ref b2), .unset, .unset, .unset] [])) t
    refine XS.aload X15.here hx rfl (hb hby at_37) rfl rfl ?_
    show Steps p.tables e below (T15.setTop (mkF m 39 #[.val (.int p0), .val (.int p1), .val (.int p2), .val (.int o), .val (.ref b2), .unset, .unset, .unset] [(.ref b2)])) t
    refine XS.iconst X15.here hx rfl (hb hby at_39) ?_
    show Steps p.tables e below (T15.setTop (mkF m 40 #[.val (.int p0), .val (.int p1), .val (.int p2), .val (.int o), .val (.ref b2), .unset, .unset, .unset] [(.int (3 : Int32)), (.ref b2)])) t
    refine XS.iloadN X15.here hx rfl (hb hby at_40) rfl ?_
    show Steps p.tables e below (T15.setTop (mkF m 41 #[.val (.int p0), .val (.int p1), .val (.int p2), .val (.int o), .val (.ref b2), .unset, .unset, .unset] [(.int p2), (.int (3 : Int32)), (.ref b2)])) t
    refine XS.bipush X15.here hx rfl (hb hby at_41) ?_
    show Steps p.tables e below (T15.setTop (mkF m 43 #[.val (.int p0), .val (.int p1), .val (.int p2), .val (.int o), .val (.ref b2), .unset, .unset, .unset] [(.int (111 : Int32)), (.int p2), (.int (3 : Int32)), (.ref b2)])) t
    refine XS.iadd X15.here hx rfl (hb hby at_43) rfl ?_
    show Steps p.tables e below (T15.setTop (mkF m 44 #[.val (.int p0), .val (.int p1), .val (.int p2), .val (.int o), .val (.ref b2), .unset, .unset, .unset] [(.int (p2 + (111 : Int32))), (.int (3 : Int32)), (.ref b2)])) t
    refine XS.i2b X15.here hx rfl (hb hby at_44) rfl ?_
    exact k
  obtain ⟨cl19, cl19A, cl19q, cl19S, cl19N, cl19H, cl19G⟩ := id f16
  have cl19I : ¬ ((3 : Int32) < 0 ∨ cl19.slots.size ≤ ((3 : Int32)).toNatClampNeg) := inb_of cl19S ⟨by decide, by decide⟩
  obtain ⟨T19, h19, X19, e19, W19, st19⟩ := stB X15 hx hZ e15 cl19A (j := (3 : Int32)) cl19I (g := (mkF m 45 #[.val (.int p0), .val (.int p1), .val (.int p2), .val (.int o), .val (.ref b2), .unset, .unset, .unset] [(.int ((p2 + (111 : Int32)).toInt8.toInt32)), (.int (3 : Int32)), (.ref b2)])) rfl rfl (hb hby at_45)
  have f20 : Arv Z h19 b2 k1 .byte (8 : Int32) [(.int ((p2.toInt8.toInt32).toInt8.toInt32)), (.int (((p2 + (37 : Int32)).toInt8.toInt32).toInt8.toInt32)), (.int (((p2 + (74 : Int32)).toInt8.toInt32).toInt8.toInt32)), (.int (((p2 + (111 : Int32)).toInt8.toInt32).toInt8.toInt32)), (.int (0 : Int32)), (.int (0 : Int32)), (.int (0 : Int32)), (.int (0 : Int32))] (.int (0 : Int32)) := Arv.set cl19A cl19q cl19S cl19N cl19H cl19G (fits_nar_byte _) W19 3 rfl (Nat.le_of_ble_eq_true rfl)
  have Kp19 : Keep h0 h19 [] := Kp15.wr W19 (Or.inr sz4)
  have Z21 : n0 ≤ h19.size := Nat.le_trans Z17 (Nat.le_of_eq W19.size.symm)
  have N22 := Fr.snoc X19 N18 ge3
  refine Goes.by st19 ?_
  clear f16 X15 N18 Z17 Kp15 e15
  show Goes p.tables e below _ (T19.setTop (mkF m 46 #[.val (.int p0), .val (.int p1), .val (.int p2), .val (.int o), .val (.ref b2), .unset, .unset, .unset] []))
  refine Goes.by (B := T19.setTop (mkF m 55 #[.val (.int p0), .val (.int p1), .val (.int p2), .val (.int o), .val (.ref b2), .unset, .unset, .unset] [(.int ((p2 + (148 : Int32)).toInt8.toInt32)), (.int (4 : Int32)), (.ref b2)])) (fun t k => ?_) ?_
  · show Steps p.tables e below (T19.setTop (mkF m 46 #[.val (.int p0), .val (.int p1), .val (.int p2), .val (.int o), .val (.ref b2), .unset, .unset, .unset] [])) t
    refine XS.aload X19.here hx rfl (hb hby at_46) rfl rfl ?_
    show Steps p.tables e below (T19.setTop (mkF m 48 #[.val (.int p0), .val (.int p1), .val (.int p2), .val (.int o), .val (.ref b2), .unset, .unset, .unset] [(.ref b2)])) t
    refine XS.iconst X19.here hx rfl (hb hby at_48) ?_
    show Steps p.tables e below (T19.setTop (mkF m 49 #[.val (.int p0), .val (.int p1), .val (.int p2), .val (.int o), .val (.ref b2), .unset, .unset, .unset] [(.int (4 : Int32)), (.ref b2)])) t
    refine XS.iloadN X19.here hx rfl (hb hby at_49) rfl ?_
    show Steps p.tables e below (T19.setTop (mkF m 50 #[.val (.int p0), .val (.int p1), .val (.int p2), .val (.int o), .val (.ref b2), .unset, .unset, .unset] [(.int p2), (.int (4 : Int32)), (.ref b2)])) t
    refine XS.sipush X19.here hx rfl (hb hby at_50) ?_
    show Steps p.tables e below (T19.setTop (mkF m 53 #[.val (.int p0), .val (.int p1), .val (.int p2), .val (.int o), .val (.ref b2), .unset, .unset, .unset] [(.int (148 : Int32)), (.int p2), (.int (4 : Int32)), (.ref b2)])) t
    refine XS.iadd X19.here hx rfl (hb hby at_53) rfl ?_
    show Steps p.tables e below (T19.setTop (mkF m 54 #[.val (.int p0), .val (.int p1), .val (.int p2), .val (.int o), .val (.ref b2), .unset, .unset, .unset] [(.int (p2 + (148 : Int32))), (.int (4 : Int32)), (.ref b2)])) t
    refine XS.i2b X19.here hx rfl (hb hby at_54) rfl ?_
    exact k
  obtain ⟨cl23, cl23A, cl23q, cl23S, cl23N, cl23H, cl23G⟩ := id f20
  have cl23I : ¬ ((4 : Int32) < 0 ∨ cl23.slots.size ≤ ((4 : Int32)).toNatClampNeg) := inb_of cl23S ⟨by decide, by decide⟩
  obtain ⟨T23, h23, X23, e23, W23, st23⟩ := stB X19 hx hZ e19 cl23A (j := (4 : Int32)) cl23I (g := (mkF m 55 #[.val (.int p0), .val (.int p1), .val (.int p2), .val (.int o), .val (.ref b2), .unset, .unset, .unset] [(.int ((p2 + (148 : Int32)).toInt8.toInt32)), (.int (4 : Int32)), (.ref b2)])) rfl rfl (hb hby at_55)
  have f24 : Arv Z h23 b2 k1 .byte (8 : Int32) [(.int ((p2.toInt8.toInt32).toInt8.toInt32)), (.int (((p2 + (37 : Int32)).toInt8.toInt32).toInt8.toInt32)), (.int (((p2 + (74 : Int32)).toInt8.toInt32).toInt8.toInt32)), (.int (((p2 + (111 : Int32)).toInt8.toInt32).toInt8.toInt32)), (.int (((p2 + (148 : Int32)).toInt8.toInt32).toInt8.toInt32)), (.int (0 : Int32)), (.int (0 : Int32)), (.int (0 : Int32))] (.int (0 : Int32)) := Arv.set cl23A cl23q cl23S cl23N cl23H cl23G (fits_nar_byte _) W23 4 rfl (Nat.le_of_ble_eq_true rfl)
  have Kp23 : Keep h0 h23 [] := Kp19.wr W23 (Or.inr sz4)
  have Z25 : n0 ≤ h23.size := Nat.le_trans Z21 (Nat.le_of_eq W23.size.symm)
  have N26 := Fr.snoc X23 N22 ge3
  refine Goes.by st23 ?_
  clear f20 X19 N22 Z21 Kp19 e19
  show Goes p.tables e below _ (T23.setTop (mkF m 56 #[.val (.int p0), .val (.int p1), .val (.int p2), .val (.int o), .val (.ref b2), .unset, .unset, .unset] []))
  refine Goes.by (B := T23.setTop (mkF m 65 #[.val (.int p0), .val (.int p1), .val (.int p2), .val (.int o), .val (.ref b2), .unset, .unset, .unset] [(.int ((p2 + (185 : Int32)).toInt8.toInt32)), (.int (5 : Int32)), (.ref b2)])) (fun t k => ?_) ?_
  · show Steps p.tables e below (T23.setTop (mkF m 56 #[.val (.int p0), .val (.int p1), .val (.int p2), .val (.int o), .val (.ref b2), .unset, .unset, .unset] [])) t
    refine XS.aload X23.here hx rfl (hb hby at_56) rfl rfl ?_
    show Steps p.tables e below (T23.setTop (mkF m 58 #[.val (.int p0), .val (.int p1), .val (.int p2), .val (.int o), .val (.ref b2), .unset, .unset, .unset] [(.ref b2)])) t
    refine XS.iconst X23.here hx rfl (hb hby at_58) ?_
    show Steps p.tables e below (T23.setTop (mkF m 59 #[.val (.int p0), .val (.int p1), .val (.int p2), .val (.int o), .val (.ref b2), .unset, .unset, .unset] [(.int (5 : Int32)), (.ref b2)])) t
    refine XS.iloadN X23.here hx rfl (hb hby at_59) rfl ?_
    show Steps p.tables e below (T23.setTop (mkF m 60 #[.val (.int p0), .val (.int p1), .val (.int p2), .val (.int o), .val (.ref b2), .unset, .unset, .unset] [(.int p2), (.int (5 : Int32)), (.ref b2)])) t
    refine XS.sipush X23.here hx rfl (hb hby at_60) ?_
    show Steps p.tables e below (T23.setTop (mkF m 63 #[.val (.int p0), .val (.int p1), .val (.int p2), .val (.int o), .val (.ref b2), .unset, .unset, .unset] [(.int (185 : Int32)), (.int p2), (.int (5 : Int32)), (.ref b2)])) t
    refine XS.iadd X23.here hx rfl (hb hby at_63) rfl ?_
    show Steps p.tables e below (T23.setTop (mkF m 64 #[.val (.int p0), .val (.int p1), .val (.int p2), .val (.int o), .val (.ref b2), .unset, .unset, .unset] [(.int (p2 + (185 : Int32))), (.int (5 : Int32)), (.ref b2)])) t
    refine XS.i2b X23.here hx rfl (hb hby at_64) rfl ?_
    exact k
  obtain ⟨cl27, cl27A, cl27q, cl27S, cl27N, cl27H, cl27G⟩ := id f24
  have cl27I : ¬ ((5 : Int32) < 0 ∨ cl27.slots.size ≤ ((5 : Int32)).toNatClampNeg) := inb_of cl27S ⟨by decide, by decide⟩
  obtain ⟨T27, h27, X27, e27, W27, st27⟩ := stB X23 hx hZ e23 cl27A (j := (5 : Int32)) cl27I (g := (mkF m 65 #[.val (.int p0), .val (.int p1), .val (.int p2), .val (.int o), .val (.ref b2), .unset, .unset, .unset] [(.int ((p2 + (185 : Int32)).toInt8.toInt32)), (.int (5 : Int32)), (.ref b2)])) rfl rfl (hb hby at_65)
  have f28 : Arv Z h27 b2 k1 .byte (8 : Int32) [(.int ((p2.toInt8.toInt32).toInt8.toInt32)), (.int (((p2 + (37 : Int32)).toInt8.toInt32).toInt8.toInt32)), (.int (((p2 + (74 : Int32)).toInt8.toInt32).toInt8.toInt32)), (.int (((p2 + (111 : Int32)).toInt8.toInt32).toInt8.toInt32)), (.int (((p2 + (148 : Int32)).toInt8.toInt32).toInt8.toInt32)), (.int (((p2 + (185 : Int32)).toInt8.toInt32).toInt8.toInt32)), (.int (0 : Int32)), (.int (0 : Int32))] (.int (0 : Int32)) := Arv.set cl27A cl27q cl27S cl27N cl27H cl27G (fits_nar_byte _) W27 5 rfl (Nat.le_of_ble_eq_true rfl)
  have Kp27 : Keep h0 h27 [] := Kp23.wr W27 (Or.inr sz4)
  have Z29 : n0 ≤ h27.size := Nat.le_trans Z25 (Nat.le_of_eq W27.size.symm)
  have N30 := Fr.snoc X27 N26 ge3
  refine Goes.by st27 ?_
  clear f24 X23 N26 Z25 Kp23 e23
  show Goes p.tables e below _ (T27.setTop (mkF m 66 #[.val (.int p0), .val (.int p1), .val (.int p2), .val (.int o), .val (.ref b2), .unset, .unset, .unset] []))
  refine Goes.by (B := T27.setTop (mkF m 76 #[.val (.int p0), .val (.int p1), .val (.int p2), .val (.int o), .val (.ref b2), .unset, .unset, .unset] [(.int ((p2 + (222 : Int32)).toInt8.toInt32)), (.int (6 : Int32)), (.ref b2)])) (fun t k => ?_) ?_
  · show Steps p.tables e below (T27.setTop (mkF m 66 #[.val (.int p0), .val (.int p1), .val (.int p2), .val (.int o), .val (.ref b2), .unset, .unset, .unset] [])) t
    refine XS.aload X27.here hx rfl (hb hby at_66) rfl rfl ?_
    show Steps p.tables e below (T27.setTop (mkF m 68 #[.val (.int p0), .val (.int p1), .val (.int p2), .val (.int o), .val (.ref b2), .unset, .unset, .unset] [(.ref b2)])) t
    refine XS.bipush X27.here hx rfl (hb hby at_68) ?_
    show Steps p.tables e below (T27.setTop (mkF m 70 #[.val (.int p0), .val (.int p1), .val (.int p2), .val (.int o), .val (.ref b2), .unset, .unset, .unset] [(.int (6 : Int32)), (.ref b2)])) t
    refine XS.iloadN X27.here hx rfl (hb hby at_70) rfl ?_
    show Steps p.tables e below (T27.setTop (mkF m 71 #[.val (.int p0), .val (.int p1), .val (.int p2), .val (.int o), .val (.ref b2), .unset, .unset, .unset] [(.int p2), (.int (6 : Int32)), (.ref b2)])) t
    refine XS.sipush X27.here hx rfl (hb hby at_71) ?_
    show Steps p.tables e below (T27.setTop (mkF m 74 #[.val (.int p0), .val (.int p1), .val (.int p2), .val (.int o), .val (.ref b2), .unset, .unset, .unset] [(.int (222 : Int32)), (.int p2), (.int (6 : Int32)), (.ref b2)])) t
    refine XS.iadd X27.here hx rfl (hb hby at_74) rfl ?_
    show Steps p.tables e below (T27.setTop (mkF m 75 #[.val (.int p0), .val (.int p1), .val (.int p2), .val (.int o), .val (.ref b2), .unset, .unset, .unset] [(.int (p2 + (222 : Int32))), (.int (6 : Int32)), (.ref b2)])) t
    refine XS.i2b X27.here hx rfl (hb hby at_75) rfl ?_
    exact k
  obtain ⟨cl31, cl31A, cl31q, cl31S, cl31N, cl31H, cl31G⟩ := id f28
  have cl31I : ¬ ((6 : Int32) < 0 ∨ cl31.slots.size ≤ ((6 : Int32)).toNatClampNeg) := inb_of cl31S ⟨by decide, by decide⟩
  obtain ⟨T31, h31, X31, e31, W31, st31⟩ := stB X27 hx hZ e27 cl31A (j := (6 : Int32)) cl31I (g := (mkF m 76 #[.val (.int p0), .val (.int p1), .val (.int p2), .val (.int o), .val (.ref b2), .unset, .unset, .unset] [(.int ((p2 + (222 : Int32)).toInt8.toInt32)), (.int (6 : Int32)), (.ref b2)])) rfl rfl (hb hby at_76)
  have f32 : Arv Z h31 b2 k1 .byte (8 : Int32) [(.int ((p2.toInt8.toInt32).toInt8.toInt32)), (.int (((p2 + (37 : Int32)).toInt8.toInt32).toInt8.toInt32)), (.int (((p2 + (74 : Int32)).toInt8.toInt32).toInt8.toInt32)), (.int (((p2 + (111 : Int32)).toInt8.toInt32).toInt8.toInt32)), (.int (((p2 + (148 : Int32)).toInt8.toInt32).toInt8.toInt32)), (.int (((p2 + (185 : Int32)).toInt8.toInt32).toInt8.toInt32)), (.int (((p2 + (222 : Int32)).toInt8.toInt32).toInt8.toInt32)), (.int (0 : Int32))] (.int (0 : Int32)) := Arv.set cl31A cl31q cl31S cl31N cl31H cl31G (fits_nar_byte _) W31 6 rfl (Nat.le_of_ble_eq_true rfl)
  have Kp31 : Keep h0 h31 [] := Kp27.wr W31 (Or.inr sz4)
  have Z33 : n0 ≤ h31.size := Nat.le_trans Z29 (Nat.le_of_eq W31.size.symm)
  have N34 := Fr.snoc X31 N30 ge3
  refine Goes.by st31 ?_
  clear f28 X27 N30 Z29 Kp27 e27
  show Goes p.tables e below _ (T31.setTop (mkF m 77 #[.val (.int p0), .val (.int p1), .val (.int p2), .val (.int o), .val (.ref b2), .unset, .unset, .unset] []))
  refine Goes.by (B := T31.setTop (mkF m 87 #[.val (.int p0), .val (.int p1), .val (.int p2), .val (.int o), .val (.ref b2), .unset, .unset, .unset] [(.int ((p2 + (259 : Int32)).toInt8.toInt32)), (.int (7 : Int32)), (.ref b2)])) (fun t k => ?_) ?_
  · show Steps p.tables e below (T31.setTop (mkF m 77 #[.val (.int p0), .val (.int p1), .val (.int p2), .val (.int o), .val (.ref b2), .unset, .unset, .unset] [])) t
    refine XS.aload X31.here hx rfl (hb hby at_77) rfl rfl ?_
    show Steps p.tables e below (T31.setTop (mkF m 79 #[.val (.int p0), .val (.int p1), .val (.int p2), .val (.int o), .val (.ref b2), .unset, .unset, .unset] [(.ref b2)])) t
    refine XS.bipush X31.here hx rfl (hb hby at_79) ?_
    show Steps p.tables e below (T31.setTop (mkF m 81 #[.val (.int p0), .val (.int p1), .val (.int p2), .val (.int o), .val (.ref b2), .unset, .unset, .unset] [(.int (7 : Int32)), (.ref b2)])) t
    refine XS.iloadN X31.here hx rfl (hb hby at_81) rfl ?_
    show Steps p.tables e below (T31.setTop (mkF m 82 #[.val (.int p0), .val (.int p1), .val (.int p2), .val (.int o), .val (.ref b2), .unset, .unset, .unset] [(.int p2), (.int (7 : Int32)), (.ref b2)])) t
    refine XS.sipush X31.here hx rfl (hb hby at_82) ?_
    show Steps p.tables e below (T31.setTop (mkF m 85 #[.val (.int p0), .val (.int p1), .val (.int p2), .val (.int o), .val (.ref b2), .unset, .unset, .unset] [(.int (259 : Int32)), (.int p2), (.int (7 : Int32)), (.ref b2)])) t
    refine XS.iadd X31.here hx rfl (hb hby at_85) rfl ?_
    show Steps p.tables e below (T31.setTop (mkF m 86 #[.val (.int p0), .val (.int p1), .val (.int p2), .val (.int o), .val (.ref b2), .unset, .unset, .unset] [(.int (p2 + (259 : Int32))), (.int (7 : Int32)), (.ref b2)])) t
    refine XS.i2b X31.here hx rfl (hb hby at_86) rfl ?_
    exact k
  obtain ⟨cl35, cl35A, cl35q, cl35S, cl35N, cl35H, cl35G⟩ := id f32
  have cl35I : ¬ ((7 : Int32) < 0 ∨ cl35.slots.size ≤ ((7 : Int32)).toNatClampNeg) := inb_of cl35S ⟨by decide, by decide⟩
  obtain ⟨T35, h35, X35, e35, W35, st35⟩ := stB X31 hx hZ e31 cl35A (j := (7 : Int32)) cl35I (g := (mkF m 87 #[.val (.int p0), .val (.int p1), .val (.int p2), .val (.int o), .val (.ref b2), .unset, .unset, .unset] [(.int ((p2 + (259 : Int32)).toInt8.toInt32)), (.int (7 : Int32)), (.ref b2)])) rfl rfl (hb hby at_87)
  have f36 : Arv Z h35 b2 k1 .byte (8 : Int32) [(.int ((p2.toInt8.toInt32).toInt8.toInt32)), (.int (((p2 + (37 : Int32)).toInt8.toInt32).toInt8.toInt32)), (.int (((p2 + (74 : Int32)).toInt8.toInt32).toInt8.toInt32)), (.int (((p2 + (111 : Int32)).toInt8.toInt32).toInt8.toInt32)), (.int (((p2 + (148 : Int32)).toInt8.toInt32).toInt8.toInt32)), (.int (((p2 + (185 : Int32)).toInt8.toInt32).toInt8.toInt32)), (.int (((p2 + (222 : Int32)).toInt8.toInt32).toInt8.toInt32)), (.int (((p2 + (259 : Int32)).toInt8.toInt32).toInt8.toInt32))] (.int (0 : Int32)) := Arv.set cl35A cl35q cl35S cl35N cl35H cl35G (fits_nar_byte _) W35 7 rfl (Nat.le_of_ble_eq_true rfl)
  have Kp35 : Keep h0 h35 [] := Kp31.wr W35 (Or.inr sz4)
  have Z37 : n0 ≤ h35.size := Nat.le_trans Z33 (Nat.le_of_eq W35.size.symm)
  have N38 := Fr.snoc X35 N34 ge3
  refine Goes.by st35 ?_
  clear f32 X31 N34 Z33 Kp31 e31
  show Goes p.tables e below _ (T35.setTop (mkF m 88 #[.val (.int p0), .val (.int p1), .val (.int p2), .val (.int o), .val (.ref b2), .unset, .unset, .unset] []))
  refine Goes.by (B := T35.setTop (mkF m 90 #[.val (.int p0), .val (.int p1), .val (.int p2), .val (.int o), .val (.ref b2), .unset, .unset, .unset] [(.int (8 : Int32))])) (fun t k => ?_) ?_
  · show Steps p.tables e below (T35.setTop (mkF m 88 #[.val (.int p0), .val (.int p1), .val (.int p2), .val (.int o), .val (.ref b2), .unset, .unset, .unset] [])) t
    refine XS.bipush X35.here hx rfl (hb hby at_88) ?_
    exact k
  obtain ⟨T39, h39, k39, X39, e39, E39, A39, st39⟩ := newP X35 hx hZ (hw _ (List.mem_of_getElem? (i := 1) rfl)) e35 (g := (mkF m 90 #[.val (.int p0), .val (.int p1), .val (.int p2), .val (.int o), .val (.ref b2), .unset, .unset, .unset] [(.int (8 : Int32))])) rfl (hb hby at_90) rfl (by decide) (cap := 8) (by decide) (by decide) (by decide) (by decide)
  obtain ⟨b40, g39⟩ : ∃ z, z = h35.size := ⟨_, rfl⟩
  rw [← g39] at A39 st39
  have ne41 : b2 ≠ b40 := Nat.ne_of_lt (Nat.lt_of_lt_of_le f36.lt (Nat.le_of_eq g39.symm))
  have ge42 : n0 ≤ b40 := Nat.le_trans Z37 (Nat.le_of_eq g39.symm)
  have sz43 : h0.size ≤ b40 := Nat.le_trans Kp35.1 (Nat.le_of_eq g39.symm)
  have f44 : Arv Z h39 b2 k1 .byte (8 : Int32) [(.int ((p2.toInt8.toInt32).toInt8.toInt32)), (.int (((p2 + (37 : Int32)).toInt8.toInt32).toInt8.toInt32)), (.int (((p2 + (74 : Int32)).toInt8.toInt32).toInt8.toInt32)), (.int (((p2 + (111 : Int32)).toInt8.toInt32).toInt8.toInt32)), (.int (((p2 + (148 : Int32)).toInt8.toInt32).toInt8.toInt32)), (.int (((p2 + (185 : Int32)).toInt8.toInt32).toInt8.toInt32)), (.int (((p2 + (222 : Int32)).toInt8.toInt32).toInt8.toInt32)), (.int (((p2 + (259 : Int32)).toInt8.toInt32).toInt8.toInt32))] (.int (0 : Int32)) := f36.ext E39
  have f45 : Arv Z h39 b40 k39 .byte (8 : Int32) [(.int (0 : Int32)), (.int (0 : Int32)), (.int (0 : Int32)), (.int (0 : Int32)), (.int (0 : Int32)), (.int (0 : Int32)), (.int (0 : Int32)), (.int (0 : Int32))] (.int (0 : Int32)) := (Arv.new A39 (by decide)).pad (pad_rep [] (.int (0 : Int32)) 8)
  have Kp39 : Keep h0 h39 [] := Kp35.ext E39
  have Z46 : n0 ≤ h39.size := Nat.le_trans Z37 E39.1
  refine Goes.by st39 ?_
  clear f36 X35 Z37 Kp35 e35
  show Goes p.tables e below _ (T39.setTop (mkF m 92 #[.val (.int p0), .val (.int p1), .val (.int p2), .val (.int o), .val (.ref b2), .unset, .unset, .unset] [(.ref b40)]))
  refine Goes.by (B := T39.setTop (mkF m 100 #[.val (.int p0), .val (.int p1), .val (.int p2), .val (.int o), .val (.ref b2), .val (.ref b40), .unset, .unset] [(.int (0 : Int32)), (.ref b2), (.int (0 : Int32)), (.ref b40)])) (fun t k => ?_) ?_
  · show Steps p.tables e below (T39.setTop (mkF m 92 #[.val (.int p0), .val (.int p1), .val (.int p2), .val (.int o), .val (.ref b2), .unset, .unset, .unset] [(.ref b40)])) t
    refine XS.astore X39.here hx rfl (hb hby at_92) rfl rfl (l' := #[.val (.int p0), .val (.int p1), .val (.int p2), .val (.int o), .val (.ref b2), .val (.ref b40), .unset, .unset]) rfl ?_
    show Steps p.tables e below (T39.setTop (mkF m 94 #[.val (.int p0), .val (.int p1), .val (.int p2), .val (.int o), .val (.ref b2), .val (.ref b40), .unset, .unset] [])) t
    refine XS.aload X39.here hx rfl (hb hby at_94) rfl rfl ?_
    show Steps p.tables e below (T39.setTop (mkF m 96 #[.val (.int p0), .val (.int p1), .val (.int p2), .val (.int o), .val (.ref b2), .val (.ref b40), .unset, .unset] [(.ref b40)])) t
    refine XS.iconst X39.here hx rfl (hb hby at_96) ?_
    show Steps p.tables e below (T39.setTop (mkF m 97 #[.val (.int p0), .val (.int p1), .val (.int p2), .val (.int o), .val (.ref b2), .val (.ref b40), .unset, .unset] [(.int (0 : Int32)), (.ref b40)])) t
    refine XS.aload X39.here hx rfl (hb hby at_97) rfl rfl ?_
    show Steps p.tables e below (T39.setTop (mkF m 99 #[.val (.int p0), .val (.int p1), .val (.int p2), .val (.int o), .val (.ref b2), .val (.ref b40), .unset, .unset] [(.ref b2), (.int (0 : Int32)), (.ref b40)])) t
    refine XS.iconst X39.here hx rfl (hb hby at_99) ?_
    exact k
  obtain ⟨cl47, cl47A, cl47q, cl47S, cl47N, cl47H, cl47G⟩ := id f44
  have cl47I : ¬ ((0 : Int32) < 0 ∨ cl47.slots.size ≤ ((0 : Int32)).toNatClampNeg) := inb_of cl47S ⟨by decide, by decide⟩
  have cl47T : cl47.slots[((0 : Int32)).toNatClampNeg]? = some (.int ((p2.toInt8.toInt32).toInt8.toInt32)) := cl47H.at cl47I rfl
  refine Goes.by (B := T39.setTop (mkF m 101 #[.val (.int p0), .val (.int p1), .val (.int p2), .val (.int o), .val (.ref b2), .val (.ref b40), .unset, .unset] [(.int ((p2.toInt8.toInt32).toInt8.toInt32)), (.int (0 : Int32)), (.ref b40)])) (fun t k => ?_) ?_
  · show Steps p.tables e below (T39.setTop (mkF m 100 #[.val (.int p0), .val (.int p1), .val (.int p2), .val (.int o), .val (.ref b2), .val (.ref b40), .unset, .unset] [(.int (0 : Int32)), (.ref b2), (.int (0 : Int32)), (.ref b40)])) t
    refine X39.baloadBytes hx (j := (0 : Int32)) (v := (.int ((p2.toInt8.toInt32).toInt8.toInt32))) (by rw [e39]; exact cl47A.1) (State.isArrayOf_alike hZ.alike cl47A.2.1) cl47A.2.2 cl47I cl47T (g := (mkF m 100 #[.val (.int p0), .val (.int p1), .val (.int p2), .val (.int o), .val (.ref b2), .val (.ref b40), .unset, .unset] [(.int (0 : Int32)), (.ref b2), (.int (0 : Int32)), (.ref b40)])) rfl rfl (hb hby at_100) _ ?_
    exact k
  obtain ⟨cl48, cl48A, cl48q, cl48S, cl48N, cl48H, cl48G⟩ := id f45
  have cl48I : ¬ ((0 : Int32) < 0 ∨ cl48.slots.size ≤ ((0 : Int32)).toNatClampNeg) := inb_of cl48S ⟨by decide, by decide⟩
  obtain ⟨T48, h48, X48, e48, W48, st48⟩ := stB X39 hx hZ e39 cl48A (j := (0 : Int32)) cl48I (g := (mkF m 101 #[.val (.int p0), .val (.int p1), .val (.int p2), .val (.int o), .val (.ref b2), .val (.ref b40), .unset, .unset] [(.int ((p2.toInt8.toInt32).toInt8.toInt32)), (.int (0 : Int32)), (.ref b40)])) rfl rfl (hb hby at_101)
  have f49 : Arv Z h48 b2 k1 .byte (8 : Int32) [(.int ((p2.toInt8.toInt32).toInt8.toInt32)), (.int (((p2 + (37 : Int32)).toInt8.toInt32).toInt8.toInt32)), (.int (((p2 + (74 : Int32)).toInt8.toInt32).toInt8.toInt32)), (.int (((p2 + (111 : Int32)).toInt8.toInt32).toInt8.toInt32)), (.int (((p2 + (148 : Int32)).toInt8.toInt32).toInt8.toInt32)), (.int (((p2 + (185 : Int32)).toInt8.toInt32).toInt8.toInt32)), (.int (((p2 + (222 : Int32)).toInt8.toInt32).toInt8.toInt32)), (.int (((p2 + (259 : Int32)).toInt8.toInt32).toInt8.toInt32))] (.int (0 : Int32)) := f44.other W48 ne41
  have f50 : Arv Z h48 b40 k39 .byte (8 : Int32) [(.int (((p2.toInt8.toInt32).toInt8.toInt32).toInt8.toInt32)), (.int (0 : Int32)), (.int (0 : Int32)), (.int (0 : Int32)), (.int (0 : Int32)), (.int (0 : Int32)), (.int (0 : Int32)), (.int (0 : Int32))] (.int (0 : Int32)) := Arv.set cl48A cl48q cl48S cl48N cl48H cl48G (fits_nar_byte _) W48 0 rfl (Nat.le_of_ble_eq_true rfl)
  have Kp48 : Keep h0 h48 [] := Kp39.wr W48 (Or.inr sz43)
  have Z51 : n0 ≤ h48.size := Nat.le_trans Z46 (Nat.le_of_eq W48.size.symm)
  have N52 := Fr.snoc X48 N38 ge42
  refine Goes.by st48 ?_
  clear f44 f45 X39 N38 Z46 Kp39 e39
  show Goes p.tables e below _ (T48.setTop (mkF m 102 #[.val (.int p0), .val (.int p1), .val (.int p2), .val (.int o), .val (.ref b2), .val (.ref b40), .unset, .unset] []))
  refine Goes.by (B := T48.setTop (mkF m 108 #[.val (.int p0), .val (.int p1), .val (.int p2), .val (.int o), .val (.ref b2), .val (.ref b40), .unset, .unset] [(.int (1 : Int32)), (.ref b2), (.int (1 : Int32)), (.ref b40)])) (fun t k => ?_) ?_
  · show Steps p.tables e below (T48.setTop (mkF m 102 #[.val (.int p0), .val (.int p1), .val (.int p2), .val (.int o), .val (.ref b2), .val (.ref b40), .unset, .unset] [])) t
    refine XS.aload X48.here hx rfl (hb hby at_102) rfl rfl ?_
    show Steps p.tables e below (T48.setTop (mkF m 104 #[.val (.int p0), .val (.int p1), .val (.int p2), .val (.int o), .val (.ref b2), .val (.ref b40), .unset, .unset] [(.ref b40)])) t
    refine XS.iconst X48.here hx rfl (hb hby at_104) ?_
    show Steps p.tables e below (T48.setTop (mkF m 105 #[.val (.int p0), .val (.int p1), .val (.int p2), .val (.int o), .val (.ref b2), .val (.ref b40), .unset, .unset] [(.int (1 : Int32)), (.ref b40)])) t
    refine XS.aload X48.here hx rfl (hb hby at_105) rfl rfl ?_
    show Steps p.tables e below (T48.setTop (mkF m 107 #[.val (.int p0), .val (.int p1), .val (.int p2), .val (.int o), .val (.ref b2), .val (.ref b40), .unset, .unset] [(.ref b2), (.int (1 : Int32)), (.ref b40)])) t
    refine XS.iconst X48.here hx rfl (hb hby at_107) ?_
    exact k
  obtain ⟨cl53, cl53A, cl53q, cl53S, cl53N, cl53H, cl53G⟩ := id f49
  have cl53I : ¬ ((1 : Int32) < 0 ∨ cl53.slots.size ≤ ((1 : Int32)).toNatClampNeg) := inb_of cl53S ⟨by decide, by decide⟩
  have cl53T : cl53.slots[((1 : Int32)).toNatClampNeg]? = some (.int (((p2 + (37 : Int32)).toInt8.toInt32).toInt8.toInt32)) := cl53H.at cl53I rfl
  refine Goes.by (B := T48.setTop (mkF m 109 #[.val (.int p0), .val (.int p1), .val (.int p2), .val (.int o), .val (.ref b2), .val (.ref b40), .unset, .unset] [(.int (((p2 + (37 : Int32)).toInt8.toInt32).toInt8.toInt32)), (.int (1 : Int32)), (.ref b40)])) (fun t k => ?_) ?_
  · show Steps p.tables e below (T48.setTop (mkF m 108 #[.val (.int p0), .val (.int p1), .val (.int p2), .val (.int o), .val (.ref b2), .val (.ref b40), .unset, .unset] [(.int (1 : Int32)), (.ref b2), (.int (1 : Int32)), (.ref b40)])) t
    refine X48.baloadBytes hx (j := (1 : Int32)) (v := (.int (((p2 + (37 : Int32)).toInt8.toInt32).toInt8.toInt32))) (by rw [e48]; exact cl53A.1) (State.isArrayOf_alike hZ.alike cl53A.2.1) cl53A.2.2 cl53I cl53T (g := (mkF m 108 #[.val (.int p0), .val (.int p1), .val (.int p2), .val (.int o), .val (.ref b2), .val (.ref b40), .unset, .unset] [(.int (1 : Int32)), (.ref b2), (.int (1 : Int32)), (.ref b40)])) rfl rfl (hb hby at_108) _ ?_
    exact k
  obtain ⟨cl54, cl54A, cl54q, cl54S, cl54N, cl54H, cl54G⟩ := id f50
  have cl54I : ¬ ((1 : Int32) < 0 ∨ cl54.slots.size ≤ ((1 : Int32)).toNatClampNeg) := inb_of cl54S ⟨by decide, by decide⟩
  obtain ⟨T54, h54, X54, e54, W54, st54⟩ := stB X48 hx hZ e48 cl54A (j := (1 : Int32)) cl54I (g := (mkF m 109 #[.val (.int p0), .val (.int p1), .val (.int p2), .val (.int o), .val (.ref b2), .val (.ref b40), .unset, .unset] [(.int (((p2 + (37 : Int32)).toInt8.toInt32).toInt8.toInt32)), (.int (1 : Int32)), (.ref b40)])) rfl rfl (hb hby at_109)
  have f55 : Arv Z h54 b2 k1 .byte (8 : Int32) [(.int ((p2.toInt8.toInt32).toInt8.toInt32)), (.int (((p2 + (37 : Int32)).toInt8.toInt32).toInt8.toInt32)), (.int (((p2 + (74 : Int32)).toInt8.toInt32).toInt8.toInt32)), (.int (((p2 + (111 : Int32)).toInt8.toInt32).toInt8.toInt32)), (.int (((p2 + (148 : Int32)).toInt8.toInt32).toInt8.toInt32)), (.int (((p2 + (185 : Int32)).toInt8.toInt32).toInt8.toInt32)), (.int (((p2 + (222 : Int32)).toInt8.toInt32).toInt8.toInt32)), (.int (((p2 + (259 : Int32)).toInt8.toInt32).toInt8.toInt32))] (.int (0 : Int32)) := f49.other W54 ne41
  have f56 : Arv Z h54 b40 k39 .byte (8 : Int32) [(.int (((p2.toInt8.toInt32).toInt8.toInt32).toInt8.toInt32)), (.int ((((p2 + (37 : Int32)).toInt8.toInt32).toInt8.toInt32).toInt8.toInt32)), (.int (0 : Int32)), (.int (0 : Int32)), (.int (0 : Int32)), (.int (0 : Int32)), (.int (0 : Int32)), (.int (0 : Int32))] (.int (0 : Int32)) := Arv.set cl54A cl54q cl54S cl54N cl54H cl54G (fits_nar_byte _) W54 1 rfl (Nat.le_of_ble_eq_true rfl)
  have Kp54 : Keep h0 h54 [] := Kp48.wr W54 (Or.inr sz43)
  have Z57 : n0 ≤ h54.size := Nat.le_trans Z51 (Nat.le_of_eq W54.size.symm)
  have N58 := Fr.snoc X54 N52 ge42
  refine Goes.by st54 ?_
  clear f49 f50 X48 N52 Z51 Kp48 e48
  show Goes p.tables e below _ (T54.setTop (mkF m 110 #[.val (.int p0), .val (.int p1), .val (.int p2), .val (.int o), .val (.ref b2), .val (.ref b40), .unset, .unset] []))
  refine Goes.by (B := T54.setTop (mkF m 116 #[.val (.int p0), .val (.int p1), .val (.int p2), .val (.int o), .val (.ref b2), .val (.ref b40), .unset, .unset] [(.int (2 : Int32)), (.ref b2), (.int (2 : Int32)), (.ref b40)])) (fun t k => ?_) ?_
  · show Steps p.tables e below (T54.setTop (mkF m 110 #[.val (.int p0), .val (.int p1), .val (.int p2), .val (.int o), .val (.ref b2), .val (.ref b40), .unset, .unset] [])) t
    refine XS.aload X54.here hx rfl (hb hby at_110) rfl rfl ?_
    show Steps p.tables e below (T54.setTop (mkF m 112 #[.val (.int p0), .val (.int p1), .val (.int p2), .val (.int o), .val (.ref b2), .val (.ref b40), .unset, .unset] [(.ref b40)])) t
    refine XS.iconst X54.here hx rfl (hb hby at_112) ?_
    show Steps p.tables e below (T54.setTop (mkF m 113 #[.val (.int p0), .val (.int p1), .val (.int p2), .val (.int o), .val (.ref b2), .val (.ref b40), .unset, .unset] [(.int (2 : Int32)), (.ref b40)])) t
    refine XS.aload X54.here hx rfl (hb hby at_113) rfl rfl ?_
    show Steps p.tables e below (T54.setTop (mkF m 115 #[.val (.int p0), .val (.int p1), .val (.int p2), .val (.int o), .val (.ref b2), .val (.ref b40), .unset, .unset] [(.ref b2), (.int (2 : Int32)), (.ref b40)])) t
    refine XS.iconst X54.here hx rfl (hb hby at_115) ?_
    exact k
  obtain ⟨cl59, cl59A, cl59q, cl59S, cl59N, cl59H, cl59G⟩ := id f55
  have cl59I : ¬ ((2 : Int32) < 0 ∨ cl59.slots.size ≤ ((2 : Int32)).toNatClampNeg) := inb_of cl59S ⟨by decide, by decide⟩
  have cl59T : cl59.slots[((2 : Int32)).toNatClampNeg]? = some (.int (((p2 + (74 : Int32)).toInt8.toInt32).toInt8.toInt32)) := cl59H.at cl59I rfl
  refine Goes.by (B := T54.setTop (mkF m 117 #[.val (.int p0), .val (.int p1), .val (.int p2), .val (.int o), .val (.ref b2), .val (.ref b40), .unset, .unset] [(.int (((p2 + (74 : Int32)).toInt8.toInt32).toInt8.toInt32)), (.int (2 : Int32)), (.ref b40)])) (fun t k => ?_) ?_
  · show Steps p.tables e below (T54.setTop (mkF m 116 #[.val (.int p0), .val (.int p1), .val (.int p2), .val (.int o), .val (.ref b2), .val (.ref b40), .unset, .unset] [(.int (2 : Int32)), (.ref b2), (.int (2 : Int32)), (.ref b40)])) t
    refine X54.baloadBytes hx (j := (2 : Int32)) (v := (.int (((p2 + (74 : Int32)).toInt8.toInt32).toInt8.toInt32))) (by rw [e54]; exact cl59A.1) (State.isArrayOf_alike hZ.alike cl59A.2.1) cl59A.2.2 cl59I cl59T (g := (mkF m 116 #[.val (.int p0), .val (.int p1), .val (.int p2), .val (.int o), .val (.ref b2), .val (.ref b40), .unset, .unset] [(.int (2 : Int32)), (.ref b2), (.int (2 : Int32)), (.ref b40)])) rfl rfl (hb hby at_116) _ ?_
    exact k
  obtain ⟨cl60, cl60A, cl60q, cl60S, cl60N, cl60H, cl60G⟩ := id f56
  have cl60I : ¬ ((2 : Int32) < 0 ∨ cl60.slots.size ≤ ((2 : Int32)).toNatClampNeg) := inb_of cl60S ⟨by decide, by decide⟩
  obtain ⟨T60, h60, X60, e60, W60, st60⟩ := stB X54 hx hZ e54 cl60A (j := (2 : Int32)) cl60I (g := (mkF m 117 #[.val (.int p0), .val (.int p1), .val (.int p2), .val (.int o), .val (.ref b2), .val (.ref b40), .unset, .unset] [(.int (((p2 + (74 : Int32)).toInt8.toInt32).toInt8.toInt32)), (.int (2 : Int32)), (.ref b40)])) rfl rfl (hb hby at_117)
  have f61 : Arv Z h60 b2 k1 .byte (8 : Int32) [(.int ((p2.toInt8.toInt32).toInt8.toInt32)), (.int (((p2 + (37 : Int32)).toInt8.toInt32).toInt8.toInt32)), (.int (((p2 + (74 : Int32)).toInt8.toInt32).toInt8.toInt32)), (.int (((p2 + (111 : Int32)).toInt8.toInt32).toInt8.toInt32)), (.int (((p2 + (148 : Int32)).toInt8.toInt32).toInt8.toInt32)), (.int (((p2 + (185 : Int32)).toInt8.toInt32).toInt8.toInt32)), (.int (((p2 + (222 : Int32)).toInt8.toInt32).toInt8.toInt32)), (.int (((p2 + (259 : Int32)).toInt8.toInt32).toInt8.toInt32))] (.int (0 : Int32)) := f55.other W60 ne41
  have f62 : Arv Z h60 b40 k39 .byte (8 : Int32) [(.int (((p2.toInt8.toInt32).toInt8.toInt32).toInt8.toInt32)), (.int ((((p2 + (37 : Int32)).toInt8.toInt32).toInt8.toInt32).toInt8.toInt32)), (.int ((((p2 + (74 : Int32)).toInt8.toInt32).toInt8.toInt32).toInt8.toInt32)), (.int (0 : Int32)), (.int (0 : Int32)), (.int (0 : Int32)), (.int (0 : Int32)), (.int (0 : Int32))] (.int (0 : Int32)) := Arv.set cl60A cl60q cl60S cl60N cl60H cl60G (fits_nar_byte _) W60 2 rfl (Nat.le_of_ble_eq_true rfl)
  have Kp60 : Keep h0 h60 [] := Kp54.wr W60 (Or.inr sz43)
  have Z63 : n0 ≤ h60.size := Nat.le_trans Z57 (Nat.le_of_eq W60.size.symm)
  have N64 := Fr.snoc X60 N58 ge42
  refine Goes.by st60 ?_
  clear f55 f56 X54 N58 Z57 Kp54 e54
  show Goes p.tables e below _ (T60.setTop (mkF m 118 #[.val (.int p0), .val (.int p1), .val (.int p2), .val (.int o), .val (.ref b2), .val (.ref b40), .unset, .unset] []))
  refine Goes.by (B := T60.setTop (mkF m 124 #[.val (.int p0), .val (.int p1), .val (.int p2), .val (.int o), .val (.ref b2), .val (.ref b40), .unset, .unset] [(.int (3 : Int32)), (.ref b2), (.int (3 : Int32)), (.ref b40)])) (fun t k => ?_) ?_
  · show Steps p.tables e below (T60.setTop (mkF m 118 #[.val (.int p0), .val (.int p1), .val (.int p2), .val (.int o), .val (.ref b2), .val (.ref b40), .unset, .unset] [])) t
    refine XS.aload X60.here hx rfl (hb hby at_118) rfl rfl ?_
    show Steps p.tables e below (T60.setTop (mkF m 120 #[.val (.int p0), .val (.int p1), .val (.int p2), .val (.int o), .val (.ref b2), .val (.ref b40), .unset, .unset] [(.ref b40)])) t
    refine XS.iconst X60.here hx rfl (hb hby at_120) ?_
    show Steps p.tables e below (T60.setTop (mkF m 121 #[.val (.int p0), .val (.int p1), .val (.int p2), .val (.int o), .val (.ref b2), .val (.ref b40), .unset, .unset] [(.int (3 : Int32)), (.ref b40)])) t
    refine XS.aload X60.here hx rfl (hb hby at_121) rfl rfl ?_
    show Steps p.tables e below (T60.setTop (mkF m 123 #[.val (.int p0), .val (.int p1), .val (.int p2), .val (.int o), .val (.ref b2), .val (.ref b40), .unset, .unset] [(.ref b2), (.int (3 : Int32)), (.ref b40)])) t
    refine XS.iconst X60.here hx rfl (hb hby at_123) ?_
    exact k
  obtain ⟨cl65, cl65A, cl65q, cl65S, cl65N, cl65H, cl65G⟩ := id f61
  have cl65I : ¬ ((3 : Int32) < 0 ∨ cl65.slots.size ≤ ((3 : Int32)).toNatClampNeg) := inb_of cl65S ⟨by decide, by decide⟩
  have cl65T : cl65.slots[((3 : Int32)).toNatClampNeg]? = some (.int (((p2 + (111 : Int32)).toInt8.toInt32).toInt8.toInt32)) := cl65H.at cl65I rfl
  refine Goes.by (B := T60.setTop (mkF m 125 #[.val (.int p0), .val (.int p1), .val (.int p2), .val (.int o), .val (.ref b2), .val (.ref b40), .unset, .unset] [(.int (((p2 + (111 : Int32)).toInt8.toInt32).toInt8.toInt32)), (.int (3 : Int32)), (.ref b40)])) (fun t k => ?_) ?_
  · show Steps p.tables e below (T60.setTop (mkF m 124 #[.val (.int p0), .val (.int p1), .val (.int p2), .val (.int o), .val (.ref b2), .val (.ref b40), .unset, .unset] [(.int (3 : Int32)), (.ref b2), (.int (3 : Int32)), (.ref b40)])) t
    refine X60.baloadBytes hx (j := (3 : Int32)) (v := (.int (((p2 + (111 : Int32)).toInt8.toInt32).toInt8.toInt32))) (by rw [e60]; exact cl65A.1) (State.isArrayOf_alike hZ.alike cl65A.2.1) cl65A.2.2 cl65I cl65T (g := (mkF m 124 #[.val (.int p0), .val (.int p1), .val (.int p2), .val (.int o), .val (.ref b2), .val (.ref b40), .unset, .unset] [(.int (3 : Int32)), (.ref b2), (.int (3 : Int32)), (.ref b40)])) rfl rfl (hb hby at_124) _ ?_
    exact k
  obtain ⟨cl66, cl66A, cl66q, cl66S, cl66N, cl66H, cl66G⟩ := id f62
  have cl66I : ¬ ((3 : Int32) < 0 ∨ cl66.slots.size ≤ ((3 : Int32)).toNatClampNeg) := inb_of cl66S ⟨by decide, by decide⟩
  obtain ⟨T66, h66, X66, e66, W66, st66⟩ := stB X60 hx hZ e60 cl66A (j := (3 : Int32)) cl66I (g := (mkF m 125 #[.val (.int p0), .val (.int p1), .val (.int p2), .val (.int o), .val (.ref b2), .val (.ref b40), .unset, .unset] [(.int (((p2 + (111 : Int32)).toInt8.toInt32).toInt8.toInt32)), (.int (3 : Int32)), (.ref b40)])) rfl rfl (hb hby at_125)
  have f67 : Arv Z h66 b2 k1 .byte (8 : Int32) [(.int ((p2.toInt8.toInt32).toInt8.toInt32)), (.int (((p2 + (37 : Int32)).toInt8.toInt32).toInt8.toInt32)), (.int (((p2 + (74 : Int32)).toInt8.toInt32).toInt8.toInt32)), (.int (((p2 + (111 : Int32)).toInt8.toInt32).toInt8.toInt32)), (.int (((p2 + (148 : Int32)).toInt8.toInt32).toInt8.toInt32)), (.int (((p2 + (185 : Int32)).toInt8.toInt32).toInt8.toInt32)), (.int (((p2 + (222 : Int32)).toInt8.toInt32).toInt8.toInt32)), (.int (((p2 + (259 : Int32)).toInt8.toInt32).toInt8.toInt32))] (.int (0 : Int32)) := f61.other W66 ne41
  have f68 : Arv Z h66 b40 k39 .byte (8 : Int32) [(.int (((p2.toInt8.toInt32).toInt8.toInt32).toInt8.toInt32)), (.int ((((p2 + (37 : Int32)).toInt8.toInt32).toInt8.toInt32).toInt8.toInt32)), (.int ((((p2 + (74 : Int32)).toInt8.toInt32).toInt8.toInt32).toInt8.toInt32)), (.int ((((p2 + (111 : Int32)).toInt8.toInt32).toInt8.toInt32).toInt8.toInt32)), (.int (0 : Int32)), (.int (0 : Int32)), (.int (0 : Int32)), (.int (0 : Int32))] (.int (0 : Int32)) := Arv.set cl66A cl66q cl66S cl66N cl66H cl66G (fits_nar_byte _) W66 3 rfl (Nat.le_of_ble_eq_true rfl)
  have Kp66 : Keep h0 h66 [] := Kp60.wr W66 (Or.inr sz43)
  have Z69 : n0 ≤ h66.size := Nat.le_trans Z63 (Nat.le_of_eq W66.size.symm)
  have N70 := Fr.snoc X66 N64 ge42
  refine Goes.by st66 ?_
  clear f61 f62 X60 N64 Z63 Kp60 e60
  show Goes p.tables e below _ (T66.setTop (mkF m 126 #[.val (.int p0), .val (.int p1), .val (.int p2), .val (.int o), .val (.ref b2), .val (.ref b40), .unset, .unset] []))
  refine Goes.by (B := T66.setTop (mkF m 132 #[.val (.int p0), .val (.int p1), .val (.int p2), .val (.int o), .val (.ref b2), .val (.ref b40), .unset, .unset] [(.int (4 : Int32)), (.ref b2), (.int (4 : Int32)), (.ref b40)])) (fun t k => ?_) ?_
  · show Steps p.tables e below (T66.setTop (mkF m 126 #[.val (.int p0), .val (.int p1), .val (.int p2), .val (.int o), .val (.ref b2), .val (.ref b40), .unset, .unset] [])) t
    refine XS.aload X66.here hx rfl (hb hby at_126) rfl rfl ?_
    show Steps p.tables e below (T66.setTop (mkF m 128 #[.val (.int p0), .val (.int p1), .val (.int p2), .val (.int o), .val (.ref b2), .val (.ref b40), .unset, .unset] [(.ref b40)])) t
    refine XS.iconst X66.here hx rfl (hb hby at_128) ?_
    show Steps p.tables e below (T66.setTop (mkF m 129 #[.val (.int p0), .val (.int p1), .val (.int p2), .val (.int o), .val (.ref b2), .val (.ref b40), .unset, .unset] [(.int (4 : Int32)), (.ref b40)])) t
    refine XS.aload X66.here hx rfl (hb hby at_129) rfl rfl ?_
    show Steps p.tables e below (T66.setTop (mkF m 131 #[.val (.int p0), .val (.int p1), .val (.int p2), .val (.int o), .val (.ref b2), .val (.ref b40), .unset, .unset] [(.ref b2), (.int (4 : Int32)), (.ref b40)])) t
    refine XS.iconst X66.here hx rfl (hb hby at_131) ?_
    exact k
  obtain ⟨cl71, cl71A, cl71q, cl71S, cl71N, cl71H, cl71G⟩ := id f67
  have cl71I : ¬ ((4 : Int32) < 0 ∨ cl71.slots.size ≤ ((4 : Int32)).toNatClampNeg) := inb_of cl71S ⟨by decide, by decide⟩
  have cl71T : cl71.slots[((4 : Int32)).toNatClampNeg]? = some (.int (((p2 + (148 : Int32)).toInt8.toInt32).toInt8.toInt32)) := cl71H.at cl71I rfl
  refine Goes.by (B := T66.setTop (mkF m 133 #[.val (.int p0), .val (.int p1), .val (.int p2), .val (.int o), .val (.ref b2), .val (.ref b40), .unset, .unset] [(.int (((p2 + (148 : Int32)).toInt8.toInt32).toInt8.toInt32)), (.int (4 : Int32)), (.ref b40)])) (fun t k => ?_) ?_
  · show Steps p.tables e below (T66.setTop (mkF m 132 #[.val (.int p0), .val (.int p1), .val (.int p2), .val (.int o), .val (.ref b2), .val (.ref b40), .unset, .unset] [(.int (4 : Int32)), (.ref b2), (.int (4 : Int32)), (.ref b40)])) t
    refine X66.baloadBytes hx (j := (4 : Int32)) (v := (.int (((p2 + (148 : Int32)).toInt8.toInt32).toInt8.toInt32))) (by rw [e66]; exact cl71A.1) (State.isArrayOf_alike hZ.alike cl71A.2.1) cl71A.2.2 cl71I cl71T (g := (mkF m 132 #[.val (.int p0), .val (.int p1), .val (.int p2), .val (.int o), .val (.ref b2), .val (.ref b40), .unset, .unset] [(.int (4 : Int32)), (.ref b2), (.int (4 : Int32)), (.ref b40)])) rfl rfl (hb hby at_132) _ ?_
    exact k
  obtain ⟨cl72, cl72A, cl72q, cl72S, cl72N, cl72H, cl72G⟩ := id f68
  have cl72I : ¬ ((4 : Int32) < 0 ∨ cl72.slots.size ≤ ((4 : Int32)).toNatClampNeg) := inb_of cl72S ⟨by decide, by decide⟩
  obtain ⟨T72, h72, X72, e72, W72, st72⟩ := stB X66 hx hZ e66 cl72A (j := (4 : Int32)) cl72I (g := (mkF m 133 #[.val (.int p0), .val (.int p1), .val (.int p2), .val (.int o), .val (.ref b2), .val (.ref b40), .unset, .unset] [(.int (((p2 + (148 : Int32)).toInt8.toInt32).toInt8.toInt32)), (.int (4 : Int32)), (.ref b40)])) rfl rfl (hb hby at_133)
  have f73 : Arv Z h72 b2 k1 .byte (8 : Int32) [(.int ((p2.toInt8.toInt32).toInt8.toInt32)), (.int (((p2 + (37 : Int32)).toInt8.toInt32).toInt8.toInt32)), (.int (((p2 + (74 : Int32)).toInt8.toInt32).toInt8.toInt32)), (.int (((p2 + (111 : Int32)).toInt8.toInt32).toInt8.toInt32)), (.int (((p2 + (148 : Int32)).toInt8.toInt32).toInt8.toInt32)), (.int (((p2 + (185 : Int32)).toInt8.toInt32).toInt8.toInt32)), (.int (((p2 + (222 : Int32)).toInt8.toInt32).toInt8.toInt32)), (.int (((p2 + (259 : Int32)).toInt8.toInt32).toInt8.toInt32))] (.int (0 : Int32)) := f67.other W72 ne41
  have f74 : Arv Z h72 b40 k39 .byte (8 : Int32) [(.int (((p2.toInt8.toInt32).toInt8.toInt32).toInt8.toInt32)), (.int ((((p2 + (37 : Int32)).toInt8.toInt32).toInt8.toInt32).toInt8.toInt32)), (.int ((((p2 + (74 : Int32)).toInt8.toInt32).toInt8.toInt32).toInt8.toInt32)), (.int ((((p2 + (111 : Int32)).toInt8.toInt32).toInt8.toInt32).toInt8.toInt32)), (.int ((((p2 + (148 : Int32)).toInt8.toInt32).toInt8.toInt32).toInt8.toInt32)), (.int (0 : Int32)), (.int (0 : Int32)), (.int (0 : Int32))] (.int (0 : Int32)) := Arv.set cl72A cl72q cl72S cl72N cl72H cl72G (fits_nar_byte _) W72 4 rfl (Nat.le_of_ble_eq_true rfl)
  have Kp72 : Keep h0 h72 [] := Kp66.wr W72 (Or.inr sz43)
  have Z75 : n0 ≤ h72.size := Nat.le_trans Z69 (Nat.le_of_eq W72.size.symm)
  have N76 := Fr.snoc X72 N70 ge42
  refine Goes.by st72 ?_
  clear f67 f68 X66 N70 Z69 Kp66 e66
  show Goes p.tables e below _ (T72.setTop (mkF m 134 #[.val (.int p0), .val (.int p1), .val (.int p2), .val (.int o), .val (.ref b2), .val (.ref b40), .unset, .unset] []))
  refine Goes.by (B := T72.setTop (mkF m 140 #[.val (.int p0), .val (.int p1), .val (.int p2), .val (.int o), .val (.ref b2), .val (.ref b40), .unset, .unset] [(.int (5 : Int32)), (.ref b2), (.int (5 : Int32)), (.ref b40)])) (fun t k => ?_) ?_
  · show Steps p.tables e below (T72.setTop (mkF m 134 #[.val (.int p0), .val (.int p1), .val (.int p2), .val (.int o), .val (.ref b2), .val (.ref b40), .unset, .unset] [])) t
    refine XS.aload X72.here hx rfl (hb hby at_134) rfl rfl ?_
    show Steps p.tables e below (T72.setTop (mkF m 136 #[.val (.int p0), .val (.int p1), .val (.int p2), .val (.int o), .val (.ref b2), .val (.ref b40), .unset, .unset] [(.ref b40)])) t
    refine XS.iconst X72.here hx rfl (hb hby at_136) ?_
    show Steps p.tables e below (T72.setTop (mkF m 137 #[.val (.int p0), .val (.int p1), .val (.int p2), .val (.int o), .val (.ref b2), .val (.ref b40), .unset, .unset] [(.int (5 : Int32)), (.ref b40)])) t
    refine XS.aload X72.here hx rfl (hb hby at_137) rfl rfl ?_
    show Steps p.tables e below (T72.setTop (mkF m 139 #[.val (.int p0), .val (.int p1), .val (.int p2), .val (.int o), .val (.ref b2), .val (.ref b40), .unset, .unset] [(.ref b2), (.int (5 : Int32)), (.ref b40)])) t
    refine XS.iconst X72.here hx rfl (hb hby at_139) ?_
    exact k
  obtain ⟨cl77, cl77A, cl77q, cl77S, cl77N, cl77H, cl77G⟩ := id f73
  have cl77I : ¬ ((5 : Int32) < 0 ∨ cl77.slots.size ≤ ((5 : Int32)).toNatClampNeg) := inb_of cl77S ⟨by decide, by decide⟩
  have cl77T : cl77.slots[((5 : Int32)).toNatClampNeg]? = some (.int (((p2 + (185 : Int32)).toInt8.toInt32).toInt8.toInt32)) := cl77H.at cl77I rfl
  refine Goes.by (B := T72.setTop (mkF m 141 #[.val (.int p0), .val (.int p1), .val (.int p2), .val (.int o), .val (.ref b2), .val (.ref b40), .unset, .unset] [(.int (((p2 + (185 : Int32)).toInt8.toInt32).toInt8.toInt32)), (.int (5 : Int32)), (.ref b40)])) (fun t k => ?_) ?_
  · show Steps p.tables e below (T72.setTop (mkF m 140 #[.val (.int p0), .val (.int p1), .val (.int p2), .val (.int o), .val (.ref b2), .val (.ref b40), .unset, .unset] [(.int (5 : Int32)), (.ref b2), (.int (5 : Int32)), (.ref b40)])) t
    refine X72.baloadBytes hx (j := (5 : Int32)) (v := (.int (((p2 + (185 : Int32)).toInt8.toInt32).toInt8.toInt32))) (by rw [e72]; exact cl77A.1) (State.isArrayOf_alike hZ.alike cl77A.2.1) cl77A.2.2 cl77I cl77T (g := (mkF m 140 #[.val (.int p0), .val (.int p1), .val (.int p2), .val (.int o), .val (.ref b2), .val (.ref b40), .unset, .unset] [(.int (5 : Int32)), (.ref b2), (.int (5 : Int32)), (.ref b40)])) rfl rfl (hb hby at_140) _ ?_
    exact k
  obtain ⟨cl78, cl78A, cl78q, cl78S, cl78N, cl78H, cl78G⟩ := id f74
  have cl78I : ¬ ((5 : Int32) < 0 ∨ cl78.slots.size ≤ ((5 : Int32)).toNatClampNeg) := inb_of cl78S ⟨by decide, by decide⟩
  obtain ⟨T78, h78, X78, e78, W78, st78⟩ := stB X72 hx hZ e72 cl78A (j := (5 : Int32)) cl78I (g := (mkF m 141 #[.val (.int p0), .val (.int p1), .val (.int p2), .val (.int o), .val (.ref b2), .val (.ref b40), .unset, .unset] [(.int (((p2 + (185 : Int32)).toInt8.toInt32).toInt8.toInt32)), (.int (5 : Int32)), (.ref b40)])) rfl rfl (hb hby at_141)
  have f79 : Arv Z h78 b2 k1 .byte (8 : Int32) [(.int ((p2.toInt8.toInt32).toInt8.toInt32)), (.int (((p2 + (37 : Int32)).toInt8.toInt32).toInt8.toInt32)), (.int (((p2 + (74 : Int32)).toInt8.toInt32).toInt8.toInt32)), (.int (((p2 + (111 : Int32)).toInt8.toInt32).toInt8.toInt32)), (.int (((p2 + (148 : Int32)).toInt8.toInt32).toInt8.toInt32)), (.int (((p2 + (185 : Int32)).toInt8.toInt32).toInt8.toInt32)), (.int (((p2 + (222 : Int32)).toInt8.toInt32).toInt8.toInt32)), (.int (((p2 + (259 : Int32)).toInt8.toInt32).toInt8.toInt32))] (.int (0 : Int32)) := f73.other W78 ne41
  have f80 : Arv Z h78 b40 k39 .byte (8 : Int32) [(.int (((p2.toInt8.toInt32).toInt8.toInt32).toInt8.toInt32)), (.int ((((p2 + (37 : Int32)).toInt8.toInt32).toInt8.toInt32).toInt8.toInt32)), (.int ((((p2 + (74 : Int32)).toInt8.toInt32).toInt8.toInt32).toInt8.toInt32)), (.int ((((p2 + (111 : Int32)).toInt8.toInt32).toInt8.toInt32).toInt8.toInt32)), (.int ((((p2 + (148 : Int32)).toInt8.toInt32).toInt8.toInt32).toInt8.toInt32)), (.int ((((p2 + (185 : Int32)).toInt8.toInt32).toInt8.toInt32).toInt8.toInt32)), (.int (0 : Int32)), (.int (0 : Int32))] (.int (0 : Int32)) := Arv.set cl78A cl78q cl78S cl78N cl78H cl78G (fits_nar_byte _) W78 5 rfl (Nat.le_of_ble_eq_true rfl)
  have Kp78 : Keep h0 h78 [] := Kp72.wr W78 (Or.inr sz43)
  have Z81 : n0 ≤ h78.size := Nat.le_trans Z75 (Nat.le_of_eq W78.size.symm)
  have N82 := Fr.snoc X78 N76 ge42
  refine Goes.by st78 ?_
  clear f73 f74 X72 N76 Z75 Kp72 e72
  show Goes p.tables e below _ (T78.setTop (mkF m 142 #[.val (.int p0), .val (.int p1), .val (.int p2), .val (.int o), .val (.ref b2), .val (.ref b40), .unset, .unset] []))
  refine Goes.by (B := T78.setTop (mkF m 150 #[.val (.int p0), .val (.int p1), .val (.int p2), .val (.int o), .val (.ref b2), .val (.ref b40), .unset, .unset] [(.int (6 : Int32)), (.ref b2), (.int (6 : Int32)), (.ref b40)])) (fun t k => ?_) ?_
  · show Steps p.tables e below (T78.setTop (mkF m 142 #[.val (.int p0), .val (.int p1), .val (.int p2), .val (.int o), .val (.ref b2), .val (.ref b40), .unset, .unset] [])) t
    refine XS.aload X78.here hx rfl (hb hby at_142) rfl rfl ?_
    show Steps p.tables e below (T78.setTop (mkF m 144 #[.val (.int p0), .val (.int p1), .val (.int p2), .val (.int o), .val (.ref b2), .val (.ref b40), .unset, .unset] [(.ref b40)])) t
    refine XS.bipush X78.here hx rfl (hb hby at_144) ?_
    show Steps p.tables e below (T78.setTop (mkF m 146 #[.val (.int p0), .val (.int p1), .val (.int p2), .val (.int o), .val (.ref b2), .val (.ref b40), .unset, .unset] [(.int (6 : Int32)), (.ref b40)])) t
    refine XS.aload X78.here hx rfl (hb hby at_146) rfl rfl ?_
    show Steps p.tables e below (T78.setTop (mkF m 148 #[.val (.int p0), .val (.int p1), .val (.int p2), .val (.int o), .val (.ref b2), .val (.ref b40), .unset, .unset] [(.ref b2), (.int (6 : Int32)), (.ref b40)])) t
    refine XS.bipush X78.here hx rfl (hb hby at_148) ?_
    exact k
  obtain ⟨cl83, cl83A, cl83q, cl83S, cl83N, cl83H, cl83G⟩ := id f79
  have cl83I : ¬ ((6 : Int32) < 0 ∨ cl83.slots.size ≤ ((6 : Int32)).toNatClampNeg) := inb_of cl83S ⟨by decide, by decide⟩
  have cl83T : cl83.slots[((6 : Int32)).toNatClampNeg]? = some (.int (((p2 + (222 : Int32)).toInt8.toInt32).toInt8.toInt32)) := cl83H.at cl83I rfl
  refine Goes.by (B := T78.setTop (mkF m 151 #[.val (.int p0), .val (.int p1), .val (.int p2), .val (.int o), .val (.ref b2), .val (.ref b40), .unset, .unset] [(.int (((p2 + (222 : Int32)).toInt8.toInt32).toInt8.toInt32)), (.int (6 : Int32)), (.ref b40)])) (fun t k => ?_) ?_
  · show Steps p.tables e below (T78.setTop (mkF m 150 #[.val (.int p0), .val (.int p1), .val (.int p2), .val (.int o), .val (.ref b2), .val (.ref b40), .unset, .unset] [(.int (6 : Int32)), (.ref b2), (.int (6 : Int32)), (.ref b40)])) t
    refine X78.baloadBytes hx (j := (6 : Int32)) (v := (.int (((p2 + (222 : Int32)).toInt8.toInt32).toInt8.toInt32))) (by rw [e78]; exact cl83A.1) (State.isArrayOf_alike hZ.alike cl83A.2.1) cl83A.2.2 cl83I cl83T (g := (mkF m 150 #[.val (.int p0), .val (.int p1), .val (.int p2), .val (.int o), .val (.ref b2), .val (.ref b40), .unset, .unset] [(.int (6 : Int32)), (.ref b2), (.int (6 : Int32)), (.ref b40)])) rfl rfl (hb hby at_150) _ ?_
    exact k
  obtain ⟨cl84, cl84A, cl84q, cl84S, cl84N, cl84H, cl84G⟩ := id f80
  have cl84I : ¬ ((6 : Int32) < 0 ∨ cl84.slots.size ≤ ((6 : Int32)).toNatClampNeg) := inb_of cl84S ⟨by decide, by decide⟩
  obtain ⟨T84, h84, X84, e84, W84, st84⟩ := stB X78 hx hZ e78 cl84A (j := (6 : Int32)) cl84I (g := (mkF m 151 #[.val (.int p0), .val (.int p1), .val (.int p2), .val (.int o), .val (.ref b2), .val (.ref b40), .unset, .unset] [(.int (((p2 + (222 : Int32)).toInt8.toInt32).toInt8.toInt32)), (.int (6 : Int32)), (.ref b40)])) rfl rfl (hb hby at_151)
  have f85 : Arv Z h84 b2 k1 .byte (8 : Int32) [(.int ((p2.toInt8.toInt32).toInt8.toInt32)), (.int (((p2 + (37 : Int32)).toInt8.toInt32).toInt8.toInt32)), (.int (((p2 + (74 : Int32)).toInt8.toInt32).toInt8.toInt32)), (.int (((p2 + (111 : Int32)).toInt8.toInt32).toInt8.toInt32)), (.int (((p2 + (148 : Int32)).toInt8.toInt32).toInt8.toInt32)), (.int (((p2 + (185 : Int32)).toInt8.toInt32).toInt8.toInt32)), (.int (((p2 + (222 : Int32)).toInt8.toInt32).toInt8.toInt32)), (.int (((p2 + (259 : Int32)).toInt8.toInt32).toInt8.toInt32))] (.int (0 : Int32)) := f79.other W84 ne41
  have f86 : Arv Z h84 b40 k39 .byte (8 : Int32) [(.int (((p2.toInt8.toInt32).toInt8.toInt32).toInt8.toInt32)), (.int ((((p2 + (37 : Int32)).toInt8.toInt32).toInt8.toInt32).toInt8.toInt32)), (.int ((((p2 + (74 : Int32)).toInt8.toInt32).toInt8.toInt32).toInt8.toInt32)), (.int ((((p2 + (111 : Int32)).toInt8.toInt32).toInt8.toInt32).toInt8.toInt32)), (.int ((((p2 + (148 : Int32)).toInt8.toInt32).toInt8.toInt32).toInt8.toInt32)), (.int ((((p2 + (185 : Int32)).toInt8.toInt32).toInt8.toInt32).toInt8.toInt32)), (.int ((((p2 + (222 : Int32)).toInt8.toInt32).toInt8.toInt32).toInt8.toInt32)), (.int (0 : Int32))] (.int (0 : Int32)) := Arv.set cl84A cl84q cl84S cl84N cl84H cl84G (fits_nar_byte _) W84 6 rfl (Nat.le_of_ble_eq_true rfl)
  have Kp84 : Keep h0 h84 [] := Kp78.wr W84 (Or.inr sz43)
  have Z87 : n0 ≤ h84.size := Nat.le_trans Z81 (Nat.le_of_eq W84.size.symm)
  have N88 := Fr.snoc X84 N82 ge42
  refine Goes.by st84 ?_
  clear f79 f80 X78 N82 Z81 Kp78 e78
  show Goes p.tables e below _ (T84.setTop (mkF m 152 #[.val (.int p0), .val (.int p1), .val (.int p2), .val (.int o), .val (.ref b2), .val (.ref b40), .unset, .unset] []))
  refine Goes.by (B := T84.setTop (mkF m 160 #[.val (.int p0), .val (.int p1), .val (.int p2), .val (.int o), .val (.ref b2), .val (.ref b40), .unset, .unset] [(.int (7 : Int32)), (.ref b2), (.int (7 : Int32)), (.ref b40)])) (fun t k => ?_) ?_
  · show Steps p.tables e below (T84.setTop (mkF m 152 #[.val (.int p0), .val (.int p1), .val (.int p2), .val (.int o), .val (.ref b2), .val (.ref b40), .unset, .unset] [])) t
    refine XS.aload X84.here hx rfl (hb hby at_152) rfl rfl ?_
    show Steps p.tables e below (T84.setTop (mkF m 154 #[.val (.int p0), .val (.int p1), .val (.int p2), .val (.int o), .val (.ref b2), .val (.ref b40), .unset, .unset] [(.ref b40)])) t
    refine XS.bipush X84.here hx rfl (hb hby at_154) ?_
    show Steps p.tables e below (T84.setTop (mkF m 156 #[.val (.int p0), .val (.int p1), .val (.int p2), .val (.int o), .val (.ref b2), .val (.ref b40), .unset, .unset] [(.int (7 : Int32)), (.ref b40)])) t
    refine XS.aload X84.here hx rfl (hb hby at_156) rfl rfl ?_
    show Steps p.tables e below (T84.setTop (mkF m 158 #[.val (.int p0), .val (.int p1), .val (.int p2), .val (.int o), .val (.ref b2), .val (.ref b40), .unset, .unset] [(.ref b2), (.int (7 : Int32)), (.ref b40)])) t
    refine XS.bipush X84.here hx rfl (hb hby at_158) ?_
    exact k
  obtain ⟨cl89, cl89A, cl89q, cl89S, cl89N, cl89H, cl89G⟩ := id f85
  have cl89I : ¬ ((7 : Int32) < 0 ∨ cl89.slots.size ≤ ((7 : Int32)).toNatClampNeg) := inb_of cl89S ⟨by decide, by decide⟩
  have cl89T : cl89.slots[((7 : Int32)).toNatClampNeg]? = some (.int (((p2 + (259 : Int32)).toInt8.toInt32).toInt8.toInt32)) := cl89H.at cl89I rfl
  refine Goes.by (B := T84.setTop (mkF m 161 #[.val (.int p0), .val (.int p1), .val (.int p2), .val (.int o), .val (.ref b2), .val (.ref b40), .unset, .unset] [(.int (((p2 + (259 : Int32)).toInt8.toInt32).toInt8.toInt32)), (.int (7 : Int32)), (.ref b40)])) (fun t k => ?_) ?_
  · show Steps p.tables e below (T84.setTop (mkF m 160 #[.val (.int p0), .val (.int p1), .val (.int p2), .val (.int o), .val (.ref b2), .val (.ref b40), .unset, .unset] [(.int (7 : Int32)), (.ref b2), (.int (7 : Int32)), (.ref b40)])) t
    refine X84.baloadBytes hx (j := (7 : Int32)) (v := (.int (((p2 + (259 : Int32)).toInt8.toInt32).toInt8.toInt32))) (by rw [e84]; exact cl89A.1) (State.isArrayOf_alike hZ.alike cl89A.2.1) cl89A.2.2 cl89I cl89T (g := (mkF m 160 #[.val (.int p0), .val (.int p1), .val (.int p2), .val (.int o), .val (.ref b2), .val (.ref b40), .unset, .unset] [(.int (7 : Int32)), (.ref b2), (.int (7 : Int32)), (.ref b40)])) rfl rfl (hb hby at_160) _ ?_
    exact k
  obtain ⟨cl90, cl90A, cl90q, cl90S, cl90N, cl90H, cl90G⟩ := id f86
  have cl90I : ¬ ((7 : Int32) < 0 ∨ cl90.slots.size ≤ ((7 : Int32)).toNatClampNeg) := inb_of cl90S ⟨by decide, by decide⟩
  obtain ⟨T90, h90, X90, e90, W90, st90⟩ := stB X84 hx hZ e84 cl90A (j := (7 : Int32)) cl90I (g := (mkF m 161 #[.val (.int p0), .val (.int p1), .val (.int p2), .val (.int o), .val (.ref b2), .val (.ref b40), .unset, .unset] [(.int (((p2 + (259 : Int32)).toInt8.toInt32).toInt8.toInt32)), (.int (7 : Int32)), (.ref b40)])) rfl rfl (hb hby at_161)
  have f91 : Arv Z h90 b2 k1 .byte (8 : Int32) [(.int ((p2.toInt8.toInt32).toInt8.toInt32)), (.int (((p2 + (37 : Int32)).toInt8.toInt32).toInt8.toInt32)), (.int (((p2 + (74 : Int32)).toInt8.toInt32).toInt8.toInt32)), (.int (((p2 + (111 : Int32)).toInt8.toInt32).toInt8.toInt32)), (.int (((p2 + (148 : Int32)).toInt8.toInt32).toInt8.toInt32)), (.int (((p2 + (185 : Int32)).toInt8.toInt32).toInt8.toInt32)), (.int (((p2 + (222 : Int32)).toInt8.toInt32).toInt8.toInt32)), (.int (((p2 + (259 : Int32)).toInt8.toInt32).toInt8.toInt32))] (.int (0 : Int32)) := f85.other W90 ne41
  have f92 : Arv Z h90 b40 k39 .byte (8 : Int32) [(.int (((p2.toInt8.toInt32).toInt8.toInt32).toInt8.toInt32)), (.int ((((p2 + (37 : Int32)).toInt8.toInt32).toInt8.toInt32).toInt8.toInt32)), (.int ((((p2 + (74 : Int32)).toInt8.toInt32).toInt8.toInt32).toInt8.toInt32)), (.int ((((p2 + (111 : Int32)).toInt8.toInt32).toInt8.toInt32).toInt8.toInt32)), (.int ((((p2 + (148 : Int32)).toInt8.toInt32).toInt8.toInt32).toInt8.toInt32)), (.int ((((p2 + (185 : Int32)).toInt8.toInt32).toInt8.toInt32).toInt8.toInt32)), (.int ((((p2 + (222 : Int32)).toInt8.toInt32).toInt8.toInt32).toInt8.toInt32)), (.int ((((p2 + (259 : Int32)).toInt8.toInt32).toInt8.toInt32).toInt8.toInt32))] (.int (0 : Int32)) := Arv.set cl90A cl90q cl90S cl90N cl90H cl90G (fits_nar_byte _) W90 7 rfl (Nat.le_of_ble_eq_true rfl)
  have Kp90 : Keep h0 h90 [] := Kp84.wr W90 (Or.inr sz43)
  have Z93 : n0 ≤ h90.size := Nat.le_trans Z87 (Nat.le_of_eq W90.size.symm)
  have N94 := Fr.snoc X90 N88 ge42
  refine Goes.by st90 ?_
  clear f85 f86 X84 N88 Z87 Kp84 e84
  show Goes p.tables e below _ (T90.setTop (mkF m 162 #[.val (.int p0), .val (.int p1), .val (.int p2), .val (.int o), .val (.ref b2), .val (.ref b40), .unset, .unset] []))
  rcases own_o p1 o hg_o with rfl | rfl | rfl | rfl | rfl
  · refine Goes.by (B := T90.setTop (mkF m 166 #[.val (.int p0), .val (.int p1), .val (.int p2), .val (.int (0 : Int32)), .val (.ref b2), .val (.ref b40), .unset, .unset] [(.int p0), (.int (0 : Int32)), (.ref b40)])) (fun t k => ?_) ?_
    · show Steps p.tables e below (T90.setTop (mkF m 162 #[.val (.int p0), .val (.int p1), .val (.int p2), .val (.int (0 : Int32)), .val (.ref b2), .val (.ref b40), .unset, .unset] [])) t
      refine XS.aload X90.here hx rfl (hb hby at_162) rfl rfl ?_
      show Steps p.tables e below (T90.setTop (mkF m 164 #[.val (.int p0), .val (.int p1), .val (.int p2), .val (.int (0 : Int32)), .val (.ref b2), .val (.ref b40), .unset, .unset] [(.ref b40)])) t
      refine XS.iloadN X90.here hx rfl (hb hby at_164) rfl ?_
      show Steps p.tables e below (T90.setTop (mkF m 165 #[.val (.int p0), .val (.int p1), .val (.int p2), .val (.int (0 : Int32)), .val (.ref b2), .val (.ref b40), .unset, .unset] [(.int (0 : Int32)), (.ref b40)])) t
      refine XS.iloadN X90.here hx rfl (hb hby at_165) rfl ?_
      exact k
    obtain ⟨_, T95, L95, Lc95, X95, hF95, hQ95, st95⟩ := own_cs X90 hx hZ hown (hw _ (List.mem_of_getElem? (i := 2) rfl)) (hw _ (List.mem_of_getElem? (i := 3) rfl)) (hw _ (List.mem_of_getElem? (i := 4) rfl)) (hw _ (List.mem_of_getElem? (i := 5) rfl)) (by decide) (rmPut0 l Z az hw [] b40 p0 k39 (((p2.toInt8.toInt32).toInt8.toInt32).toInt8.toInt32) ((((p2 + (37 : Int32)).toInt8.toInt32).toInt8.toInt32).toInt8.toInt32) ((((p2 + (74 : Int32)).toInt8.toInt32).toInt8.toInt32).toInt8.toInt32) ((((p2 + (111 : Int32)).toInt8.toInt32).toInt8.toInt32).toInt8.toInt32) ((((p2 + (148 : Int32)).toInt8.toInt32).toInt8.toInt32).toInt8.toInt32) ((((p2 + (185 : Int32)).toInt8.toInt32).toInt8.toInt32).toInt8.toInt32) ((((p2 + (222 : Int32)).toInt8.toInt32).toInt8.toInt32).toInt8.toInt32) ((((p2 + (259 : Int32)).toInt8.toInt32).toInt8.toInt32).toInt8.toInt32) h90 n0 Z93 f92 ge42) (by decide) (by decide) (W := 0) (g := (mkF m 166 #[.val (.int p0), .val (.int p1), .val (.int p2), .val (.int (0 : Int32)), .val (.ref b2), .val (.ref b40), .unset, .unset] [(.int p0), (.int (0 : Int32)), (.ref b40)])) rfl (by rw [hml]; rfl) (argsL := [(.ref b40), (.int (0 : Int32)), (.int p0)]) (rest := []) rfl (lenOf own_pd0 rfl) rfl (by show 2 * 0 + _ ≤ _; exact Nat.le_of_eq rfl) (hb hby at_166) e90 (by decide) (by decide) (c' := 2) (s' := 16) rfl rfl N94
    obtain ⟨rfl, N95q, K95, f96⟩ := hQ95
    have f97 : Arv Z T95.heap b2 k1 .byte (8 : Int32) [(.int ((p2.toInt8.toInt32).toInt8.toInt32)), (.int (((p2 + (37 : Int32)).toInt8.toInt32).toInt8.toInt32)), (.int (((p2 + (74 : Int32)).toInt8.toInt32).toInt8.toInt32)), (.int (((p2 + (111 : Int32)).toInt8.toInt32).toInt8.toInt32)), (.int (((p2 + (148 : Int32)).toInt8.toInt32).toInt8.toInt32)), (.int (((p2 + (185 : Int32)).toInt8.toInt32).toInt8.toInt32)), (.int (((p2 + (222 : Int32)).toInt8.toInt32).toInt8.toInt32)), (.int (((p2 + (259 : Int32)).toInt8.toInt32).toInt8.toInt32))] (.int (0 : Int32)) := f91.keep K95 (ninS ne41 nin0)
    have Kp95 : Keep h0 T95.heap [] := Kp90.trans K95 (allS (Or.inr sz43) all0)
    have Z98 : n0 ≤ T95.heap.size := Nat.le_trans Z93 K95.1
    have N99 := hF95 N95q
    refine Goes.by st95 ?_
    clear f91 f92 X90 N94 Z93 Kp90 e90
    show Goes p.tables e below _ (T95.setTop (mkF m 169 #[.val (.int p0), .val (.int p1), .val (.int p2), .val (.int (0 : Int32)), .val (.ref b2), .val (.ref b40), .unset, .unset] []))
    refine Goes.by (B := T95.setTop (mkF m 185 #[.val (.int p0), .val (.int p1), .val (.int p2), .val (.int (0 : Int32)), .val (.ref b2), .val (.ref b40), .val (.long ((p0.toInt64) &&& (4294967295 : Int64))), .second] [(.long ((p0.toInt64) &&& (4294967295 : Int64))), (.int (0 : Int32)), (.int (0 : Int32)), (.ref b2), (.ref b40)])) (fun t k => ?_) ?_
    · show Steps p.tables e below (T95.setTop (mkF m 169 #[.val (.int p0), .val (.int p1), .val (.int p2), .val (.int (0 : Int32)), .val (.ref b2), .val (.ref b40), .unset, .unset] [])) t
      refine XS.iloadN X95.here hx rfl (hb hby at_169) rfl ?_
      show Steps p.tables e below (T95.setTop (mkF m 170 #[.val (.int p0), .val (.int p1), .val (.int p2), .val (.int (0 : Int32)), .val (.ref b2), .val (.ref b40), .unset, .unset] [(.int p0)])) t
      refine XS.i2l X95.here hx rfl (hb hby at_170) rfl ?_
      show Steps p.tables e below (T95.setTop (mkF m 171 #[.val (.int p0), .val (.int p1), .val (.int p2), .val (.int (0 : Int32)), .val (.ref b2), .val (.ref b40), .unset, .unset] [(.long (p0.toInt64))])) t
      refine X95.ldc2Long hx hown (mvT hZ (hw _ (List.mem_of_getElem? (i := 6) rfl))) (g := (mkF m 171 #[.val (.int p0), .val (.int p1), .val (.int p2), .val (.int (0 : Int32)), .val (.ref b2), .val (.ref b40), .unset, .unset] [(.long (p0.toInt64))])) rfl (hb hby at_171) _ ?_
      show Steps p.tables e below (T95.setTop (mkF m 174 #[.val (.int p0), .val (.int p1), .val (.int p2), .val (.int (0 : Int32)), .val (.ref b2), .val (.ref b40), .unset, .unset] [(.long (4294967295 : Int64)), (.long (p0.toInt64))])) t
      refine XS.land X95.here hx rfl (hb hby at_174) rfl ?_
      show Steps p.tables e below (T95.setTop (mkF m 175 #[.val (.int p0), .val (.int p1), .val (.int p2), .val (.int (0 : Int32)), .val (.ref b2), .val (.ref b40), .unset, .unset] [(.long ((p0.toInt64) &&& (4294967295 : Int64)))])) t
      refine XS.lstore X95.here hx rfl (hb hby at_175) rfl (l' := #[.val (.int p0), .val (.int p1), .val (.int p2), .val (.int (0 : Int32)), .val (.ref b2), .val (.ref b40), .val (.long ((p0.toInt64) &&& (4294967295 : Int64))), .second]) rfl ?_
      show Steps p.tables e below (T95.setTop (mkF m 177 #[.val (.int p0), .val (.int p1), .val (.int p2), .val (.int (0 : Int32)), .val (.ref b2), .val (.ref b40), .val (.long ((p0.toInt64) &&& (4294967295 : Int64))), .second] [])) t
      refine XS.aload X95.here hx rfl (hb hby at_177) rfl rfl ?_
      show Steps p.tables e below (T95.setTop (mkF m 179 #[.val (.int p0), .val (.int p1), .val (.int p2), .val (.int (0 : Int32)), .val (.ref b2), .val (.ref b40), .val (.long ((p0.toInt64) &&& (4294967295 : Int64))), .second] [(.ref b40)])) t
      refine XS.aload X95.here hx rfl (hb hby at_179) rfl rfl ?_
      show Steps p.tables e below (T95.setTop (mkF m 181 #[.val (.int p0), .val (.int p1), .val (.int p2), .val (.int (0 : Int32)), .val (.ref b2), .val (.ref b40), .val (.long ((p0.toInt64) &&& (4294967295 : Int64))), .second] [(.ref b2), (.ref b40)])) t
      refine XS.iconst X95.here hx rfl (hb hby at_181) ?_
      show Steps p.tables e below (T95.setTop (mkF m 182 #[.val (.int p0), .val (.int p1), .val (.int p2), .val (.int (0 : Int32)), .val (.ref b2), .val (.ref b40), .val (.long ((p0.toInt64) &&& (4294967295 : Int64))), .second] [(.int (0 : Int32)), (.ref b2), (.ref b40)])) t
      refine XS.iloadN X95.here hx rfl (hb hby at_182) rfl ?_
      show Steps p.tables e below (T95.setTop (mkF m 183 #[.val (.int p0), .val (.int p1), .val (.int p2), .val (.int (0 : Int32)), .val (.ref b2), .val (.ref b40), .val (.long ((p0.toInt64) &&& (4294967295 : Int64))), .second] [(.int (0 : Int32)), (.int (0 : Int32)), (.ref b2), (.ref b40)])) t
      refine XS.lload X95.here hx rfl (hb hby at_183) rfl ?_
      exact k
    have el101 : Elt Z T95.heap b40 .byte (0 : Int32) (.int ((((p0.toUInt32 >>> ((24 : Int32) &&& 31).toUInt32).toInt32).toInt8.toInt32).toInt8.toInt32)) := Elt.of f96 ⟨by decide, by decide⟩ rfl
    have el102 : Elt Z T95.heap b2 .byte (0 : Int32) (.int ((p2.toInt8.toInt32).toInt8.toInt32)) := Elt.of f97 ⟨by decide, by decide⟩ rfl
    obtain ⟨_, T100, L100, Lc100, X100, hF100, hQ100, st100⟩ := own_cs X95 hx hZ hown (hw _ (List.mem_of_getElem? (i := 7) rfl)) (hw _ (List.mem_of_getElem? (i := 8) rfl)) (hw _ (List.mem_of_getElem? (i := 9) rfl)) (hw _ (List.mem_of_getElem? (i := 10) rfl)) (by decide) (rmOk l Z az hw [] b40 b2 (0 : Int32) (0 : Int32) ((p0.toInt64) &&& (4294967295 : Int64)) ((((p0.toUInt32 >>> ((24 : Int32) &&& 31).toUInt32).toInt32).toInt8.toInt32).toInt8.toInt32) ((p2.toInt8.toInt32).toInt8.toInt32) T95.heap n0 Z98 el101 el102) (by decide) (by decide) (W := 0) (g := (mkF m 185 #[.val (.int p0), .val (.int p1), .val (.int p2), .val (.int (0 : Int32)), .val (.ref b2), .val (.ref b40), .val (.long ((p0.toInt64) &&& (4294967295 : Int64))), .second] [(.long ((p0.toInt64) &&& (4294967295 : Int64))), (.int (0 : Int32)), (.int (0 : Int32)), (.ref b2), (.ref b40)])) rfl (by rw [hml]; rfl) (argsL := [(.ref b40), (.ref b2), (.int (0 : Int32)), (.int (0 : Int32)), (.long ((p0.toInt64) &&& (4294967295 : Int64)))]) (rest := []) rfl (lenOf own_pd1 rfl) rfl (by show 2 * 0 + _ ≤ _; exact Nat.le_of_eq rfl) (hb hby at_185) rfl (by decide) (by decide) (c' := 2) (s' := 16) rfl rfl N99
    obtain ⟨rfl, N100q, e100⟩ := hQ100
    have N103 := hF100 N100q
    refine Goes.by st100 ?_
    clear X95 N99
    show Goes p.tables e below _ (T100.setTop (mkF m 188 #[.val (.int p0), .val (.int p1), .val (.int p2), .val (.int (0 : Int32)), .val (.ref b2), .val (.ref b40), .val (.long ((p0.toInt64) &&& (4294967295 : Int64))), .second] [(.int (fOk (0 : Int32) (0 : Int32) ((p0.toInt64) &&& (4294967295 : Int64)) ((((p0.toUInt32 >>> ((24 : Int32) &&& 31).toUInt32).toInt32).toInt8.toInt32).toInt8.toInt32) ((p2.toInt8.toInt32).toInt8.toInt32)))]))
    refine Goes.by (B := T100.setTop (mkF m 199 #[.val (.int p0), .val (.int p1), .val (.int p2), .val (.int (0 : Int32)), .val (.ref b2), .val (.ref b40), .val (.long ((p0.toInt64) &&& (4294967295 : Int64))), .second] [(.long ((p0.toInt64) &&& (4294967295 : Int64))), (.int (0 : Int32)), (.int (1 : Int32)), (.ref b2), (.ref b40)])) (fun t k => ?_) ?_
    · show Steps p.tables e below (T100.setTop (mkF m 188 #[.val (.int p0), .val (.int p1), .val (.int p2), .val (.int (0 : Int32)), .val (.ref b2), .val (.ref b40), .val (.long ((p0.toInt64) &&& (4294967295 : Int64))), .second] [(.int (fOk (0 : Int32) (0 : Int32) ((p0.toInt64) &&& (4294967295 : Int64)) ((((p0.toUInt32 >>> ((24 : Int32) &&& 31).toUInt32).toInt32).toInt8.toInt32).toInt8.toInt32) ((p2.toInt8.toInt32).toInt8.toInt32)))])) t
      refine XS.ifNo X100.here hx rfl (hb hby at_188) rfl ((if0 _ _).trans (feq (own_ok0 p0 ((p2.toInt8.toInt32).toInt8.toInt32) (0 : Int32) (0 : Int32) (by decide))).1) ?_
      show Steps p.tables e below (T100.setTop (mkF m 191 #[.val (.int p0), .val (.int p1), .val (.int p2), .val (.int (0 : Int32)), .val (.ref b2), .val (.ref b40), .val (.long ((p0.toInt64) &&& (4294967295 : Int64))), .second] [])) t
      refine XS.aload X100.here hx rfl (hb hby at_191) rfl rfl ?_
      show Steps p.tables e below (T100.setTop (mkF m 193 #[.val (.int p0), .val (.int p1), .val (.int p2), .val (.int (0 : Int32)), .val (.ref b2), .val (.ref b40), .val (.long ((p0.toInt64) &&& (4294967295 : Int64))), .second] [(.ref b40)])) t
      refine XS.aload X100.here hx rfl (hb hby at_193) rfl rfl ?_
      show Steps p.tables e below (T100.setTop (mkF m 195 #[.val (.int p0), .val (.int p1), .val (.int p2), .val (.int (0 : Int32)), .val (.ref b2), .val (.ref b40), .val (.long ((p0.toInt64) &&& (4294967295 : Int64))), .second] [(.ref b2), (.ref b40)])) t
      refine XS.iconst X100.here hx rfl (hb hby at_195) ?_
      show Steps p.tables e below (T100.setTop (mkF m 196 #[.val (.int p0), .val (.int p1), .val (.int p2), .val (.int (0 : Int32)), .val (.ref b2), .val (.ref b40), .val (.long ((p0.toInt64) &&& (4294967295 : Int64))), .second] [(.int (1 : Int32)), (.ref b2), (.ref b40)])) t
      refine XS.iloadN X100.here hx rfl (hb hby at_196) rfl ?_
      show Steps p.tables e below (T100.setTop (mkF m 197 #[.val (.int p0), .val (.int p1), .val (.int p2), .val (.int (0 : Int32)), .val (.ref b2), .val (.ref b40), .val (.long ((p0.toInt64) &&& (4294967295 : Int64))), .second] [(.int (0 : Int32)), (.int (1 : Int32)), (.ref b2), (.ref b40)])) t
      refine XS.lload X100.here hx rfl (hb hby at_197) rfl ?_
      exact k
    have el105 : Elt Z T95.heap b40 .byte (1 : Int32) (.int ((((p0.toUInt32 >>> ((16 : Int32) &&& 31).toUInt32).toInt32).toInt8.toInt32).toInt8.toInt32)) := Elt.of f96 ⟨by decide, by decide⟩ rfl
    have el106 : Elt Z T95.heap b2 .byte (1 : Int32) (.int (((p2 + (37 : Int32)).toInt8.toInt32).toInt8.toInt32)) := Elt.of f97 ⟨by decide, by decide⟩ rfl
    obtain ⟨_, T104, L104, Lc104, X104, hF104, hQ104, st104⟩ := own_cs X100 hx hZ hown (hw _ (List.mem_of_getElem? (i := 7) rfl)) (hw _ (List.mem_of_getElem? (i := 8) rfl)) (hw _ (List.mem_of_getElem? (i := 9) rfl)) (hw _ (List.mem_of_getElem? (i := 10) rfl)) (by decide) (rmOk l Z az hw [] b40 b2 (1 : Int32) (0 : Int32) ((p0.toInt64) &&& (4294967295 : Int64)) ((((p0.toUInt32 >>> ((16 : Int32) &&& 31).toUInt32).toInt32).toInt8.toInt32).toInt8.toInt32) (((p2 + (37 : Int32)).toInt8.toInt32).toInt8.toInt32) T95.heap n0 Z98 el105 el106) (by decide) (by decide) (W := 0) (g := (mkF m 199 #[.val (.int p0), .val (.int p1), .val (.int p2), .val (.int (0 : Int32)), .val (.ref b2), .val (.ref b40), .val (.long ((p0.toInt64) &&& (4294967295 : Int64))), .second] [(.long ((p0.toInt64) &&& (4294967295 : Int64))), (.int (0 : Int32)), (.int (1 : Int32)), (.ref b2), (.ref b40)])) rfl (by rw [hml]; rfl) (argsL := [(.ref b40), (.ref b2), (.int (1 : Int32)), (.int (0 : Int32)), (.long ((p0.toInt64) &&& (4294967295 : Int64)))]) (rest := []) rfl (lenOf own_pd1 rfl) rfl (by show 2 * 0 + _ ≤ _; exact Nat.le_of_eq rfl) (hb hby at_199) e100 (by decide) (by decide) (c' := 2) (s' := 16) rfl rfl N103
    obtain ⟨rfl, N104q, e104⟩ := hQ104
    have N107 := hF104 N104q
    refine Goes.by st104 ?_
    clear X100 N103 e100
    show Goes p.tables e below _ (T104.setTop (mkF m 202 #[.val (.int p0), .val (.int p1), .val (.int p2), .val (.int (0 : Int32)), .val (.ref b2), .val (.ref b40), .val (.long ((p0.toInt64) &&& (4294967295 : Int64))), .second] [(.int (fOk (1 : Int32) (0 : Int32) ((p0.toInt64) &&& (4294967295 : Int64)) ((((p0.toUInt32 >>> ((16 : Int32) &&& 31).toUInt32).toInt32).toInt8.toInt32).toInt8.toInt32) (((p2 + (37 : Int32)).toInt8.toInt32).toInt8.toInt32)))]))
    refine Goes.by (B := T104.setTop (mkF m 213 #[.val (.int p0), .val (.int p1), .val (.int p2), .val (.int (0 : Int32)), .val (.ref b2), .val (.ref b40), .val (.long ((p0.toInt64) &&& (4294967295 : Int64))), .second] [(.long ((p0.toInt64) &&& (4294967295 : Int64))), (.int (0 : Int32)), (.int (2 : Int32)), (.ref b2), (.ref b40)])) (fun t k => ?_) ?_
    · show Steps p.tables e below (T104.setTop (mkF m 202 #[.val (.int p0), .val (.int p1), .val (.int p2), .val (.int (0 : Int32)), .val (.ref b2), .val (.ref b40), .val (.long ((p0.toInt64) &&& (4294967295 : Int64))), .second] [(.int (fOk (1 : Int32) (0 : Int32) ((p0.toInt64) &&& (4294967295 : Int64)) ((((p0.toUInt32 >>> ((16 : Int32) &&& 31).toUInt32).toInt32).toInt8.toInt32).toInt8.toInt32) (((p2 + (37 : Int32)).toInt8.toInt32).toInt8.toInt32)))])) t
      refine XS.ifNo X104.here hx rfl (hb hby at_202) rfl ((if0 _ _).trans (feq (own_ok1 p0 (((p2 + (37 : Int32)).toInt8.toInt32).toInt8.toInt32) (1 : Int32) (0 : Int32) (by decide))).1) ?_
      show Steps p.tables e below (T104.setTop (mkF m 205 #[.val (.int p0), .val (.int p1), .val (.int p2), .val (.int (0 : Int32)), .val (.ref b2), .val (.ref b40), .val (.long ((p0.toInt64) &&& (4294967295 : Int64))), .second] [])) t
      refine XS.aload X104.here hx rfl (hb hby at_205) rfl rfl ?_
      show Steps p.tables e below (T104.setTop (mkF m 207 #[.val (.int p0), .val (.int p1), .val (.int p2), .val (.int (0 : Int32)), .val (.ref b2), .val (.ref b40), .val (.long ((p0.toInt64) &&& (4294967295 : Int64))), .second] [(.ref b40)])) t
      refine XS.aload X104.here hx rfl (hb hby at_207) rfl rfl ?_
      show Steps p.tables e below (T104.setTop (mkF m 209 #[.val (.int p0), .val (.int p1), .val (.int p2), .val (.int (0 : Int32)), .val (.ref b2), .val (.ref b40), .val (.long ((p0.toInt64) &&& (4294967295 : Int64))), .second] [(.ref b2), (.ref b40)])) t
      refine XS.iconst X104.here hx rfl (hb hby at_209) ?_
      show Steps p.tables e below (T104.setTop (mkF m 210 #[.val (.int p0), .val (.int p1), .val (.int p2), .val (.int (0 : Int32)), .val (.ref b2), .val (.ref b40), .val (.long ((p0.toInt64) &&& (4294967295 : Int64))), .second] [(.int (2 : Int32)), (.ref b2), (.ref b40)])) t
      refine XS.iloadN X104.here hx rfl (hb hby at_210) rfl ?_
      show Steps p.tables e below (T104.setTop (mkF m 211 #[.val (.int p0), .val (.int p1), .val (.int p2), .val (.int (0 : Int32)), .val (.ref b2), .val (.ref b40), .val (.long ((p0.toInt64) &&& (4294967295 : Int64))), .second] [(.int (0 : Int32)), (.int (2 : Int32)), (.ref b2), (.ref b40)])) t
      refine XS.lload X104.here hx rfl (hb hby at_211) rfl ?_
      exact k
    have el109 : Elt Z T95.heap b40 .byte (2 : Int32) (.int ((((p0.toUInt32 >>> ((8 : Int32) &&& 31).toUInt32).toInt32).toInt8.toInt32).toInt8.toInt32)) := Elt.of f96 ⟨by decide, by decide⟩ rfl
    have el110 : Elt Z T95.heap b2 .byte (2 : Int32) (.int (((p2 + (74 : Int32)).toInt8.toInt32).toInt8.toInt32)) := Elt.of f97 ⟨by decide, by decide⟩ rfl
    obtain ⟨_, T108, L108, Lc108, X108, hF108, hQ108, st108⟩ := own_cs X104 hx hZ hown (hw _ (List.mem_of_getElem? (i := 7) rfl)) (hw _ (List.mem_of_getElem? (i := 8) rfl)) (hw _ (List.mem_of_getElem? (i := 9) rfl)) (hw _ (List.mem_of_getElem? (i := 10) rfl)) (by decide) (rmOk l Z az hw [] b40 b2 (2 : Int32) (0 : Int32) ((p0.toInt64) &&& (4294967295 : Int64)) ((((p0.toUInt32 >>> ((8 : Int32) &&& 31).toUInt32).toInt32).toInt8.toInt32).toInt8.toInt32) (((p2 + (74 : Int32)).toInt8.toInt32).toInt8.toInt32) T95.heap n0 Z98 el109 el110) (by decide) (by decide) (W := 0) (g := (mkF m 213 #[.val (.int p0), .val (.int p1), .val (.int p2), .val (.int (0 : Int32)), .val (.ref b2), .val (.ref b40), .val (.long ((p0.toInt64) &&& (4294967295 : Int64))), .second] [(.long ((p0.toInt64) &&& (4294967295 : Int64))), (.int (0 : Int32)), (.int (2 : Int32)), (.ref b2), (.ref b40)])) rfl (by rw [hml]; rfl) (argsL := [(.ref b40), (.ref b2), (.int (2 : Int32)), (.int (0 : Int32)), (.long ((p0.toInt64) &&& (4294967295 : Int64)))]) (rest := []) rfl (lenOf own_pd1 rfl) rfl (by show 2 * 0 + _ ≤ _; exact Nat.le_of_eq rfl) (hb hby at_213) e104 (by decide) (by decide) (c' := 2) (s' := 16) rfl rfl N107
    obtain ⟨rfl, N108q, e108⟩ := hQ108
    have N111 := hF108 N108q
    refine Goes.by st108 ?_
    clear X104 N107 e104
    show Goes p.tables e below _ (T108.setTop (mkF m 216 #[.val (.int p0), .val (.int p1), .val (.int p2), .val (.int (0 : Int32)), .val (.ref b2), .val (.ref b40), .val (.long ((p0.toInt64) &&& (4294967295 : Int64))), .second] [(.int (fOk (2 : Int32) (0 : Int32) ((p0.toInt64) &&& (4294967295 : Int64)) ((((p0.toUInt32 >>> ((8 : Int32) &&& 31).toUInt32).toInt32).toInt8.toInt32).toInt8.toInt32) (((p2 + (74 : Int32)).toInt8.toInt32).toInt8.toInt32)))]))
    refine Goes.by (B := T108.setTop (mkF m 227 #[.val (.int p0), .val (.int p1), .val (.int p2), .val (.int (0 : Int32)), .val (.ref b2), .val (.ref b40), .val (.long ((p0.toInt64) &&& (4294967295 : Int64))), .second] [(.long ((p0.toInt64) &&& (4294967295 : Int64))), (.int (0 : Int32)), (.int (3 : Int32)), (.ref b2), (.ref b40)])) (fun t k => ?_) ?_
    · show Steps p.tables e below (T108.setTop (mkF m 216 #[.val (.int p0), .val (.int p1), .val (.int p2), .val (.int (0 : Int32)), .val (.ref b2), .val (.ref b40), .val (.long ((p0.toInt64) &&& (4294967295 : Int64))), .second] [(.int (fOk (2 : Int32) (0 : Int32) ((p0.toInt64) &&& (4294967295 : Int64)) ((((p0.toUInt32 >>> ((8 : Int32) &&& 31).toUInt32).toInt32).toInt8.toInt32).toInt8.toInt32) (((p2 + (74 : Int32)).toInt8.toInt32).toInt8.toInt32)))])) t
      refine XS.ifNo X108.here hx rfl (hb hby at_216) rfl ((if0 _ _).trans (feq (own_ok2 p0 (((p2 + (74 : Int32)).toInt8.toInt32).toInt8.toInt32) (2 : Int32) (0 : Int32) (by decide))).1) ?_
      show Steps p.tables e below (T108.setTop (mkF m 219 #[.val (.int p0), .val (.int p1), .val (.int p2), .val (.int (0 : Int32)), .val (.ref b2), .val (.ref b40), .val (.long ((p0.toInt64) &&& (4294967295 : Int64))), .second] [])) t
      refine XS.aload X108.here hx rfl (hb hby at_219) rfl rfl ?_
      show Steps p.tables e below (T108.setTop (mkF m 221 #[.val (.int p0), .val (.int p1), .val (.int p2), .val (.int (0 : Int32)), .val (.ref b2), .val (.ref b40), .val (.long ((p0.toInt64) &&& (4294967295 : Int64))), .second] [(.ref b40)])) t
      refine XS.aload X108.here hx rfl (hb hby at_221) rfl rfl ?_
      show Steps p.tables e below (T108.setTop (mkF m 223 #[.val (.int p0), .val (.int p1), .val (.int p2), .val (.int (0 : Int32)), .val (.ref b2), .val (.ref b40), .val (.long ((p0.toInt64) &&& (4294967295 : Int64))), .second] [(.ref b2), (.ref b40)])) t
      refine XS.iconst X108.here hx rfl (hb hby at_223) ?_
      show Steps p.tables e below (T108.setTop (mkF m 224 #[.val (.int p0), .val (.int p1), .val (.int p2), .val (.int (0 : Int32)), .val (.ref b2), .val (.ref b40), .val (.long ((p0.toInt64) &&& (4294967295 : Int64))), .second] [(.int (3 : Int32)), (.ref b2), (.ref b40)])) t
      refine XS.iloadN X108.here hx rfl (hb hby at_224) rfl ?_
      show Steps p.tables e below (T108.setTop (mkF m 225 #[.val (.int p0), .val (.int p1), .val (.int p2), .val (.int (0 : Int32)), .val (.ref b2), .val (.ref b40), .val (.long ((p0.toInt64) &&& (4294967295 : Int64))), .second] [(.int (0 : Int32)), (.int (3 : Int32)), (.ref b2), (.ref b40)])) t
      refine XS.lload X108.here hx rfl (hb hby at_225) rfl ?_
      exact k
    have el113 : Elt Z T95.heap b40 .byte (3 : Int32) (.int ((p0.toInt8.toInt32).toInt8.toInt32)) := Elt.of f96 ⟨by decide, by decide⟩ rfl
    have el114 : Elt Z T95.heap b2 .byte (3 : Int32) (.int (((p2 + (111 : Int32)).toInt8.toInt32).toInt8.toInt32)) := Elt.of f97 ⟨by decide, by decide⟩ rfl
    obtain ⟨_, T112, L112, Lc112, X112, hF112, hQ112, st112⟩ := own_cs X108 hx hZ hown (hw _ (List.mem_of_getElem? (i := 7) rfl)) (hw _ (List.mem_of_getElem? (i := 8) rfl)) (hw _ (List.mem_of_getElem? (i := 9) rfl)) (hw _ (List.mem_of_getElem? (i := 10) rfl)) (by decide) (rmOk l Z az hw [] b40 b2 (3 : Int32) (0 : Int32) ((p0.toInt64) &&& (4294967295 : Int64)) ((p0.toInt8.toInt32).toInt8.toInt32) (((p2 + (111 : Int32)).toInt8.toInt32).toInt8.toInt32) T95.heap n0 Z98 el113 el114) (by decide) (by decide) (W := 0) (g := (mkF m 227 #[.val (.int p0), .val (.int p1), .val (.int p2), .val (.int (0 : Int32)), .val (.ref b2), .val (.ref b40), .val (.long ((p0.toInt64) &&& (4294967295 : Int64))), .second] [(.long ((p0.toInt64) &&& (4294967295 : Int64))), (.int (0 : Int32)), (.int (3 : Int32)), (.ref b2), (.ref b40)])) rfl (by rw [hml]; rfl) (argsL := [(.ref b40), (.ref b2), (.int (3 : Int32)), (.int (0 : Int32)), (.long ((p0.toInt64) &&& (4294967295 : Int64)))]) (rest := []) rfl (lenOf own_pd1 rfl) rfl (by show 2 * 0 + _ ≤ _; exact Nat.le_of_eq rfl) (hb hby at_227) e108 (by decide) (by decide) (c' := 2) (s' := 16) rfl rfl N111
    obtain ⟨rfl, N112q, e112⟩ := hQ112
    have N115 := hF112 N112q
    refine Goes.by st112 ?_
    clear X108 N111 e108
    show Goes p.tables e below _ (T112.setTop (mkF m 230 #[.val (.int p0), .val (.int p1), .val (.int p2), .val (.int (0 : Int32)), .val (.ref b2), .val (.ref b40), .val (.long ((p0.toInt64) &&& (4294967295 : Int64))), .second] [(.int (fOk (3 : Int32) (0 : Int32) ((p0.toInt64) &&& (4294967295 : Int64)) ((p0.toInt8.toInt32).toInt8.toInt32) (((p2 + (111 : Int32)).toInt8.toInt32).toInt8.toInt32)))]))
    refine Goes.by (B := T112.setTop (mkF m 241 #[.val (.int p0), .val (.int p1), .val (.int p2), .val (.int (0 : Int32)), .val (.ref b2), .val (.ref b40), .val (.long ((p0.toInt64) &&& (4294967295 : Int64))), .second] [(.long ((p0.toInt64) &&& (4294967295 : Int64))), (.int (0 : Int32)), (.int (4 : Int32)), (.ref b2), (.ref b40)])) (fun t k => ?_) ?_
    · show Steps p.tables e below (T112.setTop (mkF m 230 #[.val (.int p0), .val (.int p1), .val (.int p2), .val (.int (0 : Int32)), .val (.ref b2), .val (.ref b40), .val (.long ((p0.toInt64) &&& (4294967295 : Int64))), .second] [(.int (fOk (3 : Int32) (0 : Int32) ((p0.toInt64) &&& (4294967295 : Int64)) ((p0.toInt8.toInt32).toInt8.toInt32) (((p2 + (111 : Int32)).toInt8.toInt32).toInt8.toInt32)))])) t
      refine XS.ifNo X112.here hx rfl (hb hby at_230) rfl ((if0 _ _).trans (feq (own_ok3 p0 (((p2 + (111 : Int32)).toInt8.toInt32).toInt8.toInt32) (3 : Int32) (0 : Int32) (by decide))).1) ?_
      show Steps p.tables e below (T112.setTop (mkF m 233 #[.val (.int p0), .val (.int p1), .val (.int p2), .val (.int (0 : Int32)), .val (.ref b2), .val (.ref b40), .val (.long ((p0.toInt64) &&& (4294967295 : Int64))), .second] [])) t
      refine XS.aload X112.here hx rfl (hb hby at_233) rfl rfl ?_
      show Steps p.tables e below (T112.setTop (mkF m 235 #[.val (.int p0), .val (.int p1), .val (.int p2), .val (.int (0 : Int32)), .val (.ref b2), .val (.ref b40), .val (.long ((p0.toInt64) &&& (4294967295 : Int64))), .second] [(.ref b40)])) t
      refine XS.aload X112.here hx rfl (hb hby at_235) rfl rfl ?_
      show Steps p.tables e below (T112.setTop (mkF m 237 #[.val (.int p0), .val (.int p1), .val (.int p2), .val (.int (0 : Int32)), .val (.ref b2), .val (.ref b40), .val (.long ((p0.toInt64) &&& (4294967295 : Int64))), .second] [(.ref b2), (.ref b40)])) t
      refine XS.iconst X112.here hx rfl (hb hby at_237) ?_
      show Steps p.tables e below (T112.setTop (mkF m 238 #[.val (.int p0), .val (.int p1), .val (.int p2), .val (.int (0 : Int32)), .val (.ref b2), .val (.ref b40), .val (.long ((p0.toInt64) &&& (4294967295 : Int64))), .second] [(.int (4 : Int32)), (.ref b2), (.ref b40)])) t
      refine XS.iloadN X112.here hx rfl (hb hby at_238) rfl ?_
      show Steps p.tables e below (T112.setTop (mkF m 239 #[.val (.int p0), .val (.int p1), .val (.int p2), .val (.int (0 : Int32)), .val (.ref b2), .val (.ref b40), .val (.long ((p0.toInt64) &&& (4294967295 : Int64))), .second] [(.int (0 : Int32)), (.int (4 : Int32)), (.ref b2), (.ref b40)])) t
      refine XS.lload X112.here hx rfl (hb hby at_239) rfl ?_
      exact k
    have el117 : Elt Z T95.heap b40 .byte (4 : Int32) (.int ((((p2 + (148 : Int32)).toInt8.toInt32).toInt8.toInt32).toInt8.toInt32)) := Elt.of f96 ⟨by decide, by decide⟩ rfl
    have el118 : Elt Z T95.heap b2 .byte (4 : Int32) (.int (((p2 + (148 : Int32)).toInt8.toInt32).toInt8.toInt32)) := Elt.of f97 ⟨by decide, by decide⟩ rfl
    obtain ⟨_, T116, L116, Lc116, X116, hF116, hQ116, st116⟩ := own_cs X112 hx hZ hown (hw _ (List.mem_of_getElem? (i := 7) rfl)) (hw _ (List.mem_of_getElem? (i := 8) rfl)) (hw _ (List.mem_of_getElem? (i := 9) rfl)) (hw _ (List.mem_of_getElem? (i := 10) rfl)) (by decide) (rmOk l Z az hw [] b40 b2 (4 : Int32) (0 : Int32) ((p0.toInt64) &&& (4294967295 : Int64)) ((((p2 + (148 : Int32)).toInt8.toInt32).toInt8.toInt32).toInt8.toInt32) (((p2 + (148 : Int32)).toInt8.toInt32).toInt8.toInt32) T95.heap n0 Z98 el117 el118) (by decide) (by decide) (W := 0) (g := (mkF m 241 #[.val (.int p0), .val (.int p1), .val (.int p2), .val (.int (0 : Int32)), .val (.ref b2), .val (.ref b40), .val (.long ((p0.toInt64) &&& (4294967295 : Int64))), .second] [(.long ((p0.toInt64) &&& (4294967295 : Int64))), (.int (0 : Int32)), (.int (4 : Int32)), (.ref b2), (.ref b40)])) rfl (by rw [hml]; rfl) (argsL := [(.ref b40), (.ref b2), (.int (4 : Int32)), (.int (0 : Int32)), (.long ((p0.toInt64) &&& (4294967295 : Int64)))]) (rest := []) rfl (lenOf own_pd1 rfl) rfl (by show 2 * 0 + _ ≤ _; exact Nat.le_of_eq rfl) (hb hby at_241) e112 (by decide) (by decide) (c' := 2) (s' := 16) rfl rfl N115
    obtain ⟨rfl, N116q, e116⟩ := hQ116
    have N119 := hF116 N116q
    refine Goes.by st116 ?_
    clear X112 N115 e112
    show Goes p.tables e below _ (T116.setTop (mkF m 244 #[.val (.int p0), .val (.int p1), .val (.int p2), .val (.int (0 : Int32)), .val (.ref b2), .val (.ref b40), .val (.long ((p0.toInt64) &&& (4294967295 : Int64))), .second] [(.int (fOk (4 : Int32) (0 : Int32) ((p0.toInt64) &&& (4294967295 : Int64)) ((((p2 + (148 : Int32)).toInt8.toInt32).toInt8.toInt32).toInt8.toInt32) (((p2 + (148 : Int32)).toInt8.toInt32).toInt8.toInt32)))]))
    refine Goes.by (B := T116.setTop (mkF m 255 #[.val (.int p0), .val (.int p1), .val (.int p2), .val (.int (0 : Int32)), .val (.ref b2), .val (.ref b40), .val (.long ((p0.toInt64) &&& (4294967295 : Int64))), .second] [(.long ((p0.toInt64) &&& (4294967295 : Int64))), (.int (0 : Int32)), (.int (5 : Int32)), (.ref b2), (.ref b40)])) (fun t k => ?_) ?_
    · show Steps p.tables e below (T116.setTop (mkF m 244 #[.val (.int p0), .val (.int p1), .val (.int p2), .val (.int (0 : Int32)), .val (.ref b2), .val (.ref b40), .val (.long ((p0.toInt64) &&& (4294967295 : Int64))), .second] [(.int (fOk (4 : Int32) (0 : Int32) ((p0.toInt64) &&& (4294967295 : Int64)) ((((p2 + (148 : Int32)).toInt8.toInt32).toInt8.toInt32).toInt8.toInt32) (((p2 + (148 : Int32)).toInt8.toInt32).toInt8.toInt32)))])) t
      refine XS.ifNo X116.here hx rfl (hb hby at_244) rfl ((if0 _ _).trans (feq (own_ok_out ((p2 + (148 : Int32)).toInt8.toInt32) (4 : Int32) (0 : Int32) ((p0.toInt64) &&& (4294967295 : Int64)) (by decide))).1) ?_
      show Steps p.tables e below (T116.setTop (mkF m 247 #[.val (.int p0), .val (.int p1), .val (.int p2), .val (.int (0 : Int32)), .val (.ref b2), .val (.ref b40), .val (.long ((p0.toInt64) &&& (4294967295 : Int64))), .second] [])) t
      refine XS.aload X116.here hx rfl (hb hby at_247) rfl rfl ?_
      show Steps p.tables e below (T116.setTop (mkF m 249 #[.val (.int p0), .val (.int p1), .val (.int p2), .val (.int (0 : Int32)), .val (.ref b2), .val (.ref b40), .val (.long ((p0.toInt64) &&& (4294967295 : Int64))), .second] [(.ref b40)])) t
      refine XS.aload X116.here hx rfl (hb hby at_249) rfl rfl ?_
      show Steps p.tables e below (T116.setTop (mkF m 251 #[.val (.int p0), .val (.int p1), .val (.int p2), .val (.int (0 : Int32)), .val (.ref b2), .val (.ref b40), .val (.long ((p0.toInt64) &&& (4294967295 : Int64))), .second] [(.ref b2), (.ref b40)])) t
      refine XS.iconst X116.here hx rfl (hb hby at_251) ?_
      show Steps p.tables e below (T116.setTop (mkF m 252 #[.val (.int p0), .val (.int p1), .val (.int p2), .val (.int (0 : Int32)), .val (.ref b2), .val (.ref b40), .val (.long ((p0.toInt64) &&& (4294967295 : Int64))), .second] [(.int (5 : Int32)), (.ref b2), (.ref b40)])) t
      refine XS.iloadN X116.here hx rfl (hb hby at_252) rfl ?_
      show Steps p.tables e below (T116.setTop (mkF m 253 #[.val (.int p0), .val (.int p1), .val (.int p2), .val (.int (0 : Int32)), .val (.ref b2), .val (.ref b40), .val (.long ((p0.toInt64) &&& (4294967295 : Int64))), .second] [(.int (0 : Int32)), (.int (5 : Int32)), (.ref b2), (.ref b40)])) t
      refine XS.lload X116.here hx rfl (hb hby at_253) rfl ?_
      exact k
    have el121 : Elt Z T95.heap b40 .byte (5 : Int32) (.int ((((p2 + (185 : Int32)).toInt8.toInt32).toInt8.toInt32).toInt8.toInt32)) := Elt.of f96 ⟨by decide, by decide⟩ rfl
    have el122 : Elt Z T95.heap b2 .byte (5 : Int32) (.int (((p2 + (185 : Int32)).toInt8.toInt32).toInt8.toInt32)) := Elt.of f97 ⟨by decide, by decide⟩ rfl
    obtain ⟨_, T120, L120, Lc120, X120, hF120, hQ120, st120⟩ := own_cs X116 hx hZ hown (hw _ (List.mem_of_getElem? (i := 7) rfl)) (hw _ (List.mem_of_getElem? (i := 8) rfl)) (hw _ (List.mem_of_getElem? (i := 9) rfl)) (hw _ (List.mem_of_getElem? (i := 10) rfl)) (by decide) (rmOk l Z az hw [] b40 b2 (5 : Int32) (0 : Int32) ((p0.toInt64) &&& (4294967295 : Int64)) ((((p2 + (185 : Int32)).toInt8.toInt32).toInt8.toInt32).toInt8.toInt32) (((p2 + (185 : Int32)).toInt8.toInt32).toInt8.toInt32) T95.heap n0 Z98 el121 el122) (by decide) (by decide) (W := 0) (g := (mkF m 255 #[.val (.int p0), .val (.int p1), .val (.int p2), .val (.int (0 : Int32)), .val (.ref b2), .val (.ref b40), .val (.long ((p0.toInt64) &&& (4294967295 : Int64))), .second] [(.long ((p0.toInt64) &&& (4294967295 : Int64))), (.int (0 : Int32)), (.int (5 : Int32)), (.ref b2), (.ref b40)])) rfl (by rw [hml]; rfl) (argsL := [(.ref b40), (.ref b2), (.int (5 : Int32)), (.int (0 : Int32)), (.long ((p0.toInt64) &&& (4294967295 : Int64)))]) (rest := []) rfl (lenOf own_pd1 rfl) rfl (by show 2 * 0 + _ ≤ _; exact Nat.le_of_eq rfl) (hb hby at_255) e116 (by decide) (by decide) (c' := 2) (s' := 16) rfl rfl N119
    obtain ⟨rfl, N120q, e120⟩ := hQ120
    have N123 := hF120 N120q
    refine Goes.by st120 ?_
    clear X116 N119 e116
    show Goes p.tables e below _ (T120.setTop (mkF m 258 #[.val (.int p0), .val (.int p1), .val (.int p2), .val (.int (0 : Int32)), .val (.ref b2), .val (.ref b40), .val (.long ((p0.toInt64) &&& (4294967295 : Int64))), .second] [(.int (fOk (5 : Int32) (0 : Int32) ((p0.toInt64) &&& (4294967295 : Int64)) ((((p2 + (185 : Int32)).toInt8.toInt32).toInt8.toInt32).toInt8.toInt32) (((p2 + (185 : Int32)).toInt8.toInt32).toInt8.toInt32)))]))
    refine Goes.by (B := T120.setTop (mkF m 270 #[.val (.int p0), .val (.int p1), .val (.int p2), .val (.int (0 : Int32)), .val (.ref b2), .val (.ref b40), .val (.long ((p0.toInt64) &&& (4294967295 : Int64))), .second] [(.long ((p0.toInt64) &&& (4294967295 : Int64))), (.int (0 : Int32)), (.int (6 : Int32)), (.ref b2), (.ref b40)])) (fun t k => ?_) ?_
    · show Steps p.tables e below (T120.setTop (mkF m 258 #[.val (.int p0), .val (.int p1), .val (.int p2), .val (.int (0 : Int32)), .val (.ref b2), .val (.ref b40), .val (.long ((p0.toInt64) &&& (4294967295 : Int64))), .second] [(.int (fOk (5 : Int32) (0 : Int32) ((p0.toInt64) &&& (4294967295 : Int64)) ((((p2 + (185 : Int32)).toInt8.toInt32).toInt8.toInt32).toInt8.toInt32) (((p2 + (185 : Int32)).toInt8.toInt32).toInt8.toInt32)))])) t
      refine XS.ifNo X120.here hx rfl (hb hby at_258) rfl ((if0 _ _).trans (feq (own_ok_out ((p2 + (185 : Int32)).toInt8.toInt32) (5 : Int32) (0 : Int32) ((p0.toInt64) &&& (4294967295 : Int64)) (by decide))).1) ?_
      show Steps p.tables e below (T120.setTop (mkF m 261 #[.val (.int p0), .val (.int p1), .val (.int p2), .val (.int (0 : Int32)), .val (.ref b2), .val (.ref b40), .val (.long ((p0.toInt64) &&& (4294967295 : Int64))), .second] [])) t
      refine XS.aload X120.here hx rfl (hb hby at_261) rfl rfl ?_
      show Steps p.tables e below (T120.setTop (mkF m 263 #[.val (.int p0), .val (.int p1), .val (.int p2), .val (.int (0 : Int32)), .val (.ref b2), .val (.ref b40), .val (.long ((p0.toInt64) &&& (4294967295 : Int64))), .second] [(.ref b40)])) t
      refine XS.aload X120.here hx rfl (hb hby at_263) rfl rfl ?_
      show Steps p.tables e below (T120.setTop (mkF m 265 #[.val (.int p0), .val (.int p1), .val (.int p2), .val (.int (0 : Int32)), .val (.ref b2), .val (.ref b40), .val (.long ((p0.toInt64) &&& (4294967295 : Int64))), .second] [(.ref b2), (.ref b40)])) t
      refine XS.bipush X120.here hx rfl (hb hby at_265) ?_
      show Steps p.tables e below (T120.setTop (mkF m 267 #[.val (.int p0), .val (.int p1), .val (.int p2), .val (.int (0 : Int32)), .val (.ref b2), .val (.ref b40), .val (.long ((p0.toInt64) &&& (4294967295 : Int64))), .second] [(.int (6 : Int32)), (.ref b2), (.ref b40)])) t
      refine XS.iloadN X120.here hx rfl (hb hby at_267) rfl ?_
      show Steps p.tables e below (T120.setTop (mkF m 268 #[.val (.int p0), .val (.int p1), .val (.int p2), .val (.int (0 : Int32)), .val (.ref b2), .val (.ref b40), .val (.long ((p0.toInt64) &&& (4294967295 : Int64))), .second] [(.int (0 : Int32)), (.int (6 : Int32)), (.ref b2), (.ref b40)])) t
      refine XS.lload X120.here hx rfl (hb hby at_268) rfl ?_
      exact k
    have el125 : Elt Z T95.heap b40 .byte (6 : Int32) (.int ((((p2 + (222 : Int32)).toInt8.toInt32).toInt8.toInt32).toInt8.toInt32)) := Elt.of f96 ⟨by decide, by decide⟩ rfl
    have el126 : Elt Z T95.heap b2 .byte (6 : Int32) (.int (((p2 + (222 : Int32)).toInt8.toInt32).toInt8.toInt32)) := Elt.of f97 ⟨by decide, by decide⟩ rfl
    obtain ⟨_, T124, L124, Lc124, X124, hF124, hQ124, st124⟩ := own_cs X120 hx hZ hown (hw _ (List.mem_of_getElem? (i := 7) rfl)) (hw _ (List.mem_of_getElem? (i := 8) rfl)) (hw _ (List.mem_of_getElem? (i := 9) rfl)) (hw _ (List.mem_of_getElem? (i := 10) rfl)) (by decide) (rmOk l Z az hw [] b40 b2 (6 : Int32) (0 : Int32) ((p0.toInt64) &&& (4294967295 : Int64)) ((((p2 + (222 : Int32)).toInt8.toInt32).toInt8.toInt32).toInt8.toInt32) (((p2 + (222 : Int32)).toInt8.toInt32).toInt8.toInt32) T95.heap n0 Z98 el125 el126) (by decide) (by decide) (W := 0) (g := (mkF m 270 #[.val (.int p0), .val (.int p1), .val (.int p2), .val (.int (0 : Int32)), .val (.ref b2), .val (.ref b40), .val (.long ((p0.toInt64) &&& (4294967295 : Int64))), .second] [(.long ((p0.toInt64) &&& (4294967295 : Int64))), (.int (0 : Int32)), (.int (6 : Int32)), (.ref b2), (.ref b40)])) rfl (by rw [hml]; rfl) (argsL := [(.ref b40), (.ref b2), (.int (6 : Int32)), (.int (0 : Int32)), (.long ((p0.toInt64) &&& (4294967295 : Int64)))]) (rest := []) rfl (lenOf own_pd1 rfl) rfl (by show 2 * 0 + _ ≤ _; exact Nat.le_of_eq rfl) (hb hby at_270) e120 (by decide) (by decide) (c' := 2) (s' := 16) rfl rfl N123
    obtain ⟨rfl, N124q, e124⟩ := hQ124
    have N127 := hF124 N124q
    refine Goes.by st124 ?_
    clear X120 N123 e120
    show Goes p.tables e below _ (T124.setTop (mkF m 273 #[.val (.int p0), .val (.int p1), .val (.int p2), .val (.int (0 : Int32)), .val (.ref b2), .val (.ref b40), .val (.long ((p0.toInt64) &&& (4294967295 : Int64))), .second] [(.int (fOk (6 : Int32) (0 : Int32) ((p0.toInt64) &&& (4294967295 : Int64)) ((((p2 + (222 : Int32)).toInt8.toInt32).toInt8.toInt32).toInt8.toInt32) (((p2 + (222 : Int32)).toInt8.toInt32).toInt8.toInt32)))]))
    refine Goes.by (B := T124.setTop (mkF m 285 #[.val (.int p0), .val (.int p1), .val (.int p2), .val (.int (0 : Int32)), .val (.ref b2), .val (.ref b40), .val (.long ((p0.toInt64) &&& (4294967295 : Int64))), .second] [(.long ((p0.toInt64) &&& (4294967295 : Int64))), (.int (0 : Int32)), (.int (7 : Int32)), (.ref b2), (.ref b40)])) (fun t k => ?_) ?_
    · show Steps p.tables e below (T124.setTop (mkF m 273 #[.val (.int p0), .val (.int p1), .val (.int p2), .val (.int (0 : Int32)), .val (.ref b2), .val (.ref b40), .val (.long ((p0.toInt64) &&& (4294967295 : Int64))), .second] [(.int (fOk (6 : Int32) (0 : Int32) ((p0.toInt64) &&& (4294967295 : Int64)) ((((p2 + (222 : Int32)).toInt8.toInt32).toInt8.toInt32).toInt8.toInt32) (((p2 + (222 : Int32)).toInt8.toInt32).toInt8.toInt32)))])) t
      refine XS.ifNo X124.here hx rfl (hb hby at_273) rfl ((if0 _ _).trans (feq (own_ok_out ((p2 + (222 : Int32)).toInt8.toInt32) (6 : Int32) (0 : Int32) ((p0.toInt64) &&& (4294967295 : Int64)) (by decide))).1) ?_
      show Steps p.tables e below (T124.setTop (mkF m 276 #[.val (.int p0), .val (.int p1), .val (.int p2), .val (.int (0 : Int32)), .val (.ref b2), .val (.ref b40), .val (.long ((p0.toInt64) &&& (4294967295 : Int64))), .second] [])) t
      refine XS.aload X124.here hx rfl (hb hby at_276) rfl rfl ?_
      show Steps p.tables e below (T124.setTop (mkF m 278 #[.val (.int p0), .val (.int p1), .val (.int p2), .val (.int (0 : Int32)), .val (.ref b2), .val (.ref b40), .val (.long ((p0.toInt64) &&& (4294967295 : Int64))), .second] [(.ref b40)])) t
      refine XS.aload X124.here hx rfl (hb hby at_278) rfl rfl ?_
      show Steps p.tables e below (T124.setTop (mkF m 280 #[.val (.int p0), .val (.int p1), .val (.int p2), .val (.int (0 : Int32)), .val (.ref b2), .val (.ref b40), .val (.long ((p0.toInt64) &&& (4294967295 : Int64))), .second] [(.ref b2), (.ref b40)])) t
      refine XS.bipush X124.here hx rfl (hb hby at_280) ?_
      show Steps p.tables e below (T124.setTop (mkF m 282 #[.val (.int p0), .val (.int p1), .val (.int p2), .val (.int (0 : Int32)), .val (.ref b2), .val (.ref b40), .val (.long ((p0.toInt64) &&& (4294967295 : Int64))), .second] [(.int (7 : Int32)), (.ref b2), (.ref b40)])) t
      refine XS.iloadN X124.here hx rfl (hb hby at_282) rfl ?_
      show Steps p.tables e below (T124.setTop (mkF m 283 #[.val (.int p0), .val (.int p1), .val (.int p2), .val (.int (0 : Int32)), .val (.ref b2), .val (.ref b40), .val (.long ((p0.toInt64) &&& (4294967295 : Int64))), .second] [(.int (0 : Int32)), (.int (7 : Int32)), (.ref b2), (.ref b40)])) t
      refine XS.lload X124.here hx rfl (hb hby at_283) rfl ?_
      exact k
    have el129 : Elt Z T95.heap b40 .byte (7 : Int32) (.int ((((p2 + (259 : Int32)).toInt8.toInt32).toInt8.toInt32).toInt8.toInt32)) := Elt.of f96 ⟨by decide, by decide⟩ rfl
    have el130 : Elt Z T95.heap b2 .byte (7 : Int32) (.int (((p2 + (259 : Int32)).toInt8.toInt32).toInt8.toInt32)) := Elt.of f97 ⟨by decide, by decide⟩ rfl
    obtain ⟨_, T128, L128, Lc128, X128, hF128, hQ128, st128⟩ := own_cs X124 hx hZ hown (hw _ (List.mem_of_getElem? (i := 7) rfl)) (hw _ (List.mem_of_getElem? (i := 8) rfl)) (hw _ (List.mem_of_getElem? (i := 9) rfl)) (hw _ (List.mem_of_getElem? (i := 10) rfl)) (by decide) (rmOk l Z az hw [] b40 b2 (7 : Int32) (0 : Int32) ((p0.toInt64) &&& (4294967295 : Int64)) ((((p2 + (259 : Int32)).toInt8.toInt32).toInt8.toInt32).toInt8.toInt32) (((p2 + (259 : Int32)).toInt8.toInt32).toInt8.toInt32) T95.heap n0 Z98 el129 el130) (by decide) (by decide) (W := 0) (g := (mkF m 285 #[.val (.int p0), .val (.int p1), .val (.int p2), .val (.int (0 : Int32)), .val (.ref b2), .val (.ref b40), .val (.long ((p0.toInt64) &&& (4294967295 : Int64))), .second] [(.long ((p0.toInt64) &&& (4294967295 : Int64))), (.int (0 : Int32)), (.int (7 : Int32)), (.ref b2), (.ref b40)])) rfl (by rw [hml]; rfl) (argsL := [(.ref b40), (.ref b2), (.int (7 : Int32)), (.int (0 : Int32)), (.long ((p0.toInt64) &&& (4294967295 : Int64)))]) (rest := []) rfl (lenOf own_pd1 rfl) rfl (by show 2 * 0 + _ ≤ _; exact Nat.le_of_eq rfl) (hb hby at_285) e124 (by decide) (by decide) (c' := 2) (s' := 16) rfl rfl N127
    obtain ⟨rfl, N128q, e128⟩ := hQ128
    have N131 := hF128 N128q
    refine Goes.by st128 ?_
    clear X124 N127 e124
    show Goes p.tables e below _ (T128.setTop (mkF m 288 #[.val (.int p0), .val (.int p1), .val (.int p2), .val (.int (0 : Int32)), .val (.ref b2), .val (.ref b40), .val (.long ((p0.toInt64) &&& (4294967295 : Int64))), .second] [(.int (fOk (7 : Int32) (0 : Int32) ((p0.toInt64) &&& (4294967295 : Int64)) ((((p2 + (259 : Int32)).toInt8.toInt32).toInt8.toInt32).toInt8.toInt32) (((p2 + (259 : Int32)).toInt8.toInt32).toInt8.toInt32)))]))
    refine Goes.by (B := T128.setTop (mkF m 296 #[.val (.int p0), .val (.int p1), .val (.int p2), .val (.int (0 : Int32)), .val (.ref b2), .val (.ref b40), .val (.long ((p0.toInt64) &&& (4294967295 : Int64))), .second] [(.int (1 : Int32))])) (fun t k => ?_) ?_
    · show Steps p.tables e below (T128.setTop (mkF m 288 #[.val (.int p0), .val (.int p1), .val (.int p2), .val (.int (0 : Int32)), .val (.ref b2), .val (.ref b40), .val (.long ((p0.toInt64) &&& (4294967295 : Int64))), .second] [(.int (fOk (7 : Int32) (0 : Int32) ((p0.toInt64) &&& (4294967295 : Int64)) ((((p2 + (259 : Int32)).toInt8.toInt32).toInt8.toInt32).toInt8.toInt32) (((p2 + (259 : Int32)).toInt8.toInt32).toInt8.toInt32)))])) t
      refine XS.ifNo X128.here hx rfl (hb hby at_288) rfl ((if0 _ _).trans (feq (own_ok_out ((p2 + (259 : Int32)).toInt8.toInt32) (7 : Int32) (0 : Int32) ((p0.toInt64) &&& (4294967295 : Int64)) (by decide))).1) ?_
      show Steps p.tables e below (T128.setTop (mkF m 291 #[.val (.int p0), .val (.int p1), .val (.int p2), .val (.int (0 : Int32)), .val (.ref b2), .val (.ref b40), .val (.long ((p0.toInt64) &&& (4294967295 : Int64))), .second] [])) t
      refine XS.iconst X128.here hx rfl (hb hby at_291) ?_
      show Steps p.tables e below (T128.setTop (mkF m 292 #[.val (.int p0), .val (.int p1), .val (.int p2), .val (.int (0 : Int32)), .val (.ref b2), .val (.ref b40), .val (.long ((p0.toInt64) &&& (4294967295 : Int64))), .second] [(.int (1 : Int32))])) t
      refine XS.goto X128.here hx rfl (pc0 := 292) (pc' := 296) rfl (hb hby at_292) (by decide) (by decide) ?_
      exact k
    obtain ⟨fs, hr, hrun, hended, hW, hsame⟩ := X128.leave (v := some (.int (1 : Int32))) (fun h => by rw [Bd.returns] at h; cases h)
    refine Goes.mk _ _ ?_ ⟨hrun, hended, _, _, rfl, ?_, ⟨_, rfl⟩, hW, hsame.mono (by decide) (by decide)⟩
    · exact retN X128 hx (t := .boolean) Bd.returns (by simp) (hb hby at_296) hr
    · show Q0 Z p0 p1 p2 h0 n0 _ T128.heap _
      rw [e128]
      exact ⟨rfl, N131⟩
  · refine Goes.by (B := T90.setTop (mkF m 166 #[.val (.int p0), .val (.int p1), .val (.int p2), .val (.int (1 : Int32)), .val (.ref b2), .val (.ref b40), .unset, .unset] [(.int p0), (.int (1 : Int32)), (.ref b40)])) (fun t k => ?_) ?_
    · show Steps p.tables e below (T90.setTop (mkF m 162 #[.val (.int p0), .val (.int p1), .val (.int p2), .val (.int (1 : Int32)), .val (.ref b2), .val (.ref b40), .unset, .unset] [])) t
      refine XS.aload X90.here hx rfl (hb hby at_162) rfl rfl ?_
      show Steps p.tables e below (T90.setTop (mkF m 164 #[.val (.int p0), .val (.int p1), .val (.int p2), .val (.int (1 : Int32)), .val (.ref b2), .val (.ref b40), .unset, .unset] [(.ref b40)])) t
      refine XS.iloadN X90.here hx rfl (hb hby at_164) rfl ?_
      show Steps p.tables e below (T90.setTop (mkF m 165 #[.val (.int p0), .val (.int p1), .val (.int p2), .val (.int (1 : Int32)), .val (.ref b2), .val (.ref b40), .unset, .unset] [(.int (1 : Int32)), (.ref b40)])) t
      refine XS.iloadN X90.here hx rfl (hb hby at_165) rfl ?_
      exact k
    obtain ⟨_, T132, L132, Lc132, X132, hF132, hQ132, st132⟩ := own_cs X90 hx hZ hown (hw _ (List.mem_of_getElem? (i := 2) rfl)) (hw _ (List.mem_of_getElem? (i := 3) rfl)) (hw _ (List.mem_of_getElem? (i := 4) rfl)) (hw _ (List.mem_of_getElem? (i := 5) rfl)) (by decide) (rmPut1 l Z az hw [] b40 p0 k39 (((p2.toInt8.toInt32).toInt8.toInt32).toInt8.toInt32) ((((p2 + (37 : Int32)).toInt8.toInt32).toInt8.toInt32).toInt8.toInt32) ((((p2 + (74 : Int32)).toInt8.toInt32).toInt8.toInt32).toInt8.toInt32) ((((p2 + (111 : Int32)).toInt8.toInt32).toInt8.toInt32).toInt8.toInt32) ((((p2 + (148 : Int32)).toInt8.toInt32).toInt8.toInt32).toInt8.toInt32) ((((p2 + (185 : Int32)).toInt8.toInt32).toInt8.toInt32).toInt8.toInt32) ((((p2 + (222 : Int32)).toInt8.toInt32).toInt8.toInt32).toInt8.toInt32) ((((p2 + (259 : Int32)).toInt8.toInt32).toInt8.toInt32).toInt8.toInt32) h90 n0 Z93 f92 ge42) (by decide) (by decide) (W := 0) (g := (mkF m 166 #[.val (.int p0), .val (.int p1), .val (.int p2), .val (.int (1 : Int32)), .val (.ref b2), .val (.ref b40), .unset, .unset] [(.int p0), (.int (1 : Int32)), (.ref b40)])) rfl (by rw [hml]; rfl) (argsL := [(.ref b40), (.int (1 : Int32)), (.int p0)]) (rest := []) rfl (lenOf own_pd0 rfl) rfl (by show 2 * 0 + _ ≤ _; exact Nat.le_of_eq rfl) (hb hby at_166) e90 (by decide) (by decide) (c' := 2) (s' := 16) rfl rfl N94
    obtain ⟨rfl, N132q, K132, f133⟩ := hQ132
    have f134 : Arv Z T132.heap b2 k1 .byte (8 : Int32) [(.int ((p2.toInt8.toInt32).toInt8.toInt32)), (.int (((p2 + (37 : Int32)).toInt8.toInt32).toInt8.toInt32)), (.int (((p2 + (74 : Int32)).toInt8.toInt32).toInt8.toInt32)), (.int (((p2 + (111 : Int32)).toInt8.toInt32).toInt8.toInt32)), (.int (((p2 + (148 : Int32)).toInt8.toInt32).toInt8.toInt32)), (.int (((p2 + (185 : Int32)).toInt8.toInt32).toInt8.toInt32)), (.int (((p2 + (222 : Int32)).toInt8.toInt32).toInt8.toInt32)), (.int (((p2 + (259 : Int32)).toInt8.toInt32).toInt8.toInt32))] (.int (0 : Int32)) := f91.keep K132 (ninS ne41 nin0)
    have Kp132 : Keep h0 T132.heap [] := Kp90.trans K132 (allS (Or.inr sz43) all0)
    have Z135 : n0 ≤ T132.heap.size := Nat.le_trans Z93 K132.1
    have N136 := hF132 N132q
    refine Goes.by st132 ?_
    clear f91 f92 X90 N94 Z93 Kp90 e90
    show Goes p.tables e below _ (T132.setTop (mkF m 169 #[.val (.int p0), .val (.int p1), .val (.int p2), .val (.int (1 : Int32)), .val (.ref b2), .val (.ref b40), .unset, .unset] []))
    refine Goes.by (B := T132.setTop (mkF m 185 #[.val (.int p0), .val (.int p1), .val (.int p2), .val (.int (1 : Int32)), .val (.ref b2), .val (.ref b40), .val (.long ((p0.toInt64) &&& (4294967295 : Int64))), .second] [(.long ((p0.toInt64) &&& (4294967295 : Int64))), (.int (1 : Int32)), (.int (0 : Int32)), (.ref b2), (.ref b40)])) (fun t k => ?_) ?_
    · show Steps p.tables e below (T132.setTop (mkF m 169 #[.val (.int p0), .val (.int p1), .val (.int p2), .val (.int (1 : Int32)), .val (.ref b2), .val (.ref b40), .unset, .unset] [])) t
      refine XS.iloadN X132.here hx rfl (hb hby at_169) rfl ?_
      show Steps p.tables e below (T132.setTop (mkF m 170 #[.val (.int p0), .val (.int p1), .val (.int p2), .val (.int (1 : Int32)), .val (.ref b2), .val (.ref b40), .unset, .unset] [(.int p0)])) t
      refine XS.i2l X132.here hx rfl (hb hby at_170) rfl ?_
      show Steps p.tables e below (T132.setTop (mkF m 171 #[.val (.int p0), .val (.int p1), .val (.int p2), .val (.int (1 : Int32)), .val (.ref b2), .val (.ref b40), .unset, .unset] [(.long (p0.toInt64))])) t
      refine X132.ldc2Long hx hown (mvT hZ (hw _ (List.mem_of_getElem? (i := 6) rfl))) (g := (mkF m 171 #[.val (.int p0), .val (.int p1), .val (.int p2), .val (.int (1 : Int32)), .val (.ref b2), .val (.ref b40), .unset, .unset] [(.long (p0.toInt64))])) rfl (hb hby at_171) _ ?_
      show Steps p.tables e below (T132.setTop (mkF m 174 #[.val (.int p0), .val (.int p1), .val (.int p2), .val (.int (1 : Int32)), .val (.ref b2), .val (.ref b40), .unset, .unset] [(.long (4294967295 : Int64)), (.long (p0.toInt64))])) t
      refine XS.land X132.here hx rfl (hb hby at_174) rfl ?_
      show Steps p.tables e below (T132.setTop (mkF m 175 #[.val (.int p0), .val (.int p1), .val (.int p2), .val (.int (1 : Int32)), .val (.ref b2), .val (.ref b40), .unset, .unset] [(.long ((p0.toInt64) &&& (4294967295 : Int64)))])) t
      refine XS.lstore X132.here hx rfl (hb hby at_175) rfl (l' := #[.val (.int p0), .val (.int p1), .val (.int p2), .val (.int (1 : Int32)), .val (.ref b2), .val (.ref b40), .val (.long ((p0.toInt64) &&& (4294967295 : Int64))), .second]) rfl ?_
      show Steps p.tables e below (T132.setTop (mkF m 177 #[.val (.int p0), .val (.int p1), .val (.int p2), .val (.int (1 : Int32)), .val (.ref b2), .val (.ref b40), .val (.long ((p0.toInt64) &&& (4294967295 : Int64))), .second] [])) t
      refine XS.aload X132.here hx rfl (hb hby at_177) rfl rfl ?_
      show Steps p.tables e below (T132.setTop (mkF m 179 #[.val (.int p0), .val (.int p1), .val (.int p2), .val (.int (1 : Int32)), .val (.ref b2), .val (.ref b40), .val (.long ((p0.toInt64) &&& (4294967295 : Int64))), .second] [(.ref b40)])) t
      refine XS.aload X132.here hx rfl (hb hby at_179) rfl rfl ?_
      show Steps p.tables e below (T132.setTop (mkF m 181 #[.val (.int p0), .val (.int p1), .val (.int p2), .val (.int (1 : Int32)), .val (.ref b2), .val (.ref b40), .val (.long ((p0.toInt64) &&& (4294967295 : Int64))), .second] [(.ref b2), (.ref b40)])) t
      refine XS.iconst X132.here hx rfl (hb hby at_181) ?_
      show Steps p.tables e below (T132.setTop (mkF m 182 #[.val (.int p0), .val (.int p1), .val (.int p2), .val (.int (1 : Int32)), .val (.ref b2), .val (.ref b40), .val (.long ((p0.toInt64) &&& (4294967295 : Int64))), .second] [(.int (0 : Int32)), (.ref b2), (.ref b40)])) t
      refine XS.iloadN X132.here hx rfl (hb hby at_182) rfl ?_
      show Steps p.tables e below (T132.setTop (mkF m 183 #[.val (.int p0), .val (.int p1), .val (.int p2), .val (.int (1 : Int32)), .val (.ref b2), .val (.ref b40), .val (.long ((p0.toInt64) &&& (4294967295 : Int64))), .second] [(.int (1 : Int32)), (.int (0 : Int32)), (.ref b2), (.ref b40)])) t
      refine XS.lload X132.here hx rfl (hb hby at_183) rfl ?_
      exact k
    have el138 : Elt Z T132.heap b40 .byte (0 : Int32) (.int (((p2.toInt8.toInt32).toInt8.toInt32).toInt8.toInt32)) := Elt.of f133 ⟨by decide, by decide⟩ rfl
    have el139 : Elt Z T132.heap b2 .byte (0 : Int32) (.int ((p2.toInt8.toInt32).toInt8.toInt32)) := Elt.of f134 ⟨by decide, by decide⟩ rfl
    obtain ⟨_, T137, L137, Lc137, X137, hF137, hQ137, st137⟩ := own_cs X132 hx hZ hown (hw _ (List.mem_of_getElem? (i := 7) rfl)) (hw _ (List.mem_of_getElem? (i := 8) rfl)) (hw _ (List.mem_of_getElem? (i := 9) rfl)) (hw _ (List.mem_of_getElem? (i := 10) rfl)) (by decide) (rmOk l Z az hw [] b40 b2 (0 : Int32) (1 : Int32) ((p0.toInt64) &&& (4294967295 : Int64)) (((p2.toInt8.toInt32).toInt8.toInt32).toInt8.toInt32) ((p2.toInt8.toInt32).toInt8.toInt32) T132.heap n0 Z135 el138 el139) (by decide) (by decide) (W := 0) (g := (mkF m 185 #[.val (.int p0), .val (.int p1), .val (.int p2), .val (.int (1 : Int32)), .val (.ref b2), .val (.ref b40), .val (.long ((p0.toInt64) &&& (4294967295 : Int64))), .second] [(.long ((p0.toInt64) &&& (4294967295 : Int64))), (.int (1 : Int32)), (.int (0 : Int32)), (.ref b2), (.ref b40)])) rfl (by rw [hml]; rfl) (argsL := [(.ref b40), (.ref b2), (.int (0 : Int32)), (.int (1 : Int32)), (.long ((p0.toInt64) &&& (4294967295 : Int64)))]) (rest := []) rfl (lenOf own_pd1 rfl) rfl (by show 2 * 0 + _ ≤ _; exact Nat.le_of_eq rfl) (hb hby at_185) rfl (by decide) (by decide) (c' := 2) (s' := 16) rfl rfl N136
    obtain ⟨rfl, N137q, e137⟩ := hQ137
    have N140 := hF137 N137q
    refine Goes.by st137 ?_
    clear X132 N136
    show Goes p.tables e below _ (T137.setTop (mkF m 188 #[.val (.int p0), .val (.int p1), .val (.int p2), .val (.int (1 : Int32)), .val (.ref b2), .val (.ref b40), .val (.long ((p0.toInt64) &&& (4294967295 : Int64))), .second] [(.int (fOk (0 : Int32) (1 : Int32) ((p0.toInt64) &&& (4294967295 : Int64)) (((p2.toInt8.toInt32).toInt8.toInt32).toInt8.toInt32) ((p2.toInt8.toInt32).toInt8.toInt32)))]))
    refine Goes.by (B := T137.setTop (mkF m 199 #[.val (.int p0), .val (.int p1), .val (.int p2), .val (.int (1 : Int32)), .val (.ref b2), .val (.ref b40), .val (.long ((p0.toInt64) &&& (4294967295 : Int64))), .second] [(.long ((p0.toInt64) &&& (4294967295 : Int64))), (.int (1 : Int32)), (.int (1 : Int32)), (.ref b2), (.ref b40)])) (fun t k => ?_) ?_
    · show Steps p.tables e below (T137.setTop (mkF m 188 #[.val (.int p0), .val (.int p1), .val (.int p2), .val (.int (1 : Int32)), .val (.ref b2), .val (.ref b40), .val (.long ((p0.toInt64) &&& (4294967295 : Int64))), .second] [(.int (fOk (0 : Int32) (1 : Int32) ((p0.toInt64) &&& (4294967295 : Int64)) (((p2.toInt8.toInt32).toInt8.toInt32).toInt8.toInt32) ((p2.toInt8.toInt32).toInt8.toInt32)))])) t
      refine XS.ifNo X137.here hx rfl (hb hby at_188) rfl ((if0 _ _).trans (feq (own_ok_out (p2.toInt8.toInt32) (0 : Int32) (1 : Int32) ((p0.toInt64) &&& (4294967295 : Int64)) (by decide))).1) ?_
      show Steps p.tables e below (T137.setTop (mkF m 191 #[.val (.int p0), .val (.int p1), .val (.int p2), .val (.int (1 : Int32)), .val (.ref b2), .val (.ref b40), .val (.long ((p0.toInt64) &&& (4294967295 : Int64))), .second] [])) t
      refine XS.aload X137.here hx rfl (hb hby at_191) rfl rfl ?_
      show Steps p.tables e below (T137.setTop (mkF m 193 #[.val (.int p0), .val (.int p1), .val (.int p2), .val (.int (1 : Int32)), .val (.ref b2), .val (.ref b40), .val (.long ((p0.toInt64) &&& (4294967295 : Int64))), .second] [(.ref b40)])) t
      refine XS.aload X137.here hx rfl (hb hby at_193) rfl rfl ?_
      show Steps p.tables e below (T137.setTop (mkF m 195 #[.val (.int p0), .val (.int p1), .val (.int p2), .val (.int (1 : Int32)), .val (.ref b2), .val (.ref b40), .val (.long ((p0.toInt64) &&& (4294967295 : Int64))), .second] [(.ref b2), (.ref b40)])) t
      refine XS.iconst X137.here hx rfl (hb hby at_195) ?_
      show Steps p.tables e below (T137.setTop (mkF m 196 #[.val (.int p0), .val (.int p1), .val (.int p2), .val (.int (1 : Int32)), .val (.ref b2), .val (.ref b40), .val (.long ((p0.toInt64) &&& (4294967295 : Int64))), .second] [(.int (1 : Int32)), (.ref b2), (.ref b40)])) t
      refine XS.iloadN X137.here hx rfl (hb hby at_196) rfl ?_
      show Steps p.tables e below (T137.setTop (mkF m 197 #[.val (.int p0), .val (.int p1), .val (.int p2), .val (.int (1 : Int32)), .val (.ref b2), .val (.ref b40), .val (.long ((p0.toInt64) &&& (4294967295 : Int64))), .second] [(.int (1 : Int32)), (.int (1 : Int32)), (.ref b2), (.ref b40)])) t
      refine XS.lload X137.here hx rfl (hb hby at_197) rfl ?_
      exact k
    have el142 : Elt Z T132.heap b40 .byte (1 : Int32) (.int ((((p0.toUInt32 >>> ((24 : Int32) &&& 31).toUInt32).toInt32).toInt8.toInt32).toInt8.toInt32)) := Elt.of f133 ⟨by decide, by decide⟩ rfl
    have el143 : Elt Z T132.heap b2 .byte (1 : Int32) (.int (((p2 + (37 : Int32)).toInt8.toInt32).toInt8.toInt32)) := Elt.of f134 ⟨by decide, by decide⟩ rfl
    obtain ⟨_, T141, L141, Lc141, X141, hF141, hQ141, st141⟩ := own_cs X137 hx hZ hown (hw _ (List.mem_of_getElem? (i := 7) rfl)) (hw _ (List.mem_of_getElem? (i := 8) rfl)) (hw _ (List.mem_of_getElem? (i := 9) rfl)) (hw _ (List.mem_of_getElem? (i := 10) rfl)) (by decide) (rmOk l Z az hw [] b40 b2 (1 : Int32) (1 : Int32) ((p0.toInt64) &&& (4294967295 : Int64)) ((((p0.toUInt32 >>> ((24 : Int32) &&& 31).toUInt32).toInt32).toInt8.toInt32).toInt8.toInt32) (((p2 + (37 : Int32)).toInt8.toInt32).toInt8.toInt32) T132.heap n0 Z135 el142 el143) (by decide) (by decide) (W := 0) (g := (mkF m 199 #[.val (.int p0), .val (.int p1), .val (.int p2), .val (.int (1 : Int32)), .val (.ref b2), .val (.ref b40), .val (.long ((p0.toInt64) &&& (4294967295 : Int64))), .second] [(.long ((p0.toInt64) &&& (4294967295 : Int64))), (.int (1 : Int32)), (.int (1 : Int32)), (.ref b2), (.ref b40)])) rfl (by rw [hml]; rfl) (argsL := [(.ref b40), (.ref b2), (.int (1 : Int32)), (.int (1 : Int32)), (.long ((p0.toInt64) &&& (4294967295 : Int64)))]) (rest := []) rfl (lenOf own_pd1 rfl) rfl (by show 2 * 0 + _ ≤ _; exact Nat.le_of_eq rfl) (hb hby at_199) e137 (by decide) (by decide) (c' := 2) (s' := 16) rfl rfl N140
    obtain ⟨rfl, N141q, e141⟩ := hQ141
    have N144 := hF141 N141q
    refine Goes.by st141 ?_
    clear X137 N140 e137
    show Goes p.tables e below _ (T141.setTop (mkF m 202 #[.val (.int p0), .val (.int p1), .val (.int p2), .val (.int (1 : Int32)), .val (.ref b2), .val (.ref b40), .val (.long ((p0.toInt64) &&& (4294967295 : Int64))), .second] [(.int (fOk (1 : Int32) (1 : Int32) ((p0.toInt64) &&& (4294967295 : Int64)) ((((p0.toUInt32 >>> ((24 : Int32) &&& 31).toUInt32).toInt32).toInt8.toInt32).toInt8.toInt32) (((p2 + (37 : Int32)).toInt8.toInt32).toInt8.toInt32)))]))
    refine Goes.by (B := T141.setTop (mkF m 213 #[.val (.int p0), .val (.int p1), .val (.int p2), .val (.int (1 : Int32)), .val (.ref b2), .val (.ref b40), .val (.long ((p0.toInt64) &&& (4294967295 : Int64))), .second] [(.long ((p0.toInt64) &&& (4294967295 : Int64))), (.int (1 : Int32)), (.int (2 : Int32)), (.ref b2), (.ref b40)])) (fun t k => ?_) ?_
    · show Steps p.tables e below (T141.setTop (mkF m 202 #[.val (.int p0), .val (.int p1), .val (.int p2), .val (.int (1 : Int32)), .val (.ref b2), .val (.ref b40), .val (.long ((p0.toInt64) &&& (4294967295 : Int64))), .second] [(.int (fOk (1 : Int32) (1 : Int32) ((p0.toInt64) &&& (4294967295 : Int64)) ((((p0.toUInt32 >>> ((24 : Int32) &&& 31).toUInt32).toInt32).toInt8.toInt32).toInt8.toInt32) (((p2 + (37 : Int32)).toInt8.toInt32).toInt8.toInt32)))])) t
      refine XS.ifNo X141.here hx rfl (hb hby at_202) rfl ((if0 _ _).trans (feq (own_ok0 p0 (((p2 + (37 : Int32)).toInt8.toInt32).toInt8.toInt32) (1 : Int32) (1 : Int32) (by decide))).1) ?_
      show Steps p.tables e below (T141.setTop (mkF m 205 #[.val (.int p0), .val (.int p1), .val (.int p2), .val (.int (1 : Int32)), .val (.ref b2), .val (.ref b40), .val (.long ((p0.toInt64) &&& (4294967295 : Int64))), .second] [])) t
      refine XS.aload X141.here hx rfl (hb hby at_205) rfl rfl ?_
      show Steps p.tables e below (T141.setTop (mkF m 207 #[.val (.int p0), .val (.int p1), .val (.int p2), .val (.int (1 : Int32)), .val (.ref b2), .val (.ref b40), .val (.long ((p0.toInt64) &&& (4294967295 : Int64))), .second] [(.ref b40)])) t
      refine XS.aload X141.here hx rfl (hb hby at_207) rfl rfl ?_
      show Steps p.tables e below (T141.setTop (mkF m 209 #[.val (.int p0), .val (.int p1), .val (.int p2), .val (.int (1 : Int32)), .val (.ref b2), .val (.ref b40), .val (.long ((p0.toInt64) &&& (4294967295 : Int64))), .second] [(.ref b2), (.ref b40)])) t
      refine XS.iconst X141.here hx rfl (hb hby at_209) ?_
      show Steps p.tables e below (T141.setTop (mkF m 210 #[.val (.int p0), .val (.int p1), .val (.int p2), .val (.int (1 : Int32)), .val (.ref b2), .val (.ref b40), .val (.long ((p0.toInt64) &&& (4294967295 : Int64))), .second] [(.int (2 : Int32)), (.ref b2), (.ref b40)])) t
      refine XS.iloadN X141.here hx rfl (hb hby at_210) rfl ?_
      show Steps p.tables e below (T141.setTop (mkF m 211 #[.val (.int p0), .val (.int p1), .val (.int p2), .val (.int (1 : Int32)), .val (.ref b2), .val (.ref b40), .val (.long ((p0.toInt64) &&& (4294967295 : Int64))), .second] [(.int (1 : Int32)), (.int (2 : Int32)), (.ref b2), (.ref b40)])) t
      refine XS.lload X141.here hx rfl (hb hby at_211) rfl ?_
      exact k
    have el146 : Elt Z T132.heap b40 .byte (2 : Int32) (.int ((((p0.toUInt32 >>> ((16 : Int32) &&& 31).toUInt32).toInt32).toInt8.toInt32).toInt8.toInt32)) := Elt.of f133 ⟨by decide, by decide⟩ rfl
    have el147 : Elt Z T132.heap b2 .byte (2 : Int32) (.int (((p2 + (74 : Int32)).toInt8.toInt32).toInt8.toInt32)) := Elt.of f134 ⟨by decide, by decide⟩ rfl
    obtain ⟨_, T145, L145, Lc145, X145, hF145, hQ145, st145⟩ := own_cs X141 hx hZ hown (hw _ (List.mem_of_getElem? (i := 7) rfl)) (hw _ (List.mem_of_getElem? (i := 8) rfl)) (hw _ (List.mem_of_getElem? (i := 9) rfl)) (hw _ (List.mem_of_getElem? (i := 10) rfl)) (by decide) (rmOk l Z az hw [] b40 b2 (2 : Int32) (1 : Int32) ((p0.toInt64) &&& (4294967295 : Int64)) ((((p0.toUInt32 >>> ((16 : Int32) &&& 31).toUInt32).toInt32).toInt8.toInt32).toInt8.toInt32) (((p2 + (74 : Int32)).toInt8.toInt32).toInt8.toInt32) T132.heap n0 Z135 el146 el147) (by decide) (by decide) (W := 0) (g := (mkF m 213 #[.val (.int p0), .val (.int p1), .val (.int p2), .val (.int (1 : Int32)), .val (.ref b2), .val (.ref b40), .val (.long ((p0.toInt64) &&& (4294967295 : Int64))), .second] [(.long ((p0.toInt64) &&& (4294967295 : Int64))), (.int (1 : Int32)), (.int (2 : Int32)), (.ref b2), (.ref b40)])) rfl (by rw [hml]; rfl) (argsL := [(.ref b40), (.ref b2), (.int (2 : Int32)), (.int (1 : Int32)), (.long ((p0.toInt64) &&& (4294967295 : Int64)))]) (rest := []) rfl (lenOf own_pd1 rfl) rfl (by show 2 * 0 + _ ≤ _; exact Nat.le_of_eq rfl) (hb hby at_213) e141 (by decide) (by decide) (c' := 2) (s' := 16) rfl rfl N144
    obtain ⟨rfl, N145q, e145⟩ := hQ145
    have N148 := hF145 N145q
    refine Goes.by st145 ?_
    clear X141 N144 e141
    show Goes p.tables e below _ (T145.setTop (mkF m 216 #[.val (.int p0), .val (.int p1), .val (.int p2), .val (.int (1 : Int32)), .val (.ref b2), .val (.ref b40), .val (.long ((p0.toInt64) &&& (4294967295 : Int64))), .second] [(.int (fOk (2 : Int32) (1 : Int32) ((p0.toInt64) &&& (4294967295 : Int64)) ((((p0.toUInt32 >>> ((16 : Int32) &&& 31).toUInt32).toInt32).toInt8.toInt32).toInt8.toInt32) (((p2 + (74 : Int32)).toInt8.toInt32).toInt8.toInt32)))]))
    refine Goes.by (B := T145.setTop (mkF m 227 #[.val (.int p0), .val (.int p1), .val (.int p2), .val (.int (1 : Int32)), .val (.ref b2), .val (.ref b40), .val (.long ((p0.toInt64) &&& (4294967295 : Int64))), .second] [(.long ((p0.toInt64) &&& (4294967295 : Int64))), (.int (1 : Int32)), (.int (3 : Int32)), (.ref b2), (.ref b40)])) (fun t k => ?_) ?_
    · show Steps p.tables e below (T145.setTop (mkF m 216 #[.val (.int p0), .val (.int p1), .val (.int p2), .val (.int (1 : Int32)), .val (.ref b2), .val (.ref b40), .val (.long ((p0.toInt64) &&& (4294967295 : Int64))), .second] [(.int (fOk (2 : Int32) (1 : Int32) ((p0.toInt64) &&& (4294967295 : Int64)) ((((p0.toUInt32 >>> ((16 : Int32) &&& 31).toUInt32).toInt32).toInt8.toInt32).toInt8.toInt32) (((p2 + (74 : Int32)).toInt8.toInt32).toInt8.toInt32)))])) t
      refine XS.ifNo X145.here hx rfl (hb hby at_216) rfl ((if0 _ _).trans (feq (own_ok1 p0 (((p2 + (74 : Int32)).toInt8.toInt32).toInt8.toInt32) (2 : Int32) (1 : Int32) (by decide))).1) ?_
      show Steps p.tables e below (T145.setTop (mkF m 219 #[.val (.int p0), .val (.int p1), .val (.int p2), .val (.int (1 : Int32)), .val (.ref b2), .val (.ref b40), .val (.long ((p0.toInt64) &&& (4294967295 : Int64))), .second] [])) t
      refine XS.aload X145.here hx rfl (hb hby at_219) rfl rfl ?_
      show Steps p.tables e below (T145.setTop (mkF m 221 #[.val (.int p0), .val (.int p1), .val (.int p2), .val (.int (1 : Int32)), .val (.ref b2), .val (.ref b40), .val (.long ((p0.toInt64) &&& (4294967295 : Int64))), .second] [(.ref b40)])) t
      refine XS.aload X145.here hx rfl (hb hby at_221) rfl rfl ?_
      show Steps p.tables e below (T145.setTop (mkF m 223 #[.val (.int p0), .val (.int p1), .val (.int p2), .val (.int (1 : Int32)), .val (.ref b2), .val (.ref b40), .val (.long ((p0.toInt64) &&& (4294967295 : Int64))), .second] [(.ref b2), (.ref b40)])) t
      refine XS.iconst X145.here hx rfl (hb hby at_223) ?_
      show Steps p.tables e below (T145.setTop (mkF m 224 #[.val (.int p0), .val (.int p1), .val (.int p2), .val (.int (1 : Int32)), .val (.ref b2), .val (.ref b40), .val (.long ((p0.toInt64) &&& (4294967295 : Int64))), .second] [(.int (3 : Int32)), (.ref b2), (.ref b40)])) t
      refine XS.iloadN X145.here hx rfl (hb hby at_224) rfl ?_
      show Steps p.tables e below (T145.setTop (mkF m 225 #[.val (.int p0), .val (.int p1), .val (.int p2), .val (.int (1 : Int32)), .val (.ref b2), .val (.ref b40), .val (.long ((p0.toInt64) &&& (4294967295 : Int64))), .second] [(.int (1 : Int32)), (.int (3 : Int32)), (.ref b2), (.ref b40)])) t
      refine XS.lload X145.here hx rfl (hb hby at_225) rfl ?_
      exact k
    have el150 : Elt Z T132.heap b40 .byte (3 : Int32) (.int ((((p0.toUInt32 >>> ((8 : Int32) &&& 31).toUInt32).toInt32).toInt8.toInt32).toInt8.toInt32)) := Elt.of f133 ⟨by decide, by decide⟩ rfl
    have el151 : Elt Z T132.heap b2 .byte (3 : Int32) (.int (((p2 + (111 : Int32)).toInt8.toInt32).toInt8.toInt32)) := Elt.of f134 ⟨by decide, by decide⟩ rfl
    obtain ⟨_, T149, L149, Lc149, X149, hF149, hQ149, st149⟩ := own_cs X145 hx hZ hown (hw _ (List.mem_of_getElem? (i := 7) rfl)) (hw _ (List.mem_of_getElem? (i := 8) rfl)) (hw _ (List.mem_of_getElem? (i := 9) rfl)) (hw _ (List.mem_of_getElem? (i := 10) rfl)) (by decide) (rmOk l Z az hw [] b40 b2 (3 : Int32) (1 : Int32) ((p0.toInt64) &&& (4294967295 : Int64)) ((((p0.toUInt32 >>> ((8 : Int32) &&& 31).toUInt32).toInt32).toInt8.toInt32).toInt8.toInt32) (((p2 + (111 : Int32)).toInt8.toInt32).toInt8.toInt32) T132.heap n0 Z135 el150 el151) (by decide) (by decide) (W := 0) (g := (mkF m 227 #[.val (.int p0), .val (.int p1), .val (.int p2), .val (.int (1 : Int32)), .val (.ref b2), .val (.ref b40), .val (.long ((p0.toInt64) &&& (4294967295 : Int64))), .second] [(.long ((p0.toInt64) &&& (4294967295 : Int64))), (.int (1 : Int32)), (.int (3 : Int32)), (.ref b2), (.ref b40)])) rfl (by rw [hml]; rfl) (argsL := [(.ref b40), (.ref b2), (.int (3 : Int32)), (.int (1 : Int32)), (.long ((p0.toInt64) &&& (4294967295 : Int64)))]) (rest := []) rfl (lenOf own_pd1 rfl) rfl (by show 2 * 0 + _ ≤ _; exact Nat.le_of_eq rfl) (hb hby at_227) e145 (by decide) (by decide) (c' := 2) (s' := 16) rfl rfl N148
    obtain ⟨rfl, N149q, e149⟩ := hQ149
    have N152 := hF149 N149q
    refine Goes.by st149 ?_
    clear X145 N148 e145
    show Goes p.tables e below _ (T149.setTop (mkF m 230 #[.val (.int p0), .val (.int p1), .val (.int p2), .val (.int (1 : Int32)), .val (.ref b2), .val (.ref b40), .val (.long ((p0.toInt64) &&& (4294967295 : Int64))), .second] [(.int (fOk (3 : Int32) (1 : Int32) ((p0.toInt64) &&& (4294967295 : Int64)) ((((p0.toUInt32 >>> ((8 : Int32) &&& 31).toUInt32).toInt32).toInt8.toInt32).toInt8.toInt32) (((p2 + (111 : Int32)).toInt8.toInt32).toInt8.toInt32)))]))
    refine Goes.by (B := T149.setTop (mkF m 241 #[.val (.int p0), .val (.int p1), .val (.int p2), .val (.int (1 : Int32)), .val (.ref b2), .val (.ref b40), .val (.long ((p0.toInt64) &&& (4294967295 : Int64))), .second] [(.long ((p0.toInt64) &&& (4294967295 : Int64))), (.int (1 : Int32)), (.int (4 : Int32)), (.ref b2), (.ref b40)])) (fun t k => ?_) ?_
    · show Steps p.tables e below (T149.setTop (mkF m 230 #[.val (.int p0), .val (.int p1), .val (.int p2), .val (.int (1 : Int32)), .val (.ref b2), .val (.ref b40), .val (.long ((p0.toInt64) &&& (4294967295 : Int64))), .second] [(.int (fOk (3 : Int32) (1 : Int32) ((p0.toInt64) &&& (4294967295 : Int64)) ((((p0.toUInt32 >>> ((8 : Int32) &&& 31).toUInt32).toInt32).toInt8.toInt32).toInt8.toInt32) (((p2 + (111 : Int32)).toInt8.toInt32).toInt8.toInt32)))])) t
      refine XS.ifNo X149.here hx rfl (hb hby at_230) rfl ((if0 _ _).trans (feq (own_ok2 p0 (((p2 + (111 : Int32)).toInt8.toInt32).toInt8.toInt32) (3 : Int32) (1 : Int32) (by decide))).1) ?_
      show Steps p.tables e below (T149.setTop (mkF m 233 #[.val (.int p0), .val (.int p1), .val (.int p2), .val (.int (1 : Int32)), .val (.ref b2), .val (.ref b40), .val (.long ((p0.toInt64) &&& (4294967295 : Int64))), .second] [])) t
      refine XS.aload X149.here hx rfl (hb hby at_233) rfl rfl ?_
      show Steps p.tables e below (T149.setTop (mkF m 235 #[.val (.int p0), .val (.int p1), .val (.int p2), .val (.int (1 : Int32)), .val (.ref b2), .val (.ref b40), .val (.long ((p0.toInt64) &&& (4294967295 : Int64))), .second] [(.ref b40)])) t
      refine XS.aload X149.here hx rfl (hb hby at_235) rfl rfl ?_
      show Steps p.tables e below (T149.setTop (mkF m 237 #[.val (.int p0), .val (.int p1), .val (.int p2), .val (.int (1 : Int32)), .val (.ref b2), .val (.ref b40), .val (.long ((p0.toInt64) &&& (4294967295 : Int64))), .second] [(.ref b2), (.ref b40)])) t
      refine XS.iconst X149.here hx rfl (hb hby at_237) ?_
      show Steps p.tables e below (T149.setTop (mkF m 238 #[.val (.int p0), .val (.int p1), .val (.int p2), .val (.int (1 : Int32)), .val (.ref b2), .val (.ref b40), .val (.long ((p0.toInt64) &&& (4294967295 : Int64))), .second] [(.int (4 : Int32)), (.ref b2), (.ref b40)])) t
      refine XS.iloadN X149.here hx rfl (hb hby at_238) rfl ?_
      show Steps p.tables e below (T149.setTop (mkF m 239 #[.val (.int p0), .val (.int p1), .val (.int p2), .val (.int (1 : Int32)), .val (.ref b2), .val (.ref b40), .val (.long ((p0.toInt64) &&& (4294967295 : Int64))), .second] [(.int (1 : Int32)), (.int (4 : Int32)), (.ref b2), (.ref b40)])) t
      refine XS.lload X149.here hx rfl (hb hby at_239) rfl ?_
      exact k
    have el154 : Elt Z T132.heap b40 .byte (4 : Int32) (.int ((p0.toInt8.toInt32).toInt8.toInt32)) := Elt.of f133 ⟨by decide, by decide⟩ rfl
    have el155 : Elt Z T132.heap b2 .byte (4 : Int32) (.int (((p2 + (148 : Int32)).toInt8.toInt32).toInt8.toInt32)) := Elt.of f134 ⟨by decide, by decide⟩ rfl
    obtain ⟨_, T153, L153, Lc153, X153, hF153, hQ153, st153⟩ := own_cs X149 hx hZ hown (hw _ (List.mem_of_getElem? (i := 7) rfl)) (hw _ (List.mem_of_getElem? (i := 8) rfl)) (hw _ (List.mem_of_getElem? (i := 9) rfl)) (hw _ (List.mem_of_getElem? (i := 10) rfl)) (by decide) (rmOk l Z az hw [] b40 b2 (4 : Int32) (1 : Int32) ((p0.toInt64) &&& (4294967295 : Int64)) ((p0.toInt8.toInt32).toInt8.toInt32) (((p2 + (148 : Int32)).toInt8.toInt32).toInt8.toInt32) T132.heap n0 Z135 el154 el155) (by decide) (by decide) (W := 0) (g := (mkF m 241 #[.val (.int p0), .val (.int p1), .val (.int p2), .val (.int (1 : Int32)), .val (.ref b2), .val (.ref b40), .val (.long ((p0.toInt64) &&& (4294967295 : Int64))), .second] [(.long ((p0.toInt64) &&& (4294967295 : Int64))), (.int (1 : Int32)), (.int (4 : Int32)), (.ref b2), (.ref b40)])) rfl (by rw [hml]; rfl) (argsL := [(.ref b40), (.ref b2), (.int (4 : Int32)), (.int (1 : Int32)), (.long ((p0.toInt64) &&& (4294967295 : Int64)))]) (rest := []) rfl (lenOf own_pd1 rfl) rfl (by show 2 * 0 + _ ≤ _; exact Nat.le_of_eq rfl) (hb hby at_241) e149 (by decide) (by decide) (c' := 2) (s' := 16) rfl rfl N152
    obtain ⟨rfl, N153q, e153⟩ := hQ153
    have N156 := hF153 N153q
    refine Goes.by st153 ?_
    clear X149 N152 e149
    show Goes p.tables e below _ (T153.setTop (mkF m 244 #[.val (.int p0), .val (.int p1), .val (.int p2), .val (.int (1 : Int32)), .val (.ref b2), .val (.ref b40), .val (.long ((p0.toInt64) &&& (4294967295 : Int64))), .second] [(.int (fOk (4 : Int32) (1 : Int32) ((p0.toInt64) &&& (4294967295 : Int64)) ((p0.toInt8.toInt32).toInt8.toInt32) (((p2 + (148 : Int32)).toInt8.toInt32).toInt8.toInt32)))]))
    refine Goes.by (B := T153.setTop (mkF m 255 #[.val (.int p0), .val (.int p1), .val (.int p2), .val (.int (1 : Int32)), .val (.ref b2), .val (.ref b40), .val (.long ((p0.toInt64) &&& (4294967295 : Int64))), .second] [(.long ((p0.toInt64) &&& (4294967295 : Int64))), (.int (1 : Int32)), (.int (5 : Int32)), (.ref b2), (.ref b40)])) (fun t k => ?_) ?_
    · show Steps p.tables e below (T153.setTop (mkF m 244 #[.val (.int p0), .val (.int p1), .val (.int p2), .val (.int (1 : Int32)), .val (.ref b2), .val (.ref b40), .val (.long ((p0.toInt64) &&& (4294967295 : Int64))), .second] [(.int (fOk (4 : Int32) (1 : Int32) ((p0.toInt64) &&& (4294967295 : Int64)) ((p0.toInt8.toInt32).toInt8.toInt32) (((p2 + (148 : Int32)).toInt8.toInt32).toInt8.toInt32)))])) t
      refine XS.ifNo X153.here hx rfl (hb hby at_244) rfl ((if0 _ _).trans (feq (own_ok3 p0 (((p2 + (148 : Int32)).toInt8.toInt32).toInt8.toInt32) (4 : Int32) (1 : Int32) (by decide))).1) ?_
      show Steps p.tables e below (T153.setTop (mkF m 247 #[.val (.int p0), .val (.int p1), .val (.int p2), .val (.int (1 : Int32)), .val (.ref b2), .val (.ref b40), .val (.long ((p0.toInt64) &&& (4294967295 : Int64))), .second] [])) t
      refine XS.aload X153.here hx rfl (hb hby at_247) rfl rfl ?_
      show Steps p.tables e below (T153.setTop (mkF m 249 #[.val (.int p0), .val (.int p1), .val (.int p2), .val (.int (1 : Int32)), .val (.ref b2), .val (.ref b40), .val (.long ((p0.toInt64) &&& (4294967295 : Int64))), .second] [(.ref b40)])) t
      refine XS.aload X153.here hx rfl (hb hby at_249) rfl rfl ?_
      show Steps p.tables e below (T153.setTop (mkF m 251 #[.val (.int p0), .val (.int p1), .val (.int p2), .val (.int (1 : Int32)), .val (.ref b2), .val (.ref b40), .val (.long ((p0.toInt64) &&& (4294967295 : Int64))), .second] [(.ref b2), (.ref b40)])) t
      refine XS.iconst X153.here hx rfl (hb hby at_251) ?_
      show Steps p.tables e below (T153.setTop (mkF m 252 #[.val (.int p0), .val (.int p1), .val (.int p2), .val (.int (1 : Int32)), .val (.ref b2), .val (.ref b40), .val (.long ((p0.toInt64) &&& (4294967295 : Int64))), .second] [(.int (5 : Int32)), (.ref b2), (.ref b40)])) t
      refine XS.iloadN X153.here hx rfl (hb hby at_252) rfl ?_
      show Steps p.tables e below (T153.setTop (mkF m 253 #[.val (.int p0), .val (.int p1), .val (.int p2), .val (.int (1 : Int32)), .val (.ref b2), .val (.ref b40), .val (.long ((p0.toInt64) &&& (4294967295 : Int64))), .second] [(.int (1 : Int32)), (.int (5 : Int32)), (.ref b2), (.ref b40)])) t
      refine XS.lload X153.here hx rfl (hb hby at_253) rfl ?_
      exact k
    have el158 : Elt Z T132.heap b40 .byte (5 : Int32) (.int ((((p2 + (185 : Int32)).toInt8.toInt32).toInt8.toInt32).toInt8.toInt32)) := Elt.of f133 ⟨by decide, by decide⟩ rfl
    have el159 : Elt Z T132.heap b2 .byte (5 : Int32) (.int (((p2 + (185 : Int32)).toInt8.toInt32).toInt8.toInt32)) := Elt.of f134 ⟨by decide, by decide⟩ rfl
    obtain ⟨_, T157, L157, Lc157, X157, hF157, hQ157, st157⟩ := own_cs X153 hx hZ hown (hw _ (List.mem_of_getElem? (i := 7) rfl)) (hw _ (List.mem_of_getElem? (i := 8) rfl)) (hw _ (List.mem_of_getElem? (i := 9) rfl)) (hw _ (List.mem_of_getElem? (i := 10) rfl)) (by decide) (rmOk l Z az hw [] b40 b2 (5 : Int32) (1 : Int32) ((p0.toInt64) &&& (4294967295 : Int64)) ((((p2 + (185 : Int32)).toInt8.toInt32).toInt8.toInt32).toInt8.toInt32) (((p2 + (185 : Int32)).toInt8.toInt32).toInt8.toInt32) T132.heap n0 Z135 el158 el159) (by decide) (by decide) (W := 0) (g := (mkF m 255 #[.val (.int p0), .val (.int p1), .val (.int p2), .val (.int (1 : Int32)), .val (.ref b2), .val (.ref b40), .val (.long ((p0.toInt64) &&& (4294967295 : Int64))), .second] [(.long ((p0.toInt64) &&& (4294967295 : Int64))), (.int (1 : Int32)), (.int (5 : Int32)), (.ref b2), (.ref b40)])) rfl (by rw [hml]; rfl) (argsL := [(.ref b40), (.ref b2), (.int (5 : Int32)), (.int (1 : Int32)), (.long ((p0.toInt64) &&& (4294967295 : Int64)))]) (rest := []) rfl (lenOf own_pd1 rfl) rfl (by show 2 * 0 + _ ≤ _; exact Nat.le_of_eq rfl) (hb hby at_255) e153 (by decide) (by decide) (c' := 2) (s' := 16) rfl rfl N156
    obtain ⟨rfl, N157q, e157⟩ := hQ157
    have N160 := hF157 N157q
    refine Goes.by st157 ?_
    clear X153 N156 e153
    show Goes p.tables e below _ (T157.setTop (mkF m 258 #[.val (.int p0), .val (.int p1), .val (.int p2), .val (.int (1 : Int32)), .val (.ref b2), .val (.ref b40), .val (.long ((p0.toInt64) &&& (4294967295 : Int64))), .second] [(.int (fOk (5 : Int32) (1 : Int32) ((p0.toInt64) &&& (4294967295 : Int64)) ((((p2 + (185 : Int32)).toInt8.toInt32).toInt8.toInt32).toInt8.toInt32) (((p2 + (185 : Int32)).toInt8.toInt32).toInt8.toInt32)))]))
    refine Goes.by (B := T157.setTop (mkF m 270 #[.val (.int p0), .val (.int p1), .val (.int p2), .val (.int (1 : Int32)), .val (.ref b2), .val (.ref b40), .val (.long ((p0.toInt64) &&& (4294967295 : Int64))), .second] [(.long ((p0.toInt64) &&& (4294967295 : Int64))), (.int (1 : Int32)), (.int (6 : Int32)), (.ref b2), (.ref b40)])) (fun t k => ?_) ?_
    · show Steps p.tables e below (T157.setTop (mkF m 258 #[.val (.int p0), .val (.int p1), .val (.int p2), .val (.int (1 : Int32)), .val (.ref b2), .val (.ref b40), .val (.long ((p0.toInt64) &&& (4294967295 : Int64))), .second] [(.int (fOk (5 : Int32) (1 : Int32) ((p0.toInt64) &&& (4294967295 : Int64)) ((((p2 + (185 : Int32)).toInt8.toInt32).toInt8.toInt32).toInt8.toInt32) (((p2 + (185 : Int32)).toInt8.toInt32).toInt8.toInt32)))])) t
      refine XS.ifNo X157.here hx rfl (hb hby at_258) rfl ((if0 _ _).trans (feq (own_ok_out ((p2 + (185 : Int32)).toInt8.toInt32) (5 : Int32) (1 : Int32) ((p0.toInt64) &&& (4294967295 : Int64)) (by decide))).1) ?_
      show Steps p.tables e below (T157.setTop (mkF m 261 #[.val (.int p0), .val (.int p1), .val (.int p2), .val (.int (1 : Int32)), .val (.ref b2), .val (.ref b40), .val (.long ((p0.toInt64) &&& (4294967295 : Int64))), .second] [])) t
      refine XS.aload X157.here hx rfl (hb hby at_261) rfl rfl ?_
      show Steps p.tables e below (T157.setTop (mkF m 263 #[.val (.int p0), .val (.int p1), .val (.int p2), .val (.int (1 : Int32)), .val (.ref b2), .val (.ref b40), .val (.long ((p0.toInt64) &&& (4294967295 : Int64))), .second] [(.ref b40)])) t
      refine XS.aload X157.here hx rfl (hb hby at_263) rfl rfl ?_
      show Steps p.tables e below (T157.setTop (mkF m 265 #[.val (.int p0), .val (.int p1), .val (.int p2), .val (.int (1 : Int32)), .val (.ref b2), .val (.ref b40), .val (.long ((p0.toInt64) &&& (4294967295 : Int64))), .second] [(.ref b2), (.ref b40)])) t
      refine XS.bipush X157.here hx rfl (hb hby at_265) ?_
      show Steps p.tables e below (T157.setTop (mkF m 267 #[.val (.int p0), .val (.int p1), .val (.int p2), .val (.int (1 : Int32)), .val (.ref b2), .val (.ref b40), .val (.long ((p0.toInt64) &&& (4294967295 : Int64))), .second] [(.int (6 : Int32)), (.ref b2), (.ref b40)])) t
      refine XS.iloadN X157.here hx rfl (hb hby at_267) rfl ?_
      show Steps p.tables e below (T157.setTop (mkF m 268 #[.val (.int p0), .val (.int p1), .val (.int p2), .val (.int (1 : Int32)), .val (.ref b2), .val (.ref b40), .val (.long ((p0.toInt64) &&& (4294967295 : Int64))), .second] [(.int (1 : Int32)), (.int (6 : Int32)), (.ref b2), (.ref b40)])) t
      refine XS.lload X157.here hx rfl (hb hby at_268) rfl ?_
      exact k
    have el162 : Elt Z T132.heap b40 .byte (6 : Int32) (.int ((((p2 + (222 : Int32)).toInt8.toInt32).toInt8.toInt32).toInt8.toInt32)) := Elt.of f133 ⟨by decide, by decide⟩ rfl
    have el163 : Elt Z T132.heap b2 .byte (6 : Int32) (.int (((p2 + (222 : Int32)).toInt8.toInt32).toInt8.toInt32)) := Elt.of f134 ⟨by decide, by decide⟩ rfl
    obtain ⟨_, T161, L161, Lc161, X161, hF161, hQ161, st161⟩ := own_cs X157 hx hZ hown (hw _ (List.mem_of_getElem? (i := 7) rfl)) (hw _ (List.mem_of_getElem? (i := 8) rfl)) (hw _ (List.mem_of_getElem? (i := 9) rfl)) (hw _ (List.mem_of_getElem? (i := 10) rfl)) (by decide) (rmOk l Z az hw [] b40 b2 (6 : Int32) (1 : Int32) ((p0.toInt64) &&& (4294967295 : Int64)) ((((p2 + (222 : Int32)).toInt8.toInt32).toInt8.toInt32).toInt8.toInt32) (((p2 + (222 : Int32)).toInt8.toInt32).toInt8.toInt32) T132.heap n0 Z135 el162 el163) (by decide) (by decide) (W := 0) (g := (mkF m 270 #[.val (.int p0), .val (.int p1), .val (.int p2), .val (.int (1 : Int32)), .val (.ref b2), .val (.ref b40), .val (.long ((p0.toInt64) &&& (4294967295 : Int64))), .second] [(.long ((p0.toInt64) &&& (4294967295 : Int64))), (.int (1 : Int32)), (.int (6 : Int32)), (.ref b2), (.ref b40)])) rfl (by rw [hml]; rfl) (argsL := [(.ref b40), (.ref b2), (.int (6 : Int32)), (.int (1 : Int32)), (.long ((p0.toInt64) &&& (4294967295 : Int64)))]) (rest := []) rfl (lenOf own_pd1 rfl) rfl (by show 2 * 0 + _ ≤ _; exact Nat.le_of_eq rfl) (hb hby at_270) e157 (by decide) (by decide) (c' := 2) (s' := 16) rfl rfl N160
    obtain ⟨rfl, N161q, e161⟩ := hQ161
    have N164 := hF161 N161q
    refine Goes.by st161 ?_
    clear X157 N160 e157
    show Goes p.tables e below _ (T161.setTop (mkF m 273 #[.val (.int p0), .val (.int p1), .val (.int p2), .val (.int (1 : Int32)), .val (.ref b2), .val (.ref b40), .val (.long ((p0.toInt64) &&& (4294967295 : Int64))), .second] [(.int (fOk (6 : Int32) (1 : Int32) ((p0.toInt64) &&& (4294967295 : Int64)) ((((p2 + (222 : Int32)).toInt8.toInt32).toInt8.toInt32).toInt8.toInt32) (((p2 + (222 : Int32)).toInt8.toInt32).toInt8.toInt32)))]))
    refine Goes.by (B := T161.setTop (mkF m 285 #[.val (.int p0), .val (.int p1), .val (.int p2), .val (.int (1 : Int32)), .val (.ref b2), .val (.ref b40), .val (.long ((p0.toInt64) &&& (4294967295 : Int64))), .second] [(.long ((p0.toInt64) &&& (4294967295 : Int64))), (.int (1 : Int32)), (.int (7 : Int32)), (.ref b2), (.ref b40)])) (fun t k => ?_) ?_
    · show Steps p.tables e below (T161.setTop (mkF m 273 #[.val (.int p0), .val (.int p1), .val (.int p2), .val (.int (1 : Int32)), .val (.ref b2), .val (.ref b40), .val (.long ((p0.toInt64) &&& (4294967295 : Int64))), .second] [(.int (fOk (6 : Int32) (1 : Int32) ((p0.toInt64) &&& (4294967295 : Int64)) ((((p2 + (222 : Int32)).toInt8.toInt32).toInt8.toInt32).toInt8.toInt32) (((p2 + (222 : Int32)).toInt8.toInt32).toInt8.toInt32)))])) t
      refine XS.ifNo X161.here hx rfl (hb hby at_273) rfl ((if0 _ _).trans (feq (own_ok_out ((p2 + (222 : Int32)).toInt8.toInt32) (6 : Int32) (1 : Int32) ((p0.toInt64) &&& (4294967295 : Int64)) (by decide))).1) ?_
      show Steps p.tables e below (T161.setTop (mkF m 276 #[.val (.int p0), .val (.int p1), .val (.int p2), .val (.int (1 : Int32)), .val (.ref b2), .val (.ref b40), .val (.long ((p0.toInt64) &&& (4294967295 : Int64))), .second] [])) t
      refine XS.aload X161.here hx rfl (hb hby at_276) rfl rfl ?_
      show Steps p.tables e below (T161.setTop (mkF m 278 #[.val (.int p0), .val (.int p1), .val (.int p2), .val (.int (1 : Int32)), .val (.ref b2), .val (.ref b40), .val (.long ((p0.toInt64) &&& (4294967295 : Int64))), .second] [(.ref b40)])) t
      refine XS.aload X161.here hx rfl (hb hby at_278) rfl rfl ?_
      show Steps p.tables e below (T161.setTop (mkF m 280 #[.val (.int p0), .val (.int p1), .val (.int p2), .val (.int (1 : Int32)), .val (.ref b2), .val (.ref b40), .val (.long ((p0.toInt64) &&& (4294967295 : Int64))), .second] [(.ref b2), (.ref b40)])) t
      refine XS.bipush X161.here hx rfl (hb hby at_280) ?_
      show Steps p.tables e below (T161.setTop (mkF m 282 #[.val (.int p0), .val (.int p1), .val (.int p2), .val (.int (1 : Int32)), .val (.ref b2), .val (.ref b40), .val (.long ((p0.toInt64) &&& (4294967295 : Int64))), .second] [(.int (7 : Int32)), (.ref b2), (.ref b40)])) t
      refine XS.iloadN X161.here hx rfl (hb hby at_282) rfl ?_
      show Steps p.tables e below (T161.setTop (mkF m 283 #[.val (.int p0), .val (.int p1), .val (.int p2), .val (.int (1 : Int32)), .val (.ref b2), .val (.ref b40), .val (.long ((p0.toInt64) &&& (4294967295 : Int64))), .second] [(.int (1 : Int32)), (.int (7 : Int32)), (.ref b2), (.ref b40)])) t
      refine XS.lload X161.here hx rfl (hb hby at_283) rfl ?_
      exact k
    have el166 : Elt Z T132.heap b40 .byte (7 : Int32) (.int ((((p2 + (259 : Int32)).toInt8.toInt32).toInt8.toInt32).toInt8.toInt32)) := Elt.of f133 ⟨by decide, by decide⟩ rfl
    have el167 : Elt Z T132.heap b2 .byte (7 : Int32) (.int (((p2 + (259 : Int32)).toInt8.toInt32).toInt8.toInt32)) := Elt.of f134 ⟨by decide, by decide⟩ rfl
    obtain ⟨_, T165, L165, Lc165, X165, hF165, hQ165, st165⟩ := own_cs X161 hx hZ hown (hw _ (List.mem_of_getElem? (i := 7) rfl)) (hw _ (List.mem_of_getElem? (i := 8) rfl)) (hw _ (List.mem_of_getElem? (i := 9) rfl)) (hw _ (List.mem_of_getElem? (i := 10) rfl)) (by decide) (rmOk l Z az hw [] b40 b2 (7 : Int32) (1 : Int32) ((p0.toInt64) &&& (4294967295 : Int64)) ((((p2 + (259 : Int32)).toInt8.toInt32).toInt8.toInt32).toInt8.toInt32) (((p2 + (259 : Int32)).toInt8.toInt32).toInt8.toInt32) T132.heap n0 Z135 el166 el167) (by decide) (by decide) (W := 0) (g := (mkF m 285 #[.val (.int p0), .val (.int p1), .val (.int p2), .val (.int (1 : Int32)), .val (.ref b2), .val (.ref b40), .val (.long ((p0.toInt64) &&& (4294967295 : Int64))), .second] [(.long ((p0.toInt64) &&& (4294967295 : Int64))), (.int (1 : Int32)), (.int (7 : Int32)), (.ref b2), (.ref b40)])) rfl (by rw [hml]; rfl) (argsL := [(.ref b40), (.ref b2), (.int (7 : Int32)), (.int (1 : Int32)), (.long ((p0.toInt64) &&& (4294967295 : Int64)))]) (rest := []) rfl (lenOf own_pd1 rfl) rfl (by show 2 * 0 + _ ≤ _; exact Nat.le_of_eq rfl) (hb hby at_285) e161 (by decide) (by decide) (c' := 2) (s' := 16) rfl rfl N164
    obtain ⟨rfl, N165q, e165⟩ := hQ165
    have N168 := hF165 N165q
    refine Goes.by st165 ?_
    clear X161 N164 e161
    show Goes p.tables e below _ (T165.setTop (mkF m 288 #[.val (.int p0), .val (.int p1), .val (.int p2), .val (.int (1 : Int32)), .val (.ref b2), .val (.ref b40), .val (.long ((p0.toInt64) &&& (4294967295 : Int64))), .second] [(.int (fOk (7 : Int32) (1 : Int32) ((p0.toInt64) &&& (4294967295 : Int64)) ((((p2 + (259 : Int32)).toInt8.toInt32).toInt8.toInt32).toInt8.toInt32) (((p2 + (259 : Int32)).toInt8.toInt32).toInt8.toInt32)))]))
    refine Goes.by (B := T165.setTop (mkF m 296 #[.val (.int p0), .val (.int p1), .val (.int p2), .val (.int (1 : Int32)), .val (.ref b2), .val (.ref b40), .val (.long ((p0.toInt64) &&& (4294967295 : Int64))), .second] [(.int (1 : Int32))])) (fun t k => ?_) ?_
    · show Steps p.tables e below (T165.setTop (mkF m 288 #[.val (.int p0), .val (.int p1), .val (.int p2), .val (.int (1 : Int32)), .val (.ref b2), .val (.ref b40), .val (.long ((p0.toInt64) &&& (4294967295 : Int64))), .second] [(.int (fOk (7 : Int32) (1 : Int32) ((p0.toInt64) &&& (4294967295 : Int64)) ((((p2 + (259 : Int32)).toInt8.toInt32).toInt8.toInt32).toInt8.toInt32) (((p2 + (259 : Int32)).toInt8.toInt32).toInt8.toInt32)))])) t
      refine XS.ifNo X165.here hx rfl (hb hby at_288) rfl ((if0 _ _).trans (feq (own_ok_out ((p2 + (259 : Int32)).toInt8.toInt32) (7 : Int32) (1 : Int32) ((p0.toInt64) &&& (4294967295 : Int64)) (by decide))).1) ?_
      show Steps p.tables e below (T165.setTop (mkF m 291 #[.val (.int p0), .val (.int p1), .val (.int p2), .val (.int (1 : Int32)), .val (.ref b2), .val (.ref b40), .val (.long ((p0.toInt64) &&& (4294967295 : Int64))), .second] [])) t
      refine XS.iconst X165.here hx rfl (hb hby at_291) ?_
      show Steps p.tables e below (T165.setTop (mkF m 292 #[.val (.int p0), .val (.int p1), .val (.int p2), .val (.int (1 : Int32)), .val (.ref b2), .val (.ref b40), .val (.long ((p0.toInt64) &&& (4294967295 : Int64))), .second] [(.int (1 : Int32))])) t
      refine XS.goto X165.here hx rfl (pc0 := 292) (pc' := 296) rfl (hb hby at_292) (by decide) (by decide) ?_
      exact k
    obtain ⟨fs, hr, hrun, hended, hW, hsame⟩ := X165.leave (v := some (.int (1 : Int32))) (fun h => by rw [Bd.returns] at h; cases h)
    refine Goes.mk _ _ ?_ ⟨hrun, hended, _, _, rfl, ?_, ⟨_, rfl⟩, hW, hsame.mono (by decide) (by decide)⟩
    · exact retN X165 hx (t := .boolean) Bd.returns (by simp) (hb hby at_296) hr
    · show Q0 Z p0 p1 p2 h0 n0 _ T165.heap _
      rw [e165]
      exact ⟨rfl, N168⟩
  · refine Goes.by (B := T90.setTop (mkF m 166 #[.val (.int p0), .val (.int p1), .val (.int p2), .val (.int (2 : Int32)), .val (.ref b2), .val (.ref b40), .unset, .unset] [(.int p0), (.int (2 : Int32)), (.ref b40)])) (fun t k => ?_) ?_
    · show Steps p.tables e below (T90.setTop (mkF m 162 #[.val (.int p0), .val (.int p1), .val (.int p2), .val (.int (2 : Int32)), .val (.ref b2), .val (.ref b40), .unset, .unset] [])) t
      refine XS.aload X90.here hx rfl (hb hby at_162) rfl rfl ?_
      show Steps p.tables e below (T90.setTop (mkF m 164 #[.val (.int p0), .val (.int p1), .val (.int p2), .val (.int (2 : Int32)), .val (.ref b2), .val (.ref b40), .unset, .unset] [(.ref b40)])) t
      refine XS.iloadN X90.here hx rfl (hb hby at_164) rfl ?_
      show Steps p.tables e below (T90.setTop (mkF m 165 #[.val (.int p0), .val (.int p1), .val (.int p2), .val (.int (2 : Int32)), .val (.ref b2), .val (.ref b40), .unset, .unset] [(.int (2 : Int32)), (.ref b40)])) t
      refine XS.iloadN X90.here hx rfl (hb hby at_165) rfl ?_
      exact k
    obtain ⟨_, T169, L169, Lc169, X169, hF169, hQ169, st169⟩ := own_cs X90 hx hZ hown (hw _ (List.mem_of_getElem? (i := 2) rfl)) (hw _ (List.mem_of_getElem? (i := 3) rfl)) (hw _ (List.mem_of_getElem? (i := 4) rfl)) (hw _ (List.mem_of_getElem? (i := 5) rfl)) (by decide) (rmPut2 l Z az hw [] b40 p0 k39 (((p2.toInt8.toInt32).toInt8.toInt32).toInt8.toInt32) ((((p2 + (37 : Int32)).toInt8.toInt32).toInt8.toInt32).toInt8.toInt32) ((((p2 + (74 : Int32)).toInt8.toInt32).toInt8.toInt32).toInt8.toInt32) ((((p2 + (111 : Int32)).toInt8.toInt32).toInt8.toInt32).toInt8.toInt32) ((((p2 + (148 : Int32)).toInt8.toInt32).toInt8.toInt32).toInt8.toInt32) ((((p2 + (185 : Int32)).toInt8.toInt32).toInt8.toInt32).toInt8.toInt32) ((((p2 + (222 : Int32)).toInt8.toInt32).toInt8.toInt32).toInt8.toInt32) ((((p2 + (259 : Int32)).toInt8.toInt32).toInt8.toInt32).toInt8.toInt32) h90 n0 Z93 f92 ge42) (by decide) (by decide) (W := 0) (g := (mkF m 166 #[.val (.int p0), .val (.int p1), .val (.int p2), .val (.int (2 : Int32)), .val (.ref b2), .val (.ref b40), .unset, .unset] [(.int p0), (.int (2 : Int32)), (.ref b40)])) rfl (by rw [hml]; rfl) (argsL := [(.ref b40), (.int (2 : Int32)), (.int p0)]) (rest := []) rfl (lenOf own_pd0 rfl) rfl (by show 2 * 0 + _ ≤ _; exact Nat.le_of_eq rfl) (hb hby at_166) e90 (by decide) (by decide) (c' := 2) (s' := 16) rfl rfl N94
    obtain ⟨rfl, N169q, K169, f170⟩ := hQ169
    have f171 : Arv Z T169.heap b2 k1 .byte (8 : Int32) [(.int ((p2.toInt8.toInt32).toInt8.toInt32)), (.int (((p2 + (37 : Int32)).toInt8.toInt32).toInt8.toInt32)), (.int (((p2 + (74 : Int32)).toInt8.toInt32).toInt8.toInt32)), (.int (((p2 + (111 : Int32)).toInt8.toInt32).toInt8.toInt32)), (.int (((p2 + (148 : Int32)).toInt8.toInt32).toInt8.toInt32)), (.int (((p2 + (185 : Int32)).toInt8.toInt32).toInt8.toInt32)), (.int (((p2 + (222 : Int32)).toInt8.toInt32).toInt8.toInt32)), (.int (((p2 + (259 : Int32)).toInt8.toInt32).toInt8.toInt32))] (.int (0 : Int32)) := f91.keep K169 (ninS ne41 nin0)
    have Kp169 : Keep h0 T169.heap [] := Kp90.trans K169 (allS (Or.inr sz43) all0)
    have Z172 : n0 ≤ T169.heap.size := Nat.le_trans Z93 K169.1
    have N173 := hF169 N169q
    refine Goes.by st169 ?_
    clear f91 f92 X90 N94 Z93 Kp90 e90
    show Goes p.tables e below _ (T169.setTop (mkF m 169 #[.val (.int p0), .val (.int p1), .val (.int p2), .val (.int (2 : Int32)), .val (.ref b2), .val (.ref b40), .unset, .unset] []))
    refine Goes.by (B := T169.setTop (mkF m 185 #[.val (.int p0), .val (.int p1), .val (.int p2), .val (.int (2 : Int32)), .val (.ref b2), .val (.ref b40), .val (.long ((p0.toInt64) &&& (4294967295 : Int64))), .second] [(.long ((p0.toInt64) &&& (4294967295 : Int64))), (.int (2 : Int32)), (.int (0 : Int32)), (.ref b2), (.ref b40)])) (fun t k => ?_) ?_
    · show Steps p.tables e below (T169.setTop (mkF m 169 #[.val (.int p0), .val (.int p1), .val (.int p2), .val (.int (2 : Int32)), .val (.ref b2), .val (.ref b40), .unset, .unset] [])) t
      refine XS.iloadN X169.here hx rfl (hb hby at_169) rfl ?_
      show Steps p.tables e below (T169.setTop (mkF m 170 #[.val (.int p0), .val (.int p1), .val (.int p2), .val (.int (2 : Int32)), .val (.ref b2), .val (.ref b40), .unset, .unset] [(.int p0)])) t
      refine XS.i2l X169.here hx rfl (hb hby at_170) rfl ?_
      show Steps p.tables e below (T169.setTop (mkF m 171 #[.val (.int p0), .val (.int p1), .val (.int p2), .val (.int (2 : Int32)), .val (.ref b2), .val (.ref b40), .unset, .unset] [(.long (p0.toInt64))])) t
      refine X169.ldc2Long hx hown (mvT hZ (hw _ (List.mem_of_getElem? (i := 6) rfl))) (g := (mkF m 171 #[.val (.int p0), .val (.int p1), .val (.int p2), .val (.int (2 : Int32)), .val (.ref b2), .val (.ref b40), .unset, .unset] [(.long (p0.toInt64))])) rfl (hb hby at_171) _ ?_
      show Steps p.tables e below (T169.setTop (mkF m 174 #[.val (.int p0), .val (.int p1), .val (.int p2), .val (.int (2 : Int32)), .val (.ref b2), .val (.ref b40), .unset, .unset] [(.long (4294967295 : Int64)), (.long (p0.toInt64))])) t
      refine XS.land X169.here hx rfl (hb hby at_174) rfl ?_
      show Steps p.tables e below (T169.setTop (mkF m 175 #[.val (.int p0), .val (.int p1), .val (.int p2), .val (.int (2 : Int32)), .val (.ref b2), .val (.ref b40), .unset, .unset] [(.long ((p0.toInt64) &&& (4294967295 : Int64)))])) t
      refine XS.lstore X169.here hx rfl (hb hby at_175) rfl (l' := #[.val (.int p0), .val (.int p1), .val (.int p2), .val (.int (2 : Int32)), .val (.ref b2), .val (.ref b40), .val (.long ((p0.toInt64) &&& (4294967295 : Int64))), .second]) rfl ?_
      show Steps p.tables e below (T169.setTop (mkF m 177 #[.val (.int p0), .val (.int p1), .val (.int p2), .val (.int (2 : Int32)), .val (.ref b2), .val (.ref b40), .val (.long ((p0.toInt64) &&& (4294967295 : Int64))), .second] [])) t
      refine XS.aload X169.here hx rfl (hb hby at_177) rfl rfl ?_
      show Steps p.tables e below (T169.setTop (mkF m 179 #[.val (.int p0), .val (.int p1), .val (.int p2), .val (.int (2 : Int32)), .val (.ref b2), .val (.ref b40), .val (.long ((p0.toInt64) &&& (4294967295 : Int64))), .second] [(.ref b40)])) t
      refine XS.aload X169.here hx rfl (hb hby at_179) rfl rfl ?_
      show Steps p.tables e below (T169.setTop (mkF m 181 #[.val (.int p0), .val (.int p1), .val (.int p2), .val (.int (2 : Int32)), .val (.ref b2), .val (.ref b40), .val (.long ((p0.toInt64) &&& (4294967295 : Int64))), .second] [(.ref b2), (.ref b40)])) t
      refine XS.iconst X169.here hx rfl (hb hby at_181) ?_
      show Steps p.tables e below (T169.setTop (mkF m 182 #[.val (.int p0), .val (.int p1), .val (.int p2), .val (.int (2 : Int32)), .val (.ref b2), .val (.ref b40), .val (.long ((p0.toInt64) &&& (4294967295 : Int64))), .second] [(.int (0 : Int32)), (.ref b2), (.ref b40)])) t
      refine XS.iloadN X169.here hx rfl (hb hby at_182) rfl ?_
      show Steps p.tables e below (T169.setTop (mkF m 183 #[.val (.int p0), .val (.int p1), .val (.int p2), .val (.int (2 : Int32)), .val (.ref b2), .val (.ref b40), .val (.long ((p0.toInt64) &&& (4294967295 : Int64))), .second] [(.int (2 : Int32)), (.int (0 : Int32)), (.ref b2), (.ref b40)])) t
      refine XS.lload X169.here hx rfl (hb hby at_183) rfl ?_
      exact k
    have el175 : Elt Z T169.heap b40 .byte (0 : Int32) (.int (((p2.toInt8.toInt32).toInt8.toInt32).toInt8.toInt32)) := Elt.of f170 ⟨by decide, by decide⟩ rfl
    have el176 : Elt Z T169.heap b2 .byte (0 : Int32) (.int ((p2.toInt8.toInt32).toInt8.toInt32)) := Elt.of f171 ⟨by decide, by decide⟩ rfl
    obtain ⟨_, T174, L174, Lc174, X174, hF174, hQ174, st174⟩ := own_cs X169 hx hZ hown (hw _ (List.mem_of_getElem? (i := 7) rfl)) (hw _ (List.mem_of_getElem? (i := 8) rfl)) (hw _ (List.mem_of_getElem? (i := 9) rfl)) (hw _ (List.mem_of_getElem? (i := 10) rfl)) (by decide) (rmOk l Z az hw [] b40 b2 (0 : Int32) (2 : Int32) ((p0.toInt64) &&& (4294967295 : Int64)) (((p2.toInt8.toInt32).toInt8.toInt32).toInt8.toInt32) ((p2.toInt8.toInt32).toInt8.toInt32) T169.heap n0 Z172 el175 el176) (by decide) (by decide) (W := 0) (g := (mkF m 185 #[.val (.int p0), .val (.int p1), .val (.int p2), .val (.int (2 : Int32)), .val (.ref b2), .val (.ref b40), .val (.long ((p0.toInt64) &&& (4294967295 : Int64))), .second] [(.long ((p0.toInt64) &&& (4294967295 : Int64))), (.int (2 : Int32)), (.int (0 : Int32)), (.ref b2), (.ref b40)])) rfl (by rw [hml]; rfl) (argsL := [(.ref b40), (.ref b2), (.int (0 : Int32)), (.int (2 : Int32)), (.long ((p0.toInt64) &&& (4294967295 : Int64)))]) (rest := []) rfl (lenOf own_pd1 rfl) rfl (by show 2 * 0 + _ ≤ _; exact Nat.le_of_eq rfl) (hb hby at_185) rfl (by decide) (by decide) (c' := 2) (s' := 16) rfl rfl N173
    obtain ⟨rfl, N174q, e174⟩ := hQ174
    have N177 := hF174 N174q
    refine Goes.by st174 ?_
    clear X169 N173
    show Goes p.tables e below _ (T174.setTop (mkF m 188 #[.val (.int p0), .val (.int p1), .val (.int p2), .val (.int (2 : Int32)), .val (.ref b2), .val (.ref b40), .val (.long ((p0.toInt64) &&& (4294967295 : Int64))), .second] [(.int (fOk (0 : Int32) (2 : Int32) ((p0.toInt64) &&& (4294967295 : Int64)) (((p2.toInt8.toInt32).toInt8.toInt32).toInt8.toInt32) ((p2.toInt8.toInt32).toInt8.toInt32)))]))
    refine Goes.by (B := T174.setTop (mkF m 199 #[.val (.int p0), .val (.int p1), .val (.int p2), .val (.int (2 : Int32)), .val (.ref b2), .val (.ref b40), .val (.long ((p0.toInt64) &&& (4294967295 : Int64))), .second] [(.long ((p0.toInt64) &&& (4294967295 : Int64))), (.int (2 : Int32)), (.int (1 : Int32)), (.ref b2), (.ref b40)])) (fun t k => ?_) ?_
    · show Steps p.tables e below (T174.setTop (mkF m 188 #[.val (.int p0), .val (.int p1), .val (.int p2), .val (.int (2 : Int32)), .val (.ref b2), .val (.ref b40), .val (.long ((p0.toInt64) &&& (4294967295 : Int64))), .second] [(.int (fOk (0 : Int32) (2 : Int32) ((p0.toInt64) &&& (4294967295 : Int64)) (((p2.toInt8.toInt32).toInt8.toInt32).toInt8.toInt32) ((p2.toInt8.toInt32).toInt8.toInt32)))])) t
      refine XS.ifNo X174.here hx rfl (hb hby at_188) rfl ((if0 _ _).trans (feq (own_ok_out (p2.toInt8.toInt32) (0 : Int32) (2 : Int32) ((p0.toInt64) &&& (4294967295 : Int64)) (by decide))).1) ?_
      show Steps p.tables e below (T174.setTop (mkF m 191 #[.val (.int p0), .val (.int p1), .val (.int p2), .val (.int (2 : Int32)), .val (.ref b2), .val (.ref b40), .val (.long ((p0.toInt64) &&& (4294967295 : Int64))), .second] [])) t
      refine XS.aload X174.here hx rfl (hb hby at_191) rfl rfl ?_
      show Steps p.tables e below (T174.setTop (mkF m 193 #[.val (.int p0), .val (.int p1), .val (.int p2), .val (.int (2 : Int32)), .val (.ref b2), .val (.ref b40), .val (.long ((p0.toInt64) &&& (4294967295 : Int64))), .second] [(.ref b40)])) t
      refine XS.aload X174.here hx rfl (hb hby at_193) rfl rfl ?_
      show Steps p.tables e below (T174.setTop (mkF m 195 #[.val (.int p0), .val (.int p1), .val (.int p2), .val (.int (2 : Int32)), .val (.ref b2), .val (.ref b40), .val (.long ((p0.toInt64) &&& (4294967295 : Int64))), .second] [(.ref b2), (.ref b40)])) t
      refine XS.iconst X174.here hx rfl (hb hby at_195) ?_
      show Steps p.tables e below (T174.setTop (mkF m 196 #[.val (.int p0), .val (.int p1), .val (.int p2), .val (.int (2 : Int32)), .val (.ref b2), .val (.ref b40), .val (.long ((p0.toInt64) &&& (4294967295 : Int64))), .second] [(.int (1 : Int32)), (.ref b2), (.ref b40)])) t
      refine XS.iloadN X174.here hx rfl (hb hby at_196) rfl ?_
      show Steps p.tables e below (T174.setTop (mkF m 197 #[.val (.int p0), .val (.int p1), .val (.int p2), .val (.int (2 : Int32)), .val (.ref b2), .val (.ref b40), .val (.long ((p0.toInt64) &&& (4294967295 : Int64))), .second] [(.int (2 : Int32)), (.int (1 : Int32)), (.ref b2), (.ref b40)])) t
      refine XS.lload X174.here hx rfl (hb hby at_197) rfl ?_
      exact k
    have el179 : Elt Z T169.heap b40 .byte (1 : Int32) (.int ((((p2 + (37 : Int32)).toInt8.toInt32).toInt8.toInt32).toInt8.toInt32)) := Elt.of f170 ⟨by decide, by decide⟩ rfl
    have el180 : Elt Z T169.heap b2 .byte (1 : Int32) (.int (((p2 + (37 : Int32)).toInt8.toInt32).toInt8.toInt32)) := Elt.of f171 ⟨by decide, by decide⟩ rfl
    obtain ⟨_, T178, L178, Lc178, X178, hF178, hQ178, st178⟩ := own_cs X174 hx hZ hown (hw _ (List.mem_of_getElem? (i := 7) rfl)) (hw _ (List.mem_of_getElem? (i := 8) rfl)) (hw _ (List.mem_of_getElem? (i := 9) rfl)) (hw _ (List.mem_of_getElem? (i := 10) rfl)) (by decide) (rmOk l Z az hw [] b40 b2 (1 : Int32) (2 : Int32) ((p0.toInt64) &&& (4294967295 : Int64)) ((((p2 + (37 : Int32)).toInt8.toInt32).toInt8.toInt32).toInt8.toInt32) (((p2 + (37 : Int32)).toInt8.toInt32).toInt8.toInt32) T169.heap n0 Z172 el179 el180) (by decide) (by decide) (W := 0) (g := (mkF m 199 #[.val (.int p0), .val (.int p1), .val (.int p2), .val (.int (2 : Int32)), .val (.ref b2), .val (.ref b40), .val (.long ((p0.toInt64) &&& (4294967295 : Int64))), .second] [(.long ((p0.toInt64) &&& (4294967295 : Int64))), (.int (2 : Int32)), (.int (1 : Int32)), (.ref b2), (.ref b40)])) rfl (by rw [hml]; rfl) (argsL := [(.ref b40), (.ref b2), (.int (1 : Int32)), (.int (2 : Int32)), (.long ((p0.toInt64) &&& (4294967295 : Int64)))]) (rest := []) rfl (lenOf own_pd1 rfl) rfl (by show 2 * 0 + _ ≤ _; exact Nat.le_of_eq rfl) (hb hby at_199) e174 (by decide) (by decide) (c' := 2) (s' := 16) rfl rfl N177
    obtain ⟨rfl, N178q, e178⟩ := hQ178
    have N181 := hF178 N178q
    refine Goes.by st178 ?_
    clear X174 N177 e174
    show Goes p.tables e below _ (T178.setTop (mkF m 202 #[.val (.int p0), .val (.int p1), .val (.int p2), .val (.int (2 : Int32)), .val (.ref b2), .val (.ref b40), .val (.long ((p0.toInt64) &&& (4294967295 : Int64))), .second] [(.int (fOk (1 : Int32) (2 : Int32) ((p0.toInt64) &&& (4294967295 : Int64)) ((((p2 + (37 : Int32)).toInt8.toInt32).toInt8.toInt32).toInt8.toInt32) (((p2 + (37 : Int32)).toInt8.toInt32).toInt8.toInt32)))]))
    refine Goes.by (B := T178.setTop (mkF m 213 #[.val (.int p0), .val (.int p1), .val (.int p2), .val (.int (2 : Int32)), .val (.ref b2), .val (.ref b40), .val (.long ((p0.toInt64) &&& (4294967295 : Int64))), .second] [(.long ((p0.toInt64) &&& (4294967295 : Int64))), (.int (2 : Int32)), (.int (2 : Int32)), (.ref b2), (.ref b40)])) (fun t k => ?_) ?_
    · show Steps p.tables e below (T178.setTop (mkF m 202 #[.val (.int p0), .val (.int p1), .val (.int p2), .val (.int (2 : Int32)), .val (.ref b2), .val (.ref b40), .val (.long ((p0.toInt64) &&& (4294967295 : Int64))), .second] [(.int (fOk (1 : Int32) (2 : Int32) ((p0.toInt64) &&& (4294967295 : Int64)) ((((p2 + (37 : Int32)).toInt8.toInt32).toInt8.toInt32).toInt8.toInt32) (((p2 + (37 : Int32)).toInt8.toInt32).toInt8.toInt32)))])) t
      refine XS.ifNo X178.here hx rfl (hb hby at_202) rfl ((if0 _ _).trans (feq (own_ok_out ((p2 + (37 : Int32)).toInt8.toInt32) (1 : Int32) (2 : Int32) ((p0.toInt64) &&& (4294967295 : Int64)) (by decide))).1) ?_
      show Steps p.tables e below (T178.setTop (mkF m 205 #[.val (.int p0), .val (.int p1), .val (.int p2), .val (.int (2 : Int32)), .val (.ref b2), .val (.ref b40), .val (.long ((p0.toInt64) &&& (4294967295 : Int64))), .second] [])) t
      refine XS.aload X178.here hx rfl (hb hby at_205) rfl rfl ?_
      show Steps p.tables e below (T178.setTop (mkF m 207 #[.val (.int p0), .val (.int p1), .val (.int p2), .val (.int (2 : Int32)), .val (.ref b2), .val (.ref b40), .val (.long ((p0.toInt64) &&& (4294967295 : Int64))), .second] [(.ref b40)])) t
      refine XS.aload X178.here hx rfl (hb hby at_207) rfl rfl ?_
      show Steps p.tables e below (T178.setTop (mkF m 209 #[.val (.int p0), .val (.int p1), .val (.int p2), .val (.int (2 : Int32)), .val (.ref b2), .val (.ref b40), .val (.long ((p0.toInt64) &&& (4294967295 : Int64))), .second] [(.ref b2), (.ref b40)])) t
      refine XS.iconst X178.here hx rfl (hb hby at_209) ?_
      show Steps p.tables e below (T178.setTop (mkF m 210 #[.val (.int p0), .val (.int p1), .val (.int p2), .val (.int (2 : Int32)), .val (.ref b2), .val (.ref b40), .val (.long ((p0.toInt64) &&& (4294967295 : Int64))), .second] [(.int (2 : Int32)), (.ref b2), (.ref b40)])) t
      refine XS.iloadN X178.here hx rfl (hb hby at_210) rfl ?_
      show Steps p.tables e below (T178.setTop (mkF m 211 #[.val (.int p0), .val (.int p1), .val (.int p2), .val (.int (2 : Int32)), .val (.ref b2), .val (.ref b40), .val (.long ((p0.toInt64) &&& (4294967295 : Int64))), .second] [(.int (2 : Int32)), (.int (2 : Int32)), (.ref b2), (.ref b40)])) t
      refine XS.lload X178.here hx rfl (hb hby at_211) rfl ?_
      exact k
    have el183 : Elt Z T169.heap b40 .byte (2 : Int32) (.int ((((p0.toUInt32 >>> ((24 : Int32) &&& 31).toUInt32).toInt32).toInt8.toInt32).toInt8.toInt32)) := Elt.of f170 ⟨by decide, by decide⟩ rfl
    have el184 : Elt Z T169.heap b2 .byte (2 : Int32) (.int (((p2 + (74 : Int32)).toInt8.toInt32).toInt8.toInt32)) := Elt.of f171 ⟨by decide, by decide⟩ rfl
    obtain ⟨_, T182, L182, Lc182, X182, hF182, hQ182, st182⟩ := own_cs X178 hx hZ hown (hw _ (List.mem_of_getElem? (i := 7) rfl)) (hw _ (List.mem_of_getElem? (i := 8) rfl)) (hw _ (List.mem_of_getElem? (i := 9) rfl)) (hw _ (List.mem_of_getElem? (i := 10) rfl)) (by decide) (rmOk l Z az hw [] b40 b2 (2 : Int32) (2 : Int32) ((p0.toInt64) &&& (4294967295 : Int64)) ((((p0.toUInt32 >>> ((24 : Int32) &&& 31).toUInt32).toInt32).toInt8.toInt32).toInt8.toInt32) (((p2 + (74 : Int32)).toInt8.toInt32).toInt8.toInt32) T169.heap n0 Z172 el183 el184) (by decide) (by decide) (W := 0) (g := (mkF m 213 #[.val (.int p0), .val (.int p1), .val (.int p2), .val (.int (2 : Int32)), .val (.ref b2), .val (.ref b40), .val (.long ((p0.toInt64) &&& (4294967295 : Int64))), .second] [(.long ((p0.toInt64) &&& (4294967295 : Int64))), (.int (2 : Int32)), (.int (2 : Int32)), (.ref b2), (.ref b40)])) rfl (by rw [hml]; rfl) (argsL := [(.ref b40), (.ref b2), (.int (2 : Int32)), (.int (2 : Int32)), (.long ((p0.toInt64) &&& (4294967295 : Int64)))]) (rest := []) rfl (lenOf own_pd1 rfl) rfl (by show 2 * 0 + _ ≤ _; exact Nat.le_of_eq rfl) (hb hby at_213) e178 (by decide) (by decide) (c' := 2) (s' := 16) rfl rfl N181
    obtain ⟨rfl, N182q, e182⟩ := hQ182
    have N185 := hF182 N182q
    refine Goes.by st182 ?_
    clear X178 N181 e178
    show Goes p.tables e below _ (T182.setTop (mkF m 216 #[.val (.int p0), .val (.int p1), .val (.int p2), .val (.int (2 : Int32)), .val (.ref b2), .val (.ref b40), .val (.long ((p0.toInt64) &&& (4294967295 : Int64))), .second] [(.int (fOk (2 : Int32) (2 : Int32) ((p0.toInt64) &&& (4294967295 : Int64)) ((((p0.toUInt32 >>> ((24 : Int32) &&& 31).toUInt32).toInt32).toInt8.toInt32).toInt8.toInt32) (((p2 + (74 : Int32)).toInt8.toInt32).toInt8.toInt32)))]))
    refine Goes.by (B := T182.setTop (mkF m 227 #[.val (.int p0), .val (.int p1), .val (.int p2), .val (.int (2 : Int32)), .val (.ref b2), .val (.ref b40), .val (.long ((p0.toInt64) &&& (4294967295 : Int64))), .second] [(.long ((p0.toInt64) &&& (4294967295 : Int64))), (.int (2 : Int32)), (.int (3 : Int32)), (.ref b2), (.ref b40)])) (fun t k => ?_) ?_
    · show Steps p.tables e below (T182.setTop (mkF m 216 #[.val (.int p0), .val (.int p1), .val (.int p2), .val (.int (2 : Int32)), .val (.ref b2), .val (.ref b40), .val (.long ((p0.toInt64) &&& (4294967295 : Int64))), .second] [(.int (fOk (2 : Int32) (2 : Int32) ((p0.toInt64) &&& (4294967295 : Int64)) ((((p0.toUInt32 >>> ((24 : Int32) &&& 31).toUInt32).toInt32).toInt8.toInt32).toInt8.toInt32) (((p2 + (74 : Int32)).toInt8.toInt32).toInt8.toInt32)))])) t
      refine XS.ifNo X182.here hx rfl (hb hby at_216) rfl ((if0 _ _).trans (feq (own_ok0 p0 (((p2 + (74 : Int32)).toInt8.toInt32).toInt8.toInt32) (2 : Int32) (2 : Int32) (by decide))).1) ?_
      show Steps p.tables e below (T182.setTop (mkF m 219 #[.val (.int p0), .val (.int p1), .val (.int p2), .val (.int (2 : Int32)), .val (.ref b2), .val (.ref b40), .val (.long ((p0.toInt64) &&& (4294967295 : Int64))), .second] [])) t
      refine XS.aload X182.here hx rfl (hb hby at_219) rfl rfl ?_
      show Steps p.tables e below (T182.setTop (mkF m 221 #[.val (.int p0), .val (.int p1), .val (.int p2), .val (.int (2 : Int32)), .val (.ref b2), .val (.ref b40), .val (.long ((p0.toInt64) &&& (4294967295 : Int64))), .second] [(.ref b40)])) t
      refine XS.aload X182.here hx rfl (hb hby at_221) rfl rfl ?_
      show Steps p.tables e below (T182.setTop (mkF m 223 #[.val (.int p0), .val (.int p1), .val (.int p2), .val (.int (2 : Int32)), .val (.ref b2), .val (.ref b40), .val (.long ((p0.toInt64) &&& (4294967295 : Int64))), .second] [(.ref b2), (.ref b40)])) t
      refine XS.iconst X182.here hx rfl (hb hby at_223) ?_
      show Steps p.tables e below (T182.setTop (mkF m 224 #[.val (.int p0), .val (.int p1), .val (.int p2), .val (.int (2 : Int32)), .val (.ref b2), .val (.ref b40), .val (.long ((p0.toInt64) &&& (4294967295 : Int64))), .second] [(.int (3 : Int32)), (.ref b2), (.ref b40)])) t
      refine XS.iloadN X182.here hx rfl (hb hby at_224) rfl ?_
      show Steps p.tables e below (T182.setTop (mkF m 225 #[.val (.int p0), .val (.int p1), .val (.int p2), .val (.int (2 : Int32)), .val (.ref b2), .val (.ref b40), .val (.long ((p0.toInt64) &&& (4294967295 : Int64))), .second] [(.int (2 : Int32)), (.int (3 : Int32)), (.ref b2), (.ref b40)])) t
      refine XS.lload X182.here hx rfl (hb hby at_225) rfl ?_
      exact k
    have el187 : Elt Z T169.heap b40 .byte (3 : Int32) (.int ((((p0.toUInt32 >>> ((16 : Int32) &&& 31).toUInt32).toInt32).toInt8.toInt32).toInt8.toInt32)) := Elt.of f170 ⟨by decide, by decide⟩ rfl
    have el188 : Elt Z T169.heap b2 .byte (3 : Int32) (.int (((p2 + (111 : Int32)).toInt8.toInt32).toInt8.toInt32)) := Elt.of f171 ⟨by decide, by decide⟩ rfl
    obtain ⟨_, T186, L186, Lc186, X186, hF186, hQ186, st186⟩ := own_cs X182 hx hZ hown (hw _ (List.mem_of_getElem? (i := 7) rfl)) (hw _ (List.mem_of_getElem? (i := 8) rfl)) (hw _ (List.mem_of_getElem? (i := 9) rfl)) (hw _ (List.mem_of_getElem? (i := 10) rfl)) (by decide) (rmOk l Z az hw [] b40 b2 (3 : Int32) (2 : Int32) ((p0.toInt64) &&& (4294967295 : Int64)) ((((p0.toUInt32 >>> ((16 : Int32) &&& 31).toUInt32).toInt32).toInt8.toInt32).toInt8.toInt32) (((p2 + (111 : Int32)).toInt8.toInt32).toInt8.toInt32) T169.heap n0 Z172 el187 el188) (by decide) (by decide) (W := 0) (g := (mkF m 227 #[.val (.int p0), .val (.int p1), .val (.int p2), .val (.int (2 : Int32)), .val (.ref b2), .val (.ref b40), .val (.long ((p0.toInt64) &&& (4294967295 : Int64))), .second] [(.long ((p0.toInt64) &&& (4294967295 : Int64))), (.int (2 : Int32)), (.int (3 : Int32)), (.ref b2), (.ref b40)])) rfl (by rw [hml]; rfl) (argsL := [(.ref b40), (.ref b2), (.int (3 : Int32)), (.int (2 : Int32)), (.long ((p0.toInt64) &&& (4294967295 : Int64)))]) (rest := []) rfl (lenOf own_pd1 rfl) rfl (by show 2 * 0 + _ ≤ _; exact Nat.le_of_eq rfl) (hb hby at_227) e182 (by decide) (by decide) (c' := 2) (s' := 16) rfl rfl N185
    obtain ⟨rfl, N186q, e186⟩ := hQ186
    have N189 := hF186 N186q
    refine Goes.by st186 ?_
    clear X182 N185 e182
    show Goes p.tables e below _ (T186.setTop (mkF m 230 #[.val (.int p0), .val (.int p1), .val (.int p2), .val (.int (2 : Int32)), .val (.ref b2), .val (.ref b40), .val (.long ((p0.toInt64) &&& (4294967295 : Int64))), .second] [(.int (fOk (3 : Int32) (2 : Int32) ((p0.toInt64) &&& (4294967295 : Int64)) ((((p0.toUInt32 >>> ((16 : Int32) &&& 31).toUInt32).toInt32).toInt8.toInt32).toInt8.toInt32) (((p2 + (111 : Int32)).toInt8.toInt32).toInt8.toInt32)))]))
    refine Goes.by (B := T186.setTop (mkF m 241 #[.val (.int p0), .val (.int p1), .val (.int p2), .val (.int (2 : Int32)), .val (.ref b2), .val (.ref b40), .val (.long ((p0.toInt64) &&& (4294967295 : Int64))), .second] [(.long ((p0.toInt64) &&& (4294967295 : Int64))), (.int (2 : Int32)), (.int (4 : Int32)), (.ref b2), (.ref b40)])) (fun t k => ?_) ?_
    · show Steps p.tables e below (T186.setTop (mkF m 230 #[.val (.int p0), .val (.int p1), .val (.int p2), .val (.int (2 : Int32)), .val (.ref b2), .val (.ref b40), .val (.long ((p0.toInt64) &&& (4294967295 : Int64))), .second] [(.int (fOk (3 : Int32) (2 : Int32) ((p0.toInt64) &&& (4294967295 : Int64)) ((((p0.toUInt32 >>> ((16 : Int32) &&& 31).toUInt32).toInt32).toInt8.toInt32).toInt8.toInt32) (((p2 + (111 : Int32)).toInt8.toInt32).toInt8.toInt32)))])) t
      refine XS.ifNo X186.here hx rfl (hb hby at_230) rfl ((if0 _ _).trans (feq (own_ok1 p0 (((p2 + (111 : Int32)).toInt8.toInt32).toInt8.toInt32) (3 : Int32) (2 : Int32) (by decide))).1) ?_
      show Steps p.tables e below (T186.setTop (mkF m 233 #[.val (.int p0), .val (.int p1), .val (.int p2), .val (.int (2 : Int32)), .val (.ref b2), .val (.ref b40), .val (.long ((p0.toInt64) &&& (4294967295 : Int64))), .second] [])) t
      refine XS.aload X186.here hx rfl (hb hby at_233) rfl rfl ?_
      show Steps p.tables e below (T186.setTop (mkF m 235 #[.val (.int p0), .val (.int p1), .val (.int p2), .val (.int (2 : Int32)), .val (.ref b2), .val (.ref b40), .val (.long ((p0.toInt64) &&& (4294967295 : Int64))), .second] [(.ref b40)])) t
      refine XS.aload X186.here hx rfl (hb hby at_235) rfl rfl ?_
      show Steps p.tables e below (T186.setTop (mkF m 237 #[.val (.int p0), .val (.int p1), .val (.int p2), .val (.int (2 : Int32)), .val (.ref b2), .val (.ref b40), .val (.long ((p0.toInt64) &&& (4294967295 : Int64))), .second] [(.ref b2), (.ref b40)])) t
      refine XS.iconst X186.here hx rfl (hb hby at_237) ?_
      show Steps p.tables e below (T186.setTop (mkF m 238 #[.val (.int p0), .val (.int p1), .val (.int p2), .val (.int (2 : Int32)), .val (.ref b2), .val (.ref b40), .val (.long ((p0.toInt64) &&& (4294967295 : Int64))), .second] [(.int (4 : Int32)), (.ref b2), (.ref b40)])) t
      refine XS.iloadN X186.here hx rfl (hb hby at_238) rfl ?_
      show Steps p.tables e below (T186.setTop (mkF m 239 #[.val (.int p0), .val (.int p1), .val (.int p2), .val (.int (2 : Int32)), .val (.ref b2), .val (.ref b40), .val (.long ((p0.toInt64) &&& (4294967295 : Int64))), .second] [(.int (2 : Int32)), (.int (4 : Int32)), (.ref b2), (.ref b40)])) t
      refine XS.lload X186.here hx rfl (hb hby at_239) rfl ?_
      exact k
    have el191 : Elt Z T169.heap b40 .byte (4 : Int32) (.int ((((p0.toUInt32 >>> ((8 : Int32) &&& 31).toUInt32).toInt32).toInt8.toInt32).toInt8.toInt32)) := Elt.of f170 ⟨by decide, by decide⟩ rfl
    have el192 : Elt Z T169.heap b2 .byte (4 : Int32) (.int (((p2 + (148 : Int32)).toInt8.toInt32).toInt8.toInt32)) := Elt.of f171 ⟨by decide, by decide⟩ rfl
    obtain ⟨_, T190, L190, Lc190, X190, hF190, hQ190, st190⟩ := own_cs X186 hx hZ hown (hw _ (List.mem_of_getElem? (i := 7) rfl)) (hw _ (List.mem_of_getElem? (i := 8) rfl)) (hw _ (List.mem_of_getElem? (i := 9) rfl)) (hw _ (List.mem_of_getElem? (i := 10) rfl)) (by decide) (rmOk l Z az hw [] b40 b2 (4 : Int32) (2 : Int32) ((p0.toInt64) &&& (4294967295 : Int64)) ((((p0.toUInt32 >>> ((8 : Int32) &&& 31).toUInt32).toInt32).toInt8.toInt32).toInt8.toInt32) (((p2 + (148 : Int32)).toInt8.toInt32).toInt8.toInt32) T169.heap n0 Z172 el191 el192) (by decide) (by decide) (W := 0) (g := (mkF m 241 #[.val (.int p0), .val (.int p1), .val (.int p2), .val (.int (2 : Int32)), .val (.ref b2), .val (.ref b40), .val (.long ((p0.toInt64) &&& (4294967295 : Int64))), .second] [(.long ((p0.toInt64) &&& (4294967295 : Int64))), (.int (2 : Int32)), (.int (4 : Int32)), (.ref b2), (.ref b40)])) rfl (by rw [hml]; rfl) (argsL := [(.ref b40), (.ref b2), (.int (4 : Int32)), (.int (2 : Int32)), (.long ((p0.toInt64) &&& (4294967295 : Int64)))]) (rest := []) rfl (lenOf own_pd1 rfl) rfl (by show 2 * 0 + _ ≤ _; exact Nat.le_of_eq rfl) (hb hby at_241) e186 (by decide) (by decide) (c' := 2) (s' := 16) rfl rfl N189
    obtain ⟨rfl, N190q, e190⟩ := hQ190
    have N193 := hF190 N190q
    refine Goes.by st190 ?_
    clear X186 N189 e186
    show Goes p.tables e below _ (T190.setTop (mkF m 244 #[.val (.int p0), .val (.int p1), .val (.int p2), .val (.int (2 : Int32)), .val (.ref b2), .val (.ref b40), .val (.long ((p0.toInt64) &&& (4294967295 : Int64))), .second] [(.int (fOk (4 : Int32) (2 : Int32) ((p0.toInt64) &&& (4294967295 : Int64)) ((((p0.toUInt32 >>> ((8 : Int32) &&& 31).toUInt32).toInt32).toInt8.toInt32).toInt8.toInt32) (((p2 + (148 : Int32)).toInt8.toInt32).toInt8.toInt32)))]))
    refine Goes.by (B := T190.setTop (mkF m 255 #[.val (.int p0), .val (.int p1), .val (.int p2), .val (.int (2 : Int32)), .val (.ref b2), .val (.ref b40), .val (.long ((p0.toInt64) &&& (4294967295 : Int64))), .second] [(.long ((p0.toInt64) &&& (4294967295 : Int64))), (.int (2 : Int32)), (.int (5 : Int32)), (.ref b2), (.ref b40)])) (fun t k => ?_) ?_
    · show Steps p.tables e below (T190.setTop (mkF m 244 #[.val (.int p0), .val (.int p1), .val (.int p2), .val (.int (2 : Int32)), .val (.ref b2), .val (.ref b40), .val (.long ((p0.toInt64) &&& (4294967295 : Int64))), .second] [(.int (fOk (4 : Int32) (2 : Int32) ((p0.toInt64) &&& (4294967295 : Int64)) ((((p0.toUInt32 >>> ((8 : Int32) &&& 31).toUInt32).toInt32).toInt8.toInt32).toInt8.toInt32) (((p2 + (148 : Int32)).toInt8.toInt32).toInt8.toInt32)))])) t
      refine XS.ifNo X190.here hx rfl (hb hby at_244) rfl ((if0 _ _).trans (feq (own_ok2 p0 (((p2 + (148 : Int32)).toInt8.toInt32).toInt8.toInt32) (4 : Int32) (2 : Int32) (by decide))).1) ?_
      show Steps p.tables e below (T190.setTop (mkF m 247 #[.val (.int p0), .val (.int p1), .val (.int p2), .val (.int (2 : Int32)), .val (.ref b2), .val (.ref b40), .val (.long ((p0.toInt64) &&& (4294967295 : Int64))), .second] [])) t
      refine XS.aload X190.here hx rfl (hb hby at_247) rfl rfl ?_
      show Steps p.tables e below (T190.setTop (mkF m 249 #[.val (.int p0), .val (.int p1), .val (.int p2), .val (.int (2 : Int32)), .val (.ref b2), .val (.ref b40), .val (.long ((p0.toInt64) &&& (4294967295 : Int64))), .second] [(.ref b40)])) t
      refine XS.aload X190.here hx rfl (hb hby at_249) rfl rfl ?_
      show Steps p.tables e below (T190.setTop (mkF m 251 #[.val (.int p0), .val (.int p1), .val (.int p2), .val (.int (2 : Int32)), .val (.ref b2), .val (.ref b40), .val (.long ((p0.toInt64) &&& (4294967295 : Int64))), .second] [(.ref b2), (.ref b40)])) t
      refine XS.iconst X190.here hx rfl (hb hby at_251) ?_
      show Steps p.tables e below (T190.setTop (mkF m 252 #[.val (.int p0), .val (.int p1), .val (.int p2), .val (.int (2 : Int32)), .val (.ref b2), .val (.ref b40), .val (.long ((p0.toInt64) &&& (4294967295 : Int64))), .second] [(.int (5 : Int32)), (.ref b2), (.ref b40)])) t
      refine XS.iloadN X190.here hx rfl (hb hby at_252) rfl ?_
      show Steps p.tables e below (T190.setTop (mkF m 253 #[.val (.int p0), .val (.int p1), .val (.int p2), .val (.int (2 : Int32)), .val (.ref b2), .val (.ref b40), .val (.long ((p0.toInt64) &&& (4294967295 : Int64))), .second] [(.int (2 : Int32)), (.int (5 : Int32)), (.ref b2), (.ref b40)])) t
      refine XS.lload X190.here hx rfl (hb hby at_253) rfl ?_
      exact k
    have el195 : Elt Z T169.heap b40 .byte (5 : Int32) (.int ((p0.toInt8.toInt32).toInt8.toInt32)) := Elt.of f170 ⟨by decide, by decide⟩ rfl
    have el196 : Elt Z T169.heap b2 .byte (5 : Int32) (.int (((p2 + (185 : Int32)).toInt8.toInt32).toInt8.toInt32)) := Elt.of f171 ⟨by decide, by decide⟩ rfl
    obtain ⟨_, T194, L194, Lc194, X194, hF194, hQ194, st194⟩ := own_cs X190 hx hZ hown (hw _ (List.mem_of_getElem? (i := 7) rfl)) (hw _ (List.mem_of_getElem? (i := 8) rfl)) (hw _ (List.mem_of_getElem? (i := 9) rfl)) (hw _ (List.mem_of_getElem? (i := 10) rfl)) (by decide) (rmOk l Z az hw [] b40 b2 (5 : Int32) (2 : Int32) ((p0.toInt64) &&& (4294967295 : Int64)) ((p0.toInt8.toInt32).toInt8.toInt32) (((p2 + (185 : Int32)).toInt8.toInt32).toInt8.toInt32) T169.heap n0 Z172 el195 el196) (by decide) (by decide) (W := 0) (g := (mkF m 255 #[.val (.int p0), .val (.int p1), .val (.int p2), .val (.int (2 : Int32)), .val (.ref b2), .val (.ref b40), .val (.long ((p0.toInt64) &&& (4294967295 : Int64))), .second] [(.long ((p0.toInt64) &&& (4294967295 : Int64))), (.int (2 : Int32)), (.int (5 : Int32)), (.ref b2), (.ref b40)])) rfl (by rw [hml]; rfl) (argsL := [(.ref b40), (.ref b2), (.int (5 : Int32)), (.int (2 : Int32)), (.long ((p0.toInt64) &&& (4294967295 : Int64)))]) (rest := []) rfl (lenOf own_pd1 rfl) rfl (by show 2 * 0 + _ ≤ _; exact Nat.le_of_eq rfl) (hb hby at_255) e190 (by decide) (by decide) (c' := 2) (s' := 16) rfl rfl N193
    obtain ⟨rfl, N194q, e194⟩ := hQ194
    have N197 := hF194 N194q
    refine Goes.by st194 ?_
    clear X190 N193 e190
    show Goes p.tables e below _ (T194.setTop (mkF m 258 #[.val (.int p0), .val (.int p1), .val (.int p2), .val (.int (2 : Int32)), .val (.ref b2), .val (.ref b40), .val (.long ((p0.toInt64) &&& (4294967295 : Int64))), .second] [(.int (fOk (5 : Int32) (2 : Int32) ((p0.toInt64) &&& (4294967295 : Int64)) ((p0.toInt8.toInt32).toInt8.toInt32) (((p2 + (185 : Int32)).toInt8.toInt32).toInt8.toInt32)))]))
    refine Goes.by (B := T194.setTop (mkF m 270 #[.val (.int p0), .val (.int p1), .val (.int p2), .val (.int (2 : Int32)), .val (.ref b2), .val (.ref b40), .val (.long ((p0.toInt64) &&& (4294967295 : Int64))), .second] [(.long ((p0.toInt64) &&& (4294967295 : Int64))), (.int (2 : Int32)), (.int (6 : Int32)), (.ref b2), (.ref b40)])) (fun t k => ?_) ?_
    · show Steps p.tables e below (T194.setTop (mkF m 258 #[.val (.int p0), .val (.int p1), .val (.int p2), .val (.int (2 : Int32)), .val (.ref b2), .val (.ref b40), .val (.long ((p0.toInt64) &&& (4294967295 : Int64))), .second] [(.int (fOk (5 : Int32) (2 : Int32) ((p0.toInt64) &&& (4294967295 : Int64)) ((p0.toInt8.toInt32).toInt8.toInt32) (((p2 + (185 : Int32)).toInt8.toInt32).toInt8.toInt32)))])) t
      refine XS.ifNo X194.here hx rfl (hb hby at_258) rfl ((if0 _ _).trans (feq (own_ok3 p0 (((p2 + (185 : Int32)).toInt8.toInt32).toInt8.toInt32) (5 : Int32) (2 : Int32) (by decide))).1) ?_
      show Steps p.tables e below (T194.setTop (mkF m 261 #[.val (.int p0), .val (.int p1), .val (.int p2), .val (.int (2 : Int32)), .val (.ref b2), .val (.ref b40), .val (.long ((p0.toInt64) &&& (4294967295 : Int64))), .second] [])) t
      refine XS.aload X194.here hx rfl (hb hby at_261) rfl rfl ?_
      show Steps p.tables e below (T194.setTop (mkF m 263 #[.val (.int p0), .val (.int p1), .val (.int p2), .val (.int (2 : Int32)), .val (.ref b2), .val (.ref b40), .val (.long ((p0.toInt64) &&& (4294967295 : Int64))), .second] [(.ref b40)])) t
      refine XS.aload X194.here hx rfl (hb hby at_263) rfl rfl ?_
      show Steps p.tables e below (T194.setTop (mkF m 265 #[.val (.int p0), .val (.int p1), .val (.int p2), .val (.int (2 : Int32)), .val (.ref b2), .val (.ref b40), .val (.long ((p0.toInt64) &&& (4294967295 : Int64))), .second] [(.ref b2), (.ref b40)])) t
      refine XS.bipush X194.here hx rfl (hb hby at_265) ?_
      show Steps p.tables e below (T194.setTop (mkF m 267 #[.val (.int p0), .val (.int p1), .val (.int p2), .val (.int (2 : Int32)), .val (.ref b2), .val (.ref b40), .val (.long ((p0.toInt64) &&& (4294967295 : Int64))), .second] [(.int (6 : Int32)), (.ref b2), (.ref b40)])) t
      refine XS.iloadN X194.here hx rfl (hb hby at_267) rfl ?_
      show Steps p.tables e below (T194.setTop (mkF m 268 #[.val (.int p0), .val (.int p1), .val (.int p2), .val (.int (2 : Int32)), .val (.ref b2), .val (.ref b40), .val (.long ((p0.toInt64) &&& (4294967295 : Int64))), .second] [(.int (2 : Int32)), (.int (6 : Int32)), (.ref b2), (.ref b40)])) t
      refine XS.lload X194.here hx rfl (hb hby at_268) rfl ?_
      exact k
    have el199 : Elt Z T169.heap b40 .byte (6 : Int32) (.int ((((p2 + (222 : Int32)).toInt8.toInt32).toInt8.toInt32).toInt8.toInt32)) := Elt.of f170 ⟨by decide, by decide⟩ rfl
    have el200 : Elt Z T169.heap b2 .byte (6 : Int32) (.int (((p2 + (222 : Int32)).toInt8.toInt32).toInt8.toInt32)) := Elt.of f171 ⟨by decide, by decide⟩ rfl
    obtain ⟨_, T198, L198, Lc198, X198, hF198, hQ198, st198⟩ := own_cs X194 hx hZ hown (hw _ (List.mem_of_getElem? (i := 7) rfl)) (hw _ (List.mem_of_getElem? (i := 8) rfl)) (hw _ (List.mem_of_getElem? (i := 9) rfl)) (hw _ (List.mem_of_getElem? (i := 10) rfl)) (by decide) (rmOk l Z az hw [] b40 b2 (6 : Int32) (2 : Int32) ((p0.toInt64) &&& (4294967295 : Int64)) ((((p2 + (222 : Int32)).toInt8.toInt32).toInt8.toInt32).toInt8.toInt32) (((p2 + (222 : Int32)).toInt8.toInt32).toInt8.toInt32) T169.heap n0 Z172 el199 el200) (by decide) (by decide) (W := 0) (g := (mkF m 270 #[.val (.int p0), .val (.int p1), .val (.int p2), .val (.int (2 : Int32)), .val (.ref b2), .val (.ref b40), .val (.long ((p0.toInt64) &&& (4294967295 : Int64))), .second] [(.long ((p0.toInt64) &&& (4294967295 : Int64))), (.int (2 : Int32)), (.int (6 : Int32)), (.ref b2), (.ref b40)])) rfl (by rw [hml]; rfl) (argsL := [(.ref b40), (.ref b2), (.int (6 : Int32)), (.int (2 : Int32)), (.long ((p0.toInt64) &&& (4294967295 : Int64)))]) (rest := []) rfl (lenOf own_pd1 rfl) rfl (by show 2 * 0 + _ ≤ _; exact Nat.le_of_eq rfl) (hb hby at_270) e194 (by decide) (by decide) (c' := 2) (s' := 16) rfl rfl N197
    obtain ⟨rfl, N198q, e198⟩ := hQ198
    have N201 := hF198 N198q
    refine Goes.by st198 ?_
    clear X194 N197 e194
    show Goes p.tables e below _ (T198.setTop (mkF m 273 #[.val (.int p0), .val (.int p1), .val (.int p2), .val (.int (2 : Int32)), .val (.ref b2), .val (.ref b40), .val (.long ((p0.toInt64) &&& (4294967295 : Int64))), .second] [(.int (fOk (6 : Int32) (2 : Int32) ((p0.toInt64) &&& (4294967295 : Int64)) ((((p2 + (222 : Int32)).toInt8.toInt32).toInt8.toInt32).toInt8.toInt32) (((p2 + (222 : Int32)).toInt8.toInt32).toInt8.toInt32)))]))
    refine Goes.by (B := T198.setTop (mkF m 285 #[.val (.int p0), .val (.int p1), .val (.int p2), .val (.int (2 : Int32)), .val (.ref b2), .val (.ref b40), .val (.long ((p0.toInt64) &&& (4294967295 : Int64))), .second] [(.long ((p0.toInt64) &&& (4294967295 : Int64))), (.int (2 : Int32)), (.int (7 : Int32)), (.ref b2), (.ref b40)])) (fun t k => ?_) ?_
    · show Steps p.tables e below (T198.setTop (mkF m 273 #[.val (.int p0), .val (.int p1), .val (.int p2), .val (.int (2 : Int32)), .val (.ref b2), .val (.ref b40), .val (.long ((p0.toInt64) &&& (4294967295 : Int64))), .second] [(.int (fOk (6 : Int32) (2 : Int32) ((p0.toInt64) &&& (4294967295 : Int64)) ((((p2 + (222 : Int32)).toInt8.toInt32).toInt8.toInt32).toInt8.toInt32) (((p2 + (222 : Int32)).toInt8.toInt32).toInt8.toInt32)))])) t
      refine XS.ifNo X198.here hx rfl (hb hby at_273) rfl ((if0 _ _).trans (feq (own_ok_out ((p2 + (222 : Int32)).toInt8.toInt32) (6 : Int32) (2 : Int32) ((p0.toInt64) &&& (4294967295 : Int64)) (by decide))).1) ?_
      show Steps p.tables e below (T198.setTop (mkF m 276 #[.val (.int p0), .val (.int p1), .val (.int p2), .val (.int (2 : Int32)), .val (.ref b2), .val (.ref b40), .val (.long ((p0.toInt64) &&& (4294967295 : Int64))), .second] [])) t
      refine XS.aload X198.here hx rfl (hb hby at_276) rfl rfl ?_
      show Steps p.tables e below (T198.setTop (mkF m 278 #[.val (.int p0), .val (.int p1), .val (.int p2), .val (.int (2 : Int32)), .val (.ref b2), .val (.ref b40), .val (.long ((p0.toInt64) &&& (4294967295 : Int64))), .second] [(.ref b40)])) t
      refine XS.aload X198.here hx rfl (hb hby at_278) rfl rfl ?_
      show Steps p.tables e below (T198.setTop (mkF m 280 #[.val (.int p0), .val (.int p1), .val (.int p2), .val (.int (2 : Int32)), .val (.ref b2), .val (.ref b40), .val (.long ((p0.toInt64) &&& (4294967295 : Int64))), .second] [(.ref b2), (.ref b40)])) t
      refine XS.bipush X198.here hx rfl (hb hby at_280) ?_
      show Steps p.tables e below (T198.setTop (mkF m 282 #[.val (.int p0), .val (.int p1), .val (.int p2), .val (.int (2 : Int32)), .val (.ref b2), .val (.ref b40), .val (.long ((p0.toInt64) &&& (4294967295 : Int64))), .second] [(.int (7 : Int32)), (.ref b2), (.ref b40)])) t
      refine XS.iloadN X198.here hx rfl (hb hby at_282) rfl ?_
      show Steps p.tables e below (T198.setTop (mkF m 283 #[.val (.int p0), .val (.int p1), .val (.int p2), .val (.int (2 : Int32)), .val (.ref b2), .val (.ref b40), .val (.long ((p0.toInt64) &&& (4294967295 : Int64))), .second] [(.int (2 : Int32)), (.int (7 : Int32)), (.ref b2), (.ref b40)])) t
      refine XS.lload X198.here hx rfl (hb hby at_283) rfl ?_
      exact k
    have el203 : Elt Z T169.heap b40 .byte (7 : Int32) (.int ((((p2 + (259 : Int32)).toInt8.toInt32).toInt8.toInt32).toInt8.toInt32)) := Elt.of f170 ⟨by decide, by decide⟩ rfl
    have el204 : Elt Z T169.heap b2 .byte (7 : Int32) (.int (((p2 + (259 : Int32)).toInt8.toInt32).toInt8.toInt32)) := Elt.of f171 ⟨by decide, by decide⟩ rfl
    obtain ⟨_, T202, L202, Lc202, X202, hF202, hQ202, st202⟩ := own_cs X198 hx hZ hown (hw _ (List.mem_of_getElem? (i := 7) rfl)) (hw _ (List.mem_of_getElem? (i := 8) rfl)) (hw _ (List.mem_of_getElem? (i := 9) rfl)) (hw _ (List.mem_of_getElem? (i := 10) rfl)) (by decide) (rmOk l Z az hw [] b40 b2 (7 : Int32) (2 : Int32) ((p0.toInt64) &&& (4294967295 : Int64)) ((((p2 + (259 : Int32)).toInt8.toInt32).toInt8.toInt32).toInt8.toInt32) (((p2 + (259 : Int32)).toInt8.toInt32).toInt8.toInt32) T169.heap n0 Z172 el203 el204) (by decide) (by decide) (W := 0) (g := (mkF m 285 #[.val (.int p0), .val (.int p1), .val (.int p2), .val (.int (2 : Int32)), .val (.ref b2), .val (.ref b40), .val (.long ((p0.toInt64) &&& (4294967295 : Int64))), .second] [(.long ((p0.toInt64) &&& (4294967295 : Int64))), (.int (2 : Int32)), (.int (7 : Int32)), (.ref b2), (.ref b40)])) rfl (by rw [hml]; rfl) (argsL := [(.ref b40), (.ref b2), (.int (7 : Int32)), (.int (2 : Int32)), (.long ((p0.toInt64) &&& (4294967295 : Int64)))]) (rest := []) rfl (lenOf own_pd1 rfl) rfl (by show 2 * 0 + _ ≤ _; exact Nat.le_of_eq rfl) (hb hby at_285) e198 (by decide) (by decide) (c' := 2) (s' := 16) rfl rfl N201
    obtain ⟨rfl, N202q, e202⟩ := hQ202
    have N205 := hF202 N202q
    refine Goes.by st202 ?_
    clear X198 N201 e198
    show Goes p.tables e below _ (T202.setTop (mkF m 288 #[.val (.int p0), .val (.int p1), .val (.int p2), .val (.int (2 : Int32)), .val (.ref b2), .val (.ref b40), .val (.long ((p0.toInt64) &&& (4294967295 : Int64))), .second] [(.int (fOk (7 : Int32) (2 : Int32) ((p0.toInt64) &&& (4294967295 : Int64)) ((((p2 + (259 : Int32)).toInt8.toInt32).toInt8.toInt32).toInt8.toInt32) (((p2 + (259 : Int32)).toInt8.toInt32).toInt8.toInt32)))]))
    refine Goes.by (B := T202.setTop (mkF m 296 #[.val (.int p0), .val (.int p1), .val (.int p2), .val (.int (2 : Int32)), .val (.ref b2), .val (.ref b40), .val (.long ((p0.toInt64) &&& (4294967295 : Int64))), .second] [(.int (1 : Int32))])) (fun t k => ?_) ?_
    · show Steps p.tables e below (T202.setTop (mkF m 288 #[.val (.int p0), .val (.int p1), .val (.int p2), .val (.int (2 : Int32)), .val (.ref b2), .val (.ref b40), .val (.long ((p0.toInt64) &&& (4294967295 : Int64))), .second] [(.int (fOk (7 : Int32) (2 : Int32) ((p0.toInt64) &&& (4294967295 : Int64)) ((((p2 + (259 : Int32)).toInt8.toInt32).toInt8.toInt32).toInt8.toInt32) (((p2 + (259 : Int32)).toInt8.toInt32).toInt8.toInt32)))])) t
      refine XS.ifNo X202.here hx rfl (hb hby at_288) rfl ((if0 _ _).trans (feq (own_ok_out ((p2 + (259 : Int32)).toInt8.toInt32) (7 : Int32) (2 : Int32) ((p0.toInt64) &&& (4294967295 : Int64)) (by decide))).1) ?_
      show Steps p.tables e below (T202.setTop (mkF m 291 #[.val (.int p0), .val (.int p1), .val (.int p2), .val (.int (2 : Int32)), .val (.ref b2), .val (.ref b40), .val (.long ((p0.toInt64) &&& (4294967295 : Int64))), .second] [])) t
      refine XS.iconst X202.here hx rfl (hb hby at_291) ?_
      show Steps p.tables e below (T202.setTop (mkF m 292 #[.val (.int p0), .val (.int p1), .val (.int p2), .val (.int (2 : Int32)), .val (.ref b2), .val (.ref b40), .val (.long ((p0.toInt64) &&& (4294967295 : Int64))), .second] [(.int (1 : Int32))])) t
      refine XS.goto X202.here hx rfl (pc0 := 292) (pc' := 296) rfl (hb hby at_292) (by decide) (by decide) ?_
      exact k
    obtain ⟨fs, hr, hrun, hended, hW, hsame⟩ := X202.leave (v := some (.int (1 : Int32))) (fun h => by rw [Bd.returns] at h; cases h)
    refine Goes.mk _ _ ?_ ⟨hrun, hended, _, _, rfl, ?_, ⟨_, rfl⟩, hW, hsame.mono (by decide) (by decide)⟩
    · exact retN X202 hx (t := .boolean) Bd.returns (by simp) (hb hby at_296) hr
    · show Q0 Z p0 p1 p2 h0 n0 _ T202.heap _
      rw [e202]
      exact ⟨rfl, N205⟩
  · refine Goes.by (B := T90.setTop (mkF m 166 #[.val (.int p0), .val (.int p1), .val (.int p2), .val (.int (3 : Int32)), .val (.ref b2), .val (.ref b40), .unset, .unset] [(.int p0), (.int (3 : Int32)), (.ref b40)])) (fun t k => ?_) ?_
    · show Steps p.tables e below (T90.setTop (mkF m 162 #[.val (.int p0), .val (.int p1), .val (.int p2), .val (.int (3 : Int32)), .val (.ref b2), .val (.ref b40), .unset, .unset] [])) t
      refine XS.aload X90.here hx rfl (hb hby at_162) rfl rfl ?_
      show Steps p.tables e below (T90.setTop (mkF m 164 #[.val (.int p0), .val (.int p1), .val (.int p2), .val (.int (3 : Int32)), .val (.ref b2), .val (.ref b40), .unset, .unset] [(.ref b40)])) t
      refine XS.iloadN X90.here hx rfl (hb hby at_164) rfl ?_
      show Steps p.tables e below (T90.setTop (mkF m 165 #[.val (.int p0), .val (.int p1), .val (.int p2), .val (.int (3 : Int32)), .val (.ref b2), .val (.ref b40), .unset, .unset] [(.int (3 : Int32)), (.ref b40)])) t
      refine XS.iloadN X90.here hx rfl (hb hby at_165) rfl ?_
      exact k
    obtain ⟨_, T206, L206, Lc206, X206, hF206, hQ206, st206⟩ := own_cs X90 hx hZ hown (hw _ (List.mem_of_getElem? (i := 2) rfl)) (hw _ (List.mem_of_getElem? (i := 3) rfl)) (hw _ (List.mem_of_getElem? (i := 4) rfl)) (hw _ (List.mem_of_getElem? (i := 5) rfl)) (by decide) (rmPut3 l Z az hw [] b40 p0 k39 (((p2.toInt8.toInt32).toInt8.toInt32).toInt8.toInt32) ((((p2 + (37 : Int32)).toInt8.toInt32).toInt8.toInt32).toInt8.toInt32) ((((p2 + (74 : Int32)).toInt8.toInt32).toInt8.toInt32).toInt8.toInt32) ((((p2 + (111 : Int32)).toInt8.toInt32).toInt8.toInt32).toInt8.toInt32) ((((p2 + (148 : Int32)).toInt8.toInt32).toInt8.toInt32).toInt8.toInt32) ((((p2 + (185 : Int32)).toInt8.toInt32).toInt8.toInt32).toInt8.toInt32) ((((p2 + (222 : Int32)).toInt8.toInt32).toInt8.toInt32).toInt8.toInt32) ((((p2 + (259 : Int32)).toInt8.toInt32).toInt8.toInt32).toInt8.toInt32) h90 n0 Z93 f92 ge42) (by decide) (by decide) (W := 0) (g := (mkF m 166 #[.val (.int p0), .val (.int p1), .val (.int p2), .val (.int (3 : Int32)), .val (.ref b2), .val (.ref b40), .unset, .unset] [(.int p0), (.int (3 : Int32)), (.ref b40)])) rfl (by rw [hml]; rfl) (argsL := [(.ref b40), (.int (3 : Int32)), (.int p0)]) (rest := []) rfl (lenOf own_pd0 rfl) rfl (by show 2 * 0 + _ ≤ _; exact Nat.le_of_eq rfl) (hb hby at_166) e90 (by decide) (by decide) (c' := 2) (s' := 16) rfl rfl N94
    obtain ⟨rfl, N206q, K206, f207⟩ := hQ206
    have f208 : Arv Z T206.heap b2 k1 .byte (8 : Int32) [(.int ((p2.toInt8.toInt32).toInt8.toInt32)), (.int (((p2 + (37 : Int32)).toInt8.toInt32).toInt8.toInt32)), (.int (((p2 + (74 : Int32)).toInt8.toInt32).toInt8.toInt32)), (.int (((p2 + (111 : Int32)).toInt8.toInt32).toInt8.toInt32)), (.int (((p2 + (148 : Int32)).toInt8.toInt32).toInt8.toInt32)), (.int (((p2 + (185 : Int32)).toInt8.toInt32).toInt8.toInt32)), (.int (((p2 + (222 : Int32)).toInt8.toInt32).toInt8.toInt32)), (.int (((p2 + (259 : Int32)).toInt8.toInt32).toInt8.toInt32))] (.int (0 : Int32)) := f91.keep K206 (ninS ne41 nin0)
    have Kp206 : Keep h0 T206.heap [] := Kp90.trans K206 (allS (Or.inr sz43) all0)
    have Z209 : n0 ≤ T206.heap.size := Nat.le_trans Z93 K206.1
    have N210 := hF206 N206q
    refine Goes.by st206 ?_
    clear f91 f92 X90 N94 Z93 Kp90 e90
    show Goes p.tables e below _ (T206.setTop (mkF m 169 #[.val (.int p0), .val (.int p1), .val (.int p2), .val (.int (3 : Int32)), .val (.ref b2), .val (.ref b40), .unset, .unset] []))
    refine Goes.by (B := T206.setTop (mkF m 185 #[.val (.int p0), .val (.int p1), .val (.int p2), .val (.int (3 : Int32)), .val (.ref b2), .val (.ref b40), .val (.long ((p0.toInt64) &&& (4294967295 : Int64))), .second] [(.long ((p0.toInt64) &&& (4294967295 : Int64))), (.int (3 : Int32)), (.int (0 : Int32)), (.ref b2), (.ref b40)])) (fun t k => ?_) ?_
    · show Steps p.tables e below (T206.setTop (mkF m 169 #[.val (.int p0), .val (.int p1), .val (.int p2), .val (.int (3 : Int32)), .val (.ref b2), .val (.ref b40), .unset, .unset] [])) t
      refine XS.iloadN X206.here hx rfl (hb hby at_169) rfl ?_
      show Steps p.tables e below (T206.setTop (mkF m 170 #[.val (.int p0), .val (.int p1), .val (.int p2), .val (.int (3 : Int32)), .val (.ref b2), .val (.ref b40), .unset, .unset] [(.int p0)])) t
      refine XS.i2l X206.here hx rfl (hb hby at_170) rfl ?_
      show Steps p.tables e below (T206.setTop (mkF m 171 #[.val (.int p0), .val (.int p1), .val (.int p2), .val (.int (3 : Int32)), .val (.ref b2), .val (.ref b40), .unset, .unset] [(.long (p0.toInt64))])) t
      refine X206.ldc2Long hx hown (mvT hZ (hw _ (List.mem_of_getElem? (i := 6) rfl))) (g := (mkF m 171 #[.val (.int p0), .val (.int p1), .val (.int p2), .val (.int (3 : Int32)), .val (.ref b2), .val (.ref b40), .unset, .unset] [(.long (p0.toInt64))])) rfl (hb hby at_171) _ ?_
      show Steps p.tables e below (T206.setTop (mkF m 174 #[.val (.int p0), .val (.int p1), .val (.int p2), .val (.int (3 : Int32)), .val (.ref b2), .val (.ref b40), .unset, .unset] [(.long (4294967295 : Int64)), (.long (p0.toInt64))])) t
      refine XS.land X206.here hx rfl (hb hby at_174) rfl ?_
      show Steps p.tables e below (T206.setTop (mkF m 175 #[.val (.int p0), .val (.int p1), .val (.int p2), .val (.int (3 : Int32)), .val (.ref b2), .val (.ref b40), .unset, .unset] [(.long ((p0.toInt64) &&& (4294967295 : Int64)))])) t
      refine XS.lstore X206.here hx rfl (hb hby at_175) rfl (l' := #[.val (.int p0), .val (.int p1), .val (.int p2), .val (.int (3 : Int32)), .val (.ref b2), .val (.ref b40), .val (.long ((p0.toInt64) &&& (4294967295 : Int64))), .second]) rfl ?_
      show Steps p.tables e below (T206.setTop (mkF m 177 #[.val (.int p0), .val (.int p1), .val (.int p2), .val (.int (3 : Int32)), .val (.ref b2), .val (.ref b40), .val (.long ((p0.toInt64) &&& (4294967295 : Int64))), .second] [])) t
      refine XS.aload X206.here hx rfl (hb hby at_177) rfl rfl ?_
      show Steps p.tables e below (T206.setTop (mkF m 179 #[.val (.int p0), .val (.int p1), .val (.int p2), .val (.int (3 : Int32)), .val (.ref b2), .val (.ref b40), .val (.long ((p0.toInt64) &&& (4294967295 : Int64))), .second] [(.ref b40)])) t
      refine XS.aload X206.here hx rfl (hb hby at_179) rfl rfl ?_
      show Steps p.tables e below (T206.setTop (mkF m 181 #[.val (.int p0), .val (.int p1), .val (.int p2), .val (.int (3 : Int32)), .val (.ref b2), .val (.ref b40), .val (.long ((p0.toInt64) &&& (4294967295 : Int64))), .second] [(.ref b2), (.ref b40)])) t
      refine XS.iconst X206.here hx rfl (hb hby at_181) ?_
      show Steps p.tables e below (T206.setTop (mkF m 182 #[.val (.int p0), .val (.int p1), .val (.int p2), .val (.int (3 : Int32)), .val (.ref b2), .val (.ref b40), .val (.long ((p0.toInt64) &&& (4294967295 : Int64))), .second] [(.int (0 : Int32)), (.ref b2), (.ref b40)])) t
      refine XS.iloadN X206.here hx rfl (hb hby at_182) rfl ?_
      show Steps p.tables e below (T206.setTop (mkF m 183 #[.val (.int p0), .val (.int p1), .val (.int p2), .val (.int (3 : Int32)), .val (.ref b2), .val (.ref b40), .val (.long ((p0.toInt64) &&& (4294967295 : Int64))), .second] [(.int (3 : Int32)), (.int (0 : Int32)), (.ref b2), (.ref b40)])) t
      refine XS.lload X206.here hx rfl (hb hby at_183) rfl ?_
      exact k
    have el212 : Elt Z T206.heap b40 .byte (0 : Int32) (.int (((p2.toInt8.toInt32).toInt8.toInt32).toInt8.toInt32)) := Elt.of f207 ⟨by decide, by decide⟩ rfl
    have el213 : Elt Z T206.heap b2 .byte (0 : Int32) (.int ((p2.toInt8.toInt32).toInt8.toInt32)) := Elt.of f208 ⟨by decide, by decide⟩ rfl
    obtain ⟨_, T211, L211, Lc211, X211, hF211, hQ211, st211⟩ := own_cs X206 hx hZ hown (hw _ (List.mem_of_getElem? (i := 7) rfl)) (hw _ (List.mem_of_getElem? (i := 8) rfl)) (hw _ (List.mem_of_getElem? (i := 9) rfl)) (hw _ (List.mem_of_getElem? (i := 10) rfl)) (by decide) (rmOk l Z az hw [] b40 b2 (0 : Int32) (3 : Int32) ((p0.toInt64) &&& (4294967295 : Int64)) (((p2.toInt8.toInt32).toInt8.toInt32).toInt8.toInt32) ((p2.toInt8.toInt32).toInt8.toInt32) T206.heap n0 Z209 el212 el213) (by decide) (by decide) (W := 0) (g := (mkF m 185 #[.val (.int p0), .val (.int p1), .val (.int p2), .val (.int (3 : Int32)), .val (.ref b2), .val (.ref b40), .val (.long ((p0.toInt64) &&& (4294967295 : Int64))), .second] [(.long ((p0.toInt64) &&& (4294967295 : Int64))), (.int (3 : Int32)), (.int (0 : Int32)), (.ref b2), (.ref b40)])) rfl (by rw [hml]; rfl) (argsL := [(.ref b40), (.ref b2), (.int (0 : Int32)), (.int (3 : Int32)), (.long ((p0.toInt64) &&& (4294967295 : Int64)))]) (rest := []) rfl (lenOf own_pd1 rfl) rfl (by show 2 * 0 + _ ≤ _; exact Nat.le_of_eq rfl) (hb hby at_185) rfl (by decide) (by decide) (c' := 2) (s' := 16) rfl rfl N210
    obtain ⟨rfl, N211q, e211⟩ := hQ211
    have N214 := hF211 N211q
    refine Goes.by st211 ?_
    clear X206 N210
    show Goes p.tables e below _ (T211.setTop (mkF m 188 #[.val (.int p0), .val (.int p1), .val (.int p2), .val (.int (3 : Int32)), .val (.ref b2), .val (.ref b40), .val (.long ((p0.toInt64) &&& (4294967295 : Int64))), .second] [(.int (fOk (0 : Int32) (3 : Int32) ((p0.toInt64) &&& (4294967295 : Int64)) (((p2.toInt8.toInt32).toInt8.toInt32).toInt8.toInt32) ((p2.toInt8.toInt32).toInt8.toInt32)))]))
    refine Goes.by (B := T211.setTop (mkF m 199 #[.val (.int p0), .val (.int p1), .val (.int p2), .val (.int (3 : Int32)), .val (.ref b2), .val (.ref b40), .val (.long ((p0.toInt64) &&& (4294967295 : Int64))), .second] [(.long ((p0.toInt64) &&& (4294967295 : Int64))), (.int (3 : Int32)), (.int (1 : Int32)), (.ref b2), (.ref b40)])) (fun t k => ?_) ?_
    · show Steps p.tables e below (T211.setTop (mkF m 188 #[.val (.int p0), .val (.int p1), .val (.int p2), .val (.int (3 : Int32)), .val (.ref b2), .val (.ref b40), .val (.long ((p0.toInt64) &&& (4294967295 : Int64))), .second] [(.int (fOk (0 : Int32) (3 : Int32) ((p0.toInt64) &&& (4294967295 : Int64)) (((p2.toInt8.toInt32).toInt8.toInt32).toInt8.toInt32) ((p2.toInt8.toInt32).toInt8.toInt32)))])) t
      refine XS.ifNo X211.here hx rfl (hb hby at_188) rfl ((if0 _ _).trans (feq (own_ok_out (p2.toInt8.toInt32) (0 : Int32) (3 : Int32) ((p0.toInt64) &&& (4294967295 : Int64)) (by decide))).1) ?_
      show Steps p.tables e below (T211.setTop (mkF m 191 #[.val (.int p0), .val (.int p1), .val (.int p2), .val (.int (3 : Int32)), .val (.ref b2), .val (.ref b40), .val (.long ((p0.toInt64) &&& (4294967295 : Int64))), .second] [])) t
      refine XS.aload X211.here hx rfl (hb hby at_191) rfl rfl ?_
      show Steps p.tables e below (T211.setTop (mkF m 193 #[.val (.int p0), .val (.int p1), .val (.int p2), .val (.int (3 : Int32)), .val (.ref b2), .val (.ref b40), .val (.long ((p0.toInt64) &&& (4294967295 : Int64))), .second] [(.ref b40)])) t
      refine XS.aload X211.here hx rfl (hb hby at_193) rfl rfl ?_
      show Steps p.tables e below (T211.setTop (mkF m 195 #[.val (.int p0), .val (.int p1), .val (.int p2), .val (.int (3 : Int32)), .val (.ref b2), .val (.ref b40), .val (.long ((p0.toInt64) &&& (4294967295 : Int64))), .second] [(.ref b2), (.ref b40)])) t
      refine XS.iconst X211.here hx rfl (hb hby at_195) ?_
      show Steps p.tables e below (T211.setTop (mkF m 196 #[.val (.int p0), .val (.int p1), .val (.int p2), .val (.int (3 : Int32)), .val (.ref b2), .val (.ref b40), .val (.long ((p0.toInt64) &&& (4294967295 : Int64))), .second] [(.int (1 : Int32)), (.ref b2), (.ref b40)])) t
      refine XS.iloadN X211.here hx rfl (hb hby at_196) rfl ?_
      show Steps p.tables e below (T211.setTop (mkF m 197 #[.val (.int p0), .val (.int p1), .val (.int p2), .val (.int (3 : Int32)), .val (.ref b2), .val (.ref b40), .val (.long ((p0.toInt64) &&& (4294967295 : Int64))), .second] [(.int (3 : Int32)), (.int (1 : Int32)), (.ref b2), (.ref b40)])) t
      refine XS.lload X211.here hx rfl (hb hby at_197) rfl ?_
      exact k
    have el216 : Elt Z T206.heap b40 .byte (1 : Int32) (.int ((((p2 + (37 : Int32)).toInt8.toInt32).toInt8.toInt32).toInt8.toInt32)) := Elt.of f207 ⟨by decide, by decide⟩ rfl
    have el217 : Elt Z T206.heap b2 .byte (1 : Int32) (.int (((p2 + (37 : Int32)).toInt8.toInt32).toInt8.toInt32)) := Elt.of f208 ⟨by decide, by decide⟩ rfl
    obtain ⟨_, T215, L215, Lc215, X215, hF215, hQ215, st215⟩ := own_cs X211 hx hZ hown (hw _ (List.mem_of_getElem? (i := 7) rfl)) (hw _ (List.mem_of_getElem? (i := 8) rfl)) (hw _ (List.mem_of_getElem? (i := 9) rfl)) (hw _ (List.mem_of_getElem? (i := 10) rfl)) (by decide) (rmOk l Z az hw [] b40 b2 (1 : Int32) (3 : Int32) ((p0.toInt64) &&& (4294967295 : Int64)) ((((p2 + (37 : Int32)).toInt8.toInt32).toInt8.toInt32).toInt8.toInt32) (((p2 + (37 : Int32)).toInt8.toInt32).toInt8.toInt32) T206.heap n0 Z209 el216 el217) (by decide) (by decide) (W := 0) (g := (mkF m 199 #[.val (.int p0), .val (.int p1), .val (.int p2), .val (.int (3 : Int32)), .val (.ref b2), .val (.ref b40), .val (.long ((p0.toInt64) &&& (4294967295 : Int64))), .second] [(.long ((p0.toInt64) &&& (4294967295 : Int64))), (.int (3 : Int32)), (.int (1 : Int32)), (.ref b2), (.ref b40)])) rfl (by rw [hml]; rfl) (argsL := [(.ref b40), (.ref b2), (.int (1 : Int32)), (.int (3 : Int32)), (.long ((p0.toInt64) &&& (4294967295 : Int64)))]) (rest := []) rfl (lenOf own_pd1 rfl) rfl (by show 2 * 0 + _ ≤ _; exact Nat.le_of_eq rfl) (hb hby at_199) e211 (by decide) (by decide) (c' := 2) (s' := 16) rfl rfl N214
    obtain ⟨rfl, N215q, e215⟩ := hQ215
    have N218 := hF215 N215q
    refine Goes.by st215 ?_
    clear X211 N214 e211
    show Goes p.tables e below _ (T215.setTop (mkF m 202 #[.val (.int p0), .val (.int p1), .val (.int p2), .val (.int (3 : Int32)), .val (.ref b2), .val (.ref b40), .val (.long ((p0.toInt64) &&& (4294967295 : Int64))), .second] [(.int (fOk (1 : Int32) (3 : Int32) ((p0.toInt64) &&& (4294967295 : Int64)) ((((p2 + (37 : Int32)).toInt8.toInt32).toInt8.toInt32).toInt8.toInt32) (((p2 + (37 : Int32)).toInt8.toInt32).toInt8.toInt32)))]))
    refine Goes.by (B := T215.setTop (mkF m 213 #[.val (.int p0), .val (.int p1), .val (.int p2), .val (.int (3 : Int32)), .val (.ref b2), .val (.ref b40), .val (.long ((p0.toInt64) &&& (4294967295 : Int64))), .second] [(.long ((p0.toInt64) &&& (4294967295 : Int64))), (.int (3 : Int32)), (.int (2 : Int32)), (.ref b2), (.ref b40)])) (fun t k => ?_) ?_
    · show Steps p.tables e below (T215.setTop (mkF m 202 #[.val (.int p0), .val (.int p1), .val (.int p2), .val (.int (3 : Int32)), .val (.ref b2), .val (.ref b40), .val (.long ((p0.toInt64) &&& (4294967295 : Int64))), .second] [(.int (fOk (1 : Int32) (3 : Int32) ((p0.toInt64) &&& (4294967295 : Int64)) ((((p2 + (37 : Int32)).toInt8.toInt32).toInt8.toInt32).toInt8.toInt32) (((p2 + (37 : Int32)).toInt8.toInt32).toInt8.toInt32)))])) t
      refine XS.ifNo X215.here hx rfl (hb hby at_202) rfl ((if0 _ _).trans (feq (own_ok_out ((p2 + (37 : Int32)).toInt8.toInt32) (1 : Int32) (3 : Int32) ((p0.toInt64) &&& (4294967295 : Int64)) (by decide))).1) ?_
      show Steps p.tables e below (T215.setTop (mkF m 205 #[.val (.int p0), .val (.int p1), .val (.int p2), .val (.int (3 : Int32)), .val (.ref b2), .val (.ref b40), .val (.long ((p0.toInt64) &&& (4294967295 : Int64))), .second] [])) t
      refine XS.aload X215.here hx rfl (hb hby at_205) rfl rfl ?_
      show Steps p.tables e below (T215.setTop (mkF m 207 #[.val (.int p0), .val (.int p1), .val (.int p2), .val (.int (3 : Int32)), .val (.ref b2), .val (.ref b40), .val (.long ((p0.toInt64) &&& (4294967295 : Int64))), .second] [(.ref b40)])) t
      refine XS.aload X215.here hx rfl (hb hby at_207) rfl rfl ?_
      show Steps p.tables e below (T215.setTop (mkF m 209 #[.val (.int p0), .val (.int p1), .val (.int p2), .val (.int (3 : Int32)), .val (.ref b2), .val (.ref b40), .val (.long ((p0.toInt64) &&& (4294967295 : Int64))), .second] [(.ref b2), (.ref b40)])) t
      refine XS.iconst X215.here hx rfl (hb hby at_209) ?_
      show Steps p.tables e below (T215.setTop (mkF m 210 #[.val (.int p0), .val (.int p1), .val (.int p2), .val (.int (3 : Int32)), .val (.ref b2), .val (.ref b40), .val (.long ((p0.toInt64) &&& (4294967295 : Int64))), .second] [(.int (2 : Int32)), (.ref b2), (.ref b40)])) t
      refine XS.iloadN X215.here hx rfl (hb hby at_210) rfl ?_
      show Steps p.tables e below (T215.setTop (mkF m 211 #[.val (.int p0), .val (.int p1), .val (.int p2), .val (.int (3 : Int32)), .val (.ref b2), .val (.ref b40), .val (.long ((p0.toInt64) &&& (4294967295 : Int64))), .second] [(.int (3 : Int32)), (.int (2 : Int32)), (.ref b2), (.ref b40)])) t
      refine XS.lload X215.here hx rfl (hb hby at_211) rfl ?_
      exact k
    have el220 : Elt Z T206.heap b40 .byte (2 : Int32) (.int ((((p2 + (74 : Int32)).toInt8.toInt32).toInt8.toInt32).toInt8.toInt32)) := Elt.of f207 ⟨by decide, by decide⟩ rfl
    have el221 : Elt Z T206.heap b2 .byte (2 : Int32) (.int (((p2 + (74 : Int32)).toInt8.toInt32).toInt8.toInt32)) := Elt.of f208 ⟨by decide, by decide⟩ rfl
    obtain ⟨_, T219, L219, Lc219, X219, hF219, hQ219, st219⟩ := own_cs X215 hx hZ hown (hw _ (List.mem_of_getElem? (i := 7) rfl)) (hw _ (List.mem_of_getElem? (i := 8) rfl)) (hw _ (List.mem_of_getElem? (i := 9) rfl)) (hw _ (List.mem_of_getElem? (i := 10) rfl)) (by decide) (rmOk l Z az hw [] b40 b2 (2 : Int32) (3 : Int32) ((p0.toInt64) &&& (4294967295 : Int64)) ((((p2 + (74 : Int32)).toInt8.toInt32).toInt8.toInt32).toInt8.toInt32) (((p2 + (74 : Int32)).toInt8.toInt32).toInt8.toInt32) T206.heap n0 Z209 el220 el221) (by decide) (by decide) (W := 0) (g := (mkF m 213 #[.val (.int p0), .val (.int p1), .val (.int p2), .val (.int (3 : Int32)), .val (.ref b2), .val (.ref b40), .val (.long ((p0.toInt64) &&& (4294967295 : Int64))), .second] [(.long ((p0.toInt64) &&& (4294967295 : Int64))), (.int (3 : Int32)), (.int (2 : Int32)), (.ref b2), (.ref b40)])) rfl (by rw [hml]; rfl) (argsL := [(.ref b40), (.ref b2), (.int (2 : Int32)), (.int (3 : Int32)), (.long ((p0.toInt64) &&& (4294967295 : Int64)))]) (rest := []) rfl (lenOf own_pd1 rfl) rfl (by show 2 * 0 + _ ≤ _; exact Nat.le_of_eq rfl) (hb hby at_213) e215 (by decide) (by decide) (c' := 2) (s' := 16) rfl rfl N218
    obtain ⟨rfl, N219q, e219⟩ := hQ219
    have N222 := hF219 N219q
    refine Goes.by st219 ?_
    clear X215 N218 e215
    show Goes p.tables e below _ (T219.setTop (mkF m 216 #[.val (.int p0), .val (.int p1), .val (.int p2), .val (.int (3 : Int32)), .val (.ref b2), .val (.ref b40), .val (.long ((p0.toInt64) &&& (4294967295 : Int64))), .second] [(.int (fOk (2 : Int32) (3 : Int32) ((p0.toInt64) &&& (4294967295 : Int64)) ((((p2 + (74 : Int32)).toInt8.toInt32).toInt8.toInt32).toInt8.toInt32) (((p2 + (74 : Int32)).toInt8.toInt32).toInt8.toInt32)))]))
    refine Goes.by (B := T219.setTop (mkF m 227 #[.val (.int p0), .val (.int p1), .val (.int p2), .val (.int (3 : Int32)), .val (.ref b2), .val (.ref b40), .val (.long ((p0.toInt64) &&& (4294967295 : Int64))), .second] [(.long ((p0.toInt64) &&& (4294967295 : Int64))), (.int (3 : Int32)), (.int (3 : Int32)), (.ref b2), (.ref b40)])) (fun t k => ?_) ?_
    · show Steps p.tables e below (T219.setTop (mkF m 216 #[.val (.int p0), .val (.int p1), .val (.int p2), .val (.int (3 : Int32)), .val (.ref b2), .val (.ref b40), .val (.long ((p0.toInt64) &&& (4294967295 : Int64))), .second] [(.int (fOk (2 : Int32) (3 : Int32) ((p0.toInt64) &&& (4294967295 : Int64)) ((((p2 + (74 : Int32)).toInt8.toInt32).toInt8.toInt32).toInt8.toInt32) (((p2 + (74 : Int32)).toInt8.toInt32).toInt8.toInt32)))])) t
      refine XS.ifNo X219.here hx rfl (hb hby at_216) rfl ((if0 _ _).trans (feq (own_ok_out ((p2 + (74 : Int32)).toInt8.toInt32) (2 : Int32) (3 : Int32) ((p0.toInt64) &&& (4294967295 : Int64)) (by decide))).1) ?_
      show Steps p.tables e below (T219.setTop (mkF m 219 #[.val (.int p0), .val (.int p1), .val (.int p2), .val (.int (3 : Int32)), .val (.ref b2), .val (.ref b40), .val (.long ((p0.toInt64) &&& (4294967295 : Int64))), .second] [])) t
      refine XS.aload X219.here hx rfl (hb hby at_219) rfl rfl ?_
      show Steps p.tables e below (T219.setTop (mkF m 221 #[.val (.int p0), .val (.int p1), .val (.int p2), .val (.int (3 : Int32)), .val (.ref b2), .val (.ref b40), .val (.long ((p0.toInt64) &&& (4294967295 : Int64))), .second] [(.ref b40)])) t
      refine XS.aload X219.here hx rfl (hb hby at_221) rfl rfl ?_
      show Steps p.tables e below (T219.setTop (mkF m 223 #[.val (.int p0), .val (.int p1), .val (.int p2), .val (.int (3 : Int32)), .val (.ref b2), .val (.ref b40), .val (.long ((p0.toInt64) &&& (4294967295 : Int64))), .second] [(.ref b2), (.ref b40)])) t
      refine XS.iconst X219.here hx rfl (hb hby at_223) ?_
      show Steps p.tables e below (T219.setTop (mkF m 224 #[.val (.int p0), .val (.int p1), .val (.int p2), .val (.int (3 : Int32)), .val (.ref b2), .val (.ref b40), .val (.long ((p0.toInt64) &&& (4294967295 : Int64))), .second] [(.int (3 : Int32)), (.ref b2), (.ref b40)])) t
      refine XS.iloadN X219.here hx rfl (hb hby at_224) rfl ?_
      show Steps p.tables e below (T219.setTop (mkF m 225 #[.val (.int p0), .val (.int p1), .val (.int p2), .val (.int (3 : Int32)), .val (.ref b2), .val (.ref b40), .val (.long ((p0.toInt64) &&& (4294967295 : Int64))), .second] [(.int (3 : Int32)), (.int (3 : Int32)), (.ref b2), (.ref b40)])) t
      refine XS.lload X219.here hx rfl (hb hby at_225) rfl ?_
      exact k
    have el224 : Elt Z T206.heap b40 .byte (3 : Int32) (.int ((((p0.toUInt32 >>> ((24 : Int32) &&& 31).toUInt32).toInt32).toInt8.toInt32).toInt8.toInt32)) := Elt.of f207 ⟨by decide, by decide⟩ rfl
    have el225 : Elt Z T206.heap b2 .byte (3 : Int32) (.int (((p2 + (111 : Int32)).toInt8.toInt32).toInt8.toInt32)) := Elt.of f208 ⟨by decide, by decide⟩ rfl
    obtain ⟨_, T223, L223, Lc223, X223, hF223, hQ223, st223⟩ := own_cs X219 hx hZ hown (hw _ (List.mem_of_getElem? (i := 7) rfl)) (hw _ (List.mem_of_getElem? (i := 8) rfl)) (hw _ (List.mem_of_getElem? (i := 9) rfl)) (hw _ (List.mem_of_getElem? (i := 10) rfl)) (by decide) (rmOk l Z az hw [] b40 b2 (3 : Int32) (3 : Int32) ((p0.toInt64) &&& (4294967295 : Int64)) ((((p0.toUInt32 >>> ((24 : Int32) &&& 31).toUInt32).toInt32).toInt8.toInt32).toInt8.toInt32) (((p2 + (111 : Int32)).toInt8.toInt32).toInt8.toInt32) T206.heap n0 Z209 el224 el225) (by decide) (by decide) (W := 0) (g := (mkF m 227 #[.val (.int p0), .val (.int p1), .val (.int p2), .val (.int (3 : Int32)), .val (.ref b2), .val (.ref b40), .val (.long ((p0.toInt64) &&& (4294967295 : Int64))), .second] [(.long ((p0.toInt64) &&& (4294967295 : Int64))), (.int (3 : Int32)), (.int (3 : Int32)), (.ref b2), (.ref b40)])) rfl (by rw [hml]; rfl) (argsL := [(.ref b40), (.ref b2), (.int (3 : Int32)), (.int (3 : Int32)), (.long ((p0.toInt64) &&& (4294967295 : Int64)))]) (rest := []) rfl (lenOf own_pd1 rfl) rfl (by show 2 * 0 + _ ≤ _; exact Nat.le_of_eq rfl) (hb hby at_227) e219 (by decide) (by decide) (c' := 2) (s' := 16) rfl rfl N222
    obtain ⟨rfl, N223q, e223⟩ := hQ223
    have N226 := hF223 N223q
    refine Goes.by st223 ?_
    clear X219 N222 e219
    show Goes p.tables e below _ (T223.setTop (mkF m 230 #[.val (.int p0), .val (.int p1), .val (.int p2), .val (.int (3 : Int32)), .val (.ref b2), .val (.ref b40), .val (.long ((p0.toInt64) &&& (4294967295 : Int64))), .second] [(.int (fOk (3 : Int32) (3 : Int32) ((p0.toInt64) &&& (4294967295 : Int64)) ((((p0.toUInt32 >>> ((24 : Int32) &&& 31).toUInt32).toInt32).toInt8.toInt32).toInt8.toInt32) (((p2 + (111 : Int32)).toInt8.toInt32).toInt8.toInt32)))]))
    refine Goes.by (B := T223.setTop (mkF m 241 #[.val (.int p0), .val (.int p1), .val (.int p2), .val (.int (3 : Int32)), .val (.ref b2), .val (.ref b40), .val (.long ((p0.toInt64) &&& (4294967295 : Int64))), .second] [(.long ((p0.toInt64) &&& (4294967295 : Int64))), (.int (3 : Int32)), (.int (4 : Int32)), (.ref b2), (.ref b40)])) (fun t k => ?_) ?_
    · show Steps p.tables e below (T223.setTop (mkF m 230 #[.val (.int p0), .val (.int p1), .val (.int p2), .val (.int (3 : Int32)), .val (.ref b2), .val (.ref b40), .val (.long ((p0.toInt64) &&& (4294967295 : Int64))), .second] [(.int (fOk (3 : Int32) (3 : Int32) ((p0.toInt64) &&& (4294967295 : Int64)) ((((p0.toUInt32 >>> ((24 : Int32) &&& 31).toUInt32).toInt32).toInt8.toInt32).toInt8.toInt32) (((p2 + (111 : Int32)).toInt8.toInt32).toInt8.toInt32)))])) t
      refine XS.ifNo X223.here hx rfl (hb hby at_230) rfl ((if0 _ _).trans (feq (own_ok0 p0 (((p2 + (111 : Int32)).toInt8.toInt32).toInt8.toInt32) (3 : Int32) (3 : Int32) (by decide))).1) ?_
      show Steps p.tables e below (T223.setTop (mkF m 233 #[.val (.int p0), .val (.int p1), .val (.int p2), .val (.int (3 : Int32)), .val (.ref b2), .val (.ref b40), .val (.long ((p0.toInt64) &&& (4294967295 : Int64))), .second] [])) t
      refine XS.aload X223.here hx rfl (hb hby at_233) rfl rfl ?_
      show Steps p.tables e below (T223.setTop (mkF m 235 #[.val (.int p0), .val (.int p1), .val (.int p2), .val (.int (3 : Int32)), .val (.ref b2), .val (.ref b40), .val (.long ((p0.toInt64) &&& (4294967295 : Int64))), .second] [(.ref b40)])) t
      refine XS.aload X223.here hx rfl (hb hby at_235) rfl rfl ?_
      show Steps p.tables e below (T223.setTop (mkF m 237 #[.val (.int p0), .val (.int p1), .val (.int p2), .val (.int (3 : Int32)), .val (.ref b2), .val (.ref b40), .val (.long ((p0.toInt64) &&& (4294967295 : Int64))), .second] [(.ref b2), (.ref b40)])) t
      refine XS.iconst X223.here hx rfl (hb hby at_237) ?_
      show Steps p.tables e below (T223.setTop (mkF m 238 #[.val (.int p0), .val (.int p1), .val (.int p2), .val (.int (3 : Int32)), .val (.ref b2), .val (.ref b40), .val (.long ((p0.toInt64) &&& (4294967295 : Int64))), .second] [(.int (4 : Int32)), (.ref b2), (.ref b40)])) t
      refine XS.iloadN X223.here hx rfl (hb hby at_238) rfl ?_
      show Steps p.tables e below (T223.setTop (mkF m 239 #[.val (.int p0), .val (.int p1), .val (.int p2), .val (.int (3 : Int32)), .val (.ref b2), .val (.ref b40), .val (.long ((p0.toInt64) &&& (4294967295 : Int64))), .second] [(.int (3 : Int32)), (.int (4 : Int32)), (.ref b2), (.ref b40)])) t
      refine XS.lload X223.here hx rfl (hb hby at_239) rfl ?_
      exact k
    have el228 : Elt Z T206.heap b40 .byte (4 : Int32) (.int ((((p0.toUInt32 >>> ((16 : Int32) &&& 31).toUInt32).toInt32).toInt8.toInt32).toInt8.toInt32)) := Elt.of f207 ⟨by decide, by decide⟩ rfl
    have el229 : Elt Z T206.heap b2 .byte (4 : Int32) (.int (((p2 + (148 : Int32)).toInt8.toInt32).toInt8.toInt32)) := Elt.of f208 ⟨by decide, by decide⟩ rfl
    obtain ⟨_, T227, L227, Lc227, X227, hF227, hQ227, st227⟩ := own_cs X223 hx hZ hown (hw _ (List.mem_of_getElem? (i := 7) rfl)) (hw _ (List.mem_of_getElem? (i := 8) rfl)) (hw _ (List.mem_of_getElem? (i := 9) rfl)) (hw _ (List.mem_of_getElem? (i := 10) rfl)) (by decide) (rmOk l Z az hw [] b40 b2 (4 : Int32) (3 : Int32) ((p0.toInt64) &&& (4294967295 : Int64)) ((((p0.toUInt32 >>> ((16 : Int32) &&& 31).toUInt32).toInt32).toInt8.toInt32).toInt8.toInt32) (((p2 + (148 : Int32)).toInt8.toInt32).toInt8.toInt32) T206.heap n0 Z209 el228 el229) (by decide) (by decide) (W := 0) (g := (mkF m 241 #[.val (.int p0), .val (.int p1), .val (.int p2), .val (.int (3 : Int32)), .val (.ref b2), .val (.ref b40), .val (.long ((p0.toInt64) &&& (4294967295 : Int64))), .second] [(.long ((p0.toInt64) &&& (4294967295 : Int64))), (.int (3 : Int32)), (.int (4 : Int32)), (.ref b2), (.ref b40)])) rfl (by rw [hml]; rfl) (argsL := [(.ref b40), (.ref b2), (.int (4 : Int32)), (.int (3 : Int32)), (.long ((p0.toInt64) &&& (4294967295 : Int64)))]) (rest := []) rfl (lenOf own_pd1 rfl) rfl (by show 2 * 0 + _ ≤ _; exact Nat.le_of_eq rfl) (hb hby at_241) e223 (by decide) (by decide) (c' := 2) (s' := 16) rfl rfl N226
    obtain ⟨rfl, N227q, e227⟩ := hQ227
    have N230 := hF227 N227q
    refine Goes.by st227 ?_
    clear X223 N226 e223
    show Goes p.tables e below _ (T227.setTop (mkF m 244 #[.val (.int p0), .val (.int p1), .val (.int p2), .val (.int (3 : Int32)), .val (.ref b2), .val (.ref b40), .val (.long ((p0.toInt64) &&& (4294967295 : Int64))), .second] [(.int (fOk (4 : Int32) (3 : Int32) ((p0.toInt64) &&& (4294967295 : Int64)) ((((p0.toUInt32 >>> ((16 : Int32) &&& 31).toUInt32).toInt32).toInt8.toInt32).toInt8.toInt32) (((p2 + (148 : Int32)).toInt8.toInt32).toInt8.toInt32)))]))
    refine Goes.by (B := T227.setTop (mkF m 255 #[.val (.int p0), .val (.int p1), .val (.int p2), .val (.int (3 : Int32)), .val (.ref b2), .val (.ref b40), .val (.long ((p0.toInt64) &&& (4294967295 : Int64))), .second] [(.long ((p0.toInt64) &&& (4294967295 : Int64))), (.int (3 : Int32)), (.int (5 : Int32)), (.ref b2), (.ref b40)])) (fun t k => ?_) ?_
    · show Steps p.tables e below (T227.setTop (mkF m 244 #[.val (.int p0), .val (.int p1), .val (.int p2), .val (.int (3 : Int32)), .val (.ref b2), .val (.ref b40), .val (.long ((p0.toInt64) &&& (4294967295 : Int64))), .second] [(.int (fOk (4 : Int32) (3 : Int32) ((p0.toInt64) &&& (4294967295 : Int64)) ((((p0.toUInt32 >>> ((16 : Int32) &&& 31).toUInt32).toInt32).toInt8.toInt32).toInt8.toInt32) (((p2 + (148 : Int32)).toInt8.toInt32).toInt8.toInt32)))])) t
      refine XS.ifNo X227.here hx rfl (hb hby at_244) rfl ((if0 _ _).trans (feq (own_ok1 p0 (((p2 + (148 : Int32)).toInt8.toInt32).toInt8.toInt32) (4 : Int32) (3 : Int32) (by decide))).1) ?_
      show Steps p.tables e below (T227.setTop (mkF m 247 #[.val (.int p0), .val (.int p1), .val (.int p2), .val (.int (3 : Int32)), .val (.ref b2), .val (.ref b40), .val (.long ((p0.toInt64) &&& (4294967295 : Int64))), .second] [])) t
      refine XS.aload X227.here hx rfl (hb hby at_247) rfl rfl ?_
      show Steps p.tables e below (T227.setTop (mkF m 249 #[.val (.int p0), .val (.int p1), .val (.int p2), .val (.int (3 : Int32)), .val (.ref b2), .val (.ref b40), .val (.long ((p0.toInt64) &&& (4294967295 : Int64))), .second] [(.ref b40)])) t
      refine XS.aload X227.here hx rfl (hb hby at_249) rfl rfl ?_
      show Steps p.tables e below (T227.setTop (mkF m 251 #[.val (.int p0), .val (.int p1), .val (.int p2), .val (.int (3 : Int32)), .val (.ref b2), .val (.ref b40), .val (.long ((p0.toInt64) &&& (4294967295 : Int64))), .second] [(.ref b2), (.ref b40)])) t
      refine XS.iconst X227.here hx rfl (hb hby at_251) ?_
      show Steps p.tables e below (T227.setTop (mkF m 252 #[.val (.int p0), .val (.int p1), .val (.int p2), .val (.int (3 : Int32)), .val (.ref b2), .val (.ref b40), .val (.long ((p0.toInt64) &&& (4294967295 : Int64))), .second] [(.int (5 : Int32)), (.ref b2), (.ref b40)])) t
      refine XS.iloadN X227.here hx rfl (hb hby at_252) rfl ?_
      show Steps p.tables e below (T227.setTop (mkF m 253 #[.val (.int p0), .val (.int p1), .val (.int p2), .val (.int (3 : Int32)), .val (.ref b2), .val (.ref b40), .val (.long ((p0.toInt64) &&& (4294967295 : Int64))), .second] [(.int (3 : Int32)), (.int (5 : Int32)), (.ref b2), (.ref b40)])) t
      refine XS.lload X227.here hx rfl (hb hby at_253) rfl ?_
      exact k
    have el232 : Elt Z T206.heap b40 .byte (5 : Int32) (.int ((((p0.toUInt32 >>> ((8 : Int32) &&& 31).toUInt32).toInt32).toInt8.toInt32).toInt8.toInt32)) := Elt.of f207 ⟨by decide, by decide⟩ rfl
    have el233 : Elt Z T206.heap b2 .byte (5 : Int32) (.int (((p2 + (185 : Int32)).toInt8.toInt32).toInt8.toInt32)) := Elt.of f208 ⟨by decide, by decide⟩ rfl
    obtain ⟨_, T231, L231, Lc231, X231, hF231, hQ231, st231⟩ := own_cs X227 hx hZ hown (hw _ (List.mem_of_getElem? (i := 7) rfl)) (hw _ (List.mem_of_getElem? (i := 8) rfl)) (hw _ (List.mem_of_getElem? (i := 9) rfl)) (hw _ (List.mem_of_getElem? (i := 10) rfl)) (by decide) (rmOk l Z az hw [] b40 b2 (5 : Int32) (3 : Int32) ((p0.toInt64) &&& (4294967295 : Int64)) ((((p0.toUInt32 >>> ((8 : Int32) &&& 31).toUInt32).toInt32).toInt8.toInt32).toInt8.toInt32) (((p2 + (185 : Int32)).toInt8.toInt32).toInt8.toInt32) T206.heap n0 Z209 el232 el233) (by decide) (by decide) (W := 0) (g := (mkF m 255 #[.val (.int p0), .val (.int p1), .val (.int p2), .val (.int (3 : Int32)), .val (.ref b2), .val (.ref b40), .val (.long ((p0.toInt64) &&& (4294967295 : Int64))), .second] [(.long ((p0.toInt64) &&& (4294967295 : Int64))), (.int (3 : Int32)), (.int (5 : Int32)), (.ref b2), (.ref b40)])) rfl (by rw [hml]; rfl) (argsL := [(.ref b40), (.ref b2), (.int (5 : Int32)), (.int (3 : Int32)), (.long ((p0.toInt64) &&& (4294967295 : Int64)))]) (rest := []) rfl (lenOf own_pd1 rfl) rfl (by show 2 * 0 + _ ≤ _; exact Nat.le_of_eq rfl) (hb hby at_255) e227 (by decide) (by decide) (c' := 2) (s' := 16) rfl rfl N230
    obtain ⟨rfl, N231q, e231⟩ := hQ231
    have N234 := hF231 N231q
    refine Goes.by st231 ?_
    clear X227 N230 e227
    show Goes p.tables e below _ (T231.setTop (mkF m 258 #[.val (.int p0), .val (.int p1), .val (.int p2), .val (.int (3 : Int32)), .val (.ref b2), .val (.ref b40), .val (.long ((p0.toInt64) &&& (4294967295 : Int64))), .second] [(.int (fOk (5 : Int32) (3 : Int32) ((p0.toInt64) &&& (4294967295 : Int64)) ((((p0.toUInt32 >>> ((8 : Int32) &&& 31).toUInt32).toInt32).toInt8.toInt32).toInt8.toInt32) (((p2 + (185 : Int32)).toInt8.toInt32).toInt8.toInt32)))]))
    refine Goes.by (B := T231.setTop (mkF m 270 #[.val (.int p0), .val (.int p1), .val (.int p2), .val (.int (3 : Int32)), .val (.ref b2), .val (.ref b40), .val (.long ((p0.toInt64) &&& (4294967295 : Int64))), .second] [(.long ((p0.toInt64) &&& (4294967295 : Int64))), (.int (3 : Int32)), (.int (6 : Int32)), (.ref b2), (.ref b40)])) (fun t k => ?_) ?_
    · show Steps p.tables e below (T231.setTop (mkF m 258 #[.val (.int p0), .val (.int p1), .val (.int p2), .val (.int (3 : Int32)), .val (.ref b2), .val (.ref b40), .val (.long ((p0.toInt64) &&& (4294967295 : Int64))), .second] [(.int (fOk (5 : Int32) (3 : Int32) ((p0.toInt64) &&& (4294967295 : Int64)) ((((p0.toUInt32 >>> ((8 : Int32) &&& 31).toUInt32).toInt32).toInt8.toInt32).toInt8.toInt32) (((p2 + (185 : Int32)).toInt8.toInt32).toInt8.toInt32)))])) t
      refine XS.ifNo X231.here hx rfl (hb hby at_258) rfl ((if0 _ _).trans (feq (own_ok2 p0 (((p2 + (185 : Int32)).toInt8.toInt32).toInt8.toInt32) (5 : Int32) (3 : Int32) (by decide))).1) ?_
      show Steps p.tables e below (T231.setTop (mkF m 261 #[.val (.int p0), .val (.int p1), .val (.int p2), .val (.int (3 : Int32)), .val (.ref b2), .val (.ref b40), .val (.long ((p0.toInt64) &&& (4294967295 : Int64))), .second] [])) t
      refine XS.aload X231.here hx rfl (hb hby at_261) rfl rfl ?_
      show Steps p.tables e below (T231.setTop (mkF m 263 #[.val (.int p0), .val (.int p1), .val (.int p2), .val (.int (3 : Int32)), .val (.ref b2), .val (.ref b40), .val (.long ((p0.toInt64) &&& (4294967295 : Int64))), .second] [(.ref b40)])) t
      refine XS.aload X231.here hx rfl (hb hby at_263) rfl rfl ?_
      show Steps p.tables e below (T231.setTop (mkF m 265 #[.val (.int p0), .val (.int p1), .val (.int p2), .val (.int (3 : Int32)), .val (.ref b2), .val (.ref b40), .val (.long ((p0.toInt64) &&& (4294967295 : Int64))), .second] [(.ref b2), (.ref b40)])) t
      refine XS.bipush X231.here hx rfl (hb hby at_265) ?_
      show Steps p.tables e below (T231.setTop (mkF m 267 #[.val (.int p0), .val (.int p1), .val (.int p2), .val (.int (3 : Int32)), .val (.ref b2), .val (.ref b40), .val (.long ((p0.toInt64) &&& (4294967295 : Int64))), .second] [(.int (6 : Int32)), (.ref b2), (.ref b40)])) t
      refine XS.iloadN X231.here hx rfl (hb hby at_267) rfl ?_
      show Steps p.tables e below (T231.setTop (mkF m 268 #[.val (.int p0), .val (.int p1), .val (.int p2), .val (.int (3 : Int32)), .val (.ref b2), .val (.ref b40), .val (.long ((p0.toInt64) &&& (4294967295 : Int64))), .second] [(.int (3 : Int32)), (.int (6 : Int32)), (.ref b2), (.ref b40)])) t
      refine XS.lload X231.here hx rfl (hb hby at_268) rfl ?_
      exact k
    have el236 : Elt Z T206.heap b40 .byte (6 : Int32) (.int ((p0.toInt8.toInt32).toInt8.toInt32)) := Elt.of f207 ⟨by decide, by decide⟩ rfl
    have el237 : Elt Z T206.heap b2 .byte (6 : Int32) (.int (((p2 + (222 : Int32)).toInt8.toInt32).toInt8.toInt32)) := Elt.of f208 ⟨by decide, by decide⟩ rfl
    obtain ⟨_, T235, L235, Lc235, X235, hF235, hQ235, st235⟩ := own_cs X231 hx hZ hown (hw _ (List.mem_of_getElem? (i := 7) rfl)) (hw _ (List.mem_of_getElem? (i := 8) rfl)) (hw _ (List.mem_of_getElem? (i := 9) rfl)) (hw _ (List.mem_of_getElem? (i := 10) rfl)) (by decide) (rmOk l Z az hw [] b40 b2 (6 : Int32) (3 : Int32) ((p0.toInt64) &&& (4294967295 : Int64)) ((p0.toInt8.toInt32).toInt8.toInt32) (((p2 + (222 : Int32)).toInt8.toInt32).toInt8.toInt32) T206.heap n0 Z209 el236 el237) (by decide) (by decide) (W := 0) (g := (mkF m 270 #[.val (.int p0), .val (.int p1), .val (.int p2), .val (.int (3 : Int32)), .val (.ref b2), .val (.ref b40), .val (.long ((p0.toInt64) &&& (4294967295 : Int64))), .second] [(.long ((p0.toInt64) &&& (4294967295 : Int64))), (.int (3 : Int32)), (.int (6 : Int32)), (.ref b2), (.ref b40)])) rfl (by rw [hml]; rfl) (argsL := [(.ref b40), (.ref b2), (.int (6 : Int32)), (.int (3 : Int32)), (.long ((p0.toInt64) &&& (4294967295 : Int64)))]) (rest := []) rfl (lenOf own_pd1 rfl) rfl (by show 2 * 0 + _ ≤ _; exact Nat.le_of_eq rfl) (hb hby at_270) e231 (by decide) (by decide) (c' := 2) (s' := 16) rfl rfl N234
    obtain ⟨rfl, N235q, e235⟩ := hQ235
    have N238 := hF235 N235q
    refine Goes.by st235 ?_
    clear X231 N234 e231
    show Goes p.tables e below _ (T235.setTop (mkF m 273 #[.val (.int p0), .val (.int p1), .val (.int p2), .val (.int (3 : Int32)), .val (.ref b2), .val (.ref b40), .val (.long ((p0.toInt64) &&& (4294967295 : Int64))), .second] [(.int (fOk (6 : Int32) (3 : Int32) ((p0.toInt64) &&& (4294967295 : Int64)) ((p0.toInt8.toInt32).toInt8.toInt32) (((p2 + (222 : Int32)).toInt8.toInt32).toInt8.toInt32)))]))
    refine Goes.by (B := T235.setTop (mkF m 285 #[.val (.int p0), .val (.int p1), .val (.int p2), .val (.int (3 : Int32)), .val (.ref b2), .val (.ref b40), .val (.long ((p0.toInt64) &&& (4294967295 : Int64))), .second] [(.long ((p0.toInt64) &&& (4294967295 : Int64))), (.int (3 : Int32)), (.int (7 : Int32)), (.ref b2), (.ref b40)])) (fun t k => ?_) ?_
    · show Steps p.tables e below (T235.setTop (mkF m 273 #[.val (.int p0), .val (.int p1), .val (.int p2), .val (.int (3 : Int32)), .val (.ref b2), .val (.ref b40), .val (.long ((p0.toInt64) &&& (4294967295 : Int64))), .second] [(.int (fOk (6 : Int32) (3 : Int32) ((p0.toInt64) &&& (4294967295 : Int64)) ((p0.toInt8.toInt32).toInt8.toInt32) (((p2 + (222 : Int32)).toInt8.toInt32).toInt8.toInt32)))])) t
      refine XS.ifNo X235.here hx rfl (hb hby at_273) rfl ((if0 _ _).trans (feq (own_ok3 p0 (((p2 + (222 : Int32)).toInt8.toInt32).toInt8.toInt32) (6 : Int32) (3 : Int32) (by decide))).1) ?_
      show Steps p.tables e below (T235.setTop (mkF m 276 #[.val (.int p0), .val (.int p1), .val (.int p2), .val (.int (3 : Int32)), .val (.ref b2), .val (.ref b40), .val (.long ((p0.toInt64) &&& (4294967295 : Int64))), .second] [])) t
      refine XS.aload X235.here hx rfl (hb hby at_276) rfl rfl ?_
      show Steps p.tables e below (T235.setTop (mkF m 278 #[.val (.int p0), .val (.int p1), .val (.int p2), .val (.int (3 : Int32)), .val (.ref b2), .val (.ref b40), .val (.long ((p0.toInt64) &&& (4294967295 : Int64))), .second] [(.ref b40)])) t
      refine XS.aload X235.here hx rfl (hb hby at_278) rfl rfl ?_
      show Steps p.tables e below (T235.setTop (mkF m 280 #[.val (.int p0), .val (.int p1), .val (.int p2), .val (.int (3 : Int32)), .val (.ref b2), .val (.ref b40), .val (.long ((p0.toInt64) &&& (4294967295 : Int64))), .second] [(.ref b2), (.ref b40)])) t
      refine XS.bipush X235.here hx rfl (hb hby at_280) ?_
      show Steps p.tables e below (T235.setTop (mkF m 282 #[.val (.int p0), .val (.int p1), .val (.int p2), .val (.int (3 : Int32)), .val (.ref b2), .val (.ref b40), .val (.long ((p0.toInt64) &&& (4294967295 : Int64))), .second] [(.int (7 : Int32)), (.ref b2), (.ref b40)])) t
      refine XS.iloadN X235.here hx rfl (hb hby at_282) rfl ?_
      show Steps p.tables e below (T235.setTop (mkF m 283 #[.val (.int p0), .val (.int p1), .val (.int p2), .val (.int (3 : Int32)), .val (.ref b2), .val (.ref b40), .val (.long ((p0.toInt64) &&& (4294967295 : Int64))), .second] [(.int (3 : Int32)), (.int (7 : Int32)), (.ref b2), (.ref b40)])) t
      refine XS.lload X235.here hx rfl (hb hby at_283) rfl ?_
      exact k
    have el240 : Elt Z T206.heap b40 .byte (7 : Int32) (.int ((((p2 + (259 : Int32)).toInt8.toInt32).toInt8.toInt32).toInt8.toInt32)) := Elt.of f207 ⟨by decide, by decide⟩ rfl
    have el241 : Elt Z T206.heap b2 .byte (7 : Int32) (.int (((p2 + (259 : Int32)).toInt8.toInt32).toInt8.toInt32)) := Elt.of f208 ⟨by decide, by decide⟩ rfl
    obtain ⟨_, T239, L239, Lc239, X239, hF239, hQ239, st239⟩ := own_cs X235 hx hZ hown (hw _ (List.mem_of_getElem? (i := 7) rfl)) (hw _ (List.mem_of_getElem? (i := 8) rfl)) (hw _ (List.mem_of_getElem? (i := 9) rfl)) (hw _ (List.mem_of_getElem? (i := 10) rfl)) (by decide) (rmOk l Z az hw [] b40 b2 (7 : Int32) (3 : Int32) ((p0.toInt64) &&& (4294967295 : Int64)) ((((p2 + (259 : Int32)).toInt8.toInt32).toInt8.toInt32).toInt8.toInt32) (((p2 + (259 : Int32)).toInt8.toInt32).toInt8.toInt32) T206.heap n0 Z209 el240 el241) (by decide) (by decide) (W := 0) (g := (mkF m 285 #[.val (.int p0), .val (.int p1), .val (.int p2), .val (.int (3 : Int32)), .val (.ref b2), .val (.ref b40), .val (.long ((p0.toInt64) &&& (4294967295 : Int64))), .second] [(.long ((p0.toInt64) &&& (4294967295 : Int64))), (.int (3 : Int32)), (.int (7 : Int32)), (.ref b2), (.ref b40)])) rfl (by rw [hml]; rfl) (argsL := [(.ref b40), (.ref b2), (.int (7 : Int32)), (.int (3 : Int32)), (.long ((p0.toInt64) &&& (4294967295 : Int64)))]) (rest := []) rfl (lenOf own_pd1 rfl) rfl (by show 2 * 0 + _ ≤ _; exact Nat.le_of_eq rfl) (hb hby at_285) e235 (by decide) (by decide) (c' := 2) (s' := 16) rfl rfl N238
    obtain ⟨rfl, N239q, e239⟩ := hQ239
    have N242 := hF239 N239q
    refine Goes.by st239 ?_
    clear X235 N238 e235
    show Goes p.tables e below _ (T239.setTop (mkF m 288 #[.val (.int p0), .val (.int p1), .val (.int p2), .val (.int (3 : Int32)), .val (.ref b2), .val (.ref b40), .val (.long ((p0.toInt64) &&& (4294967295 : Int64))), .second] [(.int (fOk (7 : Int32) (3 : Int32) ((p0.toInt64) &&& (4294967295 : Int64)) ((((p2 + (259 : Int32)).toInt8.toInt32).toInt8.toInt32).toInt8.toInt32) (((p2 + (259 : Int32)).toInt8.toInt32).toInt8.toInt32)))]))
    refine Goes.by (B := T239.setTop (mkF m 296 #[.val (.int p0), .val (.int p1), .val (.int p2), .val (.int (3 : Int32)), .val (.ref b2), .val (.ref b40), .val (.long ((p0.toInt64) &&& (4294967295 : Int64))), .second] [(.int (1 : Int32))])) (fun t k => ?_) ?_
    · show Steps p.tables e below (T239.setTop (mkF m 288 #[.val (.int p0), .val (.int p1), .val (.int p2), .val (.int (3 : Int32)), .val (.ref b2), .val (.ref b40), .val (.long ((p0.toInt64) &&& (4294967295 : Int64))), .second] [(.int (fOk (7 : Int32) (3 : Int32) ((p0.toInt64) &&& (4294967295 : Int64)) ((((p2 + (259 : Int32)).toInt8.toInt32).toInt8.toInt32).toInt8.toInt32) (((p2 + (259 : Int32)).toInt8.toInt32).toInt8.toInt32)))])) t
      refine XS.ifNo X239.here hx rfl (hb hby at_288) rfl ((if0 _ _).trans (feq (own_ok_out ((p2 + (259 : Int32)).toInt8.toInt32) (7 : Int32) (3 : Int32) ((p0.toInt64) &&& (4294967295 : Int64)) (by decide))).1) ?_
      show Steps p.tables e below (T239.setTop (mkF m 291 #[.val (.int p0), .val (.int p1), .val (.int p2), .val (.int (3 : Int32)), .val (.ref b2), .val (.ref b40), .val (.long ((p0.toInt64) &&& (4294967295 : Int64))), .second] [])) t
      refine XS.iconst X239.here hx rfl (hb hby at_291) ?_
      show Steps p.tables e below (T239.setTop (mkF m 292 #[.val (.int p0), .val (.int p1), .val (.int p2), .val (.int (3 : Int32)), .val (.ref b2), .val (.ref b40), .val (.long ((p0.toInt64) &&& (4294967295 : Int64))), .second] [(.int (1 : Int32))])) t
      refine XS.goto X239.here hx rfl (pc0 := 292) (pc' := 296) rfl (hb hby at_292) (by decide) (by decide) ?_
      exact k
    obtain ⟨fs, hr, hrun, hended, hW, hsame⟩ := X239.leave (v := some (.int (1 : Int32))) (fun h => by rw [Bd.returns] at h; cases h)
    refine Goes.mk _ _ ?_ ⟨hrun, hended, _, _, rfl, ?_, ⟨_, rfl⟩, hW, hsame.mono (by decide) (by decide)⟩
    · exact retN X239 hx (t := .boolean) Bd.returns (by simp) (hb hby at_296) hr
    · show Q0 Z p0 p1 p2 h0 n0 _ T239.heap _
      rw [e239]
      exact ⟨rfl, N242⟩
  · refine Goes.by (B := T90.setTop (mkF m 166 #[.val (.int p0), .val (.int p1), .val (.int p2), .val (.int (4 : Int32)), .val (.ref b2), .val (.ref b40), .unset, .unset] [(.int p0), (.int (4 : Int32)), (.ref b40)])) (fun t k => ?_) ?_
    · show Steps p.tables e below (T90.setTop (mkF m 162 #[.val (.int p0), .val (.int p1), .val (.int p2), .val (.int (4 : Int32)), .val (.ref b2), .val (.ref b40), .unset, .unset] [])) t
      refine XS.aload X90.here hx rfl (hb hby at_162) rfl rfl ?_
      show Steps p.tables e below (T90.setTop (mkF m 164 #[.val (.int p0), .val (.int p1), .val (.int p2), .val (.int (4 : Int32)), .val (.ref b2), .val (.ref b40), .unset, .unset] [(.ref b40)])) t
      refine XS.iloadN X90.here hx rfl (hb hby at_164) rfl ?_
      show Steps p.tables e below (T90.setTop (mkF m 165 #[.val (.int p0), .val (.int p1), .val (.int p2), .val (.int (4 : Int32)), .val (.ref b2), .val (.ref b40), .unset, .unset] [(.int (4 : Int32)), (.ref b40)])) t
      refine XS.iloadN X90.here hx rfl (hb hby at_165) rfl ?_
      exact k
    obtain ⟨_, T243, L243, Lc243, X243, hF243, hQ243, st243⟩ := own_cs X90 hx hZ hown (hw _ (List.mem_of_getElem? (i := 2) rfl)) (hw _ (List.mem_of_getElem? (i := 3) rfl)) (hw _ (List.mem_of_getElem? (i := 4) rfl)) (hw _ (List.mem_of_getElem? (i := 5) rfl)) (by decide) (rmPut4 l Z az hw [] b40 p0 k39 (((p2.toInt8.toInt32).toInt8.toInt32).toInt8.toInt32) ((((p2 + (37 : Int32)).toInt8.toInt32).toInt8.toInt32).toInt8.toInt32) ((((p2 + (74 : Int32)).toInt8.toInt32).toInt8.toInt32).toInt8.toInt32) ((((p2 + (111 : Int32)).toInt8.toInt32).toInt8.toInt32).toInt8.toInt32) ((((p2 + (148 : Int32)).toInt8.toInt32).toInt8.toInt32).toInt8.toInt32) ((((p2 + (185 : Int32)).toInt8.toInt32).toInt8.toInt32).toInt8.toInt32) ((((p2 + (222 : Int32)).toInt8.toInt32).toInt8.toInt32).toInt8.toInt32) ((((p2 + (259 : Int32)).toInt8.toInt32).toInt8.toInt32).toInt8.toInt32) h90 n0 Z93 f92 ge42) (by decide) (by decide) (W := 0) (g := (mkF m 166 #[.val (.int p0), .val (.int p1), .val (.int p2), .val (.int (4 : Int32)), .val (.ref b2), .val (.ref b40), .unset, .unset] [(.int p0), (.int (4 : Int32)), (.ref b40)])) rfl (by rw [hml]; rfl) (argsL := [(.ref b40), (.int (4 : Int32)), (.int p0)]) (rest := []) rfl (lenOf own_pd0 rfl) rfl (by show 2 * 0 + _ ≤ _; exact Nat.le_of_eq rfl) (hb hby at_166) e90 (by decide) (by decide) (c' := 2) (s' := 16) rfl rfl N94
    obtain ⟨rfl, N243q, K243, f244⟩ := hQ243
    have f245 : Arv Z T243.heap b2 k1 .byte (8 : Int32) [(.int ((p2.toInt8.toInt32).toInt8.toInt32)), (.int (((p2 + (37 : Int32)).toInt8.toInt32).toInt8.toInt32)), (.int (((p2 + (74 : Int32)).toInt8.toInt32).toInt8.toInt32)), (.int (((p2 + (111 : Int32)).toInt8.toInt32).toInt8.toInt32)), (.int (((p2 + (148 : Int32)).toInt8.toInt32).toInt8.toInt32)), (.int (((p2 + (185 : Int32)).toInt8.toInt32).toInt8.toInt32)), (.int (((p2 + (222 : Int32)).toInt8.toInt32).toInt8.toInt32)), (.int (((p2 + (259 : Int32)).toInt8.toInt32).toInt8.toInt32))] (.int (0 : Int32)) := f91.keep K243 (ninS ne41 nin0)
    have Kp243 : Keep h0 T243.heap [] := Kp90.trans K243 (allS (Or.inr sz43) all0)
    have Z246 : n0 ≤ T243.heap.size := Nat.le_trans Z93 K243.1
    have N247 := hF243 N243q
    refine Goes.by st243 ?_
    clear f91 f92 X90 N94 Z93 Kp90 e90
    show Goes p.tables e below _ (T243.setTop (mkF m 169 #[.val (.int p0), .val (.int p1), .val (.int p2), .val (.int (4 : Int32)), .val (.ref b2), .val (.ref b40), .unset, .unset] []))
    refine Goes.by (B := T243.setTop (mkF m 185 #[.val (.int p0), .val (.int p1), .val (.int p2), .val (.int (4 : Int32)), .val (.ref b2), .val (.ref b40), .val (.long ((p0.toInt64) &&& (4294967295 : Int64))), .second] [(.long ((p0.toInt64) &&& (4294967295 : Int64))), (.int (4 : Int32)), (.int (0 : Int32)), (.ref b2), (.ref b40)])) (fun t k => ?_) ?_
    · show Steps p.tables e below (T243.setTop (mkF m 169 #[.val (.int p0), .val (.int p1), .val (.int p2), .val (.int (4 : Int32)), .val (.ref b2), .val (.ref b40), .unset, .unset] [])) t
      refine XS.iloadN X243.here hx rfl (hb hby at_169) rfl ?_
      show Steps p.tables e below (T243.setTop (mkF m 170 #[.val (.int p0), .val (.int p1), .val (.int p2), .val (.int (4 : Int32)), .val (.ref b2), .val (.ref b40), .unset, .unset] [(.int p0)])) t
      refine XS.i2l X243.here hx rfl (hb hby at_170) rfl ?_
      show Steps p.tables e below (T243.setTop (mkF m 171 #[.val (.int p0), .val (.int p1), .val (.int p2), .val (.int (4 : Int32)), .val (.ref b2), .val (.ref b40), .unset, .unset] [(.long (p0.toInt64))])) t
      refine X243.ldc2Long hx hown (mvT hZ (hw _ (List.mem_of_getElem? (i := 6) rfl))) (g := (mkF m 171 #[.val (.int p0), .val (.int p1), .val (.int p2), .val (.int (4 : Int32)), .val (.ref b2), .val (.ref b40), .unset, .unset] [(.long (p0.toInt64))])) rfl (hb hby at_171) _ ?_
      show Steps p.tables e below (T243.setTop (mkF m 174 #[.val (.int p0), .val (.int p1), .val (.int p2), .val (.int (4 : Int32)), .val (.ref b2), .val (.ref b40), .unset, .unset] [(.long (4294967295 : Int64)), (.long (p0.toInt64))])) t
      refine XS.land X243.here hx rfl (hb hby at_174) rfl ?_
      show Steps p.tables e below (T243.setTop (mkF m 175 #[.val (.int p0), .val (.int p1), .val (.int p2), .val (.int (4 : Int32)), .val (.ref b2), .val (.ref b40), .unset, .unset] [(.long ((p0.toInt64) &&& (4294967295 : Int64)))])) t
      refine XS.lstore X243.here hx rfl (hb hby at_175) rfl (l' := #[.val (.int p0), .val (.int p1), .val (.int p2), .val (.int (4 : Int32)), .val (.ref b2), .val (.ref b40), .val (.long ((p0.toInt64) &&& (4294967295 : Int64))), .second]) rfl ?_
      show Steps p.tables e below (T243.setTop (mkF m 177 #[.val (.int p0), .val (.int p1), .val (.int p2), .val (.int (4 : Int32)), .val (.ref b2), .val (.ref b40), .val (.long ((p0.toInt64) &&& (4294967295 : Int64))), .second] [])) t
      refine XS.aload X243.here hx rfl (hb hby at_177) rfl rfl ?_
      show Steps p.tables e below (T243.setTop (mkF m 179 #[.val (.int p0), .val (.int p1), .val (.int p2), .val (.int (4 : Int32)), .val (.ref b2), .val (.ref b40), .val (.long ((p0.toInt64) &&& (4294967295 : Int64))), .second] [(.ref b40)])) t
      refine XS.aload X243.here hx rfl (hb hby at_179) rfl rfl ?_
      show Steps p.tables e below (T243.setTop (mkF m 181 #[.val (.int p0), .val (.int p1), .val (.int p2), .val (.int (4 : Int32)), .val (.ref b2), .val (.ref b40), .val (.long ((p0.toInt64) &&& (4294967295 : Int64))), .second] [(.ref b2), (.ref b40)])) t
      refine XS.iconst X243.here hx rfl (hb hby at_181) ?_
      show Steps p.tables e below (T243.setTop (mkF m 182 #[.val (.int p0), .val (.int p1), .val (.int p2), .val (.int (4 : Int32)), .val (.ref b2), .val (.ref b40), .val (.long ((p0.toInt64) &&& (4294967295 : Int64))), .second] [(.int (0 : Int32)), (.ref b2), (.ref b40)])) t
      refine XS.iloadN X243.here hx rfl (hb hby at_182) rfl ?_
      show Steps p.tables e below (T243.setTop (mkF m 183 #[.val (.int p0), .val (.int p1), .val (.int p2), .val (.int (4 : Int32)), .val (.ref b2), .val (.ref b40), .val (.long ((p0.toInt64) &&& (4294967295 : Int64))), .second] [(.int (4 : Int32)), (.int (0 : Int32)), (.ref b2), (.ref b40)])) t
      refine XS.lload X243.here hx rfl (hb hby at_183) rfl ?_
      exact k
    have el249 : Elt Z T243.heap b40 .byte (0 : Int32) (.int (((p2.toInt8.toInt32).toInt8.toInt32).toInt8.toInt32)) := Elt.of f244 ⟨by decide, by decide⟩ rfl
    have el250 : Elt Z T243.heap b2 .byte (0 : Int32) (.int ((p2.toInt8.toInt32).toInt8.toInt32)) := Elt.of f245 ⟨by decide, by decide⟩ rfl
    obtain ⟨_, T248, L248, Lc248, X248, hF248, hQ248, st248⟩ := own_cs X243 hx hZ hown (hw _ (List.mem_of_getElem? (i := 7) rfl)) (hw _ (List.mem_of_getElem? (i := 8) rfl)) (hw _ (List.mem_of_getElem? (i := 9) rfl)) (hw _ (List.mem_of_getElem? (i := 10) rfl)) (by decide) (rmOk l Z az hw [] b40 b2 (0 : Int32) (4 : Int32) ((p0.toInt64) &&& (4294967295 : Int64)) (((p2.toInt8.toInt32).toInt8.toInt32).toInt8.toInt32) ((p2.toInt8.toInt32).toInt8.toInt32) T243.heap n0 Z246 el249 el250) (by decide) (by decide) (W := 0) (g := (mkF m 185 #[.val (.int p0), .val (.int p1), .val (.int p2), .val (.int (4 : Int32)), .val (.ref b2), .val (.ref b40), .val (.long ((p0.toInt64) &&& (4294967295 : Int64))), .second] [(.long ((p0.toInt64) &&& (4294967295 : Int64))), (.int (4 : Int32)), (.int (0 : Int32)), (.ref b2), (.ref b40)])) rfl (by rw [hml]; rfl) (argsL := [(.ref b40), (.ref b2), (.int (0 : Int32)), (.int (4 : Int32)), (.long ((p0.toInt64) &&& (4294967295 : Int64)))]) (rest := []) rfl (lenOf own_pd1 rfl) rfl (by show 2 * 0 + _ ≤ _; exact Nat.le_of_eq rfl) (hb hby at_185) rfl (by decide) (by decide) (c' := 2) (s' := 16) rfl rfl N247
    obtain ⟨rfl, N248q, e248⟩ := hQ248
    have N251 := hF248 N248q
    refine Goes.by st248 ?_
    clear X243 N247
    show Goes p.tables e below _ (T248.setTop (mkF m 188 #[.val (.int p0), .val (.int p1), .val (.int p2), .val (.int (4 : Int32)), .val (.ref b2), .val (.ref b40), .val (.long ((p0.toInt64) &&& (4294967295 : Int64))), .second] [(.int (fOk (0 : Int32) (4 : Int32) ((p0.toInt64) &&& (4294967295 : Int64)) (((p2.toInt8.toInt32).toInt8.toInt32).toInt8.toInt32) ((p2.toInt8.toInt32).toInt8.toInt32)))]))
    refine Goes.by (B := T248.setTop (mkF m 199 #[.val (.int p0), .val (.int p1), .val (.int p2), .val (.int (4 : Int32)), .val (.ref b2), .val (.ref b40), .val (.long ((p0.toInt64) &&& (4294967295 : Int64))), .second] [(.long ((p0.toInt64) &&& (4294967295 : Int64))), (.int (4 : Int32)), (.int (1 : Int32)), (.ref b2), (.ref b40)])) (fun t k => ?_) ?_
    · show Steps p.tables e below (T248.setTop (mkF m 188 #[.val (.int p0), .val (.int p1), .val (.int p2), .val (.int (4 : Int32)), .val (.ref b2), .val (.ref b40), .val (.long ((p0.toInt64) &&& (4294967295 : Int64))), .second] [(.int (fOk (0 : Int32) (4 : Int32) ((p0.toInt64) &&& (4294967295 : Int64)) (((p2.toInt8.toInt32).toInt8.toInt32).toInt8.toInt32) ((p2.toInt8.toInt32).toInt8.toInt32)))])) t
      refine XS.ifNo X248.here hx rfl (hb hby at_188) rfl ((if0 _ _).trans (feq (own_ok_out (p2.toInt8.toInt32) (0 : Int32) (4 : Int32) ((p0.toInt64) &&& (4294967295 : Int64)) (by decide))).1) ?_
      show Steps p.tables e below (T248.setTop (mkF m 191 #[.val (.int p0), .val (.int p1), .val (.int p2), .val (.int (4 : Int32)), .val (.ref b2), .val (.ref b40), .val (.long ((p0.toInt64) &&& (4294967295 : Int64))), .second] [])) t
      refine XS.aload X248.here hx rfl (hb hby at_191) rfl rfl ?_
      show Steps p.tables e below (T248.setTop (mkF m 193 #[.val (.int p0), .val (.int p1), .val (.int p2), .val (.int (4 : Int32)), .val (.ref b2), .val (.ref b40), .val (.long ((p0.toInt64) &&& (4294967295 : Int64))), .second] [(.ref b40)])) t
      refine XS.aload X248.here hx rfl (hb hby at_193) rfl rfl ?_
      show Steps p.tables e below (T248.setTop (mkF m 195 #[.val (.int p0), .val (.int p1), .val (.int p2), .val (.int (4 : Int32)), .val (.ref b2), .val (.ref b40), .val (.long ((p0.toInt64) &&& (4294967295 : Int64))), .second] [(.ref b2), (.ref b40)])) t
      refine XS.iconst X248.here hx rfl (hb hby at_195) ?_
      show Steps p.tables e below (T248.setTop (mkF m 196 #[.val (.int p0), .val (.int p1), .val (.int p2), .val (.int (4 : Int32)), .val (.ref b2), .val (.ref b40), .val (.long ((p0.toInt64) &&& (4294967295 : Int64))), .second] [(.int (1 : Int32)), (.ref b2), (.ref b40)])) t
      refine XS.iloadN X248.here hx rfl (hb hby at_196) rfl ?_
      show Steps p.tables e below (T248.setTop (mkF m 197 #[.val (.int p0), .val (.int p1), .val (.int p2), .val (.int (4 : Int32)), .val (.ref b2), .val (.ref b40), .val (.long ((p0.toInt64) &&& (4294967295 : Int64))), .second] [(.int (4 : Int32)), (.int (1 : Int32)), (.ref b2), (.ref b40)])) t
      refine XS.lload X248.here hx rfl (hb hby at_197) rfl ?_
      exact k
    have el253 : Elt Z T243.heap b40 .byte (1 : Int32) (.int ((((p2 + (37 : Int32)).toInt8.toInt32).toInt8.toInt32).toInt8.toInt32)) := Elt.of f244 ⟨by decide, by decide⟩ rfl
    have el254 : Elt Z T243.heap b2 .byte (1 : Int32) (.int (((p2 + (37 : Int32)).toInt8.toInt32).toInt8.toInt32)) := Elt.of f245 ⟨by decide, by decide⟩ rfl
    obtain ⟨_, T252, L252, Lc252, X252, hF252, hQ252, st252⟩ := own_cs X248 hx hZ hown (hw _ (List.mem_of_getElem? (i := 7) rfl)) (hw _ (List.mem_of_getElem? (i := 8) rfl)) (hw _ (List.mem_of_getElem? (i := 9) rfl)) (hw _ (List.mem_of_getElem? (i := 10) rfl)) (by decide) (rmOk l Z az hw [] b40 b2 (1 : Int32) (4 : Int32) ((p0.toInt64) &&& (4294967295 : Int64)) ((((p2 + (37 : Int32)).toInt8.toInt32).toInt8.toInt32).toInt8.toInt32) (((p2 + (37 : Int32)).toInt8.toInt32).toInt8.toInt32) T243.heap n0 Z246 el253 el254) (by decide) (by decide) (W := 0) (g := (mkF m 199 #[.val (.int p0), .val (.int p1), .val (.int p2), .val (.int (4 : Int32)), .val (.ref b2), .val (.ref b40), .val (.long ((p0.toInt64) &&& (4294967295 : Int64))), .second] [(.long ((p0.toInt64) &&& (4294967295 : Int64))), (.int (4 : Int32)), (.int (1 : Int32)), (.ref b2), (.ref b40)])) rfl (by rw [hml]; rfl) (argsL := [(.ref b40), (.ref b2), (.int (1 : Int32)), (.int (4 : Int32)), (.long ((p0.toInt64) &&& (4294967295 : Int64)))]) (rest := []) rfl (lenOf own_pd1 rfl) rfl (by show 2 * 0 + _ ≤ _; exact Nat.le_of_eq rfl) (hb hby at_199) e248 (by decide) (by decide) (c' := 2) (s' := 16) rfl rfl N251
    obtain ⟨rfl, N252q, e252⟩ := hQ252
    have N255 := hF252 N252q
    refine Goes.by st252 ?_
    clear X248 N251 e248
    show Goes p.tables e below _ (T252.setTop (mkF m 202 #[.val (.int p0), .val (.int p1), .val (.int p2), .val (.int (4 : Int32)), .val (.ref b2), .val (.ref b40), .val (.long ((p0.toInt64) &&& (4294967295 : Int64))), .second] [(.int (fOk (1 : Int32) (4 : Int32) ((p0.toInt64) &&& (4294967295 : Int64)) ((((p2 + (37 : Int32)).toInt8.toInt32).toInt8.toInt32).toInt8.toInt32) (((p2 + (37 : Int32)).toInt8.toInt32).toInt8.toInt32)))]))
    refine Goes.by (B := T252.setTop (mkF m 213 #[.val (.int p0), .val (.int p1), .val (.int p2), .val (.int (4 : Int32)), .val (.ref b2), .val (.ref b40), .val (.long ((p0.toInt64) &&& (4294967295 : Int64))), .second] [(.long ((p0.toInt64) &&& (4294967295 : Int64))), (.int (4 : Int32)), (.int (2 : Int32)), (.ref b2), (.ref b40)])) (fun t k => ?_) ?_
    · show Steps p.tables e below (T252.setTop (mkF m 202 #[.val (.int p0), .val (.int p1), .val (.int p2), .val (.int (4 : Int32)), .val (.ref b2), .val (.ref b40), .val (.long ((p0.toInt64) &&& (4294967295 : Int64))), .second] [(.int (fOk (1 : Int32) (4 : Int32) ((p0.toInt64) &&& (4294967295 : Int64)) ((((p2 + (37 : Int32)).toInt8.toInt32).toInt8.toInt32).toInt8.toInt32) (((p2 + (37 : Int32)).toInt8.toInt32).toInt8.toInt32)))])) t
      refine XS.ifNo X252.here hx rfl (hb hby at_202) rfl ((if0 _ _).trans (feq (own_ok_out ((p2 + (37 : Int32)).toInt8.toInt32) (1 : Int32) (4 : Int32) ((p0.toInt64) &&& (4294967295 : Int64)) (by decide))).1) ?_
      show Steps p.tables e below (T252.setTop (mkF m 205 #[.val (.int p0), .val (.int p1), .val (.int p2), .val (.int (4 : Int32)), .val (.ref b2), .val (.ref b40), .val (.long ((p0.toInt64) &&& (4294967295 : Int64))), .second] [])) t
      refine XS.aload X252.here hx rfl (hb hby at_205) rfl rfl ?_
      show Steps p.tables e below (T252.setTop (mkF m 207 #[.val (.int p0), .val (.int p1), .val (.int p2), .val (.int (4 : Int32)), .val (.ref b2), .val (.ref b40), .val (.long ((p0.toInt64) &&& (4294967295 : Int64))), .second] [(.ref b40)])) t
      refine XS.aload X252.here hx rfl (hb hby at_207) rfl rfl ?_
      show Steps p.tables e below (T252.setTop (mkF m 209 #[.val (.int p0), .val (.int p1), .val (.int p2), .val (.int (4 : Int32)), .val (.ref b2), .val (.ref b40), .val (.long ((p0.toInt64) &&& (4294967295 : Int64))), .second] [(.ref b2), (.ref b40)])) t
      refine XS.iconst X252.here hx rfl (hb hby at_209) ?_
      show Steps p.tables e below (T252.setTop (mkF m 210 #[.val (.int p0), .val (.int p1), .val (.int p2), .val (.int (4 : Int32)), .val (.ref b2), .val (.ref b40), .val (.long ((p0.toInt64) &&& (4294967295 : Int64))), .second] [(.int (2 : Int32)), (.ref b2), (.ref b40)])) t
      refine XS.iloadN X252.here hx rfl (hb hby at_210) rfl ?_
      show Steps p.tables e below (T252.setTop (mkF m 211 #[.val (.int p0), .val (.int p1), .val (.int p2), .val (.int (4 : Int32)), .val (.ref b2), .val (.ref b40), .val (.long ((p0.toInt64) &&& (4294967295 : Int64))), .second] [(.int (4 : Int32)), (.int (2 : Int32)), (.ref b2), (.ref b40)])) t
      refine XS.lload X252.here hx rfl (hb hby at_211) rfl ?_
      exact k
    have el257 : Elt Z T243.heap b40 .byte (2 : Int32) (.int ((((p2 + (74 : Int32)).toInt8.toInt32).toInt8.toInt32).toInt8.toInt32)) := Elt.of f244 ⟨by decide, by decide⟩ rfl
    have el258 : Elt Z T243.heap b2 .byte (2 : Int32) (.int (((p2 + (74 : Int32)).toInt8.toInt32).toInt8.toInt32)) := Elt.of f245 ⟨by decide, by decide⟩ rfl
    obtain ⟨_, T256, L256, Lc256, X256, hF256, hQ256, st256⟩ := own_cs X252 hx hZ hown (hw _ (List.mem_of_getElem? (i := 7) rfl)) (hw _ (List.mem_of_getElem? (i := 8) rfl)) (hw _ (List.mem_of_getElem? (i := 9) rfl)) (hw _ (List.mem_of_getElem? (i := 10) rfl)) (by decide) (rmOk l Z az hw [] b40 b2 (2 : Int32) (4 : Int32) ((p0.toInt64) &&& (4294967295 : Int64)) ((((p2 + (74 : Int32)).toInt8.toInt32).toInt8.toInt32).toInt8.toInt32) (((p2 + (74 : Int32)).toInt8.toInt32).toInt8.toInt32) T243.heap n0 Z246 el257 el258) (by decide) (by decide) (W := 0) (g := (mkF m 213 #[.val (.int p0), .val (.int p1), .val (.int p2), .val (.int (4 : Int32)), .val (.ref b2), .val (.ref b40), .val (.long ((p0.toInt64) &&& (4294967295 : Int64))), .second] [(.long ((p0.toInt64) &&& (4294967295 : Int64))), (.int (4 : Int32)), (.int (2 : Int32)), (.ref b2), (.ref b40)])) rfl (by rw [hml]; rfl) (argsL := [(.ref b40), (.ref b2), (.int (2 : Int32)), (.int (4 : Int32)), (.long ((p0.toInt64) &&& (4294967295 : Int64)))]) (rest := []) rfl (lenOf own_pd1 rfl) rfl (by show 2 * 0 + _ ≤ _; exact Nat.le_of_eq rfl) (hb hby at_213) e252 (by decide) (by decide) (c' := 2) (s' := 16) rfl rfl N255
    obtain ⟨rfl, N256q, e256⟩ := hQ256
    have N259 := hF256 N256q
    refine Goes.by st256 ?_
    clear X252 N255 e252
    show Goes p.tables e below _ (T256.setTop (mkF m 216 #[.val (.int p0), .val (.int p1), .val (.int p2), .val (.int (4 : Int32)), .val (.ref b2), .val (.ref b40), .val (.long ((p0.toInt64) &&& (4294967295 : Int64))), .second] [(.int (fOk (2 : Int32) (4 : Int32) ((p0.toInt64) &&& (4294967295 : Int64)) ((((p2 + (74 : Int32)).toInt8.toInt32).toInt8.toInt32).toInt8.toInt32) (((p2 + (74 : Int32)).toInt8.toInt32).toInt8.toInt32)))]))
    refine Goes.by (B := T256.setTop (mkF m 227 #[.val (.int p0), .val (.int p1), .val (.int p2), .val (.int (4 : Int32)), .val (.ref b2), .val (.ref b40), .val (.long ((p0.toInt64) &&& (4294967295 : Int64))), .second] [(.long ((p0.toInt64) &&& (4294967295 : Int64))), (.int (4 : Int32)), (.int (3 : Int32)), (.ref b2), (.ref b40)])) (fun t k => ?_) ?_
    · show Steps p.tables e below (T256.setTop (mkF m 216 #[.val (.int p0), .val (.int p1), .val (.int p2), .val (.int (4 : Int32)), .val (.ref b2), .val (.ref b40), .val (.long ((p0.toInt64) &&& (4294967295 : Int64))), .second] [(.int (fOk (2 : Int32) (4 : Int32) ((p0.toInt64) &&& (4294967295 : Int64)) ((((p2 + (74 : Int32)).toInt8.toInt32).toInt8.toInt32).toInt8.toInt32) (((p2 + (74 : Int32)).toInt8.toInt32).toInt8.toInt32)))])) t
      refine XS.ifNo X256.here hx rfl (hb hby at_216) rfl ((if0 _ _).trans (feq (own_ok_out ((p2 + (74 : Int32)).toInt8.toInt32) (2 : Int32) (4 : Int32) ((p0.toInt64) &&& (4294967295 : Int64)) (by decide))).1) ?_
      show Steps p.tables e below (T256.setTop (mkF m 219 #[.val (.int p0), .val (.int p1), .val (.int p2), .val (.int (4 : Int32)), .val (.ref b2), .val (.ref b40), .val (.long ((p0.toInt64) &&& (4294967295 : Int64))), .second] [])) t
      refine XS.aload X256.here hx rfl (hb hby at_219) rfl rfl ?_
      show Steps p.tables e below (T256.setTop (mkF m 221 #[.val (.int p0), .val (.int p1), .val (.int p2), .val (.int (4 : Int32)), .val (.ref b2), .val (.ref b40), .val (.long ((p0.toInt64) &&& (4294967295 : Int64))), .second] [(.ref b40)])) t
      refine XS.aload X256.here hx rfl (hb hby at_221) rfl rfl ?_
      show Steps p.tables e below (T256.setTop (mkF m 223 #[.val (.int p0), .val (.int p1), .val (.int p2), .val (.int (4 : Int32)), .val (.ref b2), .val (.ref b40), .val (.long ((p0.toInt64) &&& (4294967295 : Int64))), .second] [(.ref b2), (.ref b40)])) t
      refine XS.iconst X256.here hx rfl (hb hby at_223) ?_
      show Steps p.tables e below (T256.setTop (mkF m 224 #[.val (.int p0), .val (.int p1), .val (.int p2), .val (.int (4 : Int32)), .val (.ref b2), .val (.ref b40), .val (.long ((p0.toInt64) &&& (4294967295 : Int64))), .second] [(.int (3 : Int32)), (.ref b2), (.ref b40)])) t
      refine XS.iloadN X256.here hx rfl (hb hby at_224) rfl ?_
      show Steps p.tables e below (T256.setTop (mkF m 225 #[.val (.int p0), .val (.int p1), .val (.int p2), .val (.int (4 : Int32)), .val (.ref b2), .val (.ref b40), .val (.long ((p0.toInt64) &&& (4294967295 : Int64))), .second] [(.int (4 : Int32)), (.int (3 : Int32)), (.ref b2), (.ref b40)])) t
      refine XS.lload X256.here hx rfl (hb hby at_225) rfl ?_
      exact k
    have el261 : Elt Z T243.heap b40 .byte (3 : Int32) (.int ((((p2 + (111 : Int32)).toInt8.toInt32).toInt8.toInt32).toInt8.toInt32)) := Elt.of f244 ⟨by decide, by decide⟩ rfl
    have el262 : Elt Z T243.heap b2 .byte (3 : Int32) (.int (((p2 + (111 : Int32)).toInt8.toInt32).toInt8.toInt32)) := Elt.of f245 ⟨by decide, by decide⟩ rfl
    obtain ⟨_, T260, L260, Lc260, X260, hF260, hQ260, st260⟩ := own_cs X256 hx hZ hown (hw _ (List.mem_of_getElem? (i := 7) rfl)) (hw _ (List.mem_of_getElem? (i := 8) rfl)) (hw _ (List.mem_of_getElem? (i := 9) rfl)) (hw _ (List.mem_of_getElem? (i := 10) rfl)) (by decide) (rmOk l Z az hw [] b40 b2 (3 : Int32) (4 : Int32) ((p0.toInt64) &&& (4294967295 : Int64)) ((((p2 + (111 : Int32)).toInt8.toInt32).toInt8.toInt32).toInt8.toInt32) (((p2 + (111 : Int32)).toInt8.toInt32).toInt8.toInt32) T243.heap n0 Z246 el261 el262) (by decide) (by decide) (W := 0) (g := (mkF m 227 #[.val (.int p0), .val (.int p1), .val (.int p2), .val (.int (4 : Int32)), .val (.ref b2), .val (.ref b40), .val (.long ((p0.toInt64) &&& (4294967295 : Int64))), .second] [(.long ((p0.toInt64) &&& (4294967295 : Int64))), (.int (4 : Int32)), (.int (3 : Int32)), (.ref b2), (.ref b40)])) rfl (by rw [hml]; rfl) (argsL := [(.ref b40), (.ref b2), (.int (3 : Int32)), (.int (4 : Int32)), (.long ((p0.toInt64) &&& (4294967295 : Int64)))]) (rest := []) rfl (lenOf own_pd1 rfl) rfl (by show 2 * 0 + _ ≤ _; exact Nat.le_of_eq rfl) (hb hby at_227) e256 (by decide) (by decide) (c' := 2) (s' := 16) rfl rfl N259
    obtain ⟨rfl, N260q, e260⟩ := hQ260
    have N263 := hF260 N260q
    refine Goes.by st260 ?_
    clear X256 N259 e256
    show Goes p.tables e below _ (T260.setTop (mkF m 230 #[.val (.int p0), .val (.int p1), .val (.int p2), .val (.int (4 : Int32)), .val (.ref b2), .val (.ref b40), .val (.long ((p0.toInt64) &&& (4294967295 : Int64))), .second] [(.int (fOk (3 : Int32) (4 : Int32) ((p0.toInt64) &&& (4294967295 : Int64)) ((((p2 + (111 : Int32)).toInt8.toInt32).toInt8.toInt32).toInt8.toInt32) (((p2 + (111 : Int32)).toInt8.toInt32).toInt8.toInt32)))]))
    refine Goes.by (B := T260.setTop (mkF m 241 #[.val (.int p0), .val (.int p1), .val (.int p2), .val (.int (4 : Int32)), .val (.ref b2), .val (.ref b40), .val (.long ((p0.toInt64) &&& (4294967295 : Int64))), .second] [(.long ((p0.toInt64) &&& (4294967295 : Int64))), (.int (4 : Int32)), (.int (4 : Int32)), (.ref b2), (.ref b40)])) (fun t k => ?_) ?_
    · show Steps p.tables e below (T260.setTop (mkF m 230 #[.val (.int p0), .val (.int p1), .val (.int p2), .val (.int (4 : Int32)), .val (.ref b2), .val (.ref b40), .val (.long ((p0.toInt64) &&& (4294967295 : Int64))), .second] [(.int (fOk (3 : Int32) (4 : Int32) ((p0.toInt64) &&& (4294967295 : Int64)) ((((p2 + (111 : Int32)).toInt8.toInt32).toInt8.toInt32).toInt8.toInt32) (((p2 + (111 : Int32)).toInt8.toInt32).toInt8.toInt32)))])) t
      refine XS.ifNo X260.here hx rfl (hb hby at_230) rfl ((if0 _ _).trans (feq (own_ok_out ((p2 + (111 : Int32)).toInt8.toInt32) (3 : Int32) (4 : Int32) ((p0.toInt64) &&& (4294967295 : Int64)) (by decide))).1) ?_
      show Steps p.tables e below (T260.setTop (mkF m 233 #[.val (.int p0), .val (.int p1), .val (.int p2), .val (.int (4 : Int32)), .val (.ref b2), .val (.ref b40), .val (.long ((p0.toInt64) &&& (4294967295 : Int64))), .second] [])) t
      refine XS.aload X260.here hx rfl (hb hby at_233) rfl rfl ?_
      show Steps p.tables e below (T260.setTop (mkF m 235 #[.val (.int p0), .val (.int p1), .val (.int p2), .val (.int (4 : Int32)), .val (.ref b2), .val (.ref b40), .val (.long ((p0.toInt64) &&& (4294967295 : Int64))), .second] [(.ref b40)])) t
      refine XS.aload X260.here hx rfl (hb hby at_235) rfl rfl ?_
      show Steps p.tables e below (T260.setTop (mkF m 237 #[.val (.int p0), .val (.int p1), .val (.int p2), .val (.int (4 : Int32)), .val (.ref b2), .val (.ref b40), .val (.long ((p0.toInt64) &&& (4294967295 : Int64))), .second] [(.ref b2), (.ref b40)])) t
      refine XS.iconst X260.here hx rfl (hb hby at_237) ?_
      show Steps p.tables e below (T260.setTop (mkF m 238 #[.val (.int p0), .val (.int p1), .val (.int p2), .val (.int (4 : Int32)), .val (.ref b2), .val (.ref b40), .val (.long ((p0.toInt64) &&& (4294967295 : Int64))), .second] [(.int (4 : Int32)), (.ref b2), (.ref b40)])) t
      refine XS.iloadN X260.here hx rfl (hb hby at_238) rfl ?_
      show Steps p.tables e below (T260.setTop (mkF m 239 #[.val (.int p0), .val (.int p1), .val (.int p2), .val (.int (4 : Int32)), .val (.ref b2), .val (.ref b40), .val (.long ((p0.toInt64) &&& (4294967295 : Int64))), .second] [(.int (4 : Int32)), (.int (4 : Int32)), (.ref b2), (.ref b40)])) t
      refine XS.lload X260.here hx rfl (hb hby at_239) rfl ?_
      exact k
    have el265 : Elt Z T243.heap b40 .byte (4 : Int32) (.int ((((p0.toUInt32 >>> ((24 : Int32) &&& 31).toUInt32).toInt32).toInt8.toInt32).toInt8.toInt32)) := Elt.of f244 ⟨by decide, by decide⟩ rfl
    have el266 : Elt Z T243.heap b2 .byte (4 : Int32) (.int (((p2 + (148 : Int32)).toInt8.toInt32).toInt8.toInt32)) := Elt.of f245 ⟨by decide, by decide⟩ rfl
    obtain ⟨_, T264, L264, Lc264, X264, hF264, hQ264, st264⟩ := own_cs X260 hx hZ hown (hw _ (List.mem_of_getElem? (i := 7) rfl)) (hw _ (List.mem_of_getElem? (i := 8) rfl)) (hw _ (List.mem_of_getElem? (i := 9) rfl)) (hw _ (List.mem_of_getElem? (i := 10) rfl)) (by decide) (rmOk l Z az hw [] b40 b2 (4 : Int32) (4 : Int32) ((p0.toInt64) &&& (4294967295 : Int64)) ((((p0.toUInt32 >>> ((24 : Int32) &&& 31).toUInt32).toInt32).toInt8.toInt32).toInt8.toInt32) (((p2 + (148 : Int32)).toInt8.toInt32).toInt8.toInt32) T243.heap n0 Z246 el265 el266) (by decide) (by decide) (W := 0) (g := (mkF m 241 #[.val (.int p0), .val (.int p1), .val (.int p2), .val (.int (4 : Int32)), .val (.ref b2), .val (.ref b40), .val (.long ((p0.toInt64) &&& (4294967295 : Int64))), .second] [(.long ((p0.toInt64) &&& (4294967295 : Int64))), (.int (4 : Int32)), (.int (4 : Int32)), (.ref b2), (.ref b40)])) rfl (by rw [hml]; rfl) (argsL := [(.ref b40), (.ref b2), (.int (4 : Int32)), (.int (4 : Int32)), (.long ((p0.toInt64) &&& (4294967295 : Int64)))]) (rest := []) rfl (lenOf own_pd1 rfl) rfl (by show 2 * 0 + _ ≤ _; exact Nat.le_of_eq rfl) (hb hby at_241) e260 (by decide) (by decide) (c' := 2) (s' := 16) rfl rfl N263
    obtain ⟨rfl, N264q, e264⟩ := hQ264
    have N267 := hF264 N264q
    refine Goes.by st264 ?_
    clear X260 N263 e260
    show Goes p.tables e below _ (T264.setTop (mkF m 244 #[.val (.int p0), .val (.int p1), .val (.int p2), .val (.int (4 : Int32)), .val (.ref b2), .val (.ref b40), .val (.long ((p0.toInt64) &&& (4294967295 : Int64))), .second] [(.int (fOk (4 : Int32) (4 : Int32) ((p0.toInt64) &&& (4294967295 : Int64)) ((((p0.toUInt32 >>> ((24 : Int32) &&& 31).toUInt32).toInt32).toInt8.toInt32).toInt8.toInt32) (((p2 + (148 : Int32)).toInt8.toInt32).toInt8.toInt32)))]))
    refine Goes.by (B := T264.setTop (mkF m 255 #[.val (.int p0), .val (.int p1), .val (.int p2), .val (.int (4 : Int32)), .val (.ref b2), .val (.ref b40), .val (.long ((p0.toInt64) &&& (4294967295 : Int64))), .second] [(.long ((p0.toInt64) &&& (4294967295 : Int64))), (.int (4 : Int32)), (.int (5 : Int32)), (.ref b2), (.ref b40)])) (fun t k => ?_) ?_
    · show Steps p.tables e below (T264.setTop (mkF m 244 #[.val (.int p0), .val (.int p1), .val (.int p2), .val (.int (4 : Int32)), .val (.ref b2), .val (.ref b40), .val (.long ((p0.toInt64) &&& (4294967295 : Int64))), .second] [(.int (fOk (4 : Int32) (4 : Int32) ((p0.toInt64) &&& (4294967295 : Int64)) ((((p0.toUInt32 >>> ((24 : Int32) &&& 31).toUInt32).toInt32).toInt8.toInt32).toInt8.toInt32) (((p2 + (148 : Int32)).toInt8.toInt32).toInt8.toInt32)))])) t
      refine XS.ifNo X264.here hx rfl (hb hby at_244) rfl ((if0 _ _).trans (feq (own_ok0 p0 (((p2 + (148 : Int32)).toInt8.toInt32).toInt8.toInt32) (4 : Int32) (4 : Int32) (by decide))).1) ?_
      show Steps p.tables e below (T264.setTop (mkF m 247 #[.val (.int p0), .val (.int p1), .val (.int p2), .val (.int (4 : Int32)), .val (.ref b2), .val (.ref b40), .val (.long ((p0.toInt64) &&& (4294967295 : Int64))), .second] [])) t
      refine XS.aload X264.here hx rfl (hb hby at_247) rfl rfl ?_
      show Steps p.tables e below (T264.setTop (mkF m 249 #[.val (.int p0), .val (.int p1), .val (.int p2), .val (.int (4 : Int32)), .val (.ref b2), .val (.ref b40), .val (.long ((p0.toInt64) &&& (4294967295 : Int64))), .second] [(.ref b40)])) t
      refine XS.aload X264.here hx rfl (hb hby at_249) rfl rfl ?_
      show Steps p.tables e below (T264.setTop (mkF m 251 #[.val (.int p0), .val (.int p1), .val (.int p2), .val (.int (4 : Int32)), .val (.ref b2), .val (.ref b40), .val (.long ((p0.toInt64) &&& (4294967295 : Int64))), .second] [(.ref b2), (.ref b40)])) t
      refine XS.iconst X264.here hx rfl (hb hby at_251) ?_
      show Steps p.tables e below (T264.setTop (mkF m 252 #[.val (.int p0), .val (.int p1), .val (.int p2), .val (.int (4 : Int32)), .val (.ref b2), .val (.ref b40), .val (.long ((p0.toInt64) &&& (4294967295 : Int64))), .second] [(.int (5 : Int32)), (.ref b2), (.ref b40)])) t
      refine XS.iloadN X264.here hx rfl (hb hby at_252) rfl ?_
      show Steps p.tables e below (T264.setTop (mkF m 253 #[.val (.int p0), .val (.int p1), .val (.int p2), .val (.int (4 : Int32)), .val (.ref b2), .val (.ref b40), .val (.long ((p0.toInt64) &&& (4294967295 : Int64))), .second] [(.int (4 : Int32)), (.int (5 : Int32)), (.ref b2), (.ref b40)])) t
      refine XS.lload X264.here hx rfl (hb hby at_253) rfl ?_
      exact k
    have el269 : Elt Z T243.heap b40 .byte (5 : Int32) (.int ((((p0.toUInt32 >>> ((16 : Int32) &&& 31).toUInt32).toInt32).toInt8.toInt32).toInt8.toInt32)) := Elt.of f244 ⟨by decide, by decide⟩ rfl
    have el270 : Elt Z T243.heap b2 .byte (5 : Int32) (.int (((p2 + (185 : Int32)).toInt8.toInt32).toInt8.toInt32)) := Elt.of f245 ⟨by decide, by decide⟩ rfl
    obtain ⟨_, T268, L268, Lc268, X268, hF268, hQ268, st268⟩ := own_cs X264 hx hZ hown (hw _ (List.mem_of_getElem? (i := 7) rfl)) (hw _ (List.mem_of_getElem? (i := 8) rfl)) (hw _ (List.mem_of_getElem? (i := 9) rfl)) (hw _ (List.mem_of_getElem? (i := 10) rfl)) (by decide) (rmOk l Z az hw [] b40 b2 (5 : Int32) (4 : Int32) ((p0.toInt64) &&& (4294967295 : Int64)) ((((p0.toUInt32 >>> ((16 : Int32) &&& 31).toUInt32).toInt32).toInt8.toInt32).toInt8.toInt32) (((p2 + (185 : Int32)).toInt8.toInt32).toInt8.toInt32) T243.heap n0 Z246 el269 el270) (by decide) (by decide) (W := 0) (g := (mkF m 255 #[.val (.int p0), .val (.int p1), .val (.int p2), .val (.int (4 : Int32)), .val (.ref b2), .val (.ref b40), .val (.long ((p0.toInt64) &&& (4294967295 : Int64))), .second] [(.long ((p0.toInt64) &&& (4294967295 : Int64))), (.int (4 : Int32)), (.int (5 : Int32)), (.ref b2), (.ref b40)])) rfl (by rw [hml]; rfl) (argsL := [(.ref b40), (.ref b2), (.int (5 : Int32)), (.int (4 : Int32)), (.long ((p0.toInt64) &&& (4294967295 : Int64)))]) (rest := []) rfl (lenOf own_pd1 rfl) rfl (by show 2 * 0 + _ ≤ _; exact Nat.le_of_eq rfl) (hb hby at_255) e264 (by decide) (by decide) (c' := 2) (s' := 16) rfl rfl N267
    obtain ⟨rfl, N268q, e268⟩ := hQ268
    have N271 := hF268 N268q
    refine Goes.by st268 ?_
    clear X264 N267 e264
    show Goes p.tables e below _ (T268.setTop (mkF m 258 #[.val (.int p0), .val (.int p1), .val (.int p2), .val (.int (4 : Int32)), .val (.ref b2), .val (.ref b40), .val (.long ((p0.toInt64) &&& (4294967295 : Int64))), .second] [(.int (fOk (5 : Int32) (4 : Int32) ((p0.toInt64) &&& (4294967295 : Int64)) ((((p0.toUInt32 >>> ((16 : Int32) &&& 31).toUInt32).toInt32).toInt8.toInt32).toInt8.toInt32) (((p2 + (185 : Int32)).toInt8.toInt32).toInt8.toInt32)))]))
    refine Goes.by (B := T268.setTop (mkF m 270 #[.val (.int p0), .val (.int p1), .val (.int p2), .val (.int (4 : Int32)), .val (.ref b2), .val (.ref b40), .val (.long ((p0.toInt64) &&& (4294967295 : Int64))), .second] [(.long ((p0.toInt64) &&& (4294967295 : Int64))), (.int (4 : Int32)), (.int (6 : Int32)), (.ref b2), (.ref b40)])) (fun t k => ?_) ?_
    · show Steps p.tables e below (T268.setTop (mkF m 258 #[.val (.int p0), .val (.int p1), .val (.int p2), .val (.int (4 : Int32)), .val (.ref b2), .val (.ref b40), .val (.long ((p0.toInt64) &&& (4294967295 : Int64))), .second] [(.int (fOk (5 : Int32) (4 : Int32) ((p0.toInt64) &&& (4294967295 : Int64)) ((((p0.toUInt32 >>> ((16 : Int32) &&& 31).toUInt32).toInt32).toInt8.toInt32).toInt8.toInt32) (((p2 + (185 : Int32)).toInt8.toInt32).toInt8.toInt32)))])) t
      refine XS.ifNo X268.here hx rfl (hb hby at_258) rfl ((if0 _ _).trans (feq (own_ok1 p0 (((p2 + (185 : Int32)).toInt8.toInt32).toInt8.toInt32) (5 : Int32) (4 : Int32) (by decide))).1) ?_
      show Steps p.tables e below (T268.setTop (mkF m 261 #[.val (.int p0), .val (.int p1), .val (.int p2), .val (.int (4 : Int32)), .val (.ref b2), .val (.ref b40), .val (.long ((p0.toInt64) &&& (4294967295 : Int64))), .second] [])) t
      refine XS.aload X268.here hx rfl (hb hby at_261) rfl rfl ?_
      show Steps p.tables e below (T268.setTop (mkF m 263 #[.val (.int p0), .val (.int p1), .val (.int p2), .val (.int (4 : Int32)), .val (.ref b2), .val (.ref b40), .val (.long ((p0.toInt64) &&& (4294967295 : Int64))), .second] [(.ref b40)])) t
      refine XS.aload X268.here hx rfl (hb hby at_263) rfl rfl ?_
      show Steps p.tables e below (T268.setTop (mkF m 265 #[.val (.int p0), .val (.int p1), .val (.int p2), .val (.int (4 : Int32)), .val (.ref b2), .val (.ref b40), .val (.long ((p0.toInt64) &&& (4294967295 : Int64))), .second] [(.ref b2), (.ref b40)])) t
      refine XS.bipush X268.here hx rfl (hb hby at_265) ?_
      show Steps p.tables e below (T268.setTop (mkF m 267 #[.val (.int p0), .val (.int p1), .val (.int p2), .val (.int (4 : Int32)), .val (.ref b2), .val (.ref b40), .val (.long ((p0.toInt64) &&& (4294967295 : Int64))), .second] [(.int (6 : Int32)), (.ref b2), (.ref b40)])) t
      refine XS.iloadN X268.here hx rfl (hb hby at_267) rfl ?_
      show Steps p.tables e below (T268.setTop (mkF m 268 #[.val (.int p0), .val (.int p1), .val (.int p2), .val (.int (4 : Int32)), .val (.ref b2), .val (.ref b40), .val (.long ((p0.toInt64) &&& (4294967295 : Int64))), .second] [(.int (4 : Int32)), (.int (6 : Int32)), (.ref b2), (.ref b40)])) t
      refine XS.lload X268.here hx rfl (hb hby at_268) rfl ?_
      exact k
    have el273 : Elt Z T243.heap b40 .byte (6 : Int32) (.int ((((p0.toUInt32 >>> ((8 : Int32) &&& 31).toUInt32).toInt32).toInt8.toInt32).toInt8.toInt32)) := Elt.of f244 ⟨by decide, by decide⟩ rfl
    have el274 : Elt Z T243.heap b2 .byte (6 : Int32) (.int (((p2 + (222 : Int32)).toInt8.toInt32).toInt8.toInt32)) := Elt.of f245 ⟨by decide, by decide⟩ rfl
    obtain ⟨_, T272, L272, Lc272, X272, hF272, hQ272, st272⟩ := own_cs X268 hx hZ hown (hw _ (List.mem_of_getElem? (i := 7) rfl)) (hw _ (List.mem_of_getElem? (i := 8) rfl)) (hw _ (List.mem_of_getElem? (i := 9) rfl)) (hw _ (List.mem_of_getElem? (i := 10) rfl)) (by decide) (rmOk l Z az hw [] b40 b2 (6 : Int32) (4 : Int32) ((p0.toInt64) &&& (4294967295 : Int64)) ((((p0.toUInt32 >>> ((8 : Int32) &&& 31).toUInt32).toInt32).toInt8.toInt32).toInt8.toInt32) (((p2 + (222 : Int32)).toInt8.toInt32).toInt8.toInt32) T243.heap n0 Z246 el273 el274) (by decide) (by decide) (W := 0) (g := (mkF m 270 #[.val (.int p0), .val (.int p1), .val (.int p2), .val (.int (4 : Int32)), .val (.ref b2), .val (.ref b40), .val (.long ((p0.toInt64) &&& (4294967295 : Int64))), .second] [(.long ((p0.toInt64) &&& (4294967295 : Int64))), (.int (4 : Int32)), (.int (6 : Int32)), (.ref b2), (.ref b40)])) rfl (by rw [hml]; rfl) (argsL := [(.ref b40), (.ref b2), (.int (6 : Int32)), (.int (4 : Int32)), (.long ((p0.toInt64) &&& (4294967295 : Int64)))]) (rest := []) rfl (lenOf own_pd1 rfl) rfl (by show 2 * 0 + _ ≤ _; exact Nat.le_of_eq rfl) (hb hby at_270) e268 (by decide) (by decide) (c' := 2) (s' := 16) rfl rfl N271
    obtain ⟨rfl, N272q, e272⟩ := hQ272
    have N275 := hF272 N272q
    refine Goes.by st272 ?_
    clear X268 N271 e268
    show Goes p.tables e below _ (T272.setTop (mkF m 273 #[.val (.int p0), .val (.int p1), .val (.int p2), .val (.int (4 : Int32)), .val (.ref b2), .val (.ref b40), .val (.long ((p0.toInt64) &&& (4294967295 : Int64))), .second] [(.int (fOk (6 : Int32) (4 : Int32) ((p0.toInt64) &&& (4294967295 : Int64)) ((((p0.toUInt32 >>> ((8 : Int32) &&& 31).toUInt32).toInt32).toInt8.toInt32).toInt8.toInt32) (((p2 + (222 : Int32)).toInt8.toInt32).toInt8.toInt32)))]))
    refine Goes.by (B := T272.setTop (mkF m 285 #[.val (.int p0), .val (.int p1), .val (.int p2), .val (.int (4 : Int32)), .val (.ref b2), .val (.ref b40), .val (.long ((p0.toInt64) &&& (4294967295 : Int64))), .second] [(.long ((p0.toInt64) &&& (4294967295 : Int64))), (.int (4 : Int32)), (.int (7 : Int32)), (.ref b2), (.ref b40)])) (fun t k => ?_) ?_
    · show Steps p.tables e below (T272.setTop (mkF m 273 #[.val (.int p0), .val (.int p1), .val (.int p2), .val (.int (4 : Int32)), .val (.ref b2), .val (.ref b40), .val (.long ((p0.toInt64) &&& (4294967295 : Int64))), .second] [(.int (fOk (6 : Int32) (4 : Int32) ((p0.toInt64) &&& (4294967295 : Int64)) ((((p0.toUInt32 >>> ((8 : Int32) &&& 31).toUInt32).toInt32).toInt8.toInt32).toInt8.toInt32) (((p2 + (222 : Int32)).toInt8.toInt32).toInt8.toInt32)))])) t
      refine XS.ifNo X272.here hx rfl (hb hby at_273) rfl ((if0 _ _).trans (feq (own_ok2 p0 (((p2 + (222 : Int32)).toInt8.toInt32).toInt8.toInt32) (6 : Int32) (4 : Int32) (by decide))).1) ?_
      show Steps p.tables e below (T272.setTop (mkF m 276 #[.val (.int p0), .val (.int p1), .val (.int p2), .val (.int (4 : Int32)), .val (.ref b2), .val (.ref b40), .val (.long ((p0.toInt64) &&& (4294967295 : Int64))), .second] [])) t
      refine XS.aload X272.here hx rfl (hb hby at_276) rfl rfl ?_
      show Steps p.tables e below (T272.setTop (mkF m 278 #[.val (.int p0), .val (.int p1), .val (.int p2), .val (.int (4 : Int32)), .val (.ref b2), .val (.ref b40), .val (.long ((p0.toInt64) &&& (4294967295 : Int64))), .second] [(.ref b40)])) t
      refine XS.aload X272.here hx rfl (hb hby at_278) rfl rfl ?_
      show Steps p.tables e below (T272.setTop (mkF m 280 #[.val (.int p0), .val (.int p1), .val (.int p2), .val (.int (4 : Int32)), .val (.ref b2), .val (.ref b40), .val (.long ((p0.toInt64) &&& (4294967295 : Int64))), .second] [(.ref b2), (.ref b40)])) t
      refine XS.bipush X272.here hx rfl (hb hby at_280) ?_
      show Steps p.tables e below (T272.setTop (mkF m 282 #[.val (.int p0), .val (.int p1), .val (.int p2), .val (.int (4 : Int32)), .val (.ref b2), .val (.ref b40), .val (.long ((p0.toInt64) &&& (4294967295 : Int64))), .second] [(.int (7 : Int32)), (.ref b2), (.ref b40)])) t
      refine XS.iloadN X272.here hx rfl (hb hby at_282) rfl ?_
      show Steps p.tables e below (T272.setTop (mkF m 283 #[.val (.int p0), .val (.int p1), .val (.int p2), .val (.int (4 : Int32)), .val (.ref b2), .val (.ref b40), .val (.long ((p0.toInt64) &&& (4294967295 : Int64))), .second] [(.int (4 : Int32)), (.int (7 : Int32)), (.ref b2), (.ref b40)])) t
      refine XS.lload X272.here hx rfl (hb hby at_283) rfl ?_
      exact k
    have el277 : Elt Z T243.heap b40 .byte (7 : Int32) (.int ((p0.toInt8.toInt32).toInt8.toInt32)) := Elt.of f244 ⟨by decide, by decide⟩ rfl
    have el278 : Elt Z T243.heap b2 .byte (7 : Int32) (.int (((p2 + (259 : Int32)).toInt8.toInt32).toInt8.toInt32)) := Elt.of f245 ⟨by decide, by decide⟩ rfl
    obtain ⟨_, T276, L276, Lc276, X276, hF276, hQ276, st276⟩ := own_cs X272 hx hZ hown (hw _ (List.mem_of_getElem? (i := 7) rfl)) (hw _ (List.mem_of_getElem? (i := 8) rfl)) (hw _ (List.mem_of_getElem? (i := 9) rfl)) (hw _ (List.mem_of_getElem? (i := 10) rfl)) (by decide) (rmOk l Z az hw [] b40 b2 (7 : Int32) (4 : Int32) ((p0.toInt64) &&& (4294967295 : Int64)) ((p0.toInt8.toInt32).toInt8.toInt32) (((p2 + (259 : Int32)).toInt8.toInt32).toInt8.toInt32) T243.heap n0 Z246 el277 el278) (by decide) (by decide) (W := 0) (g := (mkF m 285 #[.val (.int p0), .val (.int p1), .val (.int p2), .val (.int (4 : Int32)), .val (.ref b2), .val (.ref b40), .val (.long ((p0.toInt64) &&& (4294967295 : Int64))), .second] [(.long ((p0.toInt64) &&& (4294967295 : Int64))), (.int (4 : Int32)), (.int (7 : Int32)), (.ref b2), (.ref b40)])) rfl (by rw [hml]; rfl) (argsL := [(.ref b40), (.ref b2), (.int (7 : Int32)), (.int (4 : Int32)), (.long ((p0.toInt64) &&& (4294967295 : Int64)))]) (rest := []) rfl (lenOf own_pd1 rfl) rfl (by show 2 * 0 + _ ≤ _; exact Nat.le_of_eq rfl) (hb hby at_285) e272 (by decide) (by decide) (c' := 2) (s' := 16) rfl rfl N275
    obtain ⟨rfl, N276q, e276⟩ := hQ276
    have N279 := hF276 N276q
    refine Goes.by st276 ?_
    clear X272 N275 e272
    show Goes p.tables e below _ (T276.setTop (mkF m 288 #[.val (.int p0), .val (.int p1), .val (.int p2), .val (.int (4 : Int32)), .val (.ref b2), .val (.ref b40), .val (.long ((p0.toInt64) &&& (4294967295 : Int64))), .second] [(.int (fOk (7 : Int32) (4 : Int32) ((p0.toInt64) &&& (4294967295 : Int64)) ((p0.toInt8.toInt32).toInt8.toInt32) (((p2 + (259 : Int32)).toInt8.toInt32).toInt8.toInt32)))]))
    refine Goes.by (B := T276.setTop (mkF m 296 #[.val (.int p0), .val (.int p1), .val (.int p2), .val (.int (4 : Int32)), .val (.ref b2), .val (.ref b40), .val (.long ((p0.toInt64) &&& (4294967295 : Int64))), .second] [(.int (1 : Int32))])) (fun t k => ?_) ?_
    · show Steps p.tables e below (T276.setTop (mkF m 288 #[.val (.int p0), .val (.int p1), .val (.int p2), .val (.int (4 : Int32)), .val (.ref b2), .val (.ref b40), .val (.long ((p0.toInt64) &&& (4294967295 : Int64))), .second] [(.int (fOk (7 : Int32) (4 : Int32) ((p0.toInt64) &&& (4294967295 : Int64)) ((p0.toInt8.toInt32).toInt8.toInt32) (((p2 + (259 : Int32)).toInt8.toInt32).toInt8.toInt32)))])) t
      refine XS.ifNo X276.here hx rfl (hb hby at_288) rfl ((if0 _ _).trans (feq (own_ok3 p0 (((p2 + (259 : Int32)).toInt8.toInt32).toInt8.toInt32) (7 : Int32) (4 : Int32) (by decide))).1) ?_
      show Steps p.tables e below (T276.setTop (mkF m 291 #[.val (.int p0), .val (.int p1), .val (.int p2), .val (.int (4 : Int32)), .val (.ref b2), .val (.ref b40), .val (.long ((p0.toInt64) &&& (4294967295 : Int64))), .second] [])) t
      refine XS.iconst X276.here hx rfl (hb hby at_291) ?_
      show Steps p.tables e below (T276.setTop (mkF m 292 #[.val (.int p0), .val (.int p1), .val (.int p2), .val (.int (4 : Int32)), .val (.ref b2), .val (.ref b40), .val (.long ((p0.toInt64) &&& (4294967295 : Int64))), .second] [(.int (1 : Int32))])) t
      refine XS.goto X276.here hx rfl (pc0 := 292) (pc' := 296) rfl (hb hby at_292) (by decide) (by decide) ?_
      exact k
    obtain ⟨fs, hr, hrun, hended, hW, hsame⟩ := X276.leave (v := some (.int (1 : Int32))) (fun h => by rw [Bd.returns] at h; cases h)
    refine Goes.mk _ _ ?_ ⟨hrun, hended, _, _, rfl, ?_, ⟨_, rfl⟩, hW, hsame.mono (by decide) (by decide)⟩
    · exact retN X276 hx (t := .boolean) Bd.returns (by simp) (hb hby at_296) hr
    · show Q0 Z p0 p1 p2 h0 n0 _ T276.heap _
      rw [e276]
      exact ⟨rfl, N279⟩
set_option maxRecDepth 65536 in
set_option maxHeartbeats 40000000 in
theorem comes_1 {Post : Tables → Env → Array Value → State → Outcome → State → Prop} (hpost : ∀ tb e args s v u, (limb_1_1.after args s (.returned v) u = true ∧ limb_1_2.after args s (.returned v) u = true ∧ True) → FrameEnd s (.returned v) u (Jvm.fieldLocs frame_1_writes args s ++ Jvm.arrayLocs frame_1_arrays args s ++ Jvm.staticLocs frame_1_statics s) 16 128 → Post tb e args s (.returned v) u) :
    ArmFor flags0 classFile x code maxLocals ret World_1 tables_1 room_1 Calls_1 rest_1 Pre_1 Post := by
  intro l hfl _ _ p e ha hc hk s m args below hf hA hF happ hP
  obtain ⟨hcalls, hrest, hpre⟩ := hP
  obtain ⟨-, -, -, hnamed, -, -, -, hat⟩ := (Spec.applies_iff hf).mp happ
  obtain ⟨hg, hn⟩ := and_e (Cond.before_iff.mp (show (Jvm.Cond.and given_1 narrow_1).before args s = true from hpre))
  obtain ⟨gg1, gg2⟩ := and_e hg
  obtain ⟨gg3, gg4⟩ := and_e gg2
  obtain ⟨gg5, gg6⟩ := and_e gg4
  obtain ⟨w0, w1, w2, rfl⟩ : ∃ w0 w1 w2 : Value, args = #[w0, w1, w2] := by
    have hs : args.size = 3 := by simpa [Cond.value, given_1] using gg1
    obtain ⟨L⟩ := args
    match L, hs with
    | [w0, w1, w2], _ => exact ⟨w0, w1, w2, rfl⟩
  have hw := fun d (hd : d ∈ tables_1) => atoms_spec (ws := Jvm.Cond.code x code maxLocals ret :: tables_1) hat d (List.mem_cons_of_mem _ hd)
  have hfit : Fit s := fun {y c} hc i hi => by
    obtain ⟨ha, rfl⟩ := Array.getElem?_eq_some_iff.mp hc
    have q := List.all_eq_true.mp ((Array.all_eq_true_iff_forall_mem.mp hF) _ (Array.getElem_mem ha)) i (List.mem_range.mpr hi)
    simpa [Array.getElem?_eq_getElem hi] using q
  obtain ⟨i0, ei0⟩ := is_v gg3
  obtain rfl : w0 = (.int i0) := Option.some.inj ei0
  obtain ⟨i1, ei1⟩ := is_v gg5
  obtain rfl : w1 = (.int i1) := Option.some.inj ei1
  obtain ⟨i2, ei2⟩ := is_v gg6
  obtain rfl : w2 = (.int i2) := Option.some.inj ei2
  obtain ⟨n, o, h1, h2, h3, _, L, rfl, ⟨rfl, N⟩, hq⟩ := rm0 l s _ hw tables_1 i0 i1 i2 s.heap s.heap.size (Nat.le_refl _)  p e ha hc hk s m _ below hf ((Spec.applies_iff_loose hf).mp happ).1 ⟨rfl, State.Warmed39.refl s, rfl⟩ trivial
  refine ⟨n, _, h1, h2, h3, hpost _ _ _ _ _ _ ⟨Cond.after_iff.mpr rfl, Cond.after_iff.mpr (eq_i res_at (Term.int_eval (1)) rfl), trivial⟩ ⟨hq.1, hq.2.1, (hq.2.2.sift fun y hy => Or.inr (N y hy)).mono (by decide) (by decide)⟩⟩
theorem main_1_1 : Claimed_1_1 := comes_1 fun _ _ _ _ _ _ h hF => ⟨h.1, hF⟩
theorem main_1_2 : Claimed_1_2 := comes_1 fun _ _ _ _ _ _ h hF => ⟨h.2.1, hF⟩
end Jvm.Pilot.@@N@@
namespace Jvm.Pilot.@@N@@
open Jvm Jvm.ClassFile Sem Op Lib Jvm.Free Jvm.Stand Jvm.Pilot.@@N@@.Jvm.D
/-! MADE BY PROGRAM (witnessworld.py) out of the Statement's table words and the real class files: 9 classes; the members and pool entries that the words name. The judged class is class 1, her method 1. -/
namespace start1
open Jvm.ClassFile
def u (s : String) : CpInfo := .utf8 (stringToUtf16 s)
/-- a pool by its gaps: so many unusable entries, then the entry; so many at the end -/
def gap : Nat → List CpInfo → List CpInfo
  | 0, r => r
  | n + 1, r => .unusable :: gap n r
def poolList (es : List (Nat × CpInfo)) (last : Nat) : List CpInfo := es.foldr (fun e r => gap e.1 (e.2 :: r)) (gap last [])
def pool (es : List (Nat × CpInfo)) (last : Nat) : Array CpInfo := ⟨poolList es last⟩
def fileOf (pool : Array CpInfo) (this : Nat) (attrs : Array Attribute := #[]) (ms : Array MethodInfo := #[]) (fl : Nat := 33) (sup : Nat := 0) (ifs : Array Nat := #[]) (fds : Array FieldInfo := #[]) : ClassFile where
  minorVersion := 0
  majorVersion := 65
  constantPool := pool
  accessFlags := fl
  thisClass := this
  superClass := sup
  interfaces := ifs
  fields := fds
  methods := ms
  attributes := attrs
def plain (name : String) (sup : Option ClassId) : Class where
  name := name
  kind := .ordinary
  loader := none
  accessFlags := 33
  super := sup
  interfaces := #[]
  cf := none
  fields := #[]
  methods := #[]
  instanceTypes := #[]
  staticTypes := #[]
  resolved := #[]
  callSites := []
  init := .initialized
  statics := none
  mirror := none

def pool0 : Array CpInfo := pool [(5, u "<init>"), (0, u "()V"), (1, .class_ 10), (1, u "java/lang/Object")] 113

def k0m0 : Method := { name := "<init>", desc := "()V", sig := { parameters := [], returnType := none }, accessFlags := 1, code := none }
/-- java/lang/Object -/
def k0 : Class := { plain "java/lang/Object" none with
  accessFlags := 33
  interfaces := #[]
  cf := some (fileOf pool0 8 #[] #[{ accessFlags := 1, nameIndex := 5, descriptorIndex := 6, attributes := #[] }] 33 0 #[] #[])
  fields := #[]
  methods := #[k0m0]
  instanceTypes := #[]
  staticTypes := #[]
  resolved := Array.replicate 124 none
  statics := none }

def pool1 : Array CpInfo := pool [(2, .class_ 4), (1, u "java/lang/Object"), (0, u "<init>"), (0, u "()V"), (0, .integer 2147483647), (0, .methodref 9 10), (0, .class_ 11), (0, .nameAndType 12 13), (0, u "com/example/moraine/moraine/BigEndian"), (0, u "putInt"), (0, u "([BII)V"), (0, .long 4294967295), (1, .methodref 17 18), (0, .class_ 19), (0, .nameAndType 20 21), (0, u "com/example/moraine/moraine/BigEndianPutIntPinLaw"), (0, u "ok"), (0, u "([B[BIIJ)Z"), (0, .long 16777216), (1, .long 65536), (1, .long 256), (3, u "law"), (0, u "(III)Z")] 5

def k1m0 : Method := { name := "<init>", desc := "()V", sig := { parameters := [], returnType := none }, accessFlags := 1, code := none }
def k1c1 : Code := { maxStack := 6, maxLocals := 8, code := code, exceptionTable := #[], attributes := #[] }
def k1m1 : Method := { name := "law", desc := "(III)Z", sig := { parameters := [.int, .int, .int], returnType := some .boolean }, accessFlags := 9, code := some k1c1 }
def k1c2 : Code := { maxStack := 4, maxLocals := 9, code := method_3_code, exceptionTable := #[], attributes := #[] }
def k1m2 : Method := { name := "ok", desc := "([B[BIIJ)Z", sig := { parameters := [(.array .byte), (.array .byte), .int, .int, .long], returnType := some .boolean }, accessFlags := 10, code := some k1c2 }
/-- com/example/moraine/moraine/BigEndianPutIntPinLaw -/
def k1 : Class := { plain "com/example/moraine/moraine/BigEndianPutIntPinLaw" (some 0) with
  accessFlags := 49
  interfaces := #[]
  cf := some (fileOf pool1 17 #[] #[{ accessFlags := 1, nameIndex := 5, descriptorIndex := 6, attributes := #[] }, { accessFlags := 9, nameIndex := 30, descriptorIndex := 31, attributes := #[] }, { accessFlags := 10, nameIndex := 20, descriptorIndex := 21, attributes := #[] }] 49 2 #[] #[])
  fields := #[]
  methods := #[k1m0, k1m1, k1m2]
  instanceTypes := #[]
  staticTypes := #[]
  resolved := Array.replicate 37 none
  statics := none }

def pool2 : Array CpInfo := pool [(2, .class_ 4), (1, u "java/lang/Object"), (0, u "<init>"), (0, u "()V"), (1, .class_ 10), (1, u "com/example/moraine/moraine/BigEndian"), (8, u "putInt"), (0, u "([BII)V")] 8

def k2m0 : Method := { name := "<init>", desc := "()V", sig := { parameters := [], returnType := none }, accessFlags := 2, code := none }
def k2c1 : Code := { maxStack := 4, maxLocals := 3, code := prog_1_method_5_code, exceptionTable := #[], attributes := #[] }
def k2m1 : Method := { name := "putInt", desc := "([BII)V", sig := { parameters := [(.array .byte), .int, .int], returnType := none }, accessFlags := 8, code := some k2c1 }
/-- com/example/moraine/moraine/BigEndian -/
def k2 : Class := { plain "com/example/moraine/moraine/BigEndian" (some 0) with
  accessFlags := 48
  interfaces := #[]
  cf := some (fileOf pool2 8 #[] #[{ accessFlags := 2, nameIndex := 5, descriptorIndex := 6, attributes := #[] }, { accessFlags := 8, nameIndex := 19, descriptorIndex := 20, attributes := #[] }] 48 2 #[] #[])
  fields := #[]
  methods := #[k2m0, k2m1]
  instanceTypes := #[]
  staticTypes := #[]
  resolved := Array.replicate 29 none
  statics := none }

def pool3 : Array CpInfo := pool [(1, u "java/lang/Cloneable"), (0, .class_ 1), (0, u "java/lang/Object"), (0, .class_ 3)] 3

/-- java/lang/Cloneable -/
def k3 : Class := { plain "java/lang/Cloneable" (some 0) with
  accessFlags := 1537
  interfaces := #[]
  cf := some (fileOf pool3 2 #[] #[] 1537 4 #[] #[])
  fields := #[]
  methods := #[]
  instanceTypes := #[]
  staticTypes := #[]
  resolved := Array.replicate 8 none
  statics := none }

def pool4 : Array CpInfo := pool [(1, u "java/io/Serializable"), (0, .class_ 1), (0, u "java/lang/Object"), (0, .class_ 3)] 3

/-- java/io/Serializable -/
def k4 : Class := { plain "java/io/Serializable" (some 0) with
  accessFlags := 1537
  interfaces := #[]
  cf := some (fileOf pool4 2 #[] #[] 1537 4 #[] #[])
  fields := #[]
  methods := #[]
  instanceTypes := #[]
  staticTypes := #[]
  resolved := Array.replicate 8 none
  statics := none }

/-- the primitive byte -/
def k5 : Class := { plain "byte" none with kind := .primitive 'B', accessFlags := 0x411 }
/-- [B -/
def k6 : Class := { plain "[B" (some 0) with kind := .array 5 .byte, interfaces := #[3, 4], accessFlags := 1041 }

/-- the primitive int -/
def k7 : Class := { plain "int" none with kind := .primitive 'I', accessFlags := 0x411 }
/-- [I -/
def k8 : Class := { plain "[I" (some 0) with kind := .array 7 .int, interfaces := #[3, 4], accessFlags := 1041 }

def heap : Heap := #[]
def classes : Array Class := #[k0, k1, k2, k3, k4, k5, k6, k7, k8]
def interned : List (Array UInt16 × Addr) := []
def slotsUsed : Nat := 0
def theMethod : MethodId := ⟨1, 1⟩
def args0 : Array Value := #[.int 5, .int 7, .int 5]
def aboutOver (below : List Frame) : State where
  vm := { classes := classes, interned := interned.toArray }
  heap := heap
  slotsUsed := slotsUsed
  threads := #[{ frames := .invoking theMethod args0 :: below }]
def below0 : List Frame := [.native { method := ⟨0, 0⟩, args := #[] }]
def about1 : State := aboutOver below0
def p0 : Program := .bare "" "" ""
def e0 : Env := launch0.env 0 0 0
theorem w_frames : about1.frames = Frame.invoking theMethod args0 :: below0 := rfl
set_option maxRecDepth 65536 in
theorem w_args : argsFit about1.vm theMethod args0 = true := by decide +kernel
set_option maxRecDepth 65536 in
theorem w_heap : heapFits about1 = true := by decide +kernel
set_option maxRecDepth 65536 in
theorem w_runnable : about1.curStatus? = some .runnable := by decide +kernel
set_option maxRecDepth 65536 in
theorem w_alone : about1.alone = true := by decide +kernel
set_option maxRecDepth 65536 in
theorem w_named : about1.methodNamed? x = some theMethod := by decide +kernel
set_option maxRecDepth 65536 in
theorem w_hears : about1.hears theMethod below0 = true := by decide +kernel
set_option maxRecDepth 65536 in
theorem w_ripe : about1.ripe theMethod args0 below0 = true := by decide +kernel
theorem w_running : about1.status = .running := rfl
set_option maxRecDepth 65536 in
theorem w_room : about1.hasRoom e0.platform room_1 = true :=
  launch0.hasRoom_least _ room_1 (by decide +kernel) (by decide +kernel) (by decide +kernel) (by decide +kernel) (by decide +kernel) (by decide +kernel)
theorem allAtoms_all (ts : List Jvm.Cond) (a : Array Jvm.Value) (st : Jvm.State) : (allAtoms ts).before a st = ts.all (fun c => c.before a st) := by
  induction ts with
  | nil => rfl
  | cons c t ih =>
    show (Jvm.Cond.and c (allAtoms t)).before a st = _
    rw [Jvm.Cond.before_and, ih, List.all_cons]
def words1 : List Jvm.Cond := Jvm.Cond.code x code maxLocals ret :: tables_1
/-- a 'code' word, met by the world's own term for the bytes: nothing is compared byte by byte -/
theorem code_word {y : MethodName} {bytes : ByteArray} {mx : Nat} {rt : Option FieldType} {a : Array Value} {s : State} {m : MethodId} {meth : Method} {c : Code} (h1 : s.methodNamed? y = some m) (h2 : s.vm.method? m = some meth) (h3 : meth.code = some c) (h4 : c.code = bytes)
    (h5 : (c.maxLocals == mx && c.exceptionTable.isEmpty && decide (c.maxStack ≤ mostOperands) && decide (meth.sig.returnType = rt) && !meth.locks && decide (parseMethodDescriptor y.desc = some meth.sig)) = true) : (Jvm.Cond.code y bytes mx rt).before a s = true := by
  simp only [Bool.and_eq_true, beq_iff_eq, Bool.not_eq_true', decide_eq_true_eq] at h5
  obtain ⟨⟨⟨⟨⟨g1, g2⟩, g3⟩, g4⟩, g5⟩, g6⟩ := h5
  simp [Cond.before, Cond.holds, Cond.value, h1, h2, h3, h4, g1, g2, g3, g4, g5, g6]
def isCode : Jvm.Cond → Bool
  | .code _ _ _ _ => true
  | _ => false
theorem all_split {L : List Jvm.Cond} {P : Jvm.Cond → Bool} (h1 : L.all (fun c => isCode c || P c) = true) (h2 : ∀ c ∈ L.filter isCode, P c = true) : L.all P = true := by
  refine List.all_eq_true.mpr fun c hc => ?_
  have h := List.all_eq_true.mp h1 c hc
  rcases Bool.eq_false_or_eq_true (isCode c) with hi | hi
  · exact h2 c (List.mem_filter.mpr ⟨hc, hi⟩)
  · simpa [hi] using h
set_option maxRecDepth 65536 in
theorem w_c0 : (Jvm.Cond.code x code maxLocals ret).before args0 about1 = true := code_word (m := ⟨1, 1⟩) (meth := k1m1) (c := k1c1) (by decide +kernel) rfl rfl rfl (by decide +kernel)
set_option maxRecDepth 65536 in
theorem w_c1 : (Jvm.Cond.code ({ cls := "com/example/moraine/moraine/BigEndian", name := "putInt", desc := "([BII)V" } : Jvm.MethodName) prog_1_method_5_code (3 : Nat) (Option.none : Option Jvm.ClassFile.FieldType)).before args0 about1 = true := code_word (m := ⟨2, 1⟩) (meth := k2m1) (c := k2c1) (by decide +kernel) rfl rfl rfl (by decide +kernel)
set_option maxRecDepth 65536 in
theorem w_c2 : (Jvm.Cond.code ({ cls := "com/example/moraine/moraine/BigEndianPutIntPinLaw", name := "ok", desc := "([B[BIIJ)Z" } : Jvm.MethodName) method_3_code (9 : Nat) (Option.some Jvm.ClassFile.FieldType.boolean)).before args0 about1 = true := code_word (m := ⟨1, 2⟩) (meth := k1m2) (c := k1c2) (by decide +kernel) rfl rfl rfl (by decide +kernel)
def codes1 : List Jvm.Cond := [Jvm.Cond.code x code maxLocals ret, Jvm.Cond.code ({ cls := "com/example/moraine/moraine/BigEndian", name := "putInt", desc := "([BII)V" } : Jvm.MethodName) prog_1_method_5_code (3 : Nat) (Option.none : Option Jvm.ClassFile.FieldType), Jvm.Cond.code ({ cls := "com/example/moraine/moraine/BigEndianPutIntPinLaw", name := "ok", desc := "([B[BIIJ)Z" } : Jvm.MethodName) method_3_code (9 : Nat) (Option.some Jvm.ClassFile.FieldType.boolean)]
set_option maxRecDepth 65536 in
theorem codes_eq : words1.filter isCode = codes1 := rfl
theorem w_codes : ∀ c ∈ words1.filter isCode, c.before args0 about1 = true := by
  rw [codes_eq]
  intro c hc
  simp only [codes1, List.mem_cons, List.not_mem_nil, or_false] at hc
  rcases hc with rfl | rfl | rfl
  · exact w_c0
  · exact w_c1
  · exact w_c2
set_option maxRecDepth 65536 in
theorem w_t1 : words1.all (fun c => isCode c || c.before args0 about1) = true := by decide +kernel
theorem w_tables : (allAtoms (Jvm.Cond.code x code maxLocals ret :: tables_1)).before args0 about1 = true := by
  rw [allAtoms_all]
  show words1.all (fun c => c.before args0 about1) = true
  refine all_split ?_ w_codes
  rw [w_t1]
set_option maxRecDepth 65536 in
theorem w_case : (Jvm.Cond.and given_1 narrow_1).before args0 about1 = true := by decide +kernel
theorem w_applies : (headSpec (Jvm.Cond.code x code maxLocals ret :: tables_1) room_1).applies x e0.platform about1 = true :=
  (Spec.applies_iff w_frames).mpr ⟨w_running, w_runnable, w_alone, w_named, w_hears, w_ripe, w_room, w_tables⟩
theorem atStart : AtStart classFile x code maxLocals ret World_1 tables_1 room_1 Calls_1 rest_1 Pre_1 launch0 p0 e0 about1 theMethod args0 below0 :=
  ⟨lists_1, trivial, launch0.admits_env _ _ _, launch0.least_env, fairChoices_fair.cas, fairChoices_fair.clock, w_frames, w_args, w_heap, w_applies, trivial, trivial, w_case⟩
end start1
theorem witness_1 : WitnessClaimed_1 := ⟨start1.p0, start1.e0, start1.about1, start1.theMethod, start1.args0, start1.below0, start1.atStart⟩
end Jvm.Pilot.@@N@@
