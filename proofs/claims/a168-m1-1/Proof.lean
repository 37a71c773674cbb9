import JvmDerived
import JvmDerived.Pilot.@@N@@Statement
import JvmDerived.Pilot.@@N@@Code
set_option linter.unusedVariables false
set_option linter.unusedSimpArgs false
namespace Jvm.RoadKit
open Sem ClassFile Op Lib Jvm.Stand Jvm.Free Jvm.LawKit
section New
variable {p : Program} {l : Launch} {e : Env} {R : Room} {s : State} {m : MethodId} {args : Array Value} {below : List Frame} {meth : Method} {c : Code} {T : State} {locs : List Loc} {cells slots : Nat}
theorem retI (X : Stand p l e R s m args below meth c T locs cells slots) (hx : p.tables.exec = Jvm.exec) {pc : Nat} {Ls : Array Slot} {z : Int32} {rest : List Value} (hret : meth.sig.returnType = some .int) (hd : decode c.code pc = .ok (.ireturn, 1)) {fs : List Frame}
    (hl : ∀ (f : JFrame) (acts : List Action), f.method = m → f.locked = none → f.entered = [] → (doReturn e (T.setTop f) acts (some (.int z))).1 = T.setFrames fs) : Steps p.tables e below (T.setTop (mkF m pc Ls (.int z :: rest))) (T.setFrames fs) :=
  retOut X hx hret rfl (Or.inl ⟨rfl, Or.inl rfl, _, rfl⟩) hd hl
def Elt (Z : State) (h : Heap) (a : Addr) (ty : FieldType) (j : Int32) (v : Value) : Prop := ∃ cl : Cell, Arr Z h a cl ty ∧ ¬ (j < 0 ∨ cl.slots.size ≤ j.toNatClampNeg) ∧ cl.slots[j.toNatClampNeg]? = some v
theorem Elt.of {Z : State} {h : Heap} {a : Addr} {k : ClassId} {ty : FieldType} {n j : Int32} {vs : List Value} {d v : Value} (F : Arv Z h a k ty n vs d) (q : ¬ j < 0 ∧ j < n) (u : vs.getD j.toNatClampNeg d = v) : Elt Z h a ty j v := by
  obtain ⟨c, A, _, S, _, H, _⟩ := F
  exact ⟨c, A, inb_of S q, H.at (inb_of S q) u⟩
def Goes (tb : Tables) (e : Env) (below : List Frame) (P : State → Outcome → Prop) (A : State) : Prop := ∃ s₂ o, Steps tb e below A s₂ ∧ P s₂ o
theorem Goes.start {tb : Tables} {e : Env} {below : List Frame} {P : State → Outcome → Prop} {A : State} (h : Goes tb e below P A) : ∃ s₂ o, Steps tb e below A s₂ ∧ P s₂ o := h
theorem Gb {tb : Tables} {e : Env} {below : List Frame} {P : State → Outcome → Prop} {A B : State} (h : ∀ t, Steps tb e below B t → Steps tb e below A t) (g : Goes tb e below P B) : Goes tb e below P A := by
  obtain ⟨s₂, o, h1, h2⟩ := g
  exact ⟨s₂, o, h _ h1, h2⟩
theorem Goes.mk {tb : Tables} {e : Env} {below : List Frame} {P : State → Outcome → Prop} {A : State} (s₂ : State) (o : Outcome) (h : Steps tb e below A s₂) (hp : P s₂ o) : Goes tb e below P A := ⟨s₂, o, h, hp⟩
end New
end Jvm.RoadKit
namespace Jvm.RoadKit
open Sem ClassFile Op Lib Jvm.Stand Jvm.Free Jvm.LawKit
section Ref
variable {p : Program} {l : Launch} {e : Env} {R : Room} {s : State} {m : MethodId} {args : Array Value} {below : List Frame} {meth : Method} {c : Code} {T : State} {locs : List Loc} {cells slots : Nat} {Z : State} {a0 : Array Value} {h : Heap}
theorem own_ready (X : Stand p l e R s m args below meth c T locs cells slots) (hZ : Z.Warmed39 s.vm) {own O n d : String} {index : Nat} (hown : s.vm.findClass own = some m.cls) (w : (Cond.fieldRef own index O n d).before a0 Z = true)
    {cf i : Nat} {k : Class} {f : Field} (h2 : Z.fieldFound? O n d = some (cf, k, i, f)) : T.vm.fieldReady m.cls index cf f := by
  have hU : Z.Warmed39 T.vm := wtrans hZ X.warmed
  have w' := Cond.fieldRef_warmed39 hU w
  have hc : (Z.setVm T.vm).vm.findClass own = some m.cls := by
    show T.vm.findClass own = some m.cls
    rw [X.warmed.alike.findClass]; exact hown
  obtain ⟨c1, k1, i1, f1, e1, e2⟩ := Cond.fieldRef_spec hc w'
  obtain ⟨k', e3, -⟩ := State.fieldFound?_setVm (s := Z) hU.alike h2
  cases e1.symm.trans e3
  exact e2
theorem getFR (X : Stand p l e R s m args below meth c T locs cells slots) (hx : p.tables.exec = Jvm.exec) (hZ : Z.Warmed39 s.vm) {own O n d : String} {index : Nat} (hown : s.vm.findClass own = some m.cls) (w : (Cond.fieldRef own index O n d).before a0 Z = true)
    (eT : T.heap = h) {a : Addr} {v : Value} (F : Fld Z h a O n d v) {g : JFrame} (hg : g.method = m) {rest : List Value} (hs : g.stack = .ref a :: rest) (hd : decode c.code g.pc = .ok (.getfield index, 3)) {target : State}
    (hr : Steps p.tables e below (T.setTop { g with pc := g.pc + 3, stack := v :: rest }) target) : Steps p.tables e below (T.setTop g) target := by
  obtain ⟨cell, cf, k, i, f, h1, h2, h3, h4, -, -, h7⟩ := F
  exact (X.getfieldR hx hg (own_ready X hZ hown w h2) h3 hs (by rw [eT]; exact h1) h4 h7 hd (Steps.refl _)).trans hr
theorem putFR (X : Stand p l e R s m args below meth c T locs cells slots) (hx : p.tables.exec = Jvm.exec) (hZ : Z.Warmed39 s.vm) {own O n d C : String} {index kk : Nat} {ty : FieldType} (hown : s.vm.findClass own = some m.cls) (w : (Cond.fieldRef own index O n d).before a0 Z = true)
    (eT : T.heap = h) {a : Addr} {v old : Value} (F : Fld Z h a O n d old) (E : Exa Z h a C) (L : (Cond.lays C O n d).before a0 Z = true) (wi : (Cond.instantiable C kk).before a0 Z = true)
    (hty : parseFieldDescriptor d = some ty) (hn : narrow ty v = v) (hf : fits ty v = true) {g : JFrame} (hg : g.method = m) {rest : List Value} (hs : g.stack = v :: .ref a :: rest) (hd : decode c.code g.pc = .ok (.putfield index, 3)) :
    ∃ T' h', Stand p l e R s m args below meth c T' (locs ++ [⟨a, slotOf Z O n d⟩]) cells slots ∧ T'.heap = h' ∧ Wr h h' a (slotOf Z O n d) v ∧ ∀ target, Steps p.tables e below (T'.setTop { g with pc := g.pc + 3, stack := rest }) target → Steps p.tables e below (T.setTop g) target := by
  obtain ⟨cell, cf, k, i, f, h1, h2, h3, h4, h5, -, h7⟩ := F
  obtain ⟨cell', kc, e1, e2, e3, -⟩ := E
  cases h1.symm.trans e1
  obtain ⟨c1, k1, cf1, kf1, i1, f1, a1, a2, a3, -, a5, -, a6, -⟩ := Cond.lays_spec L
  cases h2.symm.trans a3
  cases e2.symm.trans a1
  obtain ⟨c2, k2, i1, i2, i3, -⟩ := Cond.instantiable_spec wi
  cases e2.symm.trans i1
  cases a2.symm.trans i2
  have ht := (State.fieldFound?_type h2 hty).2
  have hfit : Z.fitsSlot cell.cls cell.vm f.slot v = true := by
    have q : Z.slotType? cell.cls cell.vm f.slot = some ty := by
      simp only [State.slotType?, a2, Option.bind_eq_bind, Option.bind_some, i3]
      cases hq : cell.vm <;> first | (rw [hq] at h5; exact Bool.noConfusion h5) | (rw [a6, ht])
    simp [State.fitsSlot, q, hf]
  have hal := (wtrans hZ X.warmed : Z.Warmed39 T.vm).alike
  have hfit' : T.fitsSlot cell.cls cell.vm f.slot v = true := by
    have hq := hfit
    rw [← State.fitsSlot_setVm hal] at hq; exact hq
  have hlt := (Array.getElem?_eq_some_iff.mp h7).1
  have es : slotOf Z O n d = f.slot := by simp [slotOf, h2]
  rw [es]
  obtain ⟨X', st⟩ := X.putfieldReady hx (own_ready X hZ hown w h2) h3 (Or.inl a5) (by rw [eT]; exact h1) h4 hlt (by rw [ht]; exact hn) hfit' hg hs hd
  exact ⟨_, _, X', rfl, ⟨cell, h1, h5, hlt, by rw [← eT]; rfl⟩, st⟩
theorem own_sel {y : MethodName} {kk : Nat} (hZ : Z.Warmed39 s.vm) (wi : (Cond.instantiable y.cls kk).before a0 Z = true) (wp : (Cond.privateMethod y).before a0 Z = true) (wm : (Cond.instanceMethod y).before a0 Z = true) (hy : y.cls ≠ "java/lang/invoke/MethodHandle" ∧ y.cls ≠ "java/lang/invoke/VarHandle") : (Cond.selects y.cls y y).before args s = true := by
  obtain ⟨c, k, h1, h2, -, h4, -, -⟩ := Cond.instantiable_spec (mvT (args := args) hZ wi)
  exact selects_self_of_private h1 h2 (Bool.or_eq_false_iff.mp h4).1 (Cond.privateMethod_at (mvP hZ wp (args := args))) (mvT hZ wm) hy
end Ref
end Jvm.RoadKit
namespace Jvm.RoadKit
open Sem ClassFile Op Lib Jvm.Stand Jvm.Free Jvm.LawKit
section Calls
variable {p : Program} {l : Launch} {e : Env} {R : Room} {s : State} {m : MethodId} {args : Array Value} {below : List Frame} {meth : Method} {c : Code} {T : State} {locs : List Loc} {cells slots : Nat} {Z : State} {a0 : Array Value} {h : Heap}
theorem own_cs (X : Stand p l e R s m args below meth c T locs cells slots) (hx : p.tables.exec = Jvm.exec) (hZ : Z.Warmed39 s.vm) {own : String} {index : Nat} {y : MethodName} {bytes : ByteArray} {maxL : Nat} {ret : Option FieldType} {rm : Room} {W : Nat} {as' : Array Value} {Q : Option Value → Heap → List Loc → Prop} (hown : s.vm.findClass own = some m.cls)
    (w1 : (Cond.methodLink own index y).before a0 Z = true) (w2 : (Cond.static y).before a0 Z = true) (w3 : (Cond.initialized y.cls).before a0 Z = true) (w4 : (Cond.code y bytes maxL ret).before a0 Z = true)
    (hM : MetFree l y (head1 [Cond.code y bytes maxL ret] rm) (fun a U => a = as' ∧ Z.Warmed39 U.vm ∧ U.heap = h) (fun _ _ _ _ _ => True) (fun _ U o U' => ∃ v L, o = .returned v ∧ Q v U'.heap L ∧ FrameEnd U o U' L rm.cells rm.slots))
    {g : JFrame} (hg : g.method = m) (hsize : g.locals.size = c.maxLocals) {argsL rest : List Value} (ha : argsL.toArray = as') (hlen : ∀ sig, parseMethodDescriptor y.desc = some sig → argsL.length = sig.parameters.length) (hstack : g.stack = argsL.reverse ++ rest)
    (hdg : decode c.code g.pc = .ok (.invokestatic index, 3)) (eT : T.heap = h) {n0 : Nat} (N : Fr n0 locs) {c' s' : Nat} (hy : y.cls ≠ "java/lang/invoke/MethodHandle" ∧ y.cls ≠ "java/lang/invoke/VarHandle" := by decide) (hf : rm.frames + 1 ≤ R.frames := by decide) (hl : W + (maxL + 11) + rm.locals ≤ R.locals := by decide) (hW : 2 * g.monitorRoom + (rest.map fun v => v.category).sum ≤ W := by show 2 * 0 + _ ≤ _; exact Nat.le_of_eq rfl)
    (hc : cells + rm.cells ≤ R.cells := by decide) (hs : slots + rm.slots ≤ R.slots := by decide) (ec : cells + rm.cells = c' := by rfl) (es : slots + rm.slots = s' := by rfl) :
    ∃ (v : Option Value) (T' : State) (L' L : List Loc), Stand p l e R s m args below meth c T' L' c' s' ∧ (Fr n0 L → Fr n0 L') ∧ Q v T'.heap L ∧ ∀ target, Steps p.tables e below (T'.setTop { g with pc := g.pc + 3, stack := v.toList ++ rest }) target → Steps p.tables e below (T.setTop g) target := by
  obtain ⟨v, vm1, ⟨T', L', k', n'⟩, -, X', ⟨L, hQ, l1, y1, z1⟩, st⟩ := Jvm.LawKit.callS X hx (y := y) hown (mvT hZ w1) (mvT hZ w2) (mvT hZ w3) (mvT hZ w4) hy (backOf (W := W) hM hZ w4 w3 hf hl) (g := g) hg hsize (argsL := argsL) (rest := rest) hlen hstack hW hdg (fun _ _ => ⟨ha, eT, hc, hs⟩)
  dsimp only [Pt.U, Pt.locs, Pt.cells, Pt.slots] at X' l1 y1 z1 st hQ
  subst l1 y1 z1 ec es
  exact ⟨v, T', _, L, X', fun q => N.app q, hQ, st⟩
theorem own_ci (X : Stand p l e R s m args below meth c T locs cells slots) (hx : p.tables.exec = Jvm.exec) (hZ : Z.Warmed39 s.vm) {own : String} {index : Nat} {y : MethodName} {bytes : ByteArray} {maxL : Nat} {rm : Room} {W : Nat} {as' : Array Value} {Q : Option Value → Heap → List Loc → Prop} (hy1 : y.name = "<init>") (hown : s.vm.findClass own = some m.cls)
    (w1 : (Cond.methodLink own index y).before a0 Z = true) (w2 : (Cond.instanceMethod y).before a0 Z = true) (w3 : (Cond.initialized y.cls).before a0 Z = true) (w4 : (Cond.code y bytes maxL none).before a0 Z = true)
    (hM : MetFree l y (head1 [Cond.code y bytes maxL none] rm) (fun a U => a = as' ∧ Z.Warmed39 U.vm ∧ U.heap = h) (fun _ _ _ _ _ => True) (fun _ U o U' => ∃ v L, o = .returned v ∧ Q v U'.heap L ∧ FrameEnd U o U' L rm.cells rm.slots))
    {g : JFrame} (hg : g.method = m) (hsize : g.locals.size = c.maxLocals) {a : Addr} {argsL rest : List Value} (ha : (Value.ref a :: argsL).toArray = as') (hlen : ∀ sig, parseMethodDescriptor y.desc = some sig → argsL.length = sig.parameters.length) (hstack : g.stack = argsL.reverse ++ .ref a :: rest)
    (hdg : decode c.code g.pc = .ok (.invokespecial index, 3)) (eT : T.heap = h) {n0 : Nat} (N : Fr n0 locs) {c' s' : Nat} (hy : y.cls ≠ "java/lang/invoke/MethodHandle" ∧ y.cls ≠ "java/lang/invoke/VarHandle" := by decide) (hf : rm.frames + 1 ≤ R.frames := by decide) (hl : W + (maxL + 11) + rm.locals ≤ R.locals := by decide) (hW : 2 * g.monitorRoom + (rest.map fun v => v.category).sum ≤ W := by show 2 * 0 + _ ≤ _; exact Nat.le_of_eq rfl)
    (hc : cells + rm.cells ≤ R.cells := by decide) (hs : slots + rm.slots ≤ R.slots := by decide) (ec : cells + rm.cells = c' := by rfl) (es : slots + rm.slots = s' := by rfl) :
    ∃ (v : Option Value) (T' : State) (L' L : List Loc), Stand p l e R s m args below meth c T' L' c' s' ∧ (Fr n0 L → Fr n0 L') ∧ Q v T'.heap L ∧ ∀ target, Steps p.tables e below (T'.setTop { g with pc := g.pc + 3, stack := v.toList ++ rest }) target → Steps p.tables e below (T.setTop g) target := by
  obtain ⟨v, vm1, ⟨T', L', k', n'⟩, -, X', ⟨L, hQ, l1, y1, z1⟩, st⟩ := X.specialBack hx (y := y) hy1 hown (mvT hZ w1) (mvT hZ w2) (mvT hZ w4) hy (backOf (W := W) hM hZ w4 w3 hf hl) (g := g) hg hsize (Steps.refl _) (a := a) (argsL := argsL) (rest := rest) hlen hstack hW hdg (fun _ _ => ⟨ha, eT, hc, hs⟩)
  dsimp only [Pt.U, Pt.locs, Pt.cells, Pt.slots] at X' l1 y1 z1 st hQ
  subst l1 y1 z1 ec es
  exact ⟨v, T', _, L, X', fun q => N.app q, hQ, fun _ k => st.trans k⟩
theorem own_cv (X : Stand p l e R s m args below meth c T locs cells slots) (hx : p.tables.exec = Jvm.exec) (hZ : Z.Warmed39 s.vm) {own C : String} {index : Nat} {y : MethodName} {bytes : ByteArray} {maxL : Nat} {ret : Option FieldType} {rm : Room} {W : Nat} {as' : Array Value} {Q : Option Value → Heap → List Loc → Prop} (hown : s.vm.findClass own = some m.cls)
    (w1 : (Cond.methodLink own index y).before a0 Z = true) (w2 : (Cond.declares y).before a0 Z = true) (w5 : (Cond.selects C y y).before a0 Z = true) (w6 : (Cond.instanceMethod y).before a0 Z = true) (w3 : (Cond.initialized y.cls).before a0 Z = true) (w4 : (Cond.code y bytes maxL ret).before a0 Z = true)
    (hM : MetFree l y (head1 [Cond.code y bytes maxL ret] rm) (fun a U => a = as' ∧ Z.Warmed39 U.vm ∧ U.heap = h) (fun _ _ _ _ _ => True) (fun _ U o U' => ∃ v L, o = .returned v ∧ Q v U'.heap L ∧ FrameEnd U o U' L rm.cells rm.slots))
    {g : JFrame} (hg : g.method = m) (hsize : g.locals.size = c.maxLocals) {a : Addr} (E : Exa Z h a C) {argsL rest : List Value} (ha : (Value.ref a :: argsL).toArray = as') (hlen : ∀ sig, parseMethodDescriptor y.desc = some sig → argsL.length = sig.parameters.length) (hstack : g.stack = argsL.reverse ++ .ref a :: rest)
    (hdg : decode c.code g.pc = .ok (.invokevirtual index, 3)) (eT : T.heap = h) {n0 : Nat} (N : Fr n0 locs) {c' s' : Nat} (hy : y.cls ≠ "java/lang/invoke/MethodHandle" ∧ y.cls ≠ "java/lang/invoke/VarHandle" := by decide) (hf : rm.frames + 1 ≤ R.frames := by decide) (hl : W + (maxL + 11) + rm.locals ≤ R.locals := by decide) (hW : 2 * g.monitorRoom + (rest.map fun v => v.category).sum ≤ W := by show 2 * 0 + _ ≤ _; exact Nat.le_of_eq rfl)
    (hc : cells + rm.cells ≤ R.cells := by decide) (hs : slots + rm.slots ≤ R.slots := by decide) (ec : cells + rm.cells = c' := by rfl) (es : slots + rm.slots = s' := by rfl) :
    ∃ (v : Option Value) (T' : State) (L' L : List Loc), Stand p l e R s m args below meth c T' L' c' s' ∧ (Fr n0 L → Fr n0 L') ∧ Q v T'.heap L ∧ ∀ target, Steps p.tables e below (T'.setTop { g with pc := g.pc + 3, stack := v.toList ++ rest }) target → Steps p.tables e below (T.setTop g) target := by
  obtain ⟨cq, kq, qa, qb, qc⟩ := isOf hZ eT E
  obtain ⟨v, vm1, ⟨T', L', k', n'⟩, -, X', ⟨L, hQ, l1, y1, z1⟩, st⟩ := X.virtualBack hx (y := y) (z := y) hown (mvT hZ w1) (mvT hZ w2) (notFace_of_selects (args := #[]) (mvT hZ w5)) (mvT hZ w5) (mvT hZ w6) hy (backOf (W := W) hM hZ w4 w3 hf hl) qa qc (g := g) hg hsize (Steps.refl _) (argsL := argsL) (rest := rest) hlen hstack hW hdg (fun _ _ => ⟨ha, eT, hc, hs⟩)
  dsimp only [Pt.U, Pt.locs, Pt.cells, Pt.slots] at X' l1 y1 z1 st hQ
  subst l1 y1 z1 ec es
  exact ⟨v, T', _, L, X', fun q => N.app q, hQ, fun _ k => st.trans k⟩
theorem own_cp (X : Stand p l e R s m args below meth c T locs cells slots) (hx : p.tables.exec = Jvm.exec) (hZ : Z.Warmed39 s.vm) {own C : String} {index kk : Nat} {y : MethodName} {bytes : ByteArray} {maxL : Nat} {ret : Option FieldType} {rm : Room} {W : Nat} {as' : Array Value} {Q : Option Value → Heap → List Loc → Prop} (hown : s.vm.findClass own = some m.cls)
    (w1 : (Cond.methodLink own index y).before a0 Z = true) (w2 : (Cond.privateMethod y).before a0 Z = true) (w5 : (Cond.instantiable y.cls kk).before a0 Z = true) (w6 : (Cond.instanceMethod y).before a0 Z = true) (w3 : (Cond.initialized y.cls).before a0 Z = true) (w4 : (Cond.code y bytes maxL ret).before a0 Z = true)
    (hM : MetFree l y (head1 [Cond.code y bytes maxL ret] rm) (fun a U => a = as' ∧ Z.Warmed39 U.vm ∧ U.heap = h) (fun _ _ _ _ _ => True) (fun _ U o U' => ∃ v L, o = .returned v ∧ Q v U'.heap L ∧ FrameEnd U o U' L rm.cells rm.slots))
    {g : JFrame} (hg : g.method = m) (hsize : g.locals.size = c.maxLocals) {a : Addr} (E : Exa Z h a C) {argsL rest : List Value} (ha : (Value.ref a :: argsL).toArray = as') (hlen : ∀ sig, parseMethodDescriptor y.desc = some sig → argsL.length = sig.parameters.length) (hstack : g.stack = argsL.reverse ++ .ref a :: rest)
    (hdg : decode c.code g.pc = .ok (.invokevirtual index, 3)) (eT : T.heap = h) {n0 : Nat} (N : Fr n0 locs) {c' s' : Nat} (hy : y.cls ≠ "java/lang/invoke/MethodHandle" ∧ y.cls ≠ "java/lang/invoke/VarHandle" := by decide) (hf : rm.frames + 1 ≤ R.frames := by decide) (hl : W + (maxL + 11) + rm.locals ≤ R.locals := by decide) (hW : 2 * g.monitorRoom + (rest.map fun v => v.category).sum ≤ W := by show 2 * 0 + _ ≤ _; exact Nat.le_of_eq rfl)
    (hc : cells + rm.cells ≤ R.cells := by decide) (hs : slots + rm.slots ≤ R.slots := by decide) (ec : cells + rm.cells = c' := by rfl) (es : slots + rm.slots = s' := by rfl) :
    ∃ (v : Option Value) (T' : State) (L' L : List Loc), Stand p l e R s m args below meth c T' L' c' s' ∧ (Fr n0 L → Fr n0 L') ∧ Q v T'.heap L ∧ ∀ target, Steps p.tables e below (T'.setTop { g with pc := g.pc + 3, stack := v.toList ++ rest }) target → Steps p.tables e below (T.setTop g) target := by
  obtain ⟨cq, q, q'⟩ := E.cell
  obtain ⟨v, vm1, ⟨T', L', k', n'⟩, -, X', ⟨L, hQ, l1, y1, z1⟩, st⟩ := X.privateBack hx (y := y) hown (mvT hZ w1) (mvT hZ w6) (own_sel hZ w5 w2 w6 hy) (Cond.privateMethod_at (mvP hZ w2 (args := #[]))) (mvT hZ w4) hy (backOf (W := W) hM hZ w4 w3 hf hl) (g := g) hg hsize (Steps.refl _) (a := a) (by rw [eT]; exact q) q' (argsL := argsL) (rest := rest) hlen hstack hW hdg (fun _ _ => ⟨ha, eT, hc, hs⟩)
  dsimp only [Pt.U, Pt.locs, Pt.cells, Pt.slots] at X' l1 y1 z1 st hQ
  subst l1 y1 z1 ec es
  exact ⟨v, T', _, L, X', fun q => N.app q, hQ, fun _ k => st.trans k⟩
theorem om0 {α : Type} {a : α} {l : List α} : a ∈ a :: l := List.mem_cons_self
theorem om1 {α : Type} {a b : α} {l : List α} : a ∈ b :: a :: l := List.mem_cons_of_mem _ om0
theorem om2 {α : Type} {a b c : α} {l : List α} : a ∈ b :: c :: a :: l := List.mem_cons_of_mem _ om1
theorem om3 {α : Type} {a b c d : α} {l : List α} : a ∈ b :: c :: d :: a :: l := List.mem_cons_of_mem _ om2
end Calls
end Jvm.RoadKit
namespace Jvm.Pilot.@@N@@
open Jvm Jvm.ClassFile Sem Op Lib Jvm.Free Jvm.Stand Jvm.LawKit Jvm.RoadKit Bundle Jvm.Pilot.@@N@@.Jvm.D
abbrev cH : String := "com/example/admit_one/admitone/engine/DueOrder$Head"
abbrev cL : String := "com/example/admit_one/admitone/engine/DueOrder$Link"
abbrev cD : String := "com/example/admit_one/admitone/engine/DueOrder"
abbrev dA : String := "[Lcom/example/admit_one/admitone/engine/DueOrder$Head;"
abbrev dL : String := "Lcom/example/admit_one/admitone/engine/DueOrder$Link;"
abbrev y0 : MethodName := ⟨"com/example/admit_one/admitone/engine/DueOrder", "<init>", "()V"⟩
abbrev y1 : MethodName := ⟨"com/example/admit_one/admitone/engine/DueOrder$Link", "<init>", "()V"⟩
abbrev y2 : MethodName := ⟨"com/example/admit_one/admitone/engine/DueOrder", "file", "(Lcom/example/admit_one/admitone/engine/DueOrder$Link;J)V"⟩
abbrev y3 : MethodName := ⟨"com/example/admit_one/admitone/engine/DueOrder", "headOf", "(J)Lcom/example/admit_one/admitone/engine/DueOrder$Head;"⟩
abbrev y4 : MethodName := ⟨"com/example/admit_one/admitone/engine/DueOrder", "dueBy", "(J)I"⟩
abbrev y5 : MethodName := ⟨"com/example/admit_one/admitone/engine/DueOrder$Head", "<init>", "(J)V"⟩
abbrev y6 : MethodName := ⟨"com/example/admit_one/admitone/engine/DueOrder", "firstTick", "()J"⟩
abbrev y7 : MethodName := ⟨"com/example/admit_one/admitone/engine/DueOrderFirstTickPinLaw", "minOf", "(JJJJII)J"⟩
abbrev y8 : MethodName := ⟨"com/example/admit_one/admitone/engine/DueOrder", "remove", "(Lcom/example/admit_one/admitone/engine/DueOrder$Link;)V"⟩
abbrev y9 : MethodName := ⟨"com/example/admit_one/admitone/engine/DueOrder", "drop", "(Lcom/example/admit_one/admitone/engine/DueOrder$Head;)V"⟩
abbrev y10 : MethodName := ⟨"com/example/admit_one/admitone/engine/DueOrder", "shrinkIfSparse", "()V"⟩
theorem wq {Z : State} {az : Array Value} (hw : ∀ d ∈ tables_1, d.before az Z = true) (i : Nat) {d : Jvm.Cond} (h : tables_1[i]? = some d) : d.before az Z = true := hw _ (List.mem_of_getElem? h)
abbrev sh0 (v0 : Addr) (v1 : Int64) : Array Slot := #[.val (.ref v0), .val (.long v1), .second]
abbrev sh1 (v0 : Addr) (v1 : Int64) : Array Slot := #[.val (.ref v0), .val (.long v1), .second, .unset, .unset, .unset]
abbrev sh2 (v0 : Addr) (v1 : Int64) (v3 : Int32) : Array Slot := #[.val (.ref v0), .val (.long v1), .second, .val (.int v3), .unset, .unset]
abbrev sh3 (v0 : Addr) (v1 : Int64) (v3 : Int32) (v4 : Int32) : Array Slot := #[.val (.ref v0), .val (.long v1), .second, .val (.int v3), .val (.int v4), .unset]
abbrev sh4 (v0 : Addr) (v1 : Int64) (v3 : Int32) (v4 : Int32) (v5 : Int32) : Array Slot := #[.val (.ref v0), .val (.long v1), .second, .val (.int v3), .val (.int v4), .val (.int v5)]
abbrev sh5 (v0 : Addr) (v1 : Int64) : Array Slot := #[.val (.ref v0), .val (.long v1), .second, .unset, .unset]
abbrev sh6 (v0 : Addr) (v1 : Int64) (v3 : Int32) : Array Slot := #[.val (.ref v0), .val (.long v1), .second, .val (.int v3), .unset]
abbrev sh7 (v0 : Addr) (v1 : Int64) (v3 : Int32) (v4 : Addr) : Array Slot := #[.val (.ref v0), .val (.long v1), .second, .val (.int v3), .val (.ref v4)]
abbrev sh8 (v0 : Addr) (v1 : Addr) : Array Slot := #[.val (.ref v0), .val (.ref v1), .unset]
abbrev sh9 (v0 : Addr) (v1 : Addr) (v2 : Int32) : Array Slot := #[.val (.ref v0), .val (.ref v1), .val (.int v2)]
abbrev sh10 (v0 : Addr) (v1 : Addr) (v2 : Int64) : Array Slot := #[.val (.ref v0), .val (.ref v1), .val (.long v2), .second, .unset]
abbrev sh11 (v0 : Addr) (v1 : Addr) (v2 : Int64) (v4 : Addr) : Array Slot := #[.val (.ref v0), .val (.ref v1), .val (.long v2), .second, .val (.ref v4)]
abbrev sh12 (v0 : Addr) (v1 : Addr) (v2 : Addr) : Array Slot := #[.val (.ref v0), .val (.ref v1), .val (.ref v2)]
abbrev sh13 (v0 : Int64) (v2 : Int64) : Array Slot := #[.val (.long v0), .second, .val (.long v2), .second]
abbrev sh14 (v0 : Int64) (v2 : Int64) (v4 : Int64) (v6 : Int64) (v8 : Int32) (v9 : Int32) (v10 : Int64) : Array Slot := #[.val (.long v0), .second, .val (.long v2), .second, .val (.long v4), .second, .val (.long v6), .second, .val (.int v8), .val (.int v9), .val (.long v10), .second]
abbrev sh15 (v0 : Int64) (v2 : Int64) (v4 : Int64) (v6 : Int64) (v8 : Int32) (v9 : Int32) : Array Slot := #[.val (.long v0), .second, .val (.long v2), .second, .val (.long v4), .second, .val (.long v6), .second, .val (.int v8), .val (.int v9), .unset, .unset]
abbrev sh16 (v0 : Int64) (v2 : Int64) (v4 : Int64) (v6 : Int64) (v8 : Int32) : Array Slot := #[.val (.long v0), .second, .val (.long v2), .second, .val (.long v4), .second, .val (.long v6), .second, .val (.int v8), .unset, .unset, .unset, .unset, .unset, .unset, .unset, .unset, .unset, .unset]
abbrev sh17 (v0 : Int64) (v2 : Int64) (v4 : Int64) (v6 : Int64) (v8 : Int32) (v9 : Int32) : Array Slot := #[.val (.long v0), .second, .val (.long v2), .second, .val (.long v4), .second, .val (.long v6), .second, .val (.int v8), .val (.int v9), .unset, .unset, .unset, .unset, .unset, .unset, .unset, .unset, .unset]
abbrev sh18 (v0 : Int64) (v2 : Int64) (v4 : Int64) (v6 : Int64) (v8 : Int32) (v9 : Int32) (v10 : Int32) : Array Slot := #[.val (.long v0), .second, .val (.long v2), .second, .val (.long v4), .second, .val (.long v6), .second, .val (.int v8), .val (.int v9), .val (.int v10), .unset, .unset, .unset, .unset, .unset, .unset, .unset, .unset]
abbrev sh19 (v0 : Int64) (v2 : Int64) (v4 : Int64) (v6 : Int64) (v8 : Int32) (v9 : Int32) (v10 : Int32) (v11 : Addr) (v12 : Addr) (v13 : Addr) (v14 : Addr) (v15 : Addr) : Array Slot := #[.val (.long v0), .second, .val (.long v2), .second, .val (.long v4), .second, .val (.long v6), .second, .val (.int v8), .val (.int v9), .val (.int v10), .val (.ref v11), .val (.ref v12), .val (.ref v13), .val (.ref v14), .val (.ref v15), .unset, .unset, .unset]
abbrev sh20 (v0 : Int64) (v2 : Int64) (v4 : Int64) (v6 : Int64) (v8 : Int32) (v9 : Int32) (v10 : Int32) (v11 : Addr) (v12 : Addr) (v13 : Addr) (v14 : Addr) (v15 : Addr) (v16 : Int32) (v17 : Int32) (v18 : Slot) : Array Slot := #[.val (.long v0), .second, .val (.long v2), .second, .val (.long v4), .second, .val (.long v6), .second, .val (.int v8), .val (.int v9), .val (.int v10), .val (.ref v11), .val (.ref v12), .val (.ref v13), .val (.ref v14), .val (.ref v15), .val (.int v16), .val (.int v17), v18]
abbrev sh21 (v0 : Int64) (v2 : Int64) (v4 : Int64) (v6 : Int64) (v8 : Int32) (v9 : Int32) (v10 : Int32) (v11 : Addr) (v12 : Addr) (v13 : Addr) (v14 : Addr) (v15 : Addr) (v16 : Int32) (v17 : Int32) : Array Slot := #[.val (.long v0), .second, .val (.long v2), .second, .val (.long v4), .second, .val (.long v6), .second, .val (.int v8), .val (.int v9), .val (.int v10), .val (.ref v11), .val (.ref v12), .val (.ref v13), .val (.ref v14), .val (.ref v15), .val (.int v16), .val (.int v17), .unset]
abbrev sh22 (v0 : Int64) (v2 : Int64) (v4 : Int64) (v6 : Int64) (v8 : Int32) (v9 : Int32) (v10 : Int32) (v11 : Addr) (v12 : Addr) (v13 : Addr) (v14 : Addr) (v15 : Addr) (v16 : Int32) (v17 : Int32) (v18 : Int32) : Array Slot := #[.val (.long v0), .second, .val (.long v2), .second, .val (.long v4), .second, .val (.long v6), .second, .val (.int v8), .val (.int v9), .val (.int v10), .val (.ref v11), .val (.ref v12), .val (.ref v13), .val (.ref v14), .val (.ref v15), .val (.int v16), .val (.int v17), .val (.int v18)]
abbrev sh23 (v0 : Int64) (v2 : Int64) (v4 : Int64) (v6 : Int64) (v8 : Int32) (v9 : Int32) (v10 : Int32) (v11 : Addr) (v12 : Addr) (v13 : Addr) (v14 : Addr) (v15 : Addr) (v16 : Int32) (v17 : Int32) (v18 : Addr) : Array Slot := #[.val (.long v0), .second, .val (.long v2), .second, .val (.long v4), .second, .val (.long v6), .second, .val (.int v8), .val (.int v9), .val (.int v10), .val (.ref v11), .val (.ref v12), .val (.ref v13), .val (.ref v14), .val (.ref v15), .val (.int v16), .val (.int v17), .val (.ref v18)]
abbrev sh24 (v0 : Int64) (v2 : Int64) (v4 : Int64) (v6 : Int64) (v8 : Int32) (v9 : Int32) (v10 : Int32) (v11 : Addr) (v12 : Addr) (v13 : Addr) (v14 : Addr) (v15 : Addr) (v16 : Int32) : Array Slot := #[.val (.long v0), .second, .val (.long v2), .second, .val (.long v4), .second, .val (.long v6), .second, .val (.int v8), .val (.int v9), .val (.int v10), .val (.ref v11), .val (.ref v12), .val (.ref v13), .val (.ref v14), .val (.ref v15), .val (.int v16), .unset, .unset]
abbrev sh25 (v0 : Int64) (v2 : Int64) (v4 : Int64) (v6 : Int64) (v8 : Int32) (v9 : Int32) (v10 : Int32) (v11 : Addr) : Array Slot := #[.val (.long v0), .second, .val (.long v2), .second, .val (.long v4), .second, .val (.long v6), .second, .val (.int v8), .val (.int v9), .val (.int v10), .val (.ref v11), .unset, .unset, .unset, .unset, .unset, .unset, .unset]
abbrev sh26 (v0 : Int64) (v2 : Int64) (v4 : Int64) (v6 : Int64) (v8 : Int32) (v9 : Int32) (v10 : Int32) (v11 : Addr) (v12 : Addr) : Array Slot := #[.val (.long v0), .second, .val (.long v2), .second, .val (.long v4), .second, .val (.long v6), .second, .val (.int v8), .val (.int v9), .val (.int v10), .val (.ref v11), .val (.ref v12), .unset, .unset, .unset, .unset, .unset, .unset]
abbrev sh27 (v0 : Int64) (v2 : Int64) (v4 : Int64) (v6 : Int64) (v8 : Int32) (v9 : Int32) (v10 : Int32) (v11 : Addr) (v12 : Addr) (v13 : Addr) : Array Slot := #[.val (.long v0), .second, .val (.long v2), .second, .val (.long v4), .second, .val (.long v6), .second, .val (.int v8), .val (.int v9), .val (.int v10), .val (.ref v11), .val (.ref v12), .val (.ref v13), .unset, .unset, .unset, .unset, .unset]
abbrev sh28 (v0 : Int64) (v2 : Int64) (v4 : Int64) (v6 : Int64) (v8 : Int32) (v9 : Int32) (v10 : Int32) (v11 : Addr) (v12 : Addr) (v13 : Addr) (v14 : Addr) : Array Slot := #[.val (.long v0), .second, .val (.long v2), .second, .val (.long v4), .second, .val (.long v6), .second, .val (.int v8), .val (.int v9), .val (.int v10), .val (.ref v11), .val (.ref v12), .val (.ref v13), .val (.ref v14), .unset, .unset, .unset, .unset]
theorem d3_0 : decode prog_6_method_1_code 0 = .ok (.aload_n 0, 1) := by decide +kernel
theorem d3_1 : decode prog_6_method_1_code 1 = .ok (.invokespecial 1, 3) := by decide +kernel
theorem d3_4 : decode prog_6_method_1_code 4 = .ok (.return_, 1) := by decide +kernel
def QLinkI (Z : State) (a0 : Addr) (h0 : Heap) (n0 : Nat) (v : Option Value) (h : Heap) (L : List Loc) : Prop := v = none ∧ Fr n0 L ∧ h = h0
theorem own_pn_com_example_admit_one_admitone_engine_DueOrder_Link : plainName cL = true := by first | (simp [plainName, overriddenIn]; done) | decide +kernel
theorem efLinkI (m : MethodId) (x0 : Addr) : entryFrame m #[(.ref x0)] 1 = mkF m 0 #[.val (.ref x0)] [] := by first | (simp [entryFrame, mkF, argsToLocals, Value.category]; done) | rfl
set_option maxRecDepth 65536 in
set_option maxHeartbeats 40000000 in
theorem rmLinkI (l : Launch) (Z : State) (az : Array Value) (hw : ∀ d ∈ tables_1, d.before az Z = true) (ws : List Jvm.Cond) (a0 : Addr) (h0 : Heap) (n0 : Nat) (Z0 : n0 ≤ h0.size) :
    MetFree l y1 (head1 (Jvm.Cond.code y1 prog_6_method_1_code 1 none :: ws) ({ frames := 1, cells := 0, slots := 0, locals := 12 } : Room)) (fun a U => a = #[(.ref a0)] ∧ Z.Warmed39 U.vm ∧ U.heap = h0) (fun _ _ _ _ _ => True) (fun _ U o U' => ∃ v L, o = .returned v ∧ QLinkI Z a0 h0 n0 v U'.heap L ∧ FrameEnd U o U' L ({ frames := 1, cells := 0, slots := 0, locals := 12 } : Room).cells ({ frames := 1, cells := 0, slots := 0, locals := 12 } : Room).slots) := by
  refine MetFree.of_bodySF (plainFor_of_name own_pn_com_example_admit_one_admitone_engine_DueOrder_Link) hisR ?_
  intro p e s m args below meth c s₁ Bd hml0 hP hK
  obtain ⟨rfl, hZ, hh⟩ := hP
  have hx := Bd.exec
  have hby := Bd.bytes
  have hml : c.maxLocals = 1 := hml0
  have hown : s.vm.findClass cL = some m.cls := findClass_of_methodNamed Bd.named
  have hnm := (name_of_methodNamed Bd.named Bd.method).1
  have X0 : Stand p l e ({ frames := 1, cells := 0, slots := 0, locals := 12 } : Room) s m #[(.ref a0)] below meth c s₁ [] 0 0 := Stand.of_body Bd
  have e0 : s₁.heap = h0 := by rw [← hh, Bd.state]; rfl
  have N0 := Fr.nil n0
  have Kp0 : Keep h0 h0 [] := Keep.refl _ _
  refine Goes.start ?_
  refine Gb (B := s₁.setTop (mkF m 0 #[.val (.ref a0)] [])) (fun t k => castTop (efLinkI m a0) k) ?_
  refine Gb (fun _ => XS.aloadN X0.here hx rfl (hb hby d3_0) rfl rfl) ?_
  obtain ⟨T1, X1, e1, st1⟩ := initO X0 hx hZ hown (wq hw 19 rfl) (wq hw 7 rfl) (wq hw 8 rfl) e0 (g := (mkF m 1 #[.val (.ref a0)] [(.ref a0)])) rfl (by rw [hml]; rfl) rfl (hb hby d3_1) (by decide) (W := 0) (by show 2 * 0 + _ ≤ _; exact Nat.le_of_eq rfl) (by decide)
  refine Gb st1 ?_
  obtain ⟨fs, hr, hrun, hended, hW, hsame⟩ := X1.leave (v := none) (fun _ => rfl)
  refine Goes.mk _ _ ?_ ⟨hrun, hended, _, _, rfl, ?_, ⟨_, rfl⟩, hW, hsame.mono (by decide) (by decide)⟩
  · exact X1.returnOut hx Bd.returns (hb hby d3_4) hr
  · show QLinkI Z a0 h0 n0 _ T1.heap _
    rw [e1]
    exact ⟨rfl, N0, rfl⟩
theorem d1_0 : decode prog_4_method_1_code 0 = .ok (.aload_n 0, 1) := by decide +kernel
theorem d1_1 : decode prog_4_method_1_code 1 = .ok (.invokespecial 1, 3) := by decide +kernel
theorem d1_4 : decode prog_4_method_1_code 4 = .ok (.aload_n 0, 1) := by decide +kernel
theorem d1_5 : decode prog_4_method_1_code 5 = .ok (.iconst 4, 1) := by decide +kernel
theorem d1_6 : decode prog_4_method_1_code 6 = .ok (.anewarray 9, 3) := by decide +kernel
theorem d1_9 : decode prog_4_method_1_code 9 = .ok (.putfield 11, 3) := by decide +kernel
theorem d1_12 : decode prog_4_method_1_code 12 = .ok (.return_, 1) := by decide +kernel
def QDueI (Z : State) (a0 : Addr) (h0 : Heap) (n0 : Nat) (v : Option Value) (h : Heap) (L : List Loc) : Prop := ∃ ar : Addr, ∃ kA : ClassId, v = none ∧ Fr n0 L ∧ Keep h0 h [a0] ∧ h0.size ≤ ar ∧ Exa Z h a0 cD ∧ Fld Z h a0 cD "heads" dA (.ref ar) ∧ Fld Z h a0 cD "count" "I" (.int (0 : Int32)) ∧ Arv Z h ar kA (.object cH) (4 : Int32) [.null, .null, .null, .null] .null ∧ Ovr Z kA cH
theorem own_pn_com_example_admit_one_admitone_engine_DueOrder : plainName cD = true := by first | (simp [plainName, overriddenIn]; done) | decide +kernel
theorem efDueI (m : MethodId) (x0 : Addr) : entryFrame m #[(.ref x0)] 1 = mkF m 0 #[.val (.ref x0)] [] := by first | (simp [entryFrame, mkF, argsToLocals, Value.category]; done) | rfl
set_option maxRecDepth 65536 in
set_option maxHeartbeats 40000000 in
theorem rmDueI (l : Launch) (Z : State) (az : Array Value) (hw : ∀ d ∈ tables_1, d.before az Z = true) (ws : List Jvm.Cond) (a0 : Addr) (h0 : Heap) (n0 : Nat) (Z0 : n0 ≤ h0.size) (F0 : Exa Z h0 a0 cD) (F1 : Fld Z h0 a0 cD "heads" dA .null) (F2 : Fld Z h0 a0 cD "count" "I" (.int (0 : Int32))) (Ge0 : n0 ≤ a0) :
    MetFree l y0 (head1 (Jvm.Cond.code y0 prog_4_method_1_code 1 none :: ws) ({ frames := 1, cells := 1, slots := 4, locals := 12 } : Room)) (fun a U => a = #[(.ref a0)] ∧ Z.Warmed39 U.vm ∧ U.heap = h0) (fun _ _ _ _ _ => True) (fun _ U o U' => ∃ v L, o = .returned v ∧ QDueI Z a0 h0 n0 v U'.heap L ∧ FrameEnd U o U' L ({ frames := 1, cells := 1, slots := 4, locals := 12 } : Room).cells ({ frames := 1, cells := 1, slots := 4, locals := 12 } : Room).slots) := by
  refine MetFree.of_bodySF (plainFor_of_name own_pn_com_example_admit_one_admitone_engine_DueOrder) hisR ?_
  intro p e s m args below meth c s₁ Bd hml0 hP hK
  obtain ⟨rfl, hZ, hh⟩ := hP
  have hx := Bd.exec
  have hby := Bd.bytes
  have hml : c.maxLocals = 1 := hml0
  have hown : s.vm.findClass cD = some m.cls := findClass_of_methodNamed Bd.named
  have hnm := (name_of_methodNamed Bd.named Bd.method).1
  have X0 : Stand p l e ({ frames := 1, cells := 1, slots := 4, locals := 12 } : Room) s m #[(.ref a0)] below meth c s₁ [] 0 0 := Stand.of_body Bd
  have e0 : s₁.heap = h0 := by rw [← hh, Bd.state]; rfl
  have N0 := Fr.nil n0
  have Kp0 : Keep h0 h0 [a0] := Keep.refl _ _
  refine Goes.start ?_
  refine Gb (B := s₁.setTop (mkF m 0 #[.val (.ref a0)] [])) (fun t k => castTop (efDueI m a0) k) ?_
  refine Gb (fun _ => XS.aloadN X0.here hx rfl (hb hby d1_0) rfl rfl) ?_
  obtain ⟨T1, X1, e1, st1⟩ := initO X0 hx hZ hown (wq hw 6 rfl) (wq hw 7 rfl) (wq hw 8 rfl) e0 (g := (mkF m 1 #[.val (.ref a0)] [(.ref a0)])) rfl (by rw [hml]; rfl) rfl (hb hby d1_1) (by decide) (W := 0) (by show 2 * 0 + _ ≤ _; exact Nat.le_of_eq rfl) (by decide)
  refine Gb st1 ?_
  refine Gb (fun _ => XS.aloadN X1.here hx rfl (hb hby d1_4) rfl rfl) ?_
  refine Gb (fun _ => XS.iconst X1.here hx rfl (hb hby d1_5)) ?_
  obtain ⟨T2, h2, k2, X2, e2, E2, A2, O2, st2⟩ := newR X1 hx hZ hown (wq hw 9 rfl) (wq hw 10 rfl) e1 (g := (mkF m 6 #[.val (.ref a0)] [(.int (4 : Int32)), (.ref a0)])) rfl (hb hby d1_6) rfl (by decide) (cap := 4) (by decide) (by decide) (by decide) (by decide)
  obtain ⟨b3, g2⟩ : ∃ z, z = h0.size := ⟨_, rfl⟩
  rw [← g2] at A2 st2
  have ne4 : a0 ≠ b3 := Nat.ne_of_lt (Nat.lt_of_lt_of_le F0.lt (Nat.le_of_eq g2.symm))
  have ge5 : n0 ≤ b3 := Nat.le_trans Z0 (Nat.le_of_eq g2.symm)
  have sz6 : h0.size ≤ b3 := Nat.le_trans Kp0.1 (Nat.le_of_eq g2.symm)
  have f7 := F0.ext E2
  have f8 := F1.ext E2
  have f9 := F2.ext E2
  have f10 : Arv Z h2 b3 k2 (.object cH) (4 : Int32) [.null, .null, .null, .null] .null := (Arv.new A2 (by decide)).pad (pad_rep [] .null 4)
  have Kp2 : Keep h0 h2 [a0] := Kp0.ext E2
  have Z11 := Nat.le_trans Z0 E2.1
  refine Gb st2 ?_
  obtain ⟨T12, h12, X12, e12, W12, st12⟩ := putF X2 hx hZ hown (host := "") (Or.inl (wq hw 11 rfl)) Via.refl e2 f8 f7 (Or.inl (wq hw 12 rfl)) (wq hw 1 rfl) (ty := (.array (.object cH))) (by decide) rfl rfl (g := (mkF m 9 #[.val (.ref a0)] [(.ref b3), (.ref a0)])) rfl rfl (hb hby d1_9)
  have f13 := f7.wr W12
  have f14 := f9.other W12 (Or.inr (slot_ne (Or.inl (wq hw 30 rfl)) (Or.inl (wq hw 12 rfl)) (by decide) (t := .int) (t' := (.array (.object cH))) (by decide) (by decide)))
  have f15 := f10.other W12 (Ne.symm ne4)
  have f16 : Fld Z h12 a0 cD "heads" dA (.ref b3) := f8.same W12
  have Kp12 : Keep h0 h12 [a0] := Kp2.wr W12 (Or.inl om0)
  have Z17 := Nat.le_trans Z11 (Nat.le_of_eq W12.size.symm)
  have N18 := Fr.snoc X12 N0 Ge0
  refine Gb st12 ?_
  obtain ⟨fs, hr, hrun, hended, hW, hsame⟩ := X12.leave (v := none) (fun _ => rfl)
  refine Goes.mk _ _ ?_ ⟨hrun, hended, _, _, rfl, ?_, ⟨_, rfl⟩, hW, hsame.mono (by decide) (by decide)⟩
  · exact X12.returnOut hx Bd.returns (hb hby d1_12) hr
  · show QDueI Z a0 h0 n0 _ T12.heap _
    rw [e12]
    exact ⟨b3, k2, rfl, N18, Kp12, sz6, f13, f16, f14, f15, O2⟩
theorem d7_0 : decode prog_5_method_1_code 0 = .ok (.aload_n 0, 1) := by decide +kernel
theorem d7_1 : decode prog_5_method_1_code 1 = .ok (.invokespecial 1, 3) := by decide +kernel
theorem own_pd0 : parseMethodDescriptor "()V" = some ⟨[], none⟩ := by decide +kernel
theorem d7_4 : decode prog_5_method_1_code 4 = .ok (.aload_n 0, 1) := by decide +kernel
theorem d7_5 : decode prog_5_method_1_code 5 = .ok (.lload_n 1, 1) := by decide +kernel
theorem d7_6 : decode prog_5_method_1_code 6 = .ok (.putfield 7, 3) := by decide +kernel
theorem d7_9 : decode prog_5_method_1_code 9 = .ok (.aload_n 0, 1) := by decide +kernel
theorem d7_10 : decode prog_5_method_1_code 10 = .ok (.aload_n 0, 1) := by decide +kernel
theorem d7_11 : decode prog_5_method_1_code 11 = .ok (.putfield 13, 3) := by decide +kernel
theorem d7_14 : decode prog_5_method_1_code 14 = .ok (.aload_n 0, 1) := by decide +kernel
theorem d7_15 : decode prog_5_method_1_code 15 = .ok (.aload_n 0, 1) := by decide +kernel
theorem d7_16 : decode prog_5_method_1_code 16 = .ok (.putfield 17, 3) := by decide +kernel
theorem d7_19 : decode prog_5_method_1_code 19 = .ok (.return_, 1) := by decide +kernel
def QHeadI (Z : State) (a0 : Addr) (q1 : Int64) (h0 : Heap) (n0 : Nat) (v : Option Value) (h : Heap) (L : List Loc) : Prop := v = none ∧ Fr n0 L ∧ Keep h0 h [a0] ∧ Exa Z h a0 cH ∧ Fld Z h a0 cH "tick" "J" (.long q1) ∧ Fld Z h a0 cL "next" dL (.ref a0) ∧ Fld Z h a0 cL "prev" dL (.ref a0)
theorem own_pn_com_example_admit_one_admitone_engine_DueOrder_Head : plainName cH = true := by first | (simp [plainName, overriddenIn]; done) | decide +kernel
theorem efHeadI (m : MethodId) (x0 : Addr) (x1 : Int64) : entryFrame m #[(.ref x0), (.long x1)] 3 = mkF m 0 #[.val (.ref x0), .val (.long x1), .second] [] := by first | (simp [entryFrame, mkF, argsToLocals, Value.category]; done) | rfl
set_option maxRecDepth 65536 in
set_option maxHeartbeats 40000000 in
theorem rmHeadI (l : Launch) (Z : State) (az : Array Value) (hw : ∀ d ∈ tables_1, d.before az Z = true) (ws : List Jvm.Cond) (a0 : Addr) (q1 : Int64) (h0 : Heap) (n0 : Nat) (Z0 : n0 ≤ h0.size) (F0 : Exa Z h0 a0 cH) (F1 : Fld Z h0 a0 cH "tick" "J" (.long (0 : Int64))) (F2 : Fld Z h0 a0 cL "next" dL .null) (F3 : Fld Z h0 a0 cL "prev" dL .null) (Ge0 : n0 ≤ a0) :
    MetFree l y5 (head1 (Jvm.Cond.code y5 prog_5_method_1_code 3 none :: ws) ({ frames := 2, cells := 0, slots := 0, locals := 24 } : Room)) (fun a U => a = #[(.ref a0), (.long q1)] ∧ Z.Warmed39 U.vm ∧ U.heap = h0) (fun _ _ _ _ _ => True) (fun _ U o U' => ∃ v L, o = .returned v ∧ QHeadI Z a0 q1 h0 n0 v U'.heap L ∧ FrameEnd U o U' L ({ frames := 2, cells := 0, slots := 0, locals := 24 } : Room).cells ({ frames := 2, cells := 0, slots := 0, locals := 24 } : Room).slots) := by
  refine MetFree.of_bodySF (plainFor_of_name own_pn_com_example_admit_one_admitone_engine_DueOrder_Head) hisR ?_
  intro p e s m args below meth c s₁ Bd hml0 hP hK
  obtain ⟨rfl, hZ, hh⟩ := hP
  have hx := Bd.exec
  have hby := Bd.bytes
  have hml : c.maxLocals = 3 := hml0
  have hown : s.vm.findClass cH = some m.cls := findClass_of_methodNamed Bd.named
  have hnm := (name_of_methodNamed Bd.named Bd.method).1
  have X0 : Stand p l e ({ frames := 2, cells := 0, slots := 0, locals := 24 } : Room) s m #[(.ref a0), (.long q1)] below meth c s₁ [] 0 0 := Stand.of_body Bd
  have e0 : s₁.heap = h0 := by rw [← hh, Bd.state]; rfl
  have N0 := Fr.nil n0
  have Kp0 : Keep h0 h0 [a0] := Keep.refl _ _
  refine Goes.start ?_
  refine Gb (B := s₁.setTop (mkF m 0 #[.val (.ref a0), .val (.long q1), .second] [])) (fun t k => castTop (efHeadI m a0 q1) k) ?_
  refine Gb (fun _ => XS.aloadN X0.here hx rfl (hb hby d7_0) rfl rfl) ?_
  obtain ⟨_, T1, L1, Lc1, X1, hF1, hQ1, st1⟩ := own_ci X0 hx hZ rfl hown (wq hw 44 rfl) (wq hw 17 rfl) (wq hw 15 rfl) (wq hw 18 rfl) (rmLinkI l Z az hw [] a0 h0 n0 Z0 ) (W := 0) (g := (mkF m 1 (sh0 a0 q1) [(.ref a0)])) rfl (by rw [hml]; rfl) (argsL := []) (rest := []) rfl (lenOf own_pd0 rfl) rfl (hb hby d7_1) e0 N0 (c' := 0) (s' := 0)
  obtain ⟨rfl, N1q, e1⟩ := hQ1
  have N2 := hF1 N1q
  refine Gb st1 ?_
  refine Gb (fun _ => XS.aloadN X1.here hx rfl (hb hby d7_4) rfl rfl) ?_
  refine Gb (fun _ => XS.lloadN X1.here hx rfl (hb hby d7_5) rfl) ?_
  obtain ⟨T3, h3, X3, e3, W3, st3⟩ := putF X1 hx hZ hown (host := "") (Or.inl (wq hw 46 rfl)) Via.refl e1 F1 F0 (Or.inr ⟨(wq hw 47 rfl), rfl, hnm⟩) (wq hw 39 rfl) (ty := .long) (by decide) rfl rfl (g := (mkF m 6 (sh0 a0 q1) [(.long q1), (.ref a0)])) rfl rfl (hb hby d7_6)
  have f4 := F0.wr W3
  have f5 := F2.other W3 (Or.inr (slot_ne (Or.inl (wq hw 49 rfl)) (Or.inr (wq hw 47 rfl)) (by decide) (t := (.object cL)) (t' := .long) (by decide) (by decide)))
  have f6 := F3.other W3 (Or.inr (slot_ne (Or.inl (wq hw 51 rfl)) (Or.inr (wq hw 47 rfl)) (by decide) (t := (.object cL)) (t' := .long) (by decide) (by decide)))
  have f7 : Fld Z h3 a0 cH "tick" "J" (.long q1) := F1.same W3
  have Kp3 : Keep h0 h3 [a0] := Kp0.wr W3 (Or.inl om0)
  have Z8 := Nat.le_trans Z0 (Nat.le_of_eq W3.size.symm)
  have N9 := Fr.snoc X3 N2 Ge0
  refine Gb st3 ?_
  refine Gb (fun _ => XS.aloadN X3.here hx rfl (hb hby d7_9) rfl rfl) ?_
  refine Gb (fun _ => XS.aloadN X3.here hx rfl (hb hby d7_10) rfl rfl) ?_
  obtain ⟨T10, h10, X10, e10, W10, st10⟩ := putF X3 hx hZ hown (Or.inr (wq hw 48 rfl)) Via.refl e3 f5 f4 (Or.inl (wq hw 49 rfl)) (wq hw 39 rfl) (ty := (.object cL)) (by decide) rfl rfl (g := (mkF m 11 (sh0 a0 q1) [(.ref a0), (.ref a0)])) rfl rfl (hb hby d7_11)
  have f11 := f4.wr W10
  have f12 := f6.other W10 (Or.inr (slot_ne (Or.inl (wq hw 51 rfl)) (Or.inl (wq hw 49 rfl)) (by decide) (t := (.object cL)) (t' := (.object cL)) (by decide) (by decide)))
  have f13 := f7.other W10 (Or.inr (slot_ne (Or.inr (wq hw 47 rfl)) (Or.inl (wq hw 49 rfl)) (by decide) (t := .long) (t' := (.object cL)) (by decide) (by decide)))
  have f14 : Fld Z h10 a0 cL "next" dL (.ref a0) := f5.same W10
  have Kp10 : Keep h0 h10 [a0] := Kp3.wr W10 (Or.inl om0)
  have Z15 := Nat.le_trans Z8 (Nat.le_of_eq W10.size.symm)
  have N16 := Fr.snoc X10 N9 Ge0
  refine Gb st10 ?_
  refine Gb (fun _ => XS.aloadN X10.here hx rfl (hb hby d7_14) rfl rfl) ?_
  refine Gb (fun _ => XS.aloadN X10.here hx rfl (hb hby d7_15) rfl rfl) ?_
  obtain ⟨T17, h17, X17, e17, W17, st17⟩ := putF X10 hx hZ hown (Or.inr (wq hw 50 rfl)) Via.refl e10 f12 f11 (Or.inl (wq hw 51 rfl)) (wq hw 39 rfl) (ty := (.object cL)) (by decide) rfl rfl (g := (mkF m 16 (sh0 a0 q1) [(.ref a0), (.ref a0)])) rfl rfl (hb hby d7_16)
  have f18 := f11.wr W17
  have f19 := f13.other W17 (Or.inr (slot_ne (Or.inr (wq hw 47 rfl)) (Or.inl (wq hw 51 rfl)) (by decide) (t := .long) (t' := (.object cL)) (by decide) (by decide)))
  have f20 := f14.other W17 (Or.inr (slot_ne (Or.inl (wq hw 49 rfl)) (Or.inl (wq hw 51 rfl)) (by decide) (t := (.object cL)) (t' := (.object cL)) (by decide) (by decide)))
  have f21 : Fld Z h17 a0 cL "prev" dL (.ref a0) := f12.same W17
  have Kp17 : Keep h0 h17 [a0] := Kp10.wr W17 (Or.inl om0)
  have Z22 := Nat.le_trans Z15 (Nat.le_of_eq W17.size.symm)
  have N23 := Fr.snoc X17 N16 Ge0
  refine Gb st17 ?_
  obtain ⟨fs, hr, hrun, hended, hW, hsame⟩ := X17.leave (v := none) (fun _ => rfl)
  refine Goes.mk _ _ ?_ ⟨hrun, hended, _, _, rfl, ?_, ⟨_, rfl⟩, hW, hsame.mono (by decide) (by decide)⟩
  · exact X17.returnOut hx Bd.returns (hb hby d7_19) hr
  · show QHeadI Z a0 q1 h0 n0 _ T17.heap _
    rw [e17]
    exact ⟨rfl, N23, Kp17, f18, f19, f20, f21⟩
theorem d6_0 : decode prog_4_method_10_code 0 = .ok (.iconst 0, 1) := by decide +kernel
theorem d6_1 : decode prog_4_method_10_code 1 = .ok (.istore_n 3, 1) := by decide +kernel
theorem d6_2 : decode prog_4_method_10_code 2 = .ok (.aload_n 0, 1) := by decide +kernel
theorem d6_3 : decode prog_4_method_10_code 3 = .ok (.getfield 15, 3) := by decide +kernel
theorem d6_6 : decode prog_4_method_10_code 6 = .ok (.istore 4, 2) := by decide +kernel
theorem d6_8 : decode prog_4_method_10_code 8 = .ok (.iload_n 3, 1) := by decide +kernel
theorem d6_9 : decode prog_4_method_10_code 9 = .ok (.iload 4, 2) := by decide +kernel
theorem d6_11 : decode prog_4_method_10_code 11 = .ok (.if_icmp .ge 41, 3) := by decide +kernel
theorem d6_52 : decode prog_4_method_10_code 52 = .ok (.iload_n 3, 1) := by decide +kernel
theorem d6_53 : decode prog_4_method_10_code 53 = .ok (.ireturn, 1) := by decide +kernel
def QDue0 (Z : State) (a0 : Addr) (q1 : Int64) (ar : Addr) (h0 : Heap) (n0 : Nat) (v : Option Value) (h : Heap) (L : List Loc) : Prop := v = some (.int (0 : Int32)) ∧ Fr n0 L ∧ h = h0
theorem efDue0 (m : MethodId) (x0 : Addr) (x1 : Int64) : entryFrame m #[(.ref x0), (.long x1)] 6 = mkF m 0 #[.val (.ref x0), .val (.long x1), .second, .unset, .unset, .unset] [] := by first | (simp [entryFrame, mkF, argsToLocals, Value.category]; done) | rfl
set_option maxRecDepth 65536 in
set_option maxHeartbeats 40000000 in
theorem rmDue0 (l : Launch) (Z : State) (az : Array Value) (hw : ∀ d ∈ tables_1, d.before az Z = true) (ws : List Jvm.Cond) (a0 : Addr) (q1 : Int64) (ar : Addr) (h0 : Heap) (n0 : Nat) (Z0 : n0 ≤ h0.size) (F0 : Exa Z h0 a0 cD) (F1 : Fld Z h0 a0 cD "heads" dA (.ref ar)) (F2 : Fld Z h0 a0 cD "count" "I" (.int (0 : Int32))) :
    MetFree l y4 (head1 (Jvm.Cond.code y4 prog_4_method_10_code 6 (some .int) :: ws) ({ frames := 0, cells := 0, slots := 0, locals := 0 } : Room)) (fun a U => a = #[(.ref a0), (.long q1)] ∧ Z.Warmed39 U.vm ∧ U.heap = h0) (fun _ _ _ _ _ => True) (fun _ U o U' => ∃ v L, o = .returned v ∧ QDue0 Z a0 q1 ar h0 n0 v U'.heap L ∧ FrameEnd U o U' L ({ frames := 0, cells := 0, slots := 0, locals := 0 } : Room).cells ({ frames := 0, cells := 0, slots := 0, locals := 0 } : Room).slots) := by
  refine MetFree.of_bodySF (plainFor_of_name own_pn_com_example_admit_one_admitone_engine_DueOrder) hisR ?_
  intro p e s m args below meth c s₁ Bd hml0 hP hK
  obtain ⟨rfl, hZ, hh⟩ := hP
  have hx := Bd.exec
  have hby := Bd.bytes
  have hml : c.maxLocals = 6 := hml0
  have hown : s.vm.findClass cD = some m.cls := findClass_of_methodNamed Bd.named
  have hnm := (name_of_methodNamed Bd.named Bd.method).1
  have X0 : Stand p l e ({ frames := 0, cells := 0, slots := 0, locals := 0 } : Room) s m #[(.ref a0), (.long q1)] below meth c s₁ [] 0 0 := Stand.of_body Bd
  have e0 : s₁.heap = h0 := by rw [← hh, Bd.state]; rfl
  have N0 := Fr.nil n0
  have Kp0 : Keep h0 h0 [] := Keep.refl _ _
  refine Goes.start ?_
  refine Gb (B := s₁.setTop (mkF m 0 #[.val (.ref a0), .val (.long q1), .second, .unset, .unset, .unset] [])) (fun t k => castTop (efDue0 m a0 q1) k) ?_
  refine Gb (fun _ => XS.iconst X0.here hx rfl (hb hby d6_0)) ?_
  refine Gb (fun _ => XS.istoreN X0.here hx rfl (hb hby d6_1) rfl (l' := (sh2 a0 q1 (0 : Int32))) rfl) ?_
  refine Gb (fun _ => XS.aloadN X0.here hx rfl (hb hby d6_2) rfl rfl) ?_
  obtain ⟨T1, X1, e1, st1⟩ := getF X0 hx hZ hown (host := "") (Or.inl (wq hw 29 rfl)) Via.refl e0 F2 (g := (mkF m 3 (sh2 a0 q1 (0 : Int32)) [(.ref a0)])) rfl rfl (hb hby d6_3)
  refine Gb st1 ?_
  refine Gb (B := T1.setTop (mkF m 53 (sh3 a0 q1 (0 : Int32) (0 : Int32)) [(.int (0 : Int32))])) (fun t k => ?_) ?_
  · refine XS.istore X1.here hx rfl (hb hby d6_6) rfl (l' := (sh3 a0 q1 (0 : Int32) (0 : Int32))) rfl ?_
    refine XS.iloadN X1.here hx rfl (hb hby d6_8) rfl ?_
    refine XS.iload X1.here hx rfl (hb hby d6_9) rfl ?_
    refine XS.icmpYes X1.here hx rfl (pc0 := 11) (pc' := 52) rfl (hb hby d6_11) rfl (flt (by decide : ¬ ((0 : Int32) < (0 : Int32)))).2.1 (by decide) (by decide) ?_
    refine XS.iloadN X1.here hx rfl (hb hby d6_52) rfl ?_
    exact k
  obtain ⟨fs, hr, hrun, hended, hW, hsame⟩ := X1.leave (v := some (.int (0 : Int32))) (fun h => by rw [Bd.returns] at h; cases h)
  refine Goes.mk _ _ ?_ ⟨hrun, hended, _, _, rfl, ?_, ⟨_, rfl⟩, hW, hsame.mono (by decide) (by decide)⟩
  · exact retI X1 hx Bd.returns (hb hby d6_53) hr
  · show QDue0 Z a0 q1 ar h0 n0 _ T1.heap _
    rw [e1]
    exact ⟨rfl, N0, rfl⟩
theorem d6_14 : decode prog_4_method_10_code 14 = .ok (.iload_n 3, 1) := by decide +kernel
theorem d6_15 : decode prog_4_method_10_code 15 = .ok (.iload 4, 2) := by decide +kernel
theorem d6_17 : decode prog_4_method_10_code 17 = .ok (.iadd, 1) := by decide +kernel
theorem d6_18 : decode prog_4_method_10_code 18 = .ok (.iconst 1, 1) := by decide +kernel
theorem d6_19 : decode prog_4_method_10_code 19 = .ok (.iushr, 1) := by decide +kernel
theorem d6_20 : decode prog_4_method_10_code 20 = .ok (.istore 5, 2) := by decide +kernel
theorem d6_22 : decode prog_4_method_10_code 22 = .ok (.aload_n 0, 1) := by decide +kernel
theorem d6_23 : decode prog_4_method_10_code 23 = .ok (.getfield 11, 3) := by decide +kernel
theorem d6_26 : decode prog_4_method_10_code 26 = .ok (.iload 5, 2) := by decide +kernel
theorem d6_28 : decode prog_4_method_10_code 28 = .ok (.aaload, 1) := by decide +kernel
theorem d6_29 : decode prog_4_method_10_code 29 = .ok (.getfield 23, 3) := by decide +kernel
theorem d6_32 : decode prog_4_method_10_code 32 = .ok (.lload_n 1, 1) := by decide +kernel
theorem d6_33 : decode prog_4_method_10_code 33 = .ok (.lcmp, 1) := by decide +kernel
theorem d6_34 : decode prog_4_method_10_code 34 = .ok (.ifCond .gt 11, 3) := by decide +kernel
theorem d6_45 : decode prog_4_method_10_code 45 = .ok (.iload 5, 2) := by decide +kernel
theorem d6_47 : decode prog_4_method_10_code 47 = .ok (.istore 4, 2) := by decide +kernel
theorem d6_49 : decode prog_4_method_10_code 49 = .ok (.goto (-41), 3) := by decide +kernel
theorem d6_37 : decode prog_4_method_10_code 37 = .ok (.iload 5, 2) := by decide +kernel
theorem d6_39 : decode prog_4_method_10_code 39 = .ok (.iconst 1, 1) := by decide +kernel
theorem d6_40 : decode prog_4_method_10_code 40 = .ok (.iadd, 1) := by decide +kernel
theorem d6_41 : decode prog_4_method_10_code 41 = .ok (.istore_n 3, 1) := by decide +kernel
theorem d6_42 : decode prog_4_method_10_code 42 = .ok (.goto 7, 3) := by decide +kernel
def fDue1 (q1 : Int64) (t1 : Int64) : Int32 := (if q1 < t1 then (0 : Int32) else (1 : Int32))
def QDue1 (Z : State) (a0 : Addr) (q1 : Int64) (ar : Addr) (kA : ClassId) (x1 : Addr) (t1 : Int64) (h0 : Heap) (n0 : Nat) (v : Option Value) (h : Heap) (L : List Loc) : Prop := v = some (.int (fDue1 q1 t1)) ∧ Fr n0 L ∧ h = h0
theorem efDue1 (m : MethodId) (x0 : Addr) (x1 : Int64) : entryFrame m #[(.ref x0), (.long x1)] 6 = mkF m 0 #[.val (.ref x0), .val (.long x1), .second, .unset, .unset, .unset] [] := by first | (simp [entryFrame, mkF, argsToLocals, Value.category]; done) | rfl
set_option maxRecDepth 65536 in
set_option maxHeartbeats 40000000 in
theorem rmDue1 (l : Launch) (Z : State) (az : Array Value) (hw : ∀ d ∈ tables_1, d.before az Z = true) (ws : List Jvm.Cond) (a0 : Addr) (q1 : Int64) (ar : Addr) (kA : ClassId) (x1 : Addr) (t1 : Int64) (h0 : Heap) (n0 : Nat) (Z0 : n0 ≤ h0.size) (F0 : Exa Z h0 a0 cD) (F1 : Fld Z h0 a0 cD "heads" dA (.ref ar)) (F2 : Fld Z h0 a0 cD "count" "I" (.int (1 : Int32))) (F3 : Arv Z h0 ar kA (.object cH) (4 : Int32) [(.ref x1), .null, .null, .null] .null) (F4 : Ovr Z kA cH) (F5 : Exa Z h0 x1 cH) (F6 : Fld Z h0 x1 cH "tick" "J" (.long t1)) :
    MetFree l y4 (head1 (Jvm.Cond.code y4 prog_4_method_10_code 6 (some .int) :: ws) ({ frames := 0, cells := 0, slots := 0, locals := 0 } : Room)) (fun a U => a = #[(.ref a0), (.long q1)] ∧ Z.Warmed39 U.vm ∧ U.heap = h0) (fun _ _ _ _ _ => True) (fun _ U o U' => ∃ v L, o = .returned v ∧ QDue1 Z a0 q1 ar kA x1 t1 h0 n0 v U'.heap L ∧ FrameEnd U o U' L ({ frames := 0, cells := 0, slots := 0, locals := 0 } : Room).cells ({ frames := 0, cells := 0, slots := 0, locals := 0 } : Room).slots) := by
  refine MetFree.of_bodySF (plainFor_of_name own_pn_com_example_admit_one_admitone_engine_DueOrder) hisR ?_
  intro p e s m args below meth c s₁ Bd hml0 hP hK
  obtain ⟨rfl, hZ, hh⟩ := hP
  have hx := Bd.exec
  have hby := Bd.bytes
  have hml : c.maxLocals = 6 := hml0
  have hown : s.vm.findClass cD = some m.cls := findClass_of_methodNamed Bd.named
  have hnm := (name_of_methodNamed Bd.named Bd.method).1
  have X0 : Stand p l e ({ frames := 0, cells := 0, slots := 0, locals := 0 } : Room) s m #[(.ref a0), (.long q1)] below meth c s₁ [] 0 0 := Stand.of_body Bd
  have e0 : s₁.heap = h0 := by rw [← hh, Bd.state]; rfl
  have N0 := Fr.nil n0
  have Kp0 : Keep h0 h0 [] := Keep.refl _ _
  refine Goes.start ?_
  refine Gb (B := s₁.setTop (mkF m 0 #[.val (.ref a0), .val (.long q1), .second, .unset, .unset, .unset] [])) (fun t k => castTop (efDue1 m a0 q1) k) ?_
  refine Gb (fun _ => XS.iconst X0.here hx rfl (hb hby d6_0)) ?_
  refine Gb (fun _ => XS.istoreN X0.here hx rfl (hb hby d6_1) rfl (l' := (sh2 a0 q1 (0 : Int32))) rfl) ?_
  refine Gb (fun _ => XS.aloadN X0.here hx rfl (hb hby d6_2) rfl rfl) ?_
  obtain ⟨T1, X1, e1, st1⟩ := getF X0 hx hZ hown (host := "") (Or.inl (wq hw 29 rfl)) Via.refl e0 F2 (g := (mkF m 3 (sh2 a0 q1 (0 : Int32)) [(.ref a0)])) rfl rfl (hb hby d6_3)
  refine Gb st1 ?_
  refine Gb (B := T1.setTop (mkF m 23 (sh4 a0 q1 (0 : Int32) (1 : Int32) (0 : Int32)) [(.ref a0)])) (fun t k => ?_) ?_
  · refine XS.istore X1.here hx rfl (hb hby d6_6) rfl (l' := (sh3 a0 q1 (0 : Int32) (1 : Int32))) rfl ?_
    refine XS.iloadN X1.here hx rfl (hb hby d6_8) rfl ?_
    refine XS.iload X1.here hx rfl (hb hby d6_9) rfl ?_
    refine XS.icmpNo X1.here hx rfl (hb hby d6_11) rfl (tlt (by decide : (0 : Int32) < (1 : Int32))).2.1 ?_
    refine XS.iloadN X1.here hx rfl (hb hby d6_14) rfl ?_
    refine XS.iload X1.here hx rfl (hb hby d6_15) rfl ?_
    refine XS.iadd X1.here hx rfl (hb hby d6_17) rfl ?_
    refine XS.iconst X1.here hx rfl (hb hby d6_18) ?_
    refine XS.iushr X1.here hx rfl (hb hby d6_19) rfl ?_
    refine XS.istore X1.here hx rfl (hb hby d6_20) rfl (l' := (sh4 a0 q1 (0 : Int32) (1 : Int32) (0 : Int32))) rfl ?_
    refine XS.aloadN X1.here hx rfl (hb hby d6_22) rfl rfl ?_
    exact k
  obtain ⟨T2, X2, e2, st2⟩ := getF X1 hx hZ hown (host := "") (Or.inl (wq hw 11 rfl)) Via.refl e1 F1 (g := (mkF m 23 (sh4 a0 q1 (0 : Int32) (1 : Int32) (0 : Int32)) [(.ref a0)])) rfl rfl (hb hby d6_23)
  refine Gb st2 ?_
  refine Gb (fun _ => XS.iload X2.here hx rfl (hb hby d6_26) rfl) ?_
  obtain ⟨cl3, cl3A, cl3q, cl3S, cl3N, cl3H, cl3G⟩ := id F3
  have cl3I : ¬ ((0 : Int32) < 0 ∨ cl3.slots.size ≤ ((0 : Int32)).toNatClampNeg) := inb_of cl3S ⟨by decide, by decide⟩
  have cl3T : cl3.slots[((0 : Int32)).toNatClampNeg]? = some (.ref x1) := cl3H.at cl3I rfl
  refine Gb (X2.aaload hx (j := (0 : Int32)) (v := (.ref x1)) (by rw [e2]; exact cl3A.1) (State.isArrayOf_alike hZ.alike cl3A.2.1) rfl cl3A.2.2 cl3I cl3T (g := (mkF m 28 (sh4 a0 q1 (0 : Int32) (1 : Int32) (0 : Int32)) [(.int (0 : Int32)), (.ref ar)])) rfl rfl (hb hby d6_28)) ?_
  refine Gb (B := T2.setTop (mkF m 34 (sh4 a0 q1 (0 : Int32) (1 : Int32) (0 : Int32)) [(.int (lcmpW t1 q1))])) (fun t k => ?_) ?_
  · refine getFR X2 hx hZ hown (wq hw 57 rfl) e2 F6 (g := (mkF m 29 (sh4 a0 q1 (0 : Int32) (1 : Int32) (0 : Int32)) [(.ref x1)])) rfl rfl (hb hby d6_29) ?_
    refine XS.lloadN X2.here hx rfl (hb hby d6_32) rfl ?_
    refine XS.lcmp X2.here hx rfl (hb hby d6_33) rfl ?_
    exact k
  by_cases hc5 : q1 < t1
  · refine Gb (B := T2.setTop (mkF m 53 (sh4 a0 q1 (0 : Int32) (0 : Int32) (0 : Int32)) [(.int (0 : Int32))])) (fun t k => ?_) ?_
    · refine XS.ifYes X2.here hx rfl (pc0 := 34) (pc' := 45) rfl (hb hby d6_34) rfl ((if0 _ _).trans (tlt ((lw_gt t1 q1).mpr hc5)).2.2.1) (by decide) (by decide) ?_
      refine XS.iload X2.here hx rfl (hb hby d6_45) rfl ?_
      refine XS.istore X2.here hx rfl (hb hby d6_47) rfl (l' := (sh4 a0 q1 (0 : Int32) (0 : Int32) (0 : Int32))) rfl ?_
      refine XS.goto X2.here hx rfl (pc0 := 49) (pc' := 8) rfl (hb hby d6_49) (by decide) (by decide) ?_
      refine XS.iloadN X2.here hx rfl (hb hby d6_8) rfl ?_
      refine XS.iload X2.here hx rfl (hb hby d6_9) rfl ?_
      refine XS.icmpYes X2.here hx rfl (pc0 := 11) (pc' := 52) rfl (hb hby d6_11) rfl (flt (by decide : ¬ ((0 : Int32) < (0 : Int32)))).2.1 (by decide) (by decide) ?_
      refine XS.iloadN X2.here hx rfl (hb hby d6_52) rfl ?_
      exact k
    obtain ⟨fs, hr, hrun, hended, hW, hsame⟩ := X2.leave (v := some (.int (0 : Int32))) (fun h => by rw [Bd.returns] at h; cases h)
    refine Goes.mk _ _ ?_ ⟨hrun, hended, _, _, rfl, ?_, ⟨_, rfl⟩, hW, hsame.mono (by decide) (by decide)⟩
    · exact retI X2 hx Bd.returns (hb hby d6_53) hr
    · show QDue1 Z a0 q1 ar kA x1 t1 h0 n0 _ T2.heap _
      rw [e2]
      exact ⟨(by simp only [fDue1, if_pos hc5]), N0, rfl⟩
  · refine Gb (B := T2.setTop (mkF m 53 (sh4 a0 q1 (1 : Int32) (1 : Int32) (0 : Int32)) [(.int (1 : Int32))])) (fun t k => ?_) ?_
    · refine XS.ifNo X2.here hx rfl (hb hby d6_34) rfl ((if0 _ _).trans (flt (fun z => hc5 ((lw_gt t1 q1).mp z))).2.2.1) ?_
      refine XS.iload X2.here hx rfl (hb hby d6_37) rfl ?_
      refine XS.iconst X2.here hx rfl (hb hby d6_39) ?_
      refine XS.iadd X2.here hx rfl (hb hby d6_40) rfl ?_
      refine XS.istoreN X2.here hx rfl (hb hby d6_41) rfl (l' := (sh4 a0 q1 (1 : Int32) (1 : Int32) (0 : Int32))) rfl ?_
      refine XS.goto X2.here hx rfl (pc0 := 42) (pc' := 49) rfl (hb hby d6_42) (by decide) (by decide) ?_
      refine XS.goto X2.here hx rfl (pc0 := 49) (pc' := 8) rfl (hb hby d6_49) (by decide) (by decide) ?_
      refine XS.iloadN X2.here hx rfl (hb hby d6_8) rfl ?_
      refine XS.iload X2.here hx rfl (hb hby d6_9) rfl ?_
      refine XS.icmpYes X2.here hx rfl (pc0 := 11) (pc' := 52) rfl (hb hby d6_11) rfl (flt (by decide : ¬ ((1 : Int32) < (1 : Int32)))).2.1 (by decide) (by decide) ?_
      refine XS.iloadN X2.here hx rfl (hb hby d6_52) rfl ?_
      exact k
    obtain ⟨fs, hr, hrun, hended, hW, hsame⟩ := X2.leave (v := some (.int (1 : Int32))) (fun h => by rw [Bd.returns] at h; cases h)
    refine Goes.mk _ _ ?_ ⟨hrun, hended, _, _, rfl, ?_, ⟨_, rfl⟩, hW, hsame.mono (by decide) (by decide)⟩
    · exact retI X2 hx Bd.returns (hb hby d6_53) hr
    · show QDue1 Z a0 q1 ar kA x1 t1 h0 n0 _ T2.heap _
      rw [e2]
      exact ⟨(by simp only [fDue1, if_neg hc5]), N0, rfl⟩
theorem own_due1 (q1 t1 : Int64) : fDue1 q1 t1 = (0 : Int32) ∨ fDue1 q1 t1 = (1 : Int32) := by
  unfold fDue1
  repeat' split
  all_goals simp
def fDue2 (q1 : Int64) (t1 : Int64) (t2 : Int64) : Int32 := (if q1 < t2 then (if q1 < t1 then (0 : Int32) else (1 : Int32)) else (2 : Int32))
def QDue2 (Z : State) (a0 : Addr) (q1 : Int64) (ar : Addr) (kA : ClassId) (x1 : Addr) (x2 : Addr) (t1 : Int64) (t2 : Int64) (h0 : Heap) (n0 : Nat) (v : Option Value) (h : Heap) (L : List Loc) : Prop := v = some (.int (fDue2 q1 t1 t2)) ∧ Fr n0 L ∧ h = h0
theorem efDue2 (m : MethodId) (x0 : Addr) (x1 : Int64) : entryFrame m #[(.ref x0), (.long x1)] 6 = mkF m 0 #[.val (.ref x0), .val (.long x1), .second, .unset, .unset, .unset] [] := by first | (simp [entryFrame, mkF, argsToLocals, Value.category]; done) | rfl
set_option maxRecDepth 65536 in
set_option maxHeartbeats 40000000 in
theorem rmDue2 (l : Launch) (Z : State) (az : Array Value) (hw : ∀ d ∈ tables_1, d.before az Z = true) (ws : List Jvm.Cond) (a0 : Addr) (q1 : Int64) (ar : Addr) (kA : ClassId) (x1 : Addr) (x2 : Addr) (t1 : Int64) (t2 : Int64) (h0 : Heap) (n0 : Nat) (Z0 : n0 ≤ h0.size) (F0 : Exa Z h0 a0 cD) (F1 : Fld Z h0 a0 cD "heads" dA (.ref ar)) (F2 : Fld Z h0 a0 cD "count" "I" (.int (2 : Int32))) (F3 : Arv Z h0 ar kA (.object cH) (4 : Int32) [(.ref x1), (.ref x2), .null, .null] .null) (F4 : Ovr Z kA cH) (F5 : Exa Z h0 x1 cH) (F6 : Fld Z h0 x1 cH "tick" "J" (.long t1)) (F7 : Exa Z h0 x2 cH) (F8 : Fld Z h0 x2 cH "tick" "J" (.long t2)) :
    MetFree l y4 (head1 (Jvm.Cond.code y4 prog_4_method_10_code 6 (some .int) :: ws) ({ frames := 0, cells := 0, slots := 0, locals := 0 } : Room)) (fun a U => a = #[(.ref a0), (.long q1)] ∧ Z.Warmed39 U.vm ∧ U.heap = h0) (fun _ _ _ _ _ => True) (fun _ U o U' => ∃ v L, o = .returned v ∧ QDue2 Z a0 q1 ar kA x1 x2 t1 t2 h0 n0 v U'.heap L ∧ FrameEnd U o U' L ({ frames := 0, cells := 0, slots := 0, locals := 0 } : Room).cells ({ frames := 0, cells := 0, slots := 0, locals := 0 } : Room).slots) := by
  refine MetFree.of_bodySF (plainFor_of_name own_pn_com_example_admit_one_admitone_engine_DueOrder) hisR ?_
  intro p e s m args below meth c s₁ Bd hml0 hP hK
  obtain ⟨rfl, hZ, hh⟩ := hP
  have hx := Bd.exec
  have hby := Bd.bytes
  have hml : c.maxLocals = 6 := hml0
  have hown : s.vm.findClass cD = some m.cls := findClass_of_methodNamed Bd.named
  have hnm := (name_of_methodNamed Bd.named Bd.method).1
  have X0 : Stand p l e ({ frames := 0, cells := 0, slots := 0, locals := 0 } : Room) s m #[(.ref a0), (.long q1)] below meth c s₁ [] 0 0 := Stand.of_body Bd
  have e0 : s₁.heap = h0 := by rw [← hh, Bd.state]; rfl
  have N0 := Fr.nil n0
  have Kp0 : Keep h0 h0 [] := Keep.refl _ _
  refine Goes.start ?_
  refine Gb (B := s₁.setTop (mkF m 0 #[.val (.ref a0), .val (.long q1), .second, .unset, .unset, .unset] [])) (fun t k => castTop (efDue2 m a0 q1) k) ?_
  refine Gb (fun _ => XS.iconst X0.here hx rfl (hb hby d6_0)) ?_
  refine Gb (fun _ => XS.istoreN X0.here hx rfl (hb hby d6_1) rfl (l' := (sh2 a0 q1 (0 : Int32))) rfl) ?_
  refine Gb (fun _ => XS.aloadN X0.here hx rfl (hb hby d6_2) rfl rfl) ?_
  obtain ⟨T1, X1, e1, st1⟩ := getF X0 hx hZ hown (host := "") (Or.inl (wq hw 29 rfl)) Via.refl e0 F2 (g := (mkF m 3 (sh2 a0 q1 (0 : Int32)) [(.ref a0)])) rfl rfl (hb hby d6_3)
  refine Gb st1 ?_
  refine Gb (B := T1.setTop (mkF m 23 (sh4 a0 q1 (0 : Int32) (2 : Int32) (1 : Int32)) [(.ref a0)])) (fun t k => ?_) ?_
  · refine XS.istore X1.here hx rfl (hb hby d6_6) rfl (l' := (sh3 a0 q1 (0 : Int32) (2 : Int32))) rfl ?_
    refine XS.iloadN X1.here hx rfl (hb hby d6_8) rfl ?_
    refine XS.iload X1.here hx rfl (hb hby d6_9) rfl ?_
    refine XS.icmpNo X1.here hx rfl (hb hby d6_11) rfl (tlt (by decide : (0 : Int32) < (2 : Int32))).2.1 ?_
    refine XS.iloadN X1.here hx rfl (hb hby d6_14) rfl ?_
    refine XS.iload X1.here hx rfl (hb hby d6_15) rfl ?_
    refine XS.iadd X1.here hx rfl (hb hby d6_17) rfl ?_
    refine XS.iconst X1.here hx rfl (hb hby d6_18) ?_
    refine XS.iushr X1.here hx rfl (hb hby d6_19) rfl ?_
    refine XS.istore X1.here hx rfl (hb hby d6_20) rfl (l' := (sh4 a0 q1 (0 : Int32) (2 : Int32) (1 : Int32))) rfl ?_
    refine XS.aloadN X1.here hx rfl (hb hby d6_22) rfl rfl ?_
    exact k
  obtain ⟨T2, X2, e2, st2⟩ := getF X1 hx hZ hown (host := "") (Or.inl (wq hw 11 rfl)) Via.refl e1 F1 (g := (mkF m 23 (sh4 a0 q1 (0 : Int32) (2 : Int32) (1 : Int32)) [(.ref a0)])) rfl rfl (hb hby d6_23)
  refine Gb st2 ?_
  refine Gb (fun _ => XS.iload X2.here hx rfl (hb hby d6_26) rfl) ?_
  obtain ⟨cl3, cl3A, cl3q, cl3S, cl3N, cl3H, cl3G⟩ := id F3
  have cl3I : ¬ ((1 : Int32) < 0 ∨ cl3.slots.size ≤ ((1 : Int32)).toNatClampNeg) := inb_of cl3S ⟨by decide, by decide⟩
  have cl3T : cl3.slots[((1 : Int32)).toNatClampNeg]? = some (.ref x2) := cl3H.at cl3I rfl
  refine Gb (X2.aaload hx (j := (1 : Int32)) (v := (.ref x2)) (by rw [e2]; exact cl3A.1) (State.isArrayOf_alike hZ.alike cl3A.2.1) rfl cl3A.2.2 cl3I cl3T (g := (mkF m 28 (sh4 a0 q1 (0 : Int32) (2 : Int32) (1 : Int32)) [(.int (1 : Int32)), (.ref ar)])) rfl rfl (hb hby d6_28)) ?_
  refine Gb (B := T2.setTop (mkF m 34 (sh4 a0 q1 (0 : Int32) (2 : Int32) (1 : Int32)) [(.int (lcmpW t2 q1))])) (fun t k => ?_) ?_
  · refine getFR X2 hx hZ hown (wq hw 57 rfl) e2 F8 (g := (mkF m 29 (sh4 a0 q1 (0 : Int32) (2 : Int32) (1 : Int32)) [(.ref x2)])) rfl rfl (hb hby d6_29) ?_
    refine XS.lloadN X2.here hx rfl (hb hby d6_32) rfl ?_
    refine XS.lcmp X2.here hx rfl (hb hby d6_33) rfl ?_
    exact k
  by_cases hc5 : q1 < t2
  · refine Gb (B := T2.setTop (mkF m 23 (sh4 a0 q1 (0 : Int32) (1 : Int32) (0 : Int32)) [(.ref a0)])) (fun t k => ?_) ?_
    · refine XS.ifYes X2.here hx rfl (pc0 := 34) (pc' := 45) rfl (hb hby d6_34) rfl ((if0 _ _).trans (tlt ((lw_gt t2 q1).mpr hc5)).2.2.1) (by decide) (by decide) ?_
      refine XS.iload X2.here hx rfl (hb hby d6_45) rfl ?_
      refine XS.istore X2.here hx rfl (hb hby d6_47) rfl (l' := (sh4 a0 q1 (0 : Int32) (1 : Int32) (1 : Int32))) rfl ?_
      refine XS.goto X2.here hx rfl (pc0 := 49) (pc' := 8) rfl (hb hby d6_49) (by decide) (by decide) ?_
      refine XS.iloadN X2.here hx rfl (hb hby d6_8) rfl ?_
      refine XS.iload X2.here hx rfl (hb hby d6_9) rfl ?_
      refine XS.icmpNo X2.here hx rfl (hb hby d6_11) rfl (tlt (by decide : (0 : Int32) < (1 : Int32))).2.1 ?_
      refine XS.iloadN X2.here hx rfl (hb hby d6_14) rfl ?_
      refine XS.iload X2.here hx rfl (hb hby d6_15) rfl ?_
      refine XS.iadd X2.here hx rfl (hb hby d6_17) rfl ?_
      refine XS.iconst X2.here hx rfl (hb hby d6_18) ?_
      refine XS.iushr X2.here hx rfl (hb hby d6_19) rfl ?_
      refine XS.istore X2.here hx rfl (hb hby d6_20) rfl (l' := (sh4 a0 q1 (0 : Int32) (1 : Int32) (0 : Int32))) rfl ?_
      refine XS.aloadN X2.here hx rfl (hb hby d6_22) rfl rfl ?_
      exact k
    obtain ⟨T6, X6, e6, st6⟩ := getF X2 hx hZ hown (host := "") (Or.inl (wq hw 11 rfl)) Via.refl e2 F1 (g := (mkF m 23 (sh4 a0 q1 (0 : Int32) (1 : Int32) (0 : Int32)) [(.ref a0)])) rfl rfl (hb hby d6_23)
    refine Gb st6 ?_
    refine Gb (fun _ => XS.iload X6.here hx rfl (hb hby d6_26) rfl) ?_
    obtain ⟨cl7, cl7A, cl7q, cl7S, cl7N, cl7H, cl7G⟩ := id F3
    have cl7I : ¬ ((0 : Int32) < 0 ∨ cl7.slots.size ≤ ((0 : Int32)).toNatClampNeg) := inb_of cl7S ⟨by decide, by decide⟩
    have cl7T : cl7.slots[((0 : Int32)).toNatClampNeg]? = some (.ref x1) := cl7H.at cl7I rfl
    refine Gb (X6.aaload hx (j := (0 : Int32)) (v := (.ref x1)) (by rw [e6]; exact cl7A.1) (State.isArrayOf_alike hZ.alike cl7A.2.1) rfl cl7A.2.2 cl7I cl7T (g := (mkF m 28 (sh4 a0 q1 (0 : Int32) (1 : Int32) (0 : Int32)) [(.int (0 : Int32)), (.ref ar)])) rfl rfl (hb hby d6_28)) ?_
    refine Gb (B := T6.setTop (mkF m 34 (sh4 a0 q1 (0 : Int32) (1 : Int32) (0 : Int32)) [(.int (lcmpW t1 q1))])) (fun t k => ?_) ?_
    · refine getFR X6 hx hZ hown (wq hw 57 rfl) e6 F6 (g := (mkF m 29 (sh4 a0 q1 (0 : Int32) (1 : Int32) (0 : Int32)) [(.ref x1)])) rfl rfl (hb hby d6_29) ?_
      refine XS.lloadN X6.here hx rfl (hb hby d6_32) rfl ?_
      refine XS.lcmp X6.here hx rfl (hb hby d6_33) rfl ?_
      exact k
    by_cases hc9 : q1 < t1
    · refine Gb (B := T6.setTop (mkF m 53 (sh4 a0 q1 (0 : Int32) (0 : Int32) (0 : Int32)) [(.int (0 : Int32))])) (fun t k => ?_) ?_
      · refine XS.ifYes X6.here hx rfl (pc0 := 34) (pc' := 45) rfl (hb hby d6_34) rfl ((if0 _ _).trans (tlt ((lw_gt t1 q1).mpr hc9)).2.2.1) (by decide) (by decide) ?_
        refine XS.iload X6.here hx rfl (hb hby d6_45) rfl ?_
        refine XS.istore X6.here hx rfl (hb hby d6_47) rfl (l' := (sh4 a0 q1 (0 : Int32) (0 : Int32) (0 : Int32))) rfl ?_
        refine XS.goto X6.here hx rfl (pc0 := 49) (pc' := 8) rfl (hb hby d6_49) (by decide) (by decide) ?_
        refine XS.iloadN X6.here hx rfl (hb hby d6_8) rfl ?_
        refine XS.iload X6.here hx rfl (hb hby d6_9) rfl ?_
        refine XS.icmpYes X6.here hx rfl (pc0 := 11) (pc' := 52) rfl (hb hby d6_11) rfl (flt (by decide : ¬ ((0 : Int32) < (0 : Int32)))).2.1 (by decide) (by decide) ?_
        refine XS.iloadN X6.here hx rfl (hb hby d6_52) rfl ?_
        exact k
      obtain ⟨fs, hr, hrun, hended, hW, hsame⟩ := X6.leave (v := some (.int (0 : Int32))) (fun h => by rw [Bd.returns] at h; cases h)
      refine Goes.mk _ _ ?_ ⟨hrun, hended, _, _, rfl, ?_, ⟨_, rfl⟩, hW, hsame.mono (by decide) (by decide)⟩
      · exact retI X6 hx Bd.returns (hb hby d6_53) hr
      · show QDue2 Z a0 q1 ar kA x1 x2 t1 t2 h0 n0 _ T6.heap _
        rw [e6]
        exact ⟨(by simp only [fDue2, if_pos hc5, if_pos hc9]), N0, rfl⟩
    · refine Gb (B := T6.setTop (mkF m 53 (sh4 a0 q1 (1 : Int32) (1 : Int32) (0 : Int32)) [(.int (1 : Int32))])) (fun t k => ?_) ?_
      · refine XS.ifNo X6.here hx rfl (hb hby d6_34) rfl ((if0 _ _).trans (flt (fun z => hc9 ((lw_gt t1 q1).mp z))).2.2.1) ?_
        refine XS.iload X6.here hx rfl (hb hby d6_37) rfl ?_
        refine XS.iconst X6.here hx rfl (hb hby d6_39) ?_
        refine XS.iadd X6.here hx rfl (hb hby d6_40) rfl ?_
        refine XS.istoreN X6.here hx rfl (hb hby d6_41) rfl (l' := (sh4 a0 q1 (1 : Int32) (1 : Int32) (0 : Int32))) rfl ?_
        refine XS.goto X6.here hx rfl (pc0 := 42) (pc' := 49) rfl (hb hby d6_42) (by decide) (by decide) ?_
        refine XS.goto X6.here hx rfl (pc0 := 49) (pc' := 8) rfl (hb hby d6_49) (by decide) (by decide) ?_
        refine XS.iloadN X6.here hx rfl (hb hby d6_8) rfl ?_
        refine XS.iload X6.here hx rfl (hb hby d6_9) rfl ?_
        refine XS.icmpYes X6.here hx rfl (pc0 := 11) (pc' := 52) rfl (hb hby d6_11) rfl (flt (by decide : ¬ ((1 : Int32) < (1 : Int32)))).2.1 (by decide) (by decide) ?_
        refine XS.iloadN X6.here hx rfl (hb hby d6_52) rfl ?_
        exact k
      obtain ⟨fs, hr, hrun, hended, hW, hsame⟩ := X6.leave (v := some (.int (1 : Int32))) (fun h => by rw [Bd.returns] at h; cases h)
      refine Goes.mk _ _ ?_ ⟨hrun, hended, _, _, rfl, ?_, ⟨_, rfl⟩, hW, hsame.mono (by decide) (by decide)⟩
      · exact retI X6 hx Bd.returns (hb hby d6_53) hr
      · show QDue2 Z a0 q1 ar kA x1 x2 t1 t2 h0 n0 _ T6.heap _
        rw [e6]
        exact ⟨(by simp only [fDue2, if_pos hc5, if_neg hc9]), N0, rfl⟩
  · refine Gb (B := T2.setTop (mkF m 53 (sh4 a0 q1 (2 : Int32) (2 : Int32) (1 : Int32)) [(.int (2 : Int32))])) (fun t k => ?_) ?_
    · refine XS.ifNo X2.here hx rfl (hb hby d6_34) rfl ((if0 _ _).trans (flt (fun z => hc5 ((lw_gt t2 q1).mp z))).2.2.1) ?_
      refine XS.iload X2.here hx rfl (hb hby d6_37) rfl ?_
      refine XS.iconst X2.here hx rfl (hb hby d6_39) ?_
      refine XS.iadd X2.here hx rfl (hb hby d6_40) rfl ?_
      refine XS.istoreN X2.here hx rfl (hb hby d6_41) rfl (l' := (sh4 a0 q1 (2 : Int32) (2 : Int32) (1 : Int32))) rfl ?_
      refine XS.goto X2.here hx rfl (pc0 := 42) (pc' := 49) rfl (hb hby d6_42) (by decide) (by decide) ?_
      refine XS.goto X2.here hx rfl (pc0 := 49) (pc' := 8) rfl (hb hby d6_49) (by decide) (by decide) ?_
      refine XS.iloadN X2.here hx rfl (hb hby d6_8) rfl ?_
      refine XS.iload X2.here hx rfl (hb hby d6_9) rfl ?_
      refine XS.icmpYes X2.here hx rfl (pc0 := 11) (pc' := 52) rfl (hb hby d6_11) rfl (flt (by decide : ¬ ((2 : Int32) < (2 : Int32)))).2.1 (by decide) (by decide) ?_
      refine XS.iloadN X2.here hx rfl (hb hby d6_52) rfl ?_
      exact k
    obtain ⟨fs, hr, hrun, hended, hW, hsame⟩ := X2.leave (v := some (.int (2 : Int32))) (fun h => by rw [Bd.returns] at h; cases h)
    refine Goes.mk _ _ ?_ ⟨hrun, hended, _, _, rfl, ?_, ⟨_, rfl⟩, hW, hsame.mono (by decide) (by decide)⟩
    · exact retI X2 hx Bd.returns (hb hby d6_53) hr
    · show QDue2 Z a0 q1 ar kA x1 x2 t1 t2 h0 n0 _ T2.heap _
      rw [e2]
      exact ⟨(by simp only [fDue2, if_neg hc5]), N0, rfl⟩
theorem own_due2 (q1 t1 t2 : Int64) : fDue2 q1 t1 t2 = (0 : Int32) ∨ fDue2 q1 t1 t2 = (1 : Int32) ∨ fDue2 q1 t1 t2 = (2 : Int32) := by
  unfold fDue2
  repeat' split
  all_goals simp
def fDue3 (q1 : Int64) (t1 : Int64) (t2 : Int64) (t3 : Int64) : Int32 := (if q1 < t2 then (if q1 < t1 then (0 : Int32) else (1 : Int32)) else (if q1 < t3 then (2 : Int32) else (3 : Int32)))
def QDue3 (Z : State) (a0 : Addr) (q1 : Int64) (ar : Addr) (kA : ClassId) (x1 : Addr) (x2 : Addr) (x3 : Addr) (t1 : Int64) (t2 : Int64) (t3 : Int64) (h0 : Heap) (n0 : Nat) (v : Option Value) (h : Heap) (L : List Loc) : Prop := v = some (.int (fDue3 q1 t1 t2 t3)) ∧ Fr n0 L ∧ h = h0
theorem efDue3 (m : MethodId) (x0 : Addr) (x1 : Int64) : entryFrame m #[(.ref x0), (.long x1)] 6 = mkF m 0 #[.val (.ref x0), .val (.long x1), .second, .unset, .unset, .unset] [] := by first | (simp [entryFrame, mkF, argsToLocals, Value.category]; done) | rfl
set_option maxRecDepth 65536 in
set_option maxHeartbeats 40000000 in
theorem rmDue3 (l : Launch) (Z : State) (az : Array Value) (hw : ∀ d ∈ tables_1, d.before az Z = true) (ws : List Jvm.Cond) (a0 : Addr) (q1 : Int64) (ar : Addr) (kA : ClassId) (x1 : Addr) (x2 : Addr) (x3 : Addr) (t1 : Int64) (t2 : Int64) (t3 : Int64) (h0 : Heap) (n0 : Nat) (Z0 : n0 ≤ h0.size) (F0 : Exa Z h0 a0 cD) (F1 : Fld Z h0 a0 cD "heads" dA (.ref ar)) (F2 : Fld Z h0 a0 cD "count" "I" (.int (3 : Int32))) (F3 : Arv Z h0 ar kA (.object cH) (4 : Int32) [(.ref x1), (.ref x2), (.ref x3), .null] .null) (F4 : Ovr Z kA cH) (F5 : Exa Z h0 x1 cH) (F6 : Fld Z h0 x1 cH "tick" "J" (.long t1)) (F7 : Exa Z h0 x2 cH) (F8 : Fld Z h0 x2 cH "tick" "J" (.long t2)) (F9 : Exa Z h0 x3 cH) (F10 : Fld Z h0 x3 cH "tick" "J" (.long t3)) :
    MetFree l y4 (head1 (Jvm.Cond.code y4 prog_4_method_10_code 6 (some .int) :: ws) ({ frames := 0, cells := 0, slots := 0, locals := 0 } : Room)) (fun a U => a = #[(.ref a0), (.long q1)] ∧ Z.Warmed39 U.vm ∧ U.heap = h0) (fun _ _ _ _ _ => True) (fun _ U o U' => ∃ v L, o = .returned v ∧ QDue3 Z a0 q1 ar kA x1 x2 x3 t1 t2 t3 h0 n0 v U'.heap L ∧ FrameEnd U o U' L ({ frames := 0, cells := 0, slots := 0, locals := 0 } : Room).cells ({ frames := 0, cells := 0, slots := 0, locals := 0 } : Room).slots) := by
  refine MetFree.of_bodySF (plainFor_of_name own_pn_com_example_admit_one_admitone_engine_DueOrder) hisR ?_
  intro p e s m args below meth c s₁ Bd hml0 hP hK
  obtain ⟨rfl, hZ, hh⟩ := hP
  have hx := Bd.exec
  have hby := Bd.bytes
  have hml : c.maxLocals = 6 := hml0
  have hown : s.vm.findClass cD = some m.cls := findClass_of_methodNamed Bd.named
  have hnm := (name_of_methodNamed Bd.named Bd.method).1
  have X0 : Stand p l e ({ frames := 0, cells := 0, slots := 0, locals := 0 } : Room) s m #[(.ref a0), (.long q1)] below meth c s₁ [] 0 0 := Stand.of_body Bd
  have e0 : s₁.heap = h0 := by rw [← hh, Bd.state]; rfl
  have N0 := Fr.nil n0
  have Kp0 : Keep h0 h0 [] := Keep.refl _ _
  refine Goes.start ?_
  refine Gb (B := s₁.setTop (mkF m 0 #[.val (.ref a0), .val (.long q1), .second, .unset, .unset, .unset] [])) (fun t k => castTop (efDue3 m a0 q1) k) ?_
  refine Gb (fun _ => XS.iconst X0.here hx rfl (hb hby d6_0)) ?_
  refine Gb (fun _ => XS.istoreN X0.here hx rfl (hb hby d6_1) rfl (l' := (sh2 a0 q1 (0 : Int32))) rfl) ?_
  refine Gb (fun _ => XS.aloadN X0.here hx rfl (hb hby d6_2) rfl rfl) ?_
  obtain ⟨T1, X1, e1, st1⟩ := getF X0 hx hZ hown (host := "") (Or.inl (wq hw 29 rfl)) Via.refl e0 F2 (g := (mkF m 3 (sh2 a0 q1 (0 : Int32)) [(.ref a0)])) rfl rfl (hb hby d6_3)
  refine Gb st1 ?_
  refine Gb (B := T1.setTop (mkF m 23 (sh4 a0 q1 (0 : Int32) (3 : Int32) (1 : Int32)) [(.ref a0)])) (fun t k => ?_) ?_
  · refine XS.istore X1.here hx rfl (hb hby d6_6) rfl (l' := (sh3 a0 q1 (0 : Int32) (3 : Int32))) rfl ?_
    refine XS.iloadN X1.here hx rfl (hb hby d6_8) rfl ?_
    refine XS.iload X1.here hx rfl (hb hby d6_9) rfl ?_
    refine XS.icmpNo X1.here hx rfl (hb hby d6_11) rfl (tlt (by decide : (0 : Int32) < (3 : Int32))).2.1 ?_
    refine XS.iloadN X1.here hx rfl (hb hby d6_14) rfl ?_
    refine XS.iload X1.here hx rfl (hb hby d6_15) rfl ?_
    refine XS.iadd X1.here hx rfl (hb hby d6_17) rfl ?_
    refine XS.iconst X1.here hx rfl (hb hby d6_18) ?_
    refine XS.iushr X1.here hx rfl (hb hby d6_19) rfl ?_
    refine XS.istore X1.here hx rfl (hb hby d6_20) rfl (l' := (sh4 a0 q1 (0 : Int32) (3 : Int32) (1 : Int32))) rfl ?_
    refine XS.aloadN X1.here hx rfl (hb hby d6_22) rfl rfl ?_
    exact k
  obtain ⟨T2, X2, e2, st2⟩ := getF X1 hx hZ hown (host := "") (Or.inl (wq hw 11 rfl)) Via.refl e1 F1 (g := (mkF m 23 (sh4 a0 q1 (0 : Int32) (3 : Int32) (1 : Int32)) [(.ref a0)])) rfl rfl (hb hby d6_23)
  refine Gb st2 ?_
  refine Gb (fun _ => XS.iload X2.here hx rfl (hb hby d6_26) rfl) ?_
  obtain ⟨cl3, cl3A, cl3q, cl3S, cl3N, cl3H, cl3G⟩ := id F3
  have cl3I : ¬ ((1 : Int32) < 0 ∨ cl3.slots.size ≤ ((1 : Int32)).toNatClampNeg) := inb_of cl3S ⟨by decide, by decide⟩
  have cl3T : cl3.slots[((1 : Int32)).toNatClampNeg]? = some (.ref x2) := cl3H.at cl3I rfl
  refine Gb (X2.aaload hx (j := (1 : Int32)) (v := (.ref x2)) (by rw [e2]; exact cl3A.1) (State.isArrayOf_alike hZ.alike cl3A.2.1) rfl cl3A.2.2 cl3I cl3T (g := (mkF m 28 (sh4 a0 q1 (0 : Int32) (3 : Int32) (1 : Int32)) [(.int (1 : Int32)), (.ref ar)])) rfl rfl (hb hby d6_28)) ?_
  refine Gb (B := T2.setTop (mkF m 34 (sh4 a0 q1 (0 : Int32) (3 : Int32) (1 : Int32)) [(.int (lcmpW t2 q1))])) (fun t k => ?_) ?_
  · refine getFR X2 hx hZ hown (wq hw 57 rfl) e2 F8 (g := (mkF m 29 (sh4 a0 q1 (0 : Int32) (3 : Int32) (1 : Int32)) [(.ref x2)])) rfl rfl (hb hby d6_29) ?_
    refine XS.lloadN X2.here hx rfl (hb hby d6_32) rfl ?_
    refine XS.lcmp X2.here hx rfl (hb hby d6_33) rfl ?_
    exact k
  by_cases hc5 : q1 < t2
  · refine Gb (B := T2.setTop (mkF m 23 (sh4 a0 q1 (0 : Int32) (1 : Int32) (0 : Int32)) [(.ref a0)])) (fun t k => ?_) ?_
    · refine XS.ifYes X2.here hx rfl (pc0 := 34) (pc' := 45) rfl (hb hby d6_34) rfl ((if0 _ _).trans (tlt ((lw_gt t2 q1).mpr hc5)).2.2.1) (by decide) (by decide) ?_
      refine XS.iload X2.here hx rfl (hb hby d6_45) rfl ?_
      refine XS.istore X2.here hx rfl (hb hby d6_47) rfl (l' := (sh4 a0 q1 (0 : Int32) (1 : Int32) (1 : Int32))) rfl ?_
      refine XS.goto X2.here hx rfl (pc0 := 49) (pc' := 8) rfl (hb hby d6_49) (by decide) (by decide) ?_
      refine XS.iloadN X2.here hx rfl (hb hby d6_8) rfl ?_
      refine XS.iload X2.here hx rfl (hb hby d6_9) rfl ?_
      refine XS.icmpNo X2.here hx rfl (hb hby d6_11) rfl (tlt (by decide : (0 : Int32) < (1 : Int32))).2.1 ?_
      refine XS.iloadN X2.here hx rfl (hb hby d6_14) rfl ?_
      refine XS.iload X2.here hx rfl (hb hby d6_15) rfl ?_
      refine XS.iadd X2.here hx rfl (hb hby d6_17) rfl ?_
      refine XS.iconst X2.here hx rfl (hb hby d6_18) ?_
      refine XS.iushr X2.here hx rfl (hb hby d6_19) rfl ?_
      refine XS.istore X2.here hx rfl (hb hby d6_20) rfl (l' := (sh4 a0 q1 (0 : Int32) (1 : Int32) (0 : Int32))) rfl ?_
      refine XS.aloadN X2.here hx rfl (hb hby d6_22) rfl rfl ?_
      exact k
    obtain ⟨T6, X6, e6, st6⟩ := getF X2 hx hZ hown (host := "") (Or.inl (wq hw 11 rfl)) Via.refl e2 F1 (g := (mkF m 23 (sh4 a0 q1 (0 : Int32) (1 : Int32) (0 : Int32)) [(.ref a0)])) rfl rfl (hb hby d6_23)
    refine Gb st6 ?_
    refine Gb (fun _ => XS.iload X6.here hx rfl (hb hby d6_26) rfl) ?_
    obtain ⟨cl7, cl7A, cl7q, cl7S, cl7N, cl7H, cl7G⟩ := id F3
    have cl7I : ¬ ((0 : Int32) < 0 ∨ cl7.slots.size ≤ ((0 : Int32)).toNatClampNeg) := inb_of cl7S ⟨by decide, by decide⟩
    have cl7T : cl7.slots[((0 : Int32)).toNatClampNeg]? = some (.ref x1) := cl7H.at cl7I rfl
    refine Gb (X6.aaload hx (j := (0 : Int32)) (v := (.ref x1)) (by rw [e6]; exact cl7A.1) (State.isArrayOf_alike hZ.alike cl7A.2.1) rfl cl7A.2.2 cl7I cl7T (g := (mkF m 28 (sh4 a0 q1 (0 : Int32) (1 : Int32) (0 : Int32)) [(.int (0 : Int32)), (.ref ar)])) rfl rfl (hb hby d6_28)) ?_
    refine Gb (B := T6.setTop (mkF m 34 (sh4 a0 q1 (0 : Int32) (1 : Int32) (0 : Int32)) [(.int (lcmpW t1 q1))])) (fun t k => ?_) ?_
    · refine getFR X6 hx hZ hown (wq hw 57 rfl) e6 F6 (g := (mkF m 29 (sh4 a0 q1 (0 : Int32) (1 : Int32) (0 : Int32)) [(.ref x1)])) rfl rfl (hb hby d6_29) ?_
      refine XS.lloadN X6.here hx rfl (hb hby d6_32) rfl ?_
      refine XS.lcmp X6.here hx rfl (hb hby d6_33) rfl ?_
      exact k
    by_cases hc9 : q1 < t1
    · refine Gb (B := T6.setTop (mkF m 53 (sh4 a0 q1 (0 : Int32) (0 : Int32) (0 : Int32)) [(.int (0 : Int32))])) (fun t k => ?_) ?_
      · refine XS.ifYes X6.here hx rfl (pc0 := 34) (pc' := 45) rfl (hb hby d6_34) rfl ((if0 _ _).trans (tlt ((lw_gt t1 q1).mpr hc9)).2.2.1) (by decide) (by decide) ?_
        refine XS.iload X6.here hx rfl (hb hby d6_45) rfl ?_
        refine XS.istore X6.here hx rfl (hb hby d6_47) rfl (l' := (sh4 a0 q1 (0 : Int32) (0 : Int32) (0 : Int32))) rfl ?_
        refine XS.goto X6.here hx rfl (pc0 := 49) (pc' := 8) rfl (hb hby d6_49) (by decide) (by decide) ?_
        refine XS.iloadN X6.here hx rfl (hb hby d6_8) rfl ?_
        refine XS.iload X6.here hx rfl (hb hby d6_9) rfl ?_
        refine XS.icmpYes X6.here hx rfl (pc0 := 11) (pc' := 52) rfl (hb hby d6_11) rfl (flt (by decide : ¬ ((0 : Int32) < (0 : Int32)))).2.1 (by decide) (by decide) ?_
        refine XS.iloadN X6.here hx rfl (hb hby d6_52) rfl ?_
        exact k
      obtain ⟨fs, hr, hrun, hended, hW, hsame⟩ := X6.leave (v := some (.int (0 : Int32))) (fun h => by rw [Bd.returns] at h; cases h)
      refine Goes.mk _ _ ?_ ⟨hrun, hended, _, _, rfl, ?_, ⟨_, rfl⟩, hW, hsame.mono (by decide) (by decide)⟩
      · exact retI X6 hx Bd.returns (hb hby d6_53) hr
      · show QDue3 Z a0 q1 ar kA x1 x2 x3 t1 t2 t3 h0 n0 _ T6.heap _
        rw [e6]
        exact ⟨(by simp only [fDue3, if_pos hc5, if_pos hc9]), N0, rfl⟩
    · refine Gb (B := T6.setTop (mkF m 53 (sh4 a0 q1 (1 : Int32) (1 : Int32) (0 : Int32)) [(.int (1 : Int32))])) (fun t k => ?_) ?_
      · refine XS.ifNo X6.here hx rfl (hb hby d6_34) rfl ((if0 _ _).trans (flt (fun z => hc9 ((lw_gt t1 q1).mp z))).2.2.1) ?_
        refine XS.iload X6.here hx rfl (hb hby d6_37) rfl ?_
        refine XS.iconst X6.here hx rfl (hb hby d6_39) ?_
        refine XS.iadd X6.here hx rfl (hb hby d6_40) rfl ?_
        refine XS.istoreN X6.here hx rfl (hb hby d6_41) rfl (l' := (sh4 a0 q1 (1 : Int32) (1 : Int32) (0 : Int32))) rfl ?_
        refine XS.goto X6.here hx rfl (pc0 := 42) (pc' := 49) rfl (hb hby d6_42) (by decide) (by decide) ?_
        refine XS.goto X6.here hx rfl (pc0 := 49) (pc' := 8) rfl (hb hby d6_49) (by decide) (by decide) ?_
        refine XS.iloadN X6.here hx rfl (hb hby d6_8) rfl ?_
        refine XS.iload X6.here hx rfl (hb hby d6_9) rfl ?_
        refine XS.icmpYes X6.here hx rfl (pc0 := 11) (pc' := 52) rfl (hb hby d6_11) rfl (flt (by decide : ¬ ((1 : Int32) < (1 : Int32)))).2.1 (by decide) (by decide) ?_
        refine XS.iloadN X6.here hx rfl (hb hby d6_52) rfl ?_
        exact k
      obtain ⟨fs, hr, hrun, hended, hW, hsame⟩ := X6.leave (v := some (.int (1 : Int32))) (fun h => by rw [Bd.returns] at h; cases h)
      refine Goes.mk _ _ ?_ ⟨hrun, hended, _, _, rfl, ?_, ⟨_, rfl⟩, hW, hsame.mono (by decide) (by decide)⟩
      · exact retI X6 hx Bd.returns (hb hby d6_53) hr
      · show QDue3 Z a0 q1 ar kA x1 x2 x3 t1 t2 t3 h0 n0 _ T6.heap _
        rw [e6]
        exact ⟨(by simp only [fDue3, if_pos hc5, if_neg hc9]), N0, rfl⟩
  · refine Gb (B := T2.setTop (mkF m 23 (sh4 a0 q1 (2 : Int32) (3 : Int32) (2 : Int32)) [(.ref a0)])) (fun t k => ?_) ?_
    · refine XS.ifNo X2.here hx rfl (hb hby d6_34) rfl ((if0 _ _).trans (flt (fun z => hc5 ((lw_gt t2 q1).mp z))).2.2.1) ?_
      refine XS.iload X2.here hx rfl (hb hby d6_37) rfl ?_
      refine XS.iconst X2.here hx rfl (hb hby d6_39) ?_
      refine XS.iadd X2.here hx rfl (hb hby d6_40) rfl ?_
      refine XS.istoreN X2.here hx rfl (hb hby d6_41) rfl (l' := (sh4 a0 q1 (2 : Int32) (3 : Int32) (1 : Int32))) rfl ?_
      refine XS.goto X2.here hx rfl (pc0 := 42) (pc' := 49) rfl (hb hby d6_42) (by decide) (by decide) ?_
      refine XS.goto X2.here hx rfl (pc0 := 49) (pc' := 8) rfl (hb hby d6_49) (by decide) (by decide) ?_
      refine XS.iloadN X2.here hx rfl (hb hby d6_8) rfl ?_
      refine XS.iload X2.here hx rfl (hb hby d6_9) rfl ?_
      refine XS.icmpNo X2.here hx rfl (hb hby d6_11) rfl (tlt (by decide : (2 : Int32) < (3 : Int32))).2.1 ?_
      refine XS.iloadN X2.here hx rfl (hb hby d6_14) rfl ?_
      refine XS.iload X2.here hx rfl (hb hby d6_15) rfl ?_
      refine XS.iadd X2.here hx rfl (hb hby d6_17) rfl ?_
      refine XS.iconst X2.here hx rfl (hb hby d6_18) ?_
      refine XS.iushr X2.here hx rfl (hb hby d6_19) rfl ?_
      refine XS.istore X2.here hx rfl (hb hby d6_20) rfl (l' := (sh4 a0 q1 (2 : Int32) (3 : Int32) (2 : Int32))) rfl ?_
      refine XS.aloadN X2.here hx rfl (hb hby d6_22) rfl rfl ?_
      exact k
    obtain ⟨T10, X10, e10, st10⟩ := getF X2 hx hZ hown (host := "") (Or.inl (wq hw 11 rfl)) Via.refl e2 F1 (g := (mkF m 23 (sh4 a0 q1 (2 : Int32) (3 : Int32) (2 : Int32)) [(.ref a0)])) rfl rfl (hb hby d6_23)
    refine Gb st10 ?_
    refine Gb (fun _ => XS.iload X10.here hx rfl (hb hby d6_26) rfl) ?_
    obtain ⟨cl11, cl11A, cl11q, cl11S, cl11N, cl11H, cl11G⟩ := id F3
    have cl11I : ¬ ((2 : Int32) < 0 ∨ cl11.slots.size ≤ ((2 : Int32)).toNatClampNeg) := inb_of cl11S ⟨by decide, by decide⟩
    have cl11T : cl11.slots[((2 : Int32)).toNatClampNeg]? = some (.ref x3) := cl11H.at cl11I rfl
    refine Gb (X10.aaload hx (j := (2 : Int32)) (v := (.ref x3)) (by rw [e10]; exact cl11A.1) (State.isArrayOf_alike hZ.alike cl11A.2.1) rfl cl11A.2.2 cl11I cl11T (g := (mkF m 28 (sh4 a0 q1 (2 : Int32) (3 : Int32) (2 : Int32)) [(.int (2 : Int32)), (.ref ar)])) rfl rfl (hb hby d6_28)) ?_
    refine Gb (B := T10.setTop (mkF m 34 (sh4 a0 q1 (2 : Int32) (3 : Int32) (2 : Int32)) [(.int (lcmpW t3 q1))])) (fun t k => ?_) ?_
    · refine getFR X10 hx hZ hown (wq hw 57 rfl) e10 F10 (g := (mkF m 29 (sh4 a0 q1 (2 : Int32) (3 : Int32) (2 : Int32)) [(.ref x3)])) rfl rfl (hb hby d6_29) ?_
      refine XS.lloadN X10.here hx rfl (hb hby d6_32) rfl ?_
      refine XS.lcmp X10.here hx rfl (hb hby d6_33) rfl ?_
      exact k
    by_cases hc13 : q1 < t3
    · refine Gb (B := T10.setTop (mkF m 53 (sh4 a0 q1 (2 : Int32) (2 : Int32) (2 : Int32)) [(.int (2 : Int32))])) (fun t k => ?_) ?_
      · refine XS.ifYes X10.here hx rfl (pc0 := 34) (pc' := 45) rfl (hb hby d6_34) rfl ((if0 _ _).trans (tlt ((lw_gt t3 q1).mpr hc13)).2.2.1) (by decide) (by decide) ?_
        refine XS.iload X10.here hx rfl (hb hby d6_45) rfl ?_
        refine XS.istore X10.here hx rfl (hb hby d6_47) rfl (l' := (sh4 a0 q1 (2 : Int32) (2 : Int32) (2 : Int32))) rfl ?_
        refine XS.goto X10.here hx rfl (pc0 := 49) (pc' := 8) rfl (hb hby d6_49) (by decide) (by decide) ?_
        refine XS.iloadN X10.here hx rfl (hb hby d6_8) rfl ?_
        refine XS.iload X10.here hx rfl (hb hby d6_9) rfl ?_
        refine XS.icmpYes X10.here hx rfl (pc0 := 11) (pc' := 52) rfl (hb hby d6_11) rfl (flt (by decide : ¬ ((2 : Int32) < (2 : Int32)))).2.1 (by decide) (by decide) ?_
        refine XS.iloadN X10.here hx rfl (hb hby d6_52) rfl ?_
        exact k
      obtain ⟨fs, hr, hrun, hended, hW, hsame⟩ := X10.leave (v := some (.int (2 : Int32))) (fun h => by rw [Bd.returns] at h; cases h)
      refine Goes.mk _ _ ?_ ⟨hrun, hended, _, _, rfl, ?_, ⟨_, rfl⟩, hW, hsame.mono (by decide) (by decide)⟩
      · exact retI X10 hx Bd.returns (hb hby d6_53) hr
      · show QDue3 Z a0 q1 ar kA x1 x2 x3 t1 t2 t3 h0 n0 _ T10.heap _
        rw [e10]
        exact ⟨(by simp only [fDue3, if_neg hc5, if_pos hc13]), N0, rfl⟩
    · refine Gb (B := T10.setTop (mkF m 53 (sh4 a0 q1 (3 : Int32) (3 : Int32) (2 : Int32)) [(.int (3 : Int32))])) (fun t k => ?_) ?_
      · refine XS.ifNo X10.here hx rfl (hb hby d6_34) rfl ((if0 _ _).trans (flt (fun z => hc13 ((lw_gt t3 q1).mp z))).2.2.1) ?_
        refine XS.iload X10.here hx rfl (hb hby d6_37) rfl ?_
        refine XS.iconst X10.here hx rfl (hb hby d6_39) ?_
        refine XS.iadd X10.here hx rfl (hb hby d6_40) rfl ?_
        refine XS.istoreN X10.here hx rfl (hb hby d6_41) rfl (l' := (sh4 a0 q1 (3 : Int32) (3 : Int32) (2 : Int32))) rfl ?_
        refine XS.goto X10.here hx rfl (pc0 := 42) (pc' := 49) rfl (hb hby d6_42) (by decide) (by decide) ?_
        refine XS.goto X10.here hx rfl (pc0 := 49) (pc' := 8) rfl (hb hby d6_49) (by decide) (by decide) ?_
        refine XS.iloadN X10.here hx rfl (hb hby d6_8) rfl ?_
        refine XS.iload X10.here hx rfl (hb hby d6_9) rfl ?_
        refine XS.icmpYes X10.here hx rfl (pc0 := 11) (pc' := 52) rfl (hb hby d6_11) rfl (flt (by decide : ¬ ((3 : Int32) < (3 : Int32)))).2.1 (by decide) (by decide) ?_
        refine XS.iloadN X10.here hx rfl (hb hby d6_52) rfl ?_
        exact k
      obtain ⟨fs, hr, hrun, hended, hW, hsame⟩ := X10.leave (v := some (.int (3 : Int32))) (fun h => by rw [Bd.returns] at h; cases h)
      refine Goes.mk _ _ ?_ ⟨hrun, hended, _, _, rfl, ?_, ⟨_, rfl⟩, hW, hsame.mono (by decide) (by decide)⟩
      · exact retI X10 hx Bd.returns (hb hby d6_53) hr
      · show QDue3 Z a0 q1 ar kA x1 x2 x3 t1 t2 t3 h0 n0 _ T10.heap _
        rw [e10]
        exact ⟨(by simp only [fDue3, if_neg hc5, if_neg hc13]), N0, rfl⟩
theorem own_due3 (q1 t1 t2 t3 : Int64) : fDue3 q1 t1 t2 t3 = (0 : Int32) ∨ fDue3 q1 t1 t2 t3 = (1 : Int32) ∨ fDue3 q1 t1 t2 t3 = (2 : Int32) ∨ fDue3 q1 t1 t2 t3 = (3 : Int32) := by
  unfold fDue3
  repeat' split
  all_goals simp
def fDue4 (q1 : Int64) (t1 : Int64) (t2 : Int64) (t3 : Int64) (t4 : Int64) : Int32 := (if q1 < t3 then (if q1 < t2 then (if q1 < t1 then (0 : Int32) else (1 : Int32)) else (2 : Int32)) else (if q1 < t4 then (3 : Int32) else (4 : Int32)))
def QDue4 (Z : State) (a0 : Addr) (q1 : Int64) (ar : Addr) (kA : ClassId) (x1 : Addr) (x2 : Addr) (x3 : Addr) (x4 : Addr) (t1 : Int64) (t2 : Int64) (t3 : Int64) (t4 : Int64) (h0 : Heap) (n0 : Nat) (v : Option Value) (h : Heap) (L : List Loc) : Prop := v = some (.int (fDue4 q1 t1 t2 t3 t4)) ∧ Fr n0 L ∧ h = h0
theorem efDue4 (m : MethodId) (x0 : Addr) (x1 : Int64) : entryFrame m #[(.ref x0), (.long x1)] 6 = mkF m 0 #[.val (.ref x0), .val (.long x1), .second, .unset, .unset, .unset] [] := by first | (simp [entryFrame, mkF, argsToLocals, Value.category]; done) | rfl
set_option maxRecDepth 65536 in
set_option maxHeartbeats 40000000 in
theorem rmDue4 (l : Launch) (Z : State) (az : Array Value) (hw : ∀ d ∈ tables_1, d.before az Z = true) (ws : List Jvm.Cond) (a0 : Addr) (q1 : Int64) (ar : Addr) (kA : ClassId) (x1 : Addr) (x2 : Addr) (x3 : Addr) (x4 : Addr) (t1 : Int64) (t2 : Int64) (t3 : Int64) (t4 : Int64) (h0 : Heap) (n0 : Nat) (Z0 : n0 ≤ h0.size) (F0 : Exa Z h0 a0 cD) (F1 : Fld Z h0 a0 cD "heads" dA (.ref ar)) (F2 : Fld Z h0 a0 cD "count" "I" (.int (4 : Int32))) (F3 : Arv Z h0 ar kA (.object cH) (4 : Int32) [(.ref x1), (.ref x2), (.ref x3), (.ref x4)] .null) (F4 : Ovr Z kA cH) (F5 : Exa Z h0 x1 cH) (F6 : Fld Z h0 x1 cH "tick" "J" (.long t1)) (F7 : Exa Z h0 x2 cH) (F8 : Fld Z h0 x2 cH "tick" "J" (.long t2)) (F9 : Exa Z h0 x3 cH) (F10 : Fld Z h0 x3 cH "tick" "J" (.long t3)) (F11 : Exa Z h0 x4 cH) (F12 : Fld Z h0 x4 cH "tick" "J" (.long t4)) :
    MetFree l y4 (head1 (Jvm.Cond.code y4 prog_4_method_10_code 6 (some .int) :: ws) ({ frames := 0, cells := 0, slots := 0, locals := 0 } : Room)) (fun a U => a = #[(.ref a0), (.long q1)] ∧ Z.Warmed39 U.vm ∧ U.heap = h0) (fun _ _ _ _ _ => True) (fun _ U o U' => ∃ v L, o = .returned v ∧ QDue4 Z a0 q1 ar kA x1 x2 x3 x4 t1 t2 t3 t4 h0 n0 v U'.heap L ∧ FrameEnd U o U' L ({ frames := 0, cells := 0, slots := 0, locals := 0 } : Room).cells ({ frames := 0, cells := 0, slots := 0, locals := 0 } : Room).slots) := by
  refine MetFree.of_bodySF (plainFor_of_name own_pn_com_example_admit_one_admitone_engine_DueOrder) hisR ?_
  intro p e s m args below meth c s₁ Bd hml0 hP hK
  obtain ⟨rfl, hZ, hh⟩ := hP
  have hx := Bd.exec
  have hby := Bd.bytes
  have hml : c.maxLocals = 6 := hml0
  have hown : s.vm.findClass cD = some m.cls := findClass_of_methodNamed Bd.named
  have hnm := (name_of_methodNamed Bd.named Bd.method).1
  have X0 : Stand p l e ({ frames := 0, cells := 0, slots := 0, locals := 0 } : Room) s m #[(.ref a0), (.long q1)] below meth c s₁ [] 0 0 := Stand.of_body Bd
  have e0 : s₁.heap = h0 := by rw [← hh, Bd.state]; rfl
  have N0 := Fr.nil n0
  have Kp0 : Keep h0 h0 [] := Keep.refl _ _
  refine Goes.start ?_
  refine Gb (B := s₁.setTop (mkF m 0 #[.val (.ref a0), .val (.long q1), .second, .unset, .unset, .unset] [])) (fun t k => castTop (efDue4 m a0 q1) k) ?_
  refine Gb (fun _ => XS.iconst X0.here hx rfl (hb hby d6_0)) ?_
  refine Gb (fun _ => XS.istoreN X0.here hx rfl (hb hby d6_1) rfl (l' := (sh2 a0 q1 (0 : Int32))) rfl) ?_
  refine Gb (fun _ => XS.aloadN X0.here hx rfl (hb hby d6_2) rfl rfl) ?_
  obtain ⟨T1, X1, e1, st1⟩ := getF X0 hx hZ hown (host := "") (Or.inl (wq hw 29 rfl)) Via.refl e0 F2 (g := (mkF m 3 (sh2 a0 q1 (0 : Int32)) [(.ref a0)])) rfl rfl (hb hby d6_3)
  refine Gb st1 ?_
  refine Gb (B := T1.setTop (mkF m 23 (sh4 a0 q1 (0 : Int32) (4 : Int32) (2 : Int32)) [(.ref a0)])) (fun t k => ?_) ?_
  · refine XS.istore X1.here hx rfl (hb hby d6_6) rfl (l' := (sh3 a0 q1 (0 : Int32) (4 : Int32))) rfl ?_
    refine XS.iloadN X1.here hx rfl (hb hby d6_8) rfl ?_
    refine XS.iload X1.here hx rfl (hb hby d6_9) rfl ?_
    refine XS.icmpNo X1.here hx rfl (hb hby d6_11) rfl (tlt (by decide : (0 : Int32) < (4 : Int32))).2.1 ?_
    refine XS.iloadN X1.here hx rfl (hb hby d6_14) rfl ?_
    refine XS.iload X1.here hx rfl (hb hby d6_15) rfl ?_
    refine XS.iadd X1.here hx rfl (hb hby d6_17) rfl ?_
    refine XS.iconst X1.here hx rfl (hb hby d6_18) ?_
    refine XS.iushr X1.here hx rfl (hb hby d6_19) rfl ?_
    refine XS.istore X1.here hx rfl (hb hby d6_20) rfl (l' := (sh4 a0 q1 (0 : Int32) (4 : Int32) (2 : Int32))) rfl ?_
    refine XS.aloadN X1.here hx rfl (hb hby d6_22) rfl rfl ?_
    exact k
  obtain ⟨T2, X2, e2, st2⟩ := getF X1 hx hZ hown (host := "") (Or.inl (wq hw 11 rfl)) Via.refl e1 F1 (g := (mkF m 23 (sh4 a0 q1 (0 : Int32) (4 : Int32) (2 : Int32)) [(.ref a0)])) rfl rfl (hb hby d6_23)
  refine Gb st2 ?_
  refine Gb (fun _ => XS.iload X2.here hx rfl (hb hby d6_26) rfl) ?_
  obtain ⟨cl3, cl3A, cl3q, cl3S, cl3N, cl3H, cl3G⟩ := id F3
  have cl3I : ¬ ((2 : Int32) < 0 ∨ cl3.slots.size ≤ ((2 : Int32)).toNatClampNeg) := inb_of cl3S ⟨by decide, by decide⟩
  have cl3T : cl3.slots[((2 : Int32)).toNatClampNeg]? = some (.ref x3) := cl3H.at cl3I rfl
  refine Gb (X2.aaload hx (j := (2 : Int32)) (v := (.ref x3)) (by rw [e2]; exact cl3A.1) (State.isArrayOf_alike hZ.alike cl3A.2.1) rfl cl3A.2.2 cl3I cl3T (g := (mkF m 28 (sh4 a0 q1 (0 : Int32) (4 : Int32) (2 : Int32)) [(.int (2 : Int32)), (.ref ar)])) rfl rfl (hb hby d6_28)) ?_
  refine Gb (B := T2.setTop (mkF m 34 (sh4 a0 q1 (0 : Int32) (4 : Int32) (2 : Int32)) [(.int (lcmpW t3 q1))])) (fun t k => ?_) ?_
  · refine getFR X2 hx hZ hown (wq hw 57 rfl) e2 F10 (g := (mkF m 29 (sh4 a0 q1 (0 : Int32) (4 : Int32) (2 : Int32)) [(.ref x3)])) rfl rfl (hb hby d6_29) ?_
    refine XS.lloadN X2.here hx rfl (hb hby d6_32) rfl ?_
    refine XS.lcmp X2.here hx rfl (hb hby d6_33) rfl ?_
    exact k
  by_cases hc5 : q1 < t3
  · refine Gb (B := T2.setTop (mkF m 23 (sh4 a0 q1 (0 : Int32) (2 : Int32) (1 : Int32)) [(.ref a0)])) (fun t k => ?_) ?_
    · refine XS.ifYes X2.here hx rfl (pc0 := 34) (pc' := 45) rfl (hb hby d6_34) rfl ((if0 _ _).trans (tlt ((lw_gt t3 q1).mpr hc5)).2.2.1) (by decide) (by decide) ?_
      refine XS.iload X2.here hx rfl (hb hby d6_45) rfl ?_
      refine XS.istore X2.here hx rfl (hb hby d6_47) rfl (l' := (sh4 a0 q1 (0 : Int32) (2 : Int32) (2 : Int32))) rfl ?_
      refine XS.goto X2.here hx rfl (pc0 := 49) (pc' := 8) rfl (hb hby d6_49) (by decide) (by decide) ?_
      refine XS.iloadN X2.here hx rfl (hb hby d6_8) rfl ?_
      refine XS.iload X2.here hx rfl (hb hby d6_9) rfl ?_
      refine XS.icmpNo X2.here hx rfl (hb hby d6_11) rfl (tlt (by decide : (0 : Int32) < (2 : Int32))).2.1 ?_
      refine XS.iloadN X2.here hx rfl (hb hby d6_14) rfl ?_
      refine XS.iload X2.here hx rfl (hb hby d6_15) rfl ?_
      refine XS.iadd X2.here hx rfl (hb hby d6_17) rfl ?_
      refine XS.iconst X2.here hx rfl (hb hby d6_18) ?_
      refine XS.iushr X2.here hx rfl (hb hby d6_19) rfl ?_
      refine XS.istore X2.here hx rfl (hb hby d6_20) rfl (l' := (sh4 a0 q1 (0 : Int32) (2 : Int32) (1 : Int32))) rfl ?_
      refine XS.aloadN X2.here hx rfl (hb hby d6_22) rfl rfl ?_
      exact k
    obtain ⟨T6, X6, e6, st6⟩ := getF X2 hx hZ hown (host := "") (Or.inl (wq hw 11 rfl)) Via.refl e2 F1 (g := (mkF m 23 (sh4 a0 q1 (0 : Int32) (2 : Int32) (1 : Int32)) [(.ref a0)])) rfl rfl (hb hby d6_23)
    refine Gb st6 ?_
    refine Gb (fun _ => XS.iload X6.here hx rfl (hb hby d6_26) rfl) ?_
    obtain ⟨cl7, cl7A, cl7q, cl7S, cl7N, cl7H, cl7G⟩ := id F3
    have cl7I : ¬ ((1 : Int32) < 0 ∨ cl7.slots.size ≤ ((1 : Int32)).toNatClampNeg) := inb_of cl7S ⟨by decide, by decide⟩
    have cl7T : cl7.slots[((1 : Int32)).toNatClampNeg]? = some (.ref x2) := cl7H.at cl7I rfl
    refine Gb (X6.aaload hx (j := (1 : Int32)) (v := (.ref x2)) (by rw [e6]; exact cl7A.1) (State.isArrayOf_alike hZ.alike cl7A.2.1) rfl cl7A.2.2 cl7I cl7T (g := (mkF m 28 (sh4 a0 q1 (0 : Int32) (2 : Int32) (1 : Int32)) [(.int (1 : Int32)), (.ref ar)])) rfl rfl (hb hby d6_28)) ?_
    refine Gb (B := T6.setTop (mkF m 34 (sh4 a0 q1 (0 : Int32) (2 : Int32) (1 : Int32)) [(.int (lcmpW t2 q1))])) (fun t k => ?_) ?_
    · refine getFR X6 hx hZ hown (wq hw 57 rfl) e6 F8 (g := (mkF m 29 (sh4 a0 q1 (0 : Int32) (2 : Int32) (1 : Int32)) [(.ref x2)])) rfl rfl (hb hby d6_29) ?_
      refine XS.lloadN X6.here hx rfl (hb hby d6_32) rfl ?_
      refine XS.lcmp X6.here hx rfl (hb hby d6_33) rfl ?_
      exact k
    by_cases hc9 : q1 < t2
    · refine Gb (B := T6.setTop (mkF m 23 (sh4 a0 q1 (0 : Int32) (1 : Int32) (0 : Int32)) [(.ref a0)])) (fun t k => ?_) ?_
      · refine XS.ifYes X6.here hx rfl (pc0 := 34) (pc' := 45) rfl (hb hby d6_34) rfl ((if0 _ _).trans (tlt ((lw_gt t2 q1).mpr hc9)).2.2.1) (by decide) (by decide) ?_
        refine XS.iload X6.here hx rfl (hb hby d6_45) rfl ?_
        refine XS.istore X6.here hx rfl (hb hby d6_47) rfl (l' := (sh4 a0 q1 (0 : Int32) (1 : Int32) (1 : Int32))) rfl ?_
        refine XS.goto X6.here hx rfl (pc0 := 49) (pc' := 8) rfl (hb hby d6_49) (by decide) (by decide) ?_
        refine XS.iloadN X6.here hx rfl (hb hby d6_8) rfl ?_
        refine XS.iload X6.here hx rfl (hb hby d6_9) rfl ?_
        refine XS.icmpNo X6.here hx rfl (hb hby d6_11) rfl (tlt (by decide : (0 : Int32) < (1 : Int32))).2.1 ?_
        refine XS.iloadN X6.here hx rfl (hb hby d6_14) rfl ?_
        refine XS.iload X6.here hx rfl (hb hby d6_15) rfl ?_
        refine XS.iadd X6.here hx rfl (hb hby d6_17) rfl ?_
        refine XS.iconst X6.here hx rfl (hb hby d6_18) ?_
        refine XS.iushr X6.here hx rfl (hb hby d6_19) rfl ?_
        refine XS.istore X6.here hx rfl (hb hby d6_20) rfl (l' := (sh4 a0 q1 (0 : Int32) (1 : Int32) (0 : Int32))) rfl ?_
        refine XS.aloadN X6.here hx rfl (hb hby d6_22) rfl rfl ?_
        exact k
      obtain ⟨T10, X10, e10, st10⟩ := getF X6 hx hZ hown (host := "") (Or.inl (wq hw 11 rfl)) Via.refl e6 F1 (g := (mkF m 23 (sh4 a0 q1 (0 : Int32) (1 : Int32) (0 : Int32)) [(.ref a0)])) rfl rfl (hb hby d6_23)
      refine Gb st10 ?_
      refine Gb (fun _ => XS.iload X10.here hx rfl (hb hby d6_26) rfl) ?_
      obtain ⟨cl11, cl11A, cl11q, cl11S, cl11N, cl11H, cl11G⟩ := id F3
      have cl11I : ¬ ((0 : Int32) < 0 ∨ cl11.slots.size ≤ ((0 : Int32)).toNatClampNeg) := inb_of cl11S ⟨by decide, by decide⟩
      have cl11T : cl11.slots[((0 : Int32)).toNatClampNeg]? = some (.ref x1) := cl11H.at cl11I rfl
      refine Gb (X10.aaload hx (j := (0 : Int32)) (v := (.ref x1)) (by rw [e10]; exact cl11A.1) (State.isArrayOf_alike hZ.alike cl11A.2.1) rfl cl11A.2.2 cl11I cl11T (g := (mkF m 28 (sh4 a0 q1 (0 : Int32) (1 : Int32) (0 : Int32)) [(.int (0 : Int32)), (.ref ar)])) rfl rfl (hb hby d6_28)) ?_
      refine Gb (B := T10.setTop (mkF m 34 (sh4 a0 q1 (0 : Int32) (1 : Int32) (0 : Int32)) [(.int (lcmpW t1 q1))])) (fun t k => ?_) ?_
      · refine getFR X10 hx hZ hown (wq hw 57 rfl) e10 F6 (g := (mkF m 29 (sh4 a0 q1 (0 : Int32) (1 : Int32) (0 : Int32)) [(.ref x1)])) rfl rfl (hb hby d6_29) ?_
        refine XS.lloadN X10.here hx rfl (hb hby d6_32) rfl ?_
        refine XS.lcmp X10.here hx rfl (hb hby d6_33) rfl ?_
        exact k
      by_cases hc13 : q1 < t1
      · refine Gb (B := T10.setTop (mkF m 53 (sh4 a0 q1 (0 : Int32) (0 : Int32) (0 : Int32)) [(.int (0 : Int32))])) (fun t k => ?_) ?_
        · refine XS.ifYes X10.here hx rfl (pc0 := 34) (pc' := 45) rfl (hb hby d6_34) rfl ((if0 _ _).trans (tlt ((lw_gt t1 q1).mpr hc13)).2.2.1) (by decide) (by decide) ?_
          refine XS.iload X10.here hx rfl (hb hby d6_45) rfl ?_
          refine XS.istore X10.here hx rfl (hb hby d6_47) rfl (l' := (sh4 a0 q1 (0 : Int32) (0 : Int32) (0 : Int32))) rfl ?_
          refine XS.goto X10.here hx rfl (pc0 := 49) (pc' := 8) rfl (hb hby d6_49) (by decide) (by decide) ?_
          refine XS.iloadN X10.here hx rfl (hb hby d6_8) rfl ?_
          refine XS.iload X10.here hx rfl (hb hby d6_9) rfl ?_
          refine XS.icmpYes X10.here hx rfl (pc0 := 11) (pc' := 52) rfl (hb hby d6_11) rfl (flt (by decide : ¬ ((0 : Int32) < (0 : Int32)))).2.1 (by decide) (by decide) ?_
          refine XS.iloadN X10.here hx rfl (hb hby d6_52) rfl ?_
          exact k
        obtain ⟨fs, hr, hrun, hended, hW, hsame⟩ := X10.leave (v := some (.int (0 : Int32))) (fun h => by rw [Bd.returns] at h; cases h)
        refine Goes.mk _ _ ?_ ⟨hrun, hended, _, _, rfl, ?_, ⟨_, rfl⟩, hW, hsame.mono (by decide) (by decide)⟩
        · exact retI X10 hx Bd.returns (hb hby d6_53) hr
        · show QDue4 Z a0 q1 ar kA x1 x2 x3 x4 t1 t2 t3 t4 h0 n0 _ T10.heap _
          rw [e10]
          exact ⟨(by simp only [fDue4, if_pos hc5, if_pos hc9, if_pos hc13]), N0, rfl⟩
      · refine Gb (B := T10.setTop (mkF m 53 (sh4 a0 q1 (1 : Int32) (1 : Int32) (0 : Int32)) [(.int (1 : Int32))])) (fun t k => ?_) ?_
        · refine XS.ifNo X10.here hx rfl (hb hby d6_34) rfl ((if0 _ _).trans (flt (fun z => hc13 ((lw_gt t1 q1).mp z))).2.2.1) ?_
          refine XS.iload X10.here hx rfl (hb hby d6_37) rfl ?_
          refine XS.iconst X10.here hx rfl (hb hby d6_39) ?_
          refine XS.iadd X10.here hx rfl (hb hby d6_40) rfl ?_
          refine XS.istoreN X10.here hx rfl (hb hby d6_41) rfl (l' := (sh4 a0 q1 (1 : Int32) (1 : Int32) (0 : Int32))) rfl ?_
          refine XS.goto X10.here hx rfl (pc0 := 42) (pc' := 49) rfl (hb hby d6_42) (by decide) (by decide) ?_
          refine XS.goto X10.here hx rfl (pc0 := 49) (pc' := 8) rfl (hb hby d6_49) (by decide) (by decide) ?_
          refine XS.iloadN X10.here hx rfl (hb hby d6_8) rfl ?_
          refine XS.iload X10.here hx rfl (hb hby d6_9) rfl ?_
          refine XS.icmpYes X10.here hx rfl (pc0 := 11) (pc' := 52) rfl (hb hby d6_11) rfl (flt (by decide : ¬ ((1 : Int32) < (1 : Int32)))).2.1 (by decide) (by decide) ?_
          refine XS.iloadN X10.here hx rfl (hb hby d6_52) rfl ?_
          exact k
        obtain ⟨fs, hr, hrun, hended, hW, hsame⟩ := X10.leave (v := some (.int (1 : Int32))) (fun h => by rw [Bd.returns] at h; cases h)
        refine Goes.mk _ _ ?_ ⟨hrun, hended, _, _, rfl, ?_, ⟨_, rfl⟩, hW, hsame.mono (by decide) (by decide)⟩
        · exact retI X10 hx Bd.returns (hb hby d6_53) hr
        · show QDue4 Z a0 q1 ar kA x1 x2 x3 x4 t1 t2 t3 t4 h0 n0 _ T10.heap _
          rw [e10]
          exact ⟨(by simp only [fDue4, if_pos hc5, if_pos hc9, if_neg hc13]), N0, rfl⟩
    · refine Gb (B := T6.setTop (mkF m 53 (sh4 a0 q1 (2 : Int32) (2 : Int32) (1 : Int32)) [(.int (2 : Int32))])) (fun t k => ?_) ?_
      · refine XS.ifNo X6.here hx rfl (hb hby d6_34) rfl ((if0 _ _).trans (flt (fun z => hc9 ((lw_gt t2 q1).mp z))).2.2.1) ?_
        refine XS.iload X6.here hx rfl (hb hby d6_37) rfl ?_
        refine XS.iconst X6.here hx rfl (hb hby d6_39) ?_
        refine XS.iadd X6.here hx rfl (hb hby d6_40) rfl ?_
        refine XS.istoreN X6.here hx rfl (hb hby d6_41) rfl (l' := (sh4 a0 q1 (2 : Int32) (2 : Int32) (1 : Int32))) rfl ?_
        refine XS.goto X6.here hx rfl (pc0 := 42) (pc' := 49) rfl (hb hby d6_42) (by decide) (by decide) ?_
        refine XS.goto X6.here hx rfl (pc0 := 49) (pc' := 8) rfl (hb hby d6_49) (by decide) (by decide) ?_
        refine XS.iloadN X6.here hx rfl (hb hby d6_8) rfl ?_
        refine XS.iload X6.here hx rfl (hb hby d6_9) rfl ?_
        refine XS.icmpYes X6.here hx rfl (pc0 := 11) (pc' := 52) rfl (hb hby d6_11) rfl (flt (by decide : ¬ ((2 : Int32) < (2 : Int32)))).2.1 (by decide) (by decide) ?_
        refine XS.iloadN X6.here hx rfl (hb hby d6_52) rfl ?_
        exact k
      obtain ⟨fs, hr, hrun, hended, hW, hsame⟩ := X6.leave (v := some (.int (2 : Int32))) (fun h => by rw [Bd.returns] at h; cases h)
      refine Goes.mk _ _ ?_ ⟨hrun, hended, _, _, rfl, ?_, ⟨_, rfl⟩, hW, hsame.mono (by decide) (by decide)⟩
      · exact retI X6 hx Bd.returns (hb hby d6_53) hr
      · show QDue4 Z a0 q1 ar kA x1 x2 x3 x4 t1 t2 t3 t4 h0 n0 _ T6.heap _
        rw [e6]
        exact ⟨(by simp only [fDue4, if_pos hc5, if_neg hc9]), N0, rfl⟩
  · refine Gb (B := T2.setTop (mkF m 23 (sh4 a0 q1 (3 : Int32) (4 : Int32) (3 : Int32)) [(.ref a0)])) (fun t k => ?_) ?_
    · refine XS.ifNo X2.here hx rfl (hb hby d6_34) rfl ((if0 _ _).trans (flt (fun z => hc5 ((lw_gt t3 q1).mp z))).2.2.1) ?_
      refine XS.iload X2.here hx rfl (hb hby d6_37) rfl ?_
      refine XS.iconst X2.here hx rfl (hb hby d6_39) ?_
      refine XS.iadd X2.here hx rfl (hb hby d6_40) rfl ?_
      refine XS.istoreN X2.here hx rfl (hb hby d6_41) rfl (l' := (sh4 a0 q1 (3 : Int32) (4 : Int32) (2 : Int32))) rfl ?_
      refine XS.goto X2.here hx rfl (pc0 := 42) (pc' := 49) rfl (hb hby d6_42) (by decide) (by decide) ?_
      refine XS.goto X2.here hx rfl (pc0 := 49) (pc' := 8) rfl (hb hby d6_49) (by decide) (by decide) ?_
      refine XS.iloadN X2.here hx rfl (hb hby d6_8) rfl ?_
      refine XS.iload X2.here hx rfl (hb hby d6_9) rfl ?_
      refine XS.icmpNo X2.here hx rfl (hb hby d6_11) rfl (tlt (by decide : (3 : Int32) < (4 : Int32))).2.1 ?_
      refine XS.iloadN X2.here hx rfl (hb hby d6_14) rfl ?_
      refine XS.iload X2.here hx rfl (hb hby d6_15) rfl ?_
      refine XS.iadd X2.here hx rfl (hb hby d6_17) rfl ?_
      refine XS.iconst X2.here hx rfl (hb hby d6_18) ?_
      refine XS.iushr X2.here hx rfl (hb hby d6_19) rfl ?_
      refine XS.istore X2.here hx rfl (hb hby d6_20) rfl (l' := (sh4 a0 q1 (3 : Int32) (4 : Int32) (3 : Int32))) rfl ?_
      refine XS.aloadN X2.here hx rfl (hb hby d6_22) rfl rfl ?_
      exact k
    obtain ⟨T14, X14, e14, st14⟩ := getF X2 hx hZ hown (host := "") (Or.inl (wq hw 11 rfl)) Via.refl e2 F1 (g := (mkF m 23 (sh4 a0 q1 (3 : Int32) (4 : Int32) (3 : Int32)) [(.ref a0)])) rfl rfl (hb hby d6_23)
    refine Gb st14 ?_
    refine Gb (fun _ => XS.iload X14.here hx rfl (hb hby d6_26) rfl) ?_
    obtain ⟨cl15, cl15A, cl15q, cl15S, cl15N, cl15H, cl15G⟩ := id F3
    have cl15I : ¬ ((3 : Int32) < 0 ∨ cl15.slots.size ≤ ((3 : Int32)).toNatClampNeg) := inb_of cl15S ⟨by decide, by decide⟩
    have cl15T : cl15.slots[((3 : Int32)).toNatClampNeg]? = some (.ref x4) := cl15H.at cl15I rfl
    refine Gb (X14.aaload hx (j := (3 : Int32)) (v := (.ref x4)) (by rw [e14]; exact cl15A.1) (State.isArrayOf_alike hZ.alike cl15A.2.1) rfl cl15A.2.2 cl15I cl15T (g := (mkF m 28 (sh4 a0 q1 (3 : Int32) (4 : Int32) (3 : Int32)) [(.int (3 : Int32)), (.ref ar)])) rfl rfl (hb hby d6_28)) ?_
    refine Gb (B := T14.setTop (mkF m 34 (sh4 a0 q1 (3 : Int32) (4 : Int32) (3 : Int32)) [(.int (lcmpW t4 q1))])) (fun t k => ?_) ?_
    · refine getFR X14 hx hZ hown (wq hw 57 rfl) e14 F12 (g := (mkF m 29 (sh4 a0 q1 (3 : Int32) (4 : Int32) (3 : Int32)) [(.ref x4)])) rfl rfl (hb hby d6_29) ?_
      refine XS.lloadN X14.here hx rfl (hb hby d6_32) rfl ?_
      refine XS.lcmp X14.here hx rfl (hb hby d6_33) rfl ?_
      exact k
    by_cases hc17 : q1 < t4
    · refine Gb (B := T14.setTop (mkF m 53 (sh4 a0 q1 (3 : Int32) (3 : Int32) (3 : Int32)) [(.int (3 : Int32))])) (fun t k => ?_) ?_
      · refine XS.ifYes X14.here hx rfl (pc0 := 34) (pc' := 45) rfl (hb hby d6_34) rfl ((if0 _ _).trans (tlt ((lw_gt t4 q1).mpr hc17)).2.2.1) (by decide) (by decide) ?_
        refine XS.iload X14.here hx rfl (hb hby d6_45) rfl ?_
        refine XS.istore X14.here hx rfl (hb hby d6_47) rfl (l' := (sh4 a0 q1 (3 : Int32) (3 : Int32) (3 : Int32))) rfl ?_
        refine XS.goto X14.here hx rfl (pc0 := 49) (pc' := 8) rfl (hb hby d6_49) (by decide) (by decide) ?_
        refine XS.iloadN X14.here hx rfl (hb hby d6_8) rfl ?_
        refine XS.iload X14.here hx rfl (hb hby d6_9) rfl ?_
        refine XS.icmpYes X14.here hx rfl (pc0 := 11) (pc' := 52) rfl (hb hby d6_11) rfl (flt (by decide : ¬ ((3 : Int32) < (3 : Int32)))).2.1 (by decide) (by decide) ?_
        refine XS.iloadN X14.here hx rfl (hb hby d6_52) rfl ?_
        exact k
      obtain ⟨fs, hr, hrun, hended, hW, hsame⟩ := X14.leave (v := some (.int (3 : Int32))) (fun h => by rw [Bd.returns] at h; cases h)
      refine Goes.mk _ _ ?_ ⟨hrun, hended, _, _, rfl, ?_, ⟨_, rfl⟩, hW, hsame.mono (by decide) (by decide)⟩
      · exact retI X14 hx Bd.returns (hb hby d6_53) hr
      · show QDue4 Z a0 q1 ar kA x1 x2 x3 x4 t1 t2 t3 t4 h0 n0 _ T14.heap _
        rw [e14]
        exact ⟨(by simp only [fDue4, if_neg hc5, if_pos hc17]), N0, rfl⟩
    · refine Gb (B := T14.setTop (mkF m 53 (sh4 a0 q1 (4 : Int32) (4 : Int32) (3 : Int32)) [(.int (4 : Int32))])) (fun t k => ?_) ?_
      · refine XS.ifNo X14.here hx rfl (hb hby d6_34) rfl ((if0 _ _).trans (flt (fun z => hc17 ((lw_gt t4 q1).mp z))).2.2.1) ?_
        refine XS.iload X14.here hx rfl (hb hby d6_37) rfl ?_
        refine XS.iconst X14.here hx rfl (hb hby d6_39) ?_
        refine XS.iadd X14.here hx rfl (hb hby d6_40) rfl ?_
        refine XS.istoreN X14.here hx rfl (hb hby d6_41) rfl (l' := (sh4 a0 q1 (4 : Int32) (4 : Int32) (3 : Int32))) rfl ?_
        refine XS.goto X14.here hx rfl (pc0 := 42) (pc' := 49) rfl (hb hby d6_42) (by decide) (by decide) ?_
        refine XS.goto X14.here hx rfl (pc0 := 49) (pc' := 8) rfl (hb hby d6_49) (by decide) (by decide) ?_
        refine XS.iloadN X14.here hx rfl (hb hby d6_8) rfl ?_
        refine XS.iload X14.here hx rfl (hb hby d6_9) rfl ?_
        refine XS.icmpYes X14.here hx rfl (pc0 := 11) (pc' := 52) rfl (hb hby d6_11) rfl (flt (by decide : ¬ ((4 : Int32) < (4 : Int32)))).2.1 (by decide) (by decide) ?_
        refine XS.iloadN X14.here hx rfl (hb hby d6_52) rfl ?_
        exact k
      obtain ⟨fs, hr, hrun, hended, hW, hsame⟩ := X14.leave (v := some (.int (4 : Int32))) (fun h => by rw [Bd.returns] at h; cases h)
      refine Goes.mk _ _ ?_ ⟨hrun, hended, _, _, rfl, ?_, ⟨_, rfl⟩, hW, hsame.mono (by decide) (by decide)⟩
      · exact retI X14 hx Bd.returns (hb hby d6_53) hr
      · show QDue4 Z a0 q1 ar kA x1 x2 x3 x4 t1 t2 t3 t4 h0 n0 _ T14.heap _
        rw [e14]
        exact ⟨(by simp only [fDue4, if_neg hc5, if_neg hc17]), N0, rfl⟩
theorem own_due4 (q1 t1 t2 t3 t4 : Int64) : fDue4 q1 t1 t2 t3 t4 = (0 : Int32) ∨ fDue4 q1 t1 t2 t3 t4 = (1 : Int32) ∨ fDue4 q1 t1 t2 t3 t4 = (2 : Int32) ∨ fDue4 q1 t1 t2 t3 t4 = (3 : Int32) ∨ fDue4 q1 t1 t2 t3 t4 = (4 : Int32) := by
  unfold fDue4
  repeat' split
  all_goals simp
theorem d5_0 : decode prog_4_method_8_code 0 = .ok (.aload_n 0, 1) := by decide +kernel
theorem d5_1 : decode prog_4_method_8_code 1 = .ok (.getfield 15, 3) := by decide +kernel
theorem d5_4 : decode prog_4_method_8_code 4 = .ok (.ifCond .le 34, 3) := by decide +kernel
theorem d5_38 : decode prog_4_method_8_code 38 = .ok (.aload_n 0, 1) := by decide +kernel
theorem d5_39 : decode prog_4_method_8_code 39 = .ok (.lload_n 1, 1) := by decide +kernel
theorem d5_40 : decode prog_4_method_8_code 40 = .ok (.invokevirtual 44, 3) := by decide +kernel
theorem own_pd1 : parseMethodDescriptor "(J)I" = some ⟨[.long], some .int⟩ := by decide +kernel
theorem d5_43 : decode prog_4_method_8_code 43 = .ok (.istore_n 3, 1) := by decide +kernel
theorem d5_44 : decode prog_4_method_8_code 44 = .ok (.iload_n 3, 1) := by decide +kernel
theorem d5_45 : decode prog_4_method_8_code 45 = .ok (.ifCond .le 28, 3) := by decide +kernel
theorem d5_73 : decode prog_4_method_8_code 73 = .ok (.aload_n 0, 1) := by decide +kernel
theorem d5_74 : decode prog_4_method_8_code 74 = .ok (.getfield 15, 3) := by decide +kernel
theorem d5_77 : decode prog_4_method_8_code 77 = .ok (.aload_n 0, 1) := by decide +kernel
theorem d5_78 : decode prog_4_method_8_code 78 = .ok (.getfield 11, 3) := by decide +kernel
theorem d5_81 : decode prog_4_method_8_code 81 = .ok (.arraylength, 1) := by decide +kernel
theorem d5_82 : decode prog_4_method_8_code 82 = .ok (.if_icmp .ne 23, 3) := by decide +kernel
theorem d5_105 : decode prog_4_method_8_code 105 = .ok (.aload_n 0, 1) := by decide +kernel
theorem d5_106 : decode prog_4_method_8_code 106 = .ok (.getfield 11, 3) := by decide +kernel
theorem d5_109 : decode prog_4_method_8_code 109 = .ok (.iload_n 3, 1) := by decide +kernel
theorem d5_110 : decode prog_4_method_8_code 110 = .ok (.aload_n 0, 1) := by decide +kernel
theorem d5_111 : decode prog_4_method_8_code 111 = .ok (.getfield 11, 3) := by decide +kernel
theorem d5_114 : decode prog_4_method_8_code 114 = .ok (.iload_n 3, 1) := by decide +kernel
theorem d5_115 : decode prog_4_method_8_code 115 = .ok (.iconst 1, 1) := by decide +kernel
theorem d5_116 : decode prog_4_method_8_code 116 = .ok (.iadd, 1) := by decide +kernel
theorem d5_117 : decode prog_4_method_8_code 117 = .ok (.aload_n 0, 1) := by decide +kernel
theorem d5_118 : decode prog_4_method_8_code 118 = .ok (.getfield 15, 3) := by decide +kernel
theorem d5_121 : decode prog_4_method_8_code 121 = .ok (.iload_n 3, 1) := by decide +kernel
theorem d5_122 : decode prog_4_method_8_code 122 = .ok (.isub, 1) := by decide +kernel
theorem d5_123 : decode prog_4_method_8_code 123 = .ok (.invokestatic 55, 3) := by decide +kernel
theorem d5_126 : decode prog_4_method_8_code 126 = .ok (.new 9, 3) := by decide +kernel
theorem d5_129 : decode prog_4_method_8_code 129 = .ok (.dup, 1) := by decide +kernel
theorem d5_130 : decode prog_4_method_8_code 130 = .ok (.lload_n 1, 1) := by decide +kernel
theorem d5_131 : decode prog_4_method_8_code 131 = .ok (.invokespecial 74, 3) := by decide +kernel
theorem own_pd2 : parseMethodDescriptor "(J)V" = some ⟨[.long], none⟩ := by decide +kernel
theorem d5_134 : decode prog_4_method_8_code 134 = .ok (.astore 4, 2) := by decide +kernel
theorem d5_136 : decode prog_4_method_8_code 136 = .ok (.aload_n 0, 1) := by decide +kernel
theorem d5_137 : decode prog_4_method_8_code 137 = .ok (.getfield 11, 3) := by decide +kernel
theorem d5_140 : decode prog_4_method_8_code 140 = .ok (.iload_n 3, 1) := by decide +kernel
theorem d5_141 : decode prog_4_method_8_code 141 = .ok (.aload 4, 2) := by decide +kernel
theorem d5_143 : decode prog_4_method_8_code 143 = .ok (.aastore, 1) := by decide +kernel
theorem d5_144 : decode prog_4_method_8_code 144 = .ok (.aload_n 0, 1) := by decide +kernel
theorem d5_145 : decode prog_4_method_8_code 145 = .ok (.dup, 1) := by decide +kernel
theorem d5_146 : decode prog_4_method_8_code 146 = .ok (.getfield 15, 3) := by decide +kernel
theorem d5_149 : decode prog_4_method_8_code 149 = .ok (.iconst 1, 1) := by decide +kernel
theorem d5_150 : decode prog_4_method_8_code 150 = .ok (.iadd, 1) := by decide +kernel
theorem d5_151 : decode prog_4_method_8_code 151 = .ok (.putfield 15, 3) := by decide +kernel
theorem d5_154 : decode prog_4_method_8_code 154 = .ok (.aload 4, 2) := by decide +kernel
theorem d5_156 : decode prog_4_method_8_code 156 = .ok (.areturn, 1) := by decide +kernel
def QHeadOf0 (Z : State) (a0 : Addr) (q1 : Int64) (ar : Addr) (kA : ClassId) (h0 : Heap) (n0 : Nat) (v : Option Value) (h : Heap) (L : List Loc) : Prop := (∃ b17 : Addr, v = some (.ref b17) ∧ Fr n0 L ∧ Keep h0 h [a0, ar] ∧ h0.size ≤ b17 ∧ Fld Z h a0 cD "heads" dA (.ref ar) ∧ Fld Z h a0 cD "count" "I" (.int (1 : Int32)) ∧ Arv Z h ar kA (.object cH) (4 : Int32) [(.ref b17), .null, .null, .null] .null ∧ Exa Z h b17 cH ∧ Fld Z h b17 cH "tick" "J" (.long q1) ∧ Fld Z h b17 cL "next" dL (.ref b17) ∧ Fld Z h b17 cL "prev" dL (.ref b17))
theorem efHeadOf0 (m : MethodId) (x0 : Addr) (x1 : Int64) : entryFrame m #[(.ref x0), (.long x1)] 5 = mkF m 0 #[.val (.ref x0), .val (.long x1), .second, .unset, .unset] [] := by first | (simp [entryFrame, mkF, argsToLocals, Value.category]; done) | rfl
set_option maxRecDepth 65536 in
set_option maxHeartbeats 40000000 in
theorem rmHeadOf0 (l : Launch) (Z : State) (az : Array Value) (hw : ∀ d ∈ tables_1, d.before az Z = true) (ws : List Jvm.Cond) (a0 : Addr) (q1 : Int64) (ar : Addr) (kA : ClassId) (h0 : Heap) (n0 : Nat) (Z0 : n0 ≤ h0.size) (F0 : Exa Z h0 a0 cD) (F1 : Fld Z h0 a0 cD "heads" dA (.ref ar)) (F2 : Fld Z h0 a0 cD "count" "I" (.int (0 : Int32))) (F3 : Arv Z h0 ar kA (.object cH) (4 : Int32) [.null, .null, .null, .null] .null) (F4 : Ovr Z kA cH) (Ne0 : a0 ≠ ar) (Ge0 : n0 ≤ a0) (Ge1 : n0 ≤ ar) :
    MetFree l y3 (head1 (Jvm.Cond.code y3 prog_4_method_8_code 5 (some (.object cH)) :: ws) ({ frames := 3, cells := 1, slots := 3, locals := 39 } : Room)) (fun a U => a = #[(.ref a0), (.long q1)] ∧ Z.Warmed39 U.vm ∧ U.heap = h0) (fun _ _ _ _ _ => True) (fun _ U o U' => ∃ v L, o = .returned v ∧ QHeadOf0 Z a0 q1 ar kA h0 n0 v U'.heap L ∧ FrameEnd U o U' L ({ frames := 3, cells := 1, slots := 3, locals := 39 } : Room).cells ({ frames := 3, cells := 1, slots := 3, locals := 39 } : Room).slots) := by
  refine MetFree.of_bodySF (plainFor_of_name own_pn_com_example_admit_one_admitone_engine_DueOrder) hisR ?_
  intro p e s m args below meth c s₁ Bd hml0 hP hK
  obtain ⟨rfl, hZ, hh⟩ := hP
  have hx := Bd.exec
  have hby := Bd.bytes
  have hml : c.maxLocals = 5 := hml0
  have hown : s.vm.findClass cD = some m.cls := findClass_of_methodNamed Bd.named
  have hnm := (name_of_methodNamed Bd.named Bd.method).1
  have X0 : Stand p l e ({ frames := 3, cells := 1, slots := 3, locals := 39 } : Room) s m #[(.ref a0), (.long q1)] below meth c s₁ [] 0 0 := Stand.of_body Bd
  have e0 : s₁.heap = h0 := by rw [← hh, Bd.state]; rfl
  have N0 := Fr.nil n0
  have Kp0 : Keep h0 h0 [a0, ar] := Keep.refl _ _
  refine Goes.start ?_
  refine Gb (B := s₁.setTop (mkF m 0 #[.val (.ref a0), .val (.long q1), .second, .unset, .unset] [])) (fun t k => castTop (efHeadOf0 m a0 q1) k) ?_
  refine Gb (fun _ => XS.aloadN X0.here hx rfl (hb hby d5_0) rfl rfl) ?_
  obtain ⟨T1, X1, e1, st1⟩ := getF X0 hx hZ hown (host := "") (Or.inl (wq hw 29 rfl)) Via.refl e0 F2 (g := (mkF m 1 (sh5 a0 q1) [(.ref a0)])) rfl rfl (hb hby d5_1)
  refine Gb st1 ?_
  refine Gb (fun _ => XS.ifYes X1.here hx rfl (pc0 := 4) (pc' := 38) rfl (hb hby d5_4) rfl ((if0 _ _).trans (flt (by decide : ¬ ((0 : Int32) < (0 : Int32)))).2.2.2) (by decide) (by decide)) ?_
  refine Gb (fun _ => XS.aloadN X1.here hx rfl (hb hby d5_38) rfl rfl) ?_
  refine Gb (fun _ => XS.lloadN X1.here hx rfl (hb hby d5_39) rfl) ?_
  obtain ⟨_, T2, L2, Lc2, X2, hF2, hQ2, st2⟩ := own_cp X1 hx hZ hown (wq hw 31 rfl) (wq hw 33 rfl) (wq hw 1 rfl) (wq hw 32 rfl) (wq hw 2 rfl) (wq hw 34 rfl) (rmDue0 l Z az hw [] a0 q1 ar h0 n0 Z0 F0 F1 F2) (W := 0) (g := (mkF m 40 (sh5 a0 q1) [(.long q1), (.ref a0)])) rfl (by rw [hml]; rfl) F0 (argsL := [(.long q1)]) (rest := []) rfl (lenOf own_pd1 rfl) rfl (hb hby d5_40) e1 N0 (c' := 0) (s' := 0)
  obtain ⟨rfl, N2q, e2⟩ := hQ2
  have N3 := hF2 N2q
  refine Gb st2 ?_
  refine Gb (fun _ => XS.istoreN X2.here hx rfl (hb hby d5_43) rfl (l' := (sh6 a0 q1 (0 : Int32))) rfl) ?_
  refine Gb (fun _ => XS.iloadN X2.here hx rfl (hb hby d5_44) rfl) ?_
  refine Gb (fun _ => XS.ifYes X2.here hx rfl (pc0 := 45) (pc' := 73) rfl (hb hby d5_45) rfl ((if0 _ _).trans (flt (by decide : ¬ ((0 : Int32) < (0 : Int32)))).2.2.2) (by decide) (by decide)) ?_
  refine Gb (fun _ => XS.aloadN X2.here hx rfl (hb hby d5_73) rfl rfl) ?_
  obtain ⟨T4, X4, e4, st4⟩ := getF X2 hx hZ hown (host := "") (Or.inl (wq hw 29 rfl)) Via.refl e2 F2 (g := (mkF m 74 (sh6 a0 q1 (0 : Int32)) [(.ref a0)])) rfl rfl (hb hby d5_74)
  refine Gb st4 ?_
  refine Gb (fun _ => XS.aloadN X4.here hx rfl (hb hby d5_77) rfl rfl) ?_
  obtain ⟨T5, X5, e5, st5⟩ := getF X4 hx hZ hown (host := "") (Or.inl (wq hw 11 rfl)) Via.refl e4 F1 (g := (mkF m 78 (sh6 a0 q1 (0 : Int32)) [(.ref a0), (.int (0 : Int32))])) rfl rfl (hb hby d5_78)
  refine Gb st5 ?_
  obtain ⟨cl6, cl6A, -, cl6S, cl6N, -, -⟩ := id F3
  refine Gb (B := T5.setTop (mkF m 105 (sh6 a0 q1 (0 : Int32)) [])) (fun t k => ?_) ?_
  · refine X5.arraylength hx (by rw [e5]; exact cl6A.1) (State.isArrayOf_alike hZ.alike cl6A.2.1) (g := (mkF m 81 (sh6 a0 q1 (0 : Int32)) [(.ref ar), (.int (0 : Int32))])) rfl rfl (hb hby d5_81) _ ?_
    rw [len_of cl6S cl6N]
    refine XS.icmpYes X5.here hx rfl (pc0 := 82) (pc' := 105) rfl (hb hby d5_82) rfl (feq (by decide : ¬ ((0 : Int32) = (4 : Int32)))).2 (by decide) (by decide) ?_
    exact k
  refine Gb (fun _ => XS.aloadN X5.here hx rfl (hb hby d5_105) rfl rfl) ?_
  obtain ⟨T7, X7, e7, st7⟩ := getF X5 hx hZ hown (host := "") (Or.inl (wq hw 11 rfl)) Via.refl e5 F1 (g := (mkF m 106 (sh6 a0 q1 (0 : Int32)) [(.ref a0)])) rfl rfl (hb hby d5_106)
  refine Gb st7 ?_
  refine Gb (fun _ => XS.iloadN X7.here hx rfl (hb hby d5_109) rfl) ?_
  refine Gb (fun _ => XS.aloadN X7.here hx rfl (hb hby d5_110) rfl rfl) ?_
  obtain ⟨T8, X8, e8, st8⟩ := getF X7 hx hZ hown (host := "") (Or.inl (wq hw 11 rfl)) Via.refl e7 F1 (g := (mkF m 111 (sh6 a0 q1 (0 : Int32)) [(.ref a0), (.int (0 : Int32)), (.ref ar)])) rfl rfl (hb hby d5_111)
  refine Gb st8 ?_
  refine Gb (fun _ => XS.iloadN X8.here hx rfl (hb hby d5_114) rfl) ?_
  refine Gb (fun _ => XS.iconst X8.here hx rfl (hb hby d5_115)) ?_
  refine Gb (fun _ => XS.iadd X8.here hx rfl (hb hby d5_116) rfl) ?_
  refine Gb (fun _ => XS.aloadN X8.here hx rfl (hb hby d5_117) rfl rfl) ?_
  obtain ⟨T9, X9, e9, st9⟩ := getF X8 hx hZ hown (host := "") (Or.inl (wq hw 29 rfl)) Via.refl e8 F2 (g := (mkF m 118 (sh6 a0 q1 (0 : Int32)) [(.ref a0), (.int (1 : Int32)), (.ref ar), (.int (0 : Int32)), (.ref ar)])) rfl rfl (hb hby d5_118)
  refine Gb st9 ?_
  refine Gb (fun _ => XS.iloadN X9.here hx rfl (hb hby d5_121) rfl) ?_
  refine Gb (fun _ => XS.isub X9.here hx rfl (hb hby d5_122) rfl) ?_
  obtain ⟨T10, h10, L10, X10, e10, Nn10, K10, V10, st10⟩ := cpA X9 hx hZ hown (wq hw 35 rfl) (wq hw 38 rfl) (wq hw 36 rfl) (wq hw 37 rfl) e9 (us := []) F3 F3 (Or.inr ⟨rfl, rfl, trivial⟩) (sp := (0 : Int32)) (dp := (1 : Int32)) (nn := (0 : Int32)) (by decide) (by decide) (by decide) (by decide) (by decide) rfl (Nat.le_of_ble_eq_true rfl) N3 Ge1 (g := (mkF m 123 (sh6 a0 q1 (0 : Int32)) [(.int (0 : Int32)), (.int (1 : Int32)), (.ref ar), (.int (0 : Int32)), (.ref ar)])) rfl (by rw [hml]; rfl) rfl (hb hby d5_123) (by decide) (W := 0) (by show 2 * 0 + _ ≤ _; exact Nat.le_of_eq rfl) (by decide)
  have f11 := F0.keep K10
  have f12 := F1.keep K10 (ninS Ne0 nin0)
  have f13 := F2.keep K10 (ninS Ne0 nin0)
  have f14 : Arv Z h10 ar kA (.object cH) (4 : Int32) [.null, .null, .null, .null] .null := V10
  have Kp10 : Keep h0 h10 [a0, ar] := Kp0.trans K10 (allS (Or.inl om1) all0)
  have Z15 := Nat.le_trans Z0 K10.1
  refine Gb st10 ?_
  obtain ⟨T16, h16, X16, e16, E16, A16, D16, -, st16⟩ := newO X10 hx hZ hown (wq hw 9 rfl) (wq hw 39 rfl) (wq hw 40 rfl) e10 (g := (mkF m 126 (sh6 a0 q1 (0 : Int32)) [])) rfl (hb hby d5_126) (by decide) (by decide)
  obtain ⟨b17, g16⟩ : ∃ z, z = h10.size := ⟨_, rfl⟩
  rw [← g16] at A16 D16 st16
  have ne18 : a0 ≠ b17 := Nat.ne_of_lt (Nat.lt_of_lt_of_le f11.lt (Nat.le_of_eq g16.symm))
  have ne19 : ar ≠ b17 := Nat.ne_of_lt (Nat.lt_of_lt_of_le f14.lt (Nat.le_of_eq g16.symm))
  have ge20 : n0 ≤ b17 := Nat.le_trans Z15 (Nat.le_of_eq g16.symm)
  have sz21 : h0.size ≤ b17 := Nat.le_trans Kp10.1 (Nat.le_of_eq g16.symm)
  have f22 := f11.ext E16
  have f23 := f12.ext E16
  have f24 := f13.ext E16
  have f25 := f14.ext E16
  have f26 : Fld Z h16 b17 cH "tick" "J" (.long (0 : Int64)) := D16 (Or.inr (wq hw 47 rfl)) (ty := .long) (by decide)
  have f27 : Fld Z h16 b17 cL "next" dL .null := D16 (Or.inl (wq hw 49 rfl)) (ty := (.object cL)) (by decide)
  have f28 : Fld Z h16 b17 cL "prev" dL .null := D16 (Or.inl (wq hw 51 rfl)) (ty := (.object cL)) (by decide)
  have Kp16 : Keep h0 h16 [a0, ar] := Kp10.ext E16
  have Z29 := Nat.le_trans Z15 E16.1
  refine Gb st16 ?_
  refine Gb (fun _ => XS.dup X16.here hx rfl (hb hby d5_129) rfl rfl) ?_
  refine Gb (fun _ => XS.lloadN X16.here hx rfl (hb hby d5_130) rfl) ?_
  obtain ⟨_, T30, L30, Lc30, X30, hF30, hQ30, st30⟩ := own_ci X16 hx hZ rfl hown (wq hw 41 rfl) (wq hw 42 rfl) (wq hw 40 rfl) (wq hw 43 rfl) (rmHeadI l Z az hw [] b17 q1 h16 n0 Z29 A16 f26 f27 f28 ge20) (W := 1) (g := (mkF m 131 (sh6 a0 q1 (0 : Int32)) [(.long q1), (.ref b17), (.ref b17)])) rfl (by rw [hml]; rfl) (argsL := [(.long q1)]) (rest := [(.ref b17)]) rfl (lenOf own_pd2 rfl) rfl (hb hby d5_131) e16 Nn10 (c' := 1) (s' := 3)
  obtain ⟨rfl, N30q, K30, f31, f32, f33, f34⟩ := hQ30
  have f35 := f22.keep K30
  have f36 := f23.keep K30 (ninS ne18 nin0)
  have f37 := f24.keep K30 (ninS ne18 nin0)
  have f38 := f25.keep K30 (ninS ne19 nin0)
  have f39 := A16.keep K30
  have Kp30 : Keep h0 T30.heap [a0, ar] := Kp16.trans K30 (allS (Or.inr sz21) all0)
  have Z40 := Nat.le_trans Z29 K30.1
  have N41 := hF30 N30q
  refine Gb st30 ?_
  refine Gb (fun _ => XS.astore X30.here hx rfl (hb hby d5_134) rfl rfl (l' := (sh7 a0 q1 (0 : Int32) b17)) rfl) ?_
  refine Gb (fun _ => XS.aloadN X30.here hx rfl (hb hby d5_136) rfl rfl) ?_
  obtain ⟨T42, X42, e42, st42⟩ := getF X30 hx hZ hown (host := "") (Or.inl (wq hw 11 rfl)) Via.refl rfl f36 (g := (mkF m 137 (sh7 a0 q1 (0 : Int32) b17) [(.ref a0)])) rfl rfl (hb hby d5_137)
  refine Gb st42 ?_
  refine Gb (fun _ => XS.iloadN X42.here hx rfl (hb hby d5_140) rfl) ?_
  refine Gb (fun _ => XS.aload X42.here hx rfl (hb hby d5_141) rfl rfl) ?_
  obtain ⟨cl43, cl43A, cl43q, cl43S, cl43N, cl43H, cl43G⟩ := id f38
  have cl43I : ¬ ((0 : Int32) < 0 ∨ cl43.slots.size ≤ ((0 : Int32)).toNatClampNeg) := inb_of cl43S ⟨by decide, by decide⟩
  obtain ⟨T43, h43, X43, e43, W43, st43⟩ := stR X42 hx hZ e42 cl43A (j := (0 : Int32)) cl43I rfl (Sto.ofV cl43A cl43q F4 (Ins.self f31)) (g := (mkF m 143 (sh7 a0 q1 (0 : Int32) b17) [(.ref b17), (.int (0 : Int32)), (.ref ar)])) rfl rfl (hb hby d5_143)
  have f44 := f35.wr W43
  have f45 := f36.other W43 (Or.inl Ne0)
  have f46 := f37.other W43 (Or.inl Ne0)
  have f47 := f31.wr W43
  have f48 := f32.other W43 (Or.inl (Ne.symm ne19))
  have f49 := f33.other W43 (Or.inl (Ne.symm ne19))
  have f50 := f34.other W43 (Or.inl (Ne.symm ne19))
  have f51 : Arv Z h43 ar kA (.object cH) (4 : Int32) [(.ref b17), .null, .null, .null] .null := Arv.set cl43A cl43q cl43S cl43N cl43H cl43G rfl W43 0 rfl (Nat.le_of_ble_eq_true rfl)
  have Kp43 : Keep h0 h43 [a0, ar] := Kp30.wr W43 (Or.inl om1)
  have Z52 := Nat.le_trans Z40 (Nat.le_of_eq W43.size.symm)
  have N53 := Fr.snoc X43 N41 Ge1
  refine Gb st43 ?_
  refine Gb (fun _ => XS.aloadN X43.here hx rfl (hb hby d5_144) rfl rfl) ?_
  refine Gb (fun _ => XS.dup X43.here hx rfl (hb hby d5_145) rfl rfl) ?_
  obtain ⟨T54, X54, e54, st54⟩ := getF X43 hx hZ hown (host := "") (Or.inl (wq hw 29 rfl)) Via.refl e43 f46 (g := (mkF m 146 (sh7 a0 q1 (0 : Int32) b17) [(.ref a0), (.ref a0)])) rfl rfl (hb hby d5_146)
  refine Gb st54 ?_
  refine Gb (fun _ => XS.iconst X54.here hx rfl (hb hby d5_149)) ?_
  refine Gb (fun _ => XS.iadd X54.here hx rfl (hb hby d5_150) rfl) ?_
  obtain ⟨T55, h55, X55, e55, W55, st55⟩ := putF X54 hx hZ hown (host := "") (Or.inl (wq hw 29 rfl)) Via.refl e54 f46 f44 (Or.inl (wq hw 30 rfl)) (wq hw 1 rfl) (ty := .int) (by decide) rfl rfl (g := (mkF m 151 (sh7 a0 q1 (0 : Int32) b17) [(.int (1 : Int32)), (.ref a0)])) rfl rfl (hb hby d5_151)
  have f56 := f44.wr W55
  have f57 := f45.other W55 (Or.inr (slot_ne (Or.inl (wq hw 12 rfl)) (Or.inl (wq hw 30 rfl)) (by decide) (t := (.array (.object cH))) (t' := .int) (by decide) (by decide)))
  have f58 := f47.wr W55
  have f59 := f48.other W55 (Or.inl (Ne.symm ne18))
  have f60 := f49.other W55 (Or.inl (Ne.symm ne18))
  have f61 := f50.other W55 (Or.inl (Ne.symm ne18))
  have f62 := f51.other W55 (Ne.symm Ne0)
  have f63 : Fld Z h55 a0 cD "count" "I" (.int (1 : Int32)) := f46.same W55
  have Kp55 : Keep h0 h55 [a0, ar] := Kp43.wr W55 (Or.inl om0)
  have Z64 := Nat.le_trans Z52 (Nat.le_of_eq W55.size.symm)
  have N65 := Fr.snoc X55 N53 Ge0
  refine Gb st55 ?_
  refine Gb (fun _ => XS.aload X55.here hx rfl (hb hby d5_154) rfl rfl) ?_
  obtain ⟨fs, hr, hrun, hended, hW, hsame⟩ := X55.leave (v := some (.ref b17)) (fun h => by rw [Bd.returns] at h; cases h)
  refine Goes.mk _ _ ?_ ⟨hrun, hended, _, _, rfl, ?_, ⟨_, rfl⟩, hW, hsame.mono (by decide) (by decide)⟩
  · exact retOut X55 hx Bd.returns rfl (Or.inr (Or.inr (Or.inr (Or.inr ⟨rfl, rfl, rfl⟩)))) (hb hby d5_156) hr
  · show QHeadOf0 Z a0 q1 ar kA h0 n0 _ T55.heap _
    rw [e55]
    exact ⟨b17, rfl, N65, Kp55, sz21, f57, f63, f62, f58, f59, f60, f61⟩
theorem d5_7 : decode prog_4_method_8_code 7 = .ok (.aload_n 0, 1) := by decide +kernel
theorem d5_8 : decode prog_4_method_8_code 8 = .ok (.getfield 11, 3) := by decide +kernel
theorem d5_11 : decode prog_4_method_8_code 11 = .ok (.aload_n 0, 1) := by decide +kernel
theorem d5_12 : decode prog_4_method_8_code 12 = .ok (.getfield 15, 3) := by decide +kernel
theorem d5_15 : decode prog_4_method_8_code 15 = .ok (.iconst 1, 1) := by decide +kernel
theorem d5_16 : decode prog_4_method_8_code 16 = .ok (.isub, 1) := by decide +kernel
theorem d5_17 : decode prog_4_method_8_code 17 = .ok (.aaload, 1) := by decide +kernel
theorem d5_18 : decode prog_4_method_8_code 18 = .ok (.getfield 23, 3) := by decide +kernel
theorem d5_21 : decode prog_4_method_8_code 21 = .ok (.lload_n 1, 1) := by decide +kernel
theorem d5_22 : decode prog_4_method_8_code 22 = .ok (.lcmp, 1) := by decide +kernel
theorem d5_23 : decode prog_4_method_8_code 23 = .ok (.ifCond .ne 15, 3) := by decide +kernel
theorem d5_26 : decode prog_4_method_8_code 26 = .ok (.aload_n 0, 1) := by decide +kernel
theorem d5_27 : decode prog_4_method_8_code 27 = .ok (.getfield 11, 3) := by decide +kernel
theorem d5_30 : decode prog_4_method_8_code 30 = .ok (.aload_n 0, 1) := by decide +kernel
theorem d5_31 : decode prog_4_method_8_code 31 = .ok (.getfield 15, 3) := by decide +kernel
theorem d5_34 : decode prog_4_method_8_code 34 = .ok (.iconst 1, 1) := by decide +kernel
theorem d5_35 : decode prog_4_method_8_code 35 = .ok (.isub, 1) := by decide +kernel
theorem d5_36 : decode prog_4_method_8_code 36 = .ok (.aaload, 1) := by decide +kernel
theorem d5_37 : decode prog_4_method_8_code 37 = .ok (.areturn, 1) := by decide +kernel
theorem d5_48 : decode prog_4_method_8_code 48 = .ok (.aload_n 0, 1) := by decide +kernel
theorem d5_49 : decode prog_4_method_8_code 49 = .ok (.getfield 11, 3) := by decide +kernel
theorem d5_52 : decode prog_4_method_8_code 52 = .ok (.iload_n 3, 1) := by decide +kernel
theorem d5_53 : decode prog_4_method_8_code 53 = .ok (.iconst 1, 1) := by decide +kernel
theorem d5_54 : decode prog_4_method_8_code 54 = .ok (.isub, 1) := by decide +kernel
theorem d5_55 : decode prog_4_method_8_code 55 = .ok (.aaload, 1) := by decide +kernel
theorem d5_56 : decode prog_4_method_8_code 56 = .ok (.getfield 23, 3) := by decide +kernel
theorem d5_59 : decode prog_4_method_8_code 59 = .ok (.lload_n 1, 1) := by decide +kernel
theorem d5_60 : decode prog_4_method_8_code 60 = .ok (.lcmp, 1) := by decide +kernel
theorem d5_61 : decode prog_4_method_8_code 61 = .ok (.ifCond .ne 12, 3) := by decide +kernel
def QHeadOf1 (Z : State) (a0 : Addr) (q1 : Int64) (ar : Addr) (kA : ClassId) (x1 : Addr) (t1 : Int64) (h0 : Heap) (n0 : Nat) (v : Option Value) (h : Heap) (L : List Loc) : Prop := (t1 = q1 ∧ v = some (.ref x1) ∧ Fr n0 L ∧ h = h0) ∨ (∃ b26 : Addr, ¬ (t1 = q1) ∧ fDue1 q1 t1 = (0 : Int32) ∧ v = some (.ref b26) ∧ Fr n0 L ∧ Keep h0 h [a0, ar] ∧ h0.size ≤ b26 ∧ Fld Z h a0 cD "heads" dA (.ref ar) ∧ Fld Z h a0 cD "count" "I" (.int (2 : Int32)) ∧ Arv Z h ar kA (.object cH) (4 : Int32) [(.ref b26), (.ref x1), .null, .null] .null ∧ Exa Z h b26 cH ∧ Fld Z h b26 cH "tick" "J" (.long q1) ∧ Fld Z h b26 cL "next" dL (.ref b26) ∧ Fld Z h b26 cL "prev" dL (.ref b26)) ∨ (∃ b97 : Addr, ¬ (t1 = q1) ∧ fDue1 q1 t1 = (1 : Int32) ∧ v = some (.ref b97) ∧ Fr n0 L ∧ Keep h0 h [a0, ar] ∧ h0.size ≤ b97 ∧ Fld Z h a0 cD "heads" dA (.ref ar) ∧ Fld Z h a0 cD "count" "I" (.int (2 : Int32)) ∧ Arv Z h ar kA (.object cH) (4 : Int32) [(.ref x1), (.ref b97), .null, .null] .null ∧ Exa Z h b97 cH ∧ Fld Z h b97 cH "tick" "J" (.long q1) ∧ Fld Z h b97 cL "next" dL (.ref b97) ∧ Fld Z h b97 cL "prev" dL (.ref b97))
theorem efHeadOf1 (m : MethodId) (x0 : Addr) (x1 : Int64) : entryFrame m #[(.ref x0), (.long x1)] 5 = mkF m 0 #[.val (.ref x0), .val (.long x1), .second, .unset, .unset] [] := by first | (simp [entryFrame, mkF, argsToLocals, Value.category]; done) | rfl
set_option maxRecDepth 65536 in
set_option maxHeartbeats 40000000 in
theorem rmHeadOf1 (l : Launch) (Z : State) (az : Array Value) (hw : ∀ d ∈ tables_1, d.before az Z = true) (ws : List Jvm.Cond) (a0 : Addr) (q1 : Int64) (ar : Addr) (kA : ClassId) (x1 : Addr) (t1 : Int64) (h0 : Heap) (n0 : Nat) (Z0 : n0 ≤ h0.size) (F0 : Exa Z h0 a0 cD) (F1 : Fld Z h0 a0 cD "heads" dA (.ref ar)) (F2 : Fld Z h0 a0 cD "count" "I" (.int (1 : Int32))) (F3 : Arv Z h0 ar kA (.object cH) (4 : Int32) [(.ref x1), .null, .null, .null] .null) (F4 : Ovr Z kA cH) (F5 : Exa Z h0 x1 cH) (F6 : Fld Z h0 x1 cH "tick" "J" (.long t1)) (Ne0 : a0 ≠ ar) (Ne1 : x1 ≠ a0) (Ne2 : x1 ≠ ar) (Ge0 : n0 ≤ a0) (Ge1 : n0 ≤ ar) :
    MetFree l y3 (head1 (Jvm.Cond.code y3 prog_4_method_8_code 5 (some (.object cH)) :: ws) ({ frames := 3, cells := 1, slots := 3, locals := 39 } : Room)) (fun a U => a = #[(.ref a0), (.long q1)] ∧ Z.Warmed39 U.vm ∧ U.heap = h0) (fun _ _ _ _ _ => True) (fun _ U o U' => ∃ v L, o = .returned v ∧ QHeadOf1 Z a0 q1 ar kA x1 t1 h0 n0 v U'.heap L ∧ FrameEnd U o U' L ({ frames := 3, cells := 1, slots := 3, locals := 39 } : Room).cells ({ frames := 3, cells := 1, slots := 3, locals := 39 } : Room).slots) := by
  refine MetFree.of_bodySF (plainFor_of_name own_pn_com_example_admit_one_admitone_engine_DueOrder) hisR ?_
  intro p e s m args below meth c s₁ Bd hml0 hP hK
  obtain ⟨rfl, hZ, hh⟩ := hP
  have hx := Bd.exec
  have hby := Bd.bytes
  have hml : c.maxLocals = 5 := hml0
  have hown : s.vm.findClass cD = some m.cls := findClass_of_methodNamed Bd.named
  have hnm := (name_of_methodNamed Bd.named Bd.method).1
  have X0 : Stand p l e ({ frames := 3, cells := 1, slots := 3, locals := 39 } : Room) s m #[(.ref a0), (.long q1)] below meth c s₁ [] 0 0 := Stand.of_body Bd
  have e0 : s₁.heap = h0 := by rw [← hh, Bd.state]; rfl
  have N0 := Fr.nil n0
  have Kp0 : Keep h0 h0 [a0, ar] := Keep.refl _ _
  refine Goes.start ?_
  refine Gb (B := s₁.setTop (mkF m 0 #[.val (.ref a0), .val (.long q1), .second, .unset, .unset] [])) (fun t k => castTop (efHeadOf1 m a0 q1) k) ?_
  refine Gb (fun _ => XS.aloadN X0.here hx rfl (hb hby d5_0) rfl rfl) ?_
  obtain ⟨T1, X1, e1, st1⟩ := getF X0 hx hZ hown (host := "") (Or.inl (wq hw 29 rfl)) Via.refl e0 F2 (g := (mkF m 1 (sh5 a0 q1) [(.ref a0)])) rfl rfl (hb hby d5_1)
  refine Gb st1 ?_
  refine Gb (fun _ => XS.ifNo X1.here hx rfl (hb hby d5_4) rfl ((if0 _ _).trans (tlt (by decide : (0 : Int32) < (1 : Int32))).2.2.2)) ?_
  refine Gb (fun _ => XS.aloadN X1.here hx rfl (hb hby d5_7) rfl rfl) ?_
  obtain ⟨T2, X2, e2, st2⟩ := getF X1 hx hZ hown (host := "") (Or.inl (wq hw 11 rfl)) Via.refl e1 F1 (g := (mkF m 8 (sh5 a0 q1) [(.ref a0)])) rfl rfl (hb hby d5_8)
  refine Gb st2 ?_
  refine Gb (fun _ => XS.aloadN X2.here hx rfl (hb hby d5_11) rfl rfl) ?_
  obtain ⟨T3, X3, e3, st3⟩ := getF X2 hx hZ hown (host := "") (Or.inl (wq hw 29 rfl)) Via.refl e2 F2 (g := (mkF m 12 (sh5 a0 q1) [(.ref a0), (.ref ar)])) rfl rfl (hb hby d5_12)
  refine Gb st3 ?_
  refine Gb (fun _ => XS.iconst X3.here hx rfl (hb hby d5_15)) ?_
  refine Gb (fun _ => XS.isub X3.here hx rfl (hb hby d5_16) rfl) ?_
  obtain ⟨cl4, cl4A, cl4q, cl4S, cl4N, cl4H, cl4G⟩ := id F3
  have cl4I : ¬ ((0 : Int32) < 0 ∨ cl4.slots.size ≤ ((0 : Int32)).toNatClampNeg) := inb_of cl4S ⟨by decide, by decide⟩
  have cl4T : cl4.slots[((0 : Int32)).toNatClampNeg]? = some (.ref x1) := cl4H.at cl4I rfl
  refine Gb (X3.aaload hx (j := (0 : Int32)) (v := (.ref x1)) (by rw [e3]; exact cl4A.1) (State.isArrayOf_alike hZ.alike cl4A.2.1) rfl cl4A.2.2 cl4I cl4T (g := (mkF m 17 (sh5 a0 q1) [(.int (0 : Int32)), (.ref ar)])) rfl rfl (hb hby d5_17)) ?_
  refine Gb (B := T3.setTop (mkF m 23 (sh5 a0 q1) [(.int (lcmpW t1 q1))])) (fun t k => ?_) ?_
  · refine getFR X3 hx hZ hown (wq hw 57 rfl) e3 F6 (g := (mkF m 18 (sh5 a0 q1) [(.ref x1)])) rfl rfl (hb hby d5_18) ?_
    refine XS.lloadN X3.here hx rfl (hb hby d5_21) rfl ?_
    refine XS.lcmp X3.here hx rfl (hb hby d5_22) rfl ?_
    exact k
  by_cases hc6 : t1 = q1
  · refine Gb (fun _ => XS.ifNo X3.here hx rfl (hb hby d5_23) rfl ((if0 _ _).trans (teq ((lw_eq t1 q1).mpr hc6)).2)) ?_
    refine Gb (fun _ => XS.aloadN X3.here hx rfl (hb hby d5_26) rfl rfl) ?_
    obtain ⟨T7, X7, e7, st7⟩ := getF X3 hx hZ hown (host := "") (Or.inl (wq hw 11 rfl)) Via.refl e3 F1 (g := (mkF m 27 (sh5 a0 q1) [(.ref a0)])) rfl rfl (hb hby d5_27)
    refine Gb st7 ?_
    refine Gb (fun _ => XS.aloadN X7.here hx rfl (hb hby d5_30) rfl rfl) ?_
    obtain ⟨T8, X8, e8, st8⟩ := getF X7 hx hZ hown (host := "") (Or.inl (wq hw 29 rfl)) Via.refl e7 F2 (g := (mkF m 31 (sh5 a0 q1) [(.ref a0), (.ref ar)])) rfl rfl (hb hby d5_31)
    refine Gb st8 ?_
    refine Gb (fun _ => XS.iconst X8.here hx rfl (hb hby d5_34)) ?_
    refine Gb (fun _ => XS.isub X8.here hx rfl (hb hby d5_35) rfl) ?_
    obtain ⟨cl9, cl9A, cl9q, cl9S, cl9N, cl9H, cl9G⟩ := id F3
    have cl9I : ¬ ((0 : Int32) < 0 ∨ cl9.slots.size ≤ ((0 : Int32)).toNatClampNeg) := inb_of cl9S ⟨by decide, by decide⟩
    have cl9T : cl9.slots[((0 : Int32)).toNatClampNeg]? = some (.ref x1) := cl9H.at cl9I rfl
    refine Gb (X8.aaload hx (j := (0 : Int32)) (v := (.ref x1)) (by rw [e8]; exact cl9A.1) (State.isArrayOf_alike hZ.alike cl9A.2.1) rfl cl9A.2.2 cl9I cl9T (g := (mkF m 36 (sh5 a0 q1) [(.int (0 : Int32)), (.ref ar)])) rfl rfl (hb hby d5_36)) ?_
    obtain ⟨fs, hr, hrun, hended, hW, hsame⟩ := X8.leave (v := some (.ref x1)) (fun h => by rw [Bd.returns] at h; cases h)
    refine Goes.mk _ _ ?_ ⟨hrun, hended, _, _, rfl, ?_, ⟨_, rfl⟩, hW, hsame.mono (by decide) (by decide)⟩
    · exact retOut X8 hx Bd.returns rfl (Or.inr (Or.inr (Or.inr (Or.inr ⟨rfl, rfl, rfl⟩)))) (hb hby d5_37) hr
    · show QHeadOf1 Z a0 q1 ar kA x1 t1 h0 n0 _ T8.heap _
      rw [e8]
      exact (Or.inl ⟨hc6, rfl, N0, rfl⟩)
  · refine Gb (fun _ => XS.ifYes X3.here hx rfl (pc0 := 23) (pc' := 38) rfl (hb hby d5_23) rfl ((if0 _ _).trans (feq (fun z => hc6 ((lw_eq t1 q1).mp z))).2) (by decide) (by decide)) ?_
    refine Gb (fun _ => XS.aloadN X3.here hx rfl (hb hby d5_38) rfl rfl) ?_
    refine Gb (fun _ => XS.lloadN X3.here hx rfl (hb hby d5_39) rfl) ?_
    obtain ⟨_, T10, L10, Lc10, X10, hF10, hQ10, st10⟩ := own_cp X3 hx hZ hown (wq hw 31 rfl) (wq hw 33 rfl) (wq hw 1 rfl) (wq hw 32 rfl) (wq hw 2 rfl) (wq hw 34 rfl) (rmDue1 l Z az hw [] a0 q1 ar kA x1 t1 h0 n0 Z0 F0 F1 F2 F3 F4 F5 F6) (W := 0) (g := (mkF m 40 (sh5 a0 q1) [(.long q1), (.ref a0)])) rfl (by rw [hml]; rfl) F0 (argsL := [(.long q1)]) (rest := []) rfl (lenOf own_pd1 rfl) rfl (hb hby d5_40) e3 N0 (c' := 0) (s' := 0)
    obtain ⟨rfl, N10q, e10⟩ := hQ10
    have N11 := hF10 N10q
    refine Gb st10 ?_
    rcases own_due1 q1 t1 with he | he
    · rw [he]
      show Goes p.tables e below _ (T10.setTop (mkF m 43 (sh5 a0 q1) [(.int (0 : Int32))]))
      refine Gb (fun _ => XS.istoreN X10.here hx rfl (hb hby d5_43) rfl (l' := (sh6 a0 q1 (0 : Int32))) rfl) ?_
      refine Gb (fun _ => XS.iloadN X10.here hx rfl (hb hby d5_44) rfl) ?_
      refine Gb (fun _ => XS.ifYes X10.here hx rfl (pc0 := 45) (pc' := 73) rfl (hb hby d5_45) rfl ((if0 _ _).trans (flt (by decide : ¬ ((0 : Int32) < (0 : Int32)))).2.2.2) (by decide) (by decide)) ?_
      refine Gb (fun _ => XS.aloadN X10.here hx rfl (hb hby d5_73) rfl rfl) ?_
      obtain ⟨T12, X12, e12, st12⟩ := getF X10 hx hZ hown (host := "") (Or.inl (wq hw 29 rfl)) Via.refl e10 F2 (g := (mkF m 74 (sh6 a0 q1 (0 : Int32)) [(.ref a0)])) rfl rfl (hb hby d5_74)
      refine Gb st12 ?_
      refine Gb (fun _ => XS.aloadN X12.here hx rfl (hb hby d5_77) rfl rfl) ?_
      obtain ⟨T13, X13, e13, st13⟩ := getF X12 hx hZ hown (host := "") (Or.inl (wq hw 11 rfl)) Via.refl e12 F1 (g := (mkF m 78 (sh6 a0 q1 (0 : Int32)) [(.ref a0), (.int (1 : Int32))])) rfl rfl (hb hby d5_78)
      refine Gb st13 ?_
      obtain ⟨cl14, cl14A, -, cl14S, cl14N, -, -⟩ := id F3
      refine Gb (B := T13.setTop (mkF m 105 (sh6 a0 q1 (0 : Int32)) [])) (fun t k => ?_) ?_
      · refine X13.arraylength hx (by rw [e13]; exact cl14A.1) (State.isArrayOf_alike hZ.alike cl14A.2.1) (g := (mkF m 81 (sh6 a0 q1 (0 : Int32)) [(.ref ar), (.int (1 : Int32))])) rfl rfl (hb hby d5_81) _ ?_
        rw [len_of cl14S cl14N]
        refine XS.icmpYes X13.here hx rfl (pc0 := 82) (pc' := 105) rfl (hb hby d5_82) rfl (feq (by decide : ¬ ((1 : Int32) = (4 : Int32)))).2 (by decide) (by decide) ?_
        exact k
      refine Gb (fun _ => XS.aloadN X13.here hx rfl (hb hby d5_105) rfl rfl) ?_
      obtain ⟨T15, X15, e15, st15⟩ := getF X13 hx hZ hown (host := "") (Or.inl (wq hw 11 rfl)) Via.refl e13 F1 (g := (mkF m 106 (sh6 a0 q1 (0 : Int32)) [(.ref a0)])) rfl rfl (hb hby d5_106)
      refine Gb st15 ?_
      refine Gb (fun _ => XS.iloadN X15.here hx rfl (hb hby d5_109) rfl) ?_
      refine Gb (fun _ => XS.aloadN X15.here hx rfl (hb hby d5_110) rfl rfl) ?_
      obtain ⟨T16, X16, e16, st16⟩ := getF X15 hx hZ hown (host := "") (Or.inl (wq hw 11 rfl)) Via.refl e15 F1 (g := (mkF m 111 (sh6 a0 q1 (0 : Int32)) [(.ref a0), (.int (0 : Int32)), (.ref ar)])) rfl rfl (hb hby d5_111)
      refine Gb st16 ?_
      refine Gb (fun _ => XS.iloadN X16.here hx rfl (hb hby d5_114) rfl) ?_
      refine Gb (fun _ => XS.iconst X16.here hx rfl (hb hby d5_115)) ?_
      refine Gb (fun _ => XS.iadd X16.here hx rfl (hb hby d5_116) rfl) ?_
      refine Gb (fun _ => XS.aloadN X16.here hx rfl (hb hby d5_117) rfl rfl) ?_
      obtain ⟨T17, X17, e17, st17⟩ := getF X16 hx hZ hown (host := "") (Or.inl (wq hw 29 rfl)) Via.refl e16 F2 (g := (mkF m 118 (sh6 a0 q1 (0 : Int32)) [(.ref a0), (.int (1 : Int32)), (.ref ar), (.int (0 : Int32)), (.ref ar)])) rfl rfl (hb hby d5_118)
      refine Gb st17 ?_
      refine Gb (fun _ => XS.iloadN X17.here hx rfl (hb hby d5_121) rfl) ?_
      refine Gb (fun _ => XS.isub X17.here hx rfl (hb hby d5_122) rfl) ?_
      obtain ⟨cl18, cl18A, cl18q, -, -, -, -⟩ := id F3
      obtain ⟨T18, h18, L18, X18, e18, Nn18, K18, V18, st18⟩ := cpA X17 hx hZ hown (wq hw 35 rfl) (wq hw 38 rfl) (wq hw 36 rfl) (wq hw 37 rfl) e17 (us := [(.ref x1)]) F3 F3 (Or.inr ⟨rfl, rfl, ⟨Sto.ofV cl18A cl18q F4 (Ins.self F5), trivial⟩⟩) (sp := (0 : Int32)) (dp := (1 : Int32)) (nn := (1 : Int32)) (by decide) (by decide) (by decide) (by decide) (by decide) rfl (Nat.le_of_ble_eq_true rfl) N11 Ge1 (g := (mkF m 123 (sh6 a0 q1 (0 : Int32)) [(.int (1 : Int32)), (.int (1 : Int32)), (.ref ar), (.int (0 : Int32)), (.ref ar)])) rfl (by rw [hml]; rfl) rfl (hb hby d5_123) (by decide) (W := 0) (by show 2 * 0 + _ ≤ _; exact Nat.le_of_eq rfl) (by decide)
      have f19 := F0.keep K18
      have f20 := F1.keep K18 (ninS Ne0 nin0)
      have f21 := F2.keep K18 (ninS Ne0 nin0)
      have f22 := F5.keep K18
      have f23 : Arv Z h18 ar kA (.object cH) (4 : Int32) [(.ref x1), (.ref x1), .null, .null] .null := V18
      have Kp18 : Keep h0 h18 [a0, ar] := Kp0.trans K18 (allS (Or.inl om1) all0)
      have Z24 := Nat.le_trans Z0 K18.1
      refine Gb st18 ?_
      obtain ⟨T25, h25, X25, e25, E25, A25, D25, -, st25⟩ := newO X18 hx hZ hown (wq hw 9 rfl) (wq hw 39 rfl) (wq hw 40 rfl) e18 (g := (mkF m 126 (sh6 a0 q1 (0 : Int32)) [])) rfl (hb hby d5_126) (by decide) (by decide)
      obtain ⟨b26, g25⟩ : ∃ z, z = h18.size := ⟨_, rfl⟩
      rw [← g25] at A25 D25 st25
      have ne27 : a0 ≠ b26 := Nat.ne_of_lt (Nat.lt_of_lt_of_le f19.lt (Nat.le_of_eq g25.symm))
      have ne28 : ar ≠ b26 := Nat.ne_of_lt (Nat.lt_of_lt_of_le f23.lt (Nat.le_of_eq g25.symm))
      have ne29 : x1 ≠ b26 := Nat.ne_of_lt (Nat.lt_of_lt_of_le f22.lt (Nat.le_of_eq g25.symm))
      have ge30 : n0 ≤ b26 := Nat.le_trans Z24 (Nat.le_of_eq g25.symm)
      have sz31 : h0.size ≤ b26 := Nat.le_trans Kp18.1 (Nat.le_of_eq g25.symm)
      have f32 := f19.ext E25
      have f33 := f20.ext E25
      have f34 := f21.ext E25
      have f35 := f22.ext E25
      have f36 := f23.ext E25
      have f37 : Fld Z h25 b26 cH "tick" "J" (.long (0 : Int64)) := D25 (Or.inr (wq hw 47 rfl)) (ty := .long) (by decide)
      have f38 : Fld Z h25 b26 cL "next" dL .null := D25 (Or.inl (wq hw 49 rfl)) (ty := (.object cL)) (by decide)
      have f39 : Fld Z h25 b26 cL "prev" dL .null := D25 (Or.inl (wq hw 51 rfl)) (ty := (.object cL)) (by decide)
      have Kp25 : Keep h0 h25 [a0, ar] := Kp18.ext E25
      have Z40 := Nat.le_trans Z24 E25.1
      refine Gb st25 ?_
      refine Gb (fun _ => XS.dup X25.here hx rfl (hb hby d5_129) rfl rfl) ?_
      refine Gb (fun _ => XS.lloadN X25.here hx rfl (hb hby d5_130) rfl) ?_
      obtain ⟨_, T41, L41, Lc41, X41, hF41, hQ41, st41⟩ := own_ci X25 hx hZ rfl hown (wq hw 41 rfl) (wq hw 42 rfl) (wq hw 40 rfl) (wq hw 43 rfl) (rmHeadI l Z az hw [] b26 q1 h25 n0 Z40 A25 f37 f38 f39 ge30) (W := 1) (g := (mkF m 131 (sh6 a0 q1 (0 : Int32)) [(.long q1), (.ref b26), (.ref b26)])) rfl (by rw [hml]; rfl) (argsL := [(.long q1)]) (rest := [(.ref b26)]) rfl (lenOf own_pd2 rfl) rfl (hb hby d5_131) e25 Nn18 (c' := 1) (s' := 3)
      obtain ⟨rfl, N41q, K41, f42, f43, f44, f45⟩ := hQ41
      have f46 := f32.keep K41
      have f47 := f33.keep K41 (ninS ne27 nin0)
      have f48 := f34.keep K41 (ninS ne27 nin0)
      have f49 := f35.keep K41
      have f50 := f36.keep K41 (ninS ne28 nin0)
      have f51 := A25.keep K41
      have Kp41 : Keep h0 T41.heap [a0, ar] := Kp25.trans K41 (allS (Or.inr sz31) all0)
      have Z52 := Nat.le_trans Z40 K41.1
      have N53 := hF41 N41q
      refine Gb st41 ?_
      refine Gb (fun _ => XS.astore X41.here hx rfl (hb hby d5_134) rfl rfl (l' := (sh7 a0 q1 (0 : Int32) b26)) rfl) ?_
      refine Gb (fun _ => XS.aloadN X41.here hx rfl (hb hby d5_136) rfl rfl) ?_
      obtain ⟨T54, X54, e54, st54⟩ := getF X41 hx hZ hown (host := "") (Or.inl (wq hw 11 rfl)) Via.refl rfl f47 (g := (mkF m 137 (sh7 a0 q1 (0 : Int32) b26) [(.ref a0)])) rfl rfl (hb hby d5_137)
      refine Gb st54 ?_
      refine Gb (fun _ => XS.iloadN X54.here hx rfl (hb hby d5_140) rfl) ?_
      refine Gb (fun _ => XS.aload X54.here hx rfl (hb hby d5_141) rfl rfl) ?_
      obtain ⟨cl55, cl55A, cl55q, cl55S, cl55N, cl55H, cl55G⟩ := id f50
      have cl55I : ¬ ((0 : Int32) < 0 ∨ cl55.slots.size ≤ ((0 : Int32)).toNatClampNeg) := inb_of cl55S ⟨by decide, by decide⟩
      obtain ⟨T55, h55, X55, e55, W55, st55⟩ := stR X54 hx hZ e54 cl55A (j := (0 : Int32)) cl55I rfl (Sto.ofV cl55A cl55q F4 (Ins.self f42)) (g := (mkF m 143 (sh7 a0 q1 (0 : Int32) b26) [(.ref b26), (.int (0 : Int32)), (.ref ar)])) rfl rfl (hb hby d5_143)
      have f56 := f46.wr W55
      have f57 := f47.other W55 (Or.inl Ne0)
      have f58 := f48.other W55 (Or.inl Ne0)
      have f59 := f49.wr W55
      have f60 := f42.wr W55
      have f61 := f43.other W55 (Or.inl (Ne.symm ne28))
      have f62 := f44.other W55 (Or.inl (Ne.symm ne28))
      have f63 := f45.other W55 (Or.inl (Ne.symm ne28))
      have f64 : Arv Z h55 ar kA (.object cH) (4 : Int32) [(.ref b26), (.ref x1), .null, .null] .null := Arv.set cl55A cl55q cl55S cl55N cl55H cl55G rfl W55 0 rfl (Nat.le_of_ble_eq_true rfl)
      have Kp55 : Keep h0 h55 [a0, ar] := Kp41.wr W55 (Or.inl om1)
      have Z65 := Nat.le_trans Z52 (Nat.le_of_eq W55.size.symm)
      have N66 := Fr.snoc X55 N53 Ge1
      refine Gb st55 ?_
      refine Gb (fun _ => XS.aloadN X55.here hx rfl (hb hby d5_144) rfl rfl) ?_
      refine Gb (fun _ => XS.dup X55.here hx rfl (hb hby d5_145) rfl rfl) ?_
      obtain ⟨T67, X67, e67, st67⟩ := getF X55 hx hZ hown (host := "") (Or.inl (wq hw 29 rfl)) Via.refl e55 f58 (g := (mkF m 146 (sh7 a0 q1 (0 : Int32) b26) [(.ref a0), (.ref a0)])) rfl rfl (hb hby d5_146)
      refine Gb st67 ?_
      refine Gb (fun _ => XS.iconst X67.here hx rfl (hb hby d5_149)) ?_
      refine Gb (fun _ => XS.iadd X67.here hx rfl (hb hby d5_150) rfl) ?_
      obtain ⟨T68, h68, X68, e68, W68, st68⟩ := putF X67 hx hZ hown (host := "") (Or.inl (wq hw 29 rfl)) Via.refl e67 f58 f56 (Or.inl (wq hw 30 rfl)) (wq hw 1 rfl) (ty := .int) (by decide) rfl rfl (g := (mkF m 151 (sh7 a0 q1 (0 : Int32) b26) [(.int (2 : Int32)), (.ref a0)])) rfl rfl (hb hby d5_151)
      have f69 := f56.wr W68
      have f70 := f57.other W68 (Or.inr (slot_ne (Or.inl (wq hw 12 rfl)) (Or.inl (wq hw 30 rfl)) (by decide) (t := (.array (.object cH))) (t' := .int) (by decide) (by decide)))
      have f71 := f59.wr W68
      have f72 := f60.wr W68
      have f73 := f61.other W68 (Or.inl (Ne.symm ne27))
      have f74 := f62.other W68 (Or.inl (Ne.symm ne27))
      have f75 := f63.other W68 (Or.inl (Ne.symm ne27))
      have f76 := f64.other W68 (Ne.symm Ne0)
      have f77 : Fld Z h68 a0 cD "count" "I" (.int (2 : Int32)) := f58.same W68
      have Kp68 : Keep h0 h68 [a0, ar] := Kp55.wr W68 (Or.inl om0)
      have Z78 := Nat.le_trans Z65 (Nat.le_of_eq W68.size.symm)
      have N79 := Fr.snoc X68 N66 Ge0
      refine Gb st68 ?_
      refine Gb (fun _ => XS.aload X68.here hx rfl (hb hby d5_154) rfl rfl) ?_
      obtain ⟨fs, hr, hrun, hended, hW, hsame⟩ := X68.leave (v := some (.ref b26)) (fun h => by rw [Bd.returns] at h; cases h)
      refine Goes.mk _ _ ?_ ⟨hrun, hended, _, _, rfl, ?_, ⟨_, rfl⟩, hW, hsame.mono (by decide) (by decide)⟩
      · exact retOut X68 hx Bd.returns rfl (Or.inr (Or.inr (Or.inr (Or.inr ⟨rfl, rfl, rfl⟩)))) (hb hby d5_156) hr
      · show QHeadOf1 Z a0 q1 ar kA x1 t1 h0 n0 _ T68.heap _
        rw [e68]
        exact (Or.inr (Or.inl ⟨b26, hc6, he, rfl, N79, Kp68, sz31, f70, f77, f76, f72, f73, f74, f75⟩))
    · rw [he]
      show Goes p.tables e below _ (T10.setTop (mkF m 43 (sh5 a0 q1) [(.int (1 : Int32))]))
      refine Gb (fun _ => XS.istoreN X10.here hx rfl (hb hby d5_43) rfl (l' := (sh6 a0 q1 (1 : Int32))) rfl) ?_
      refine Gb (fun _ => XS.iloadN X10.here hx rfl (hb hby d5_44) rfl) ?_
      refine Gb (fun _ => XS.ifNo X10.here hx rfl (hb hby d5_45) rfl ((if0 _ _).trans (tlt (by decide : (0 : Int32) < (1 : Int32))).2.2.2)) ?_
      refine Gb (fun _ => XS.aloadN X10.here hx rfl (hb hby d5_48) rfl rfl) ?_
      obtain ⟨T80, X80, e80, st80⟩ := getF X10 hx hZ hown (host := "") (Or.inl (wq hw 11 rfl)) Via.refl e10 F1 (g := (mkF m 49 (sh6 a0 q1 (1 : Int32)) [(.ref a0)])) rfl rfl (hb hby d5_49)
      refine Gb st80 ?_
      refine Gb (fun _ => XS.iloadN X80.here hx rfl (hb hby d5_52) rfl) ?_
      refine Gb (fun _ => XS.iconst X80.here hx rfl (hb hby d5_53)) ?_
      refine Gb (fun _ => XS.isub X80.here hx rfl (hb hby d5_54) rfl) ?_
      obtain ⟨cl81, cl81A, cl81q, cl81S, cl81N, cl81H, cl81G⟩ := id F3
      have cl81I : ¬ ((0 : Int32) < 0 ∨ cl81.slots.size ≤ ((0 : Int32)).toNatClampNeg) := inb_of cl81S ⟨by decide, by decide⟩
      have cl81T : cl81.slots[((0 : Int32)).toNatClampNeg]? = some (.ref x1) := cl81H.at cl81I rfl
      refine Gb (X80.aaload hx (j := (0 : Int32)) (v := (.ref x1)) (by rw [e80]; exact cl81A.1) (State.isArrayOf_alike hZ.alike cl81A.2.1) rfl cl81A.2.2 cl81I cl81T (g := (mkF m 55 (sh6 a0 q1 (1 : Int32)) [(.int (0 : Int32)), (.ref ar)])) rfl rfl (hb hby d5_55)) ?_
      refine Gb (B := T80.setTop (mkF m 74 (sh6 a0 q1 (1 : Int32)) [(.ref a0)])) (fun t k => ?_) ?_
      · refine getFR X80 hx hZ hown (wq hw 57 rfl) e80 F6 (g := (mkF m 56 (sh6 a0 q1 (1 : Int32)) [(.ref x1)])) rfl rfl (hb hby d5_56) ?_
        refine XS.lloadN X80.here hx rfl (hb hby d5_59) rfl ?_
        refine XS.lcmp X80.here hx rfl (hb hby d5_60) rfl ?_
        refine XS.ifYes X80.here hx rfl (pc0 := 61) (pc' := 73) rfl (hb hby d5_61) rfl ((if0 _ _).trans (feq (fun z => hc6 ((lw_eq t1 q1).mp z))).2) (by decide) (by decide) ?_
        refine XS.aloadN X80.here hx rfl (hb hby d5_73) rfl rfl ?_
        exact k
      obtain ⟨T83, X83, e83, st83⟩ := getF X80 hx hZ hown (host := "") (Or.inl (wq hw 29 rfl)) Via.refl e80 F2 (g := (mkF m 74 (sh6 a0 q1 (1 : Int32)) [(.ref a0)])) rfl rfl (hb hby d5_74)
      refine Gb st83 ?_
      refine Gb (fun _ => XS.aloadN X83.here hx rfl (hb hby d5_77) rfl rfl) ?_
      obtain ⟨T84, X84, e84, st84⟩ := getF X83 hx hZ hown (host := "") (Or.inl (wq hw 11 rfl)) Via.refl e83 F1 (g := (mkF m 78 (sh6 a0 q1 (1 : Int32)) [(.ref a0), (.int (1 : Int32))])) rfl rfl (hb hby d5_78)
      refine Gb st84 ?_
      obtain ⟨cl85, cl85A, -, cl85S, cl85N, -, -⟩ := id F3
      refine Gb (B := T84.setTop (mkF m 105 (sh6 a0 q1 (1 : Int32)) [])) (fun t k => ?_) ?_
      · refine X84.arraylength hx (by rw [e84]; exact cl85A.1) (State.isArrayOf_alike hZ.alike cl85A.2.1) (g := (mkF m 81 (sh6 a0 q1 (1 : Int32)) [(.ref ar), (.int (1 : Int32))])) rfl rfl (hb hby d5_81) _ ?_
        rw [len_of cl85S cl85N]
        refine XS.icmpYes X84.here hx rfl (pc0 := 82) (pc' := 105) rfl (hb hby d5_82) rfl (feq (by decide : ¬ ((1 : Int32) = (4 : Int32)))).2 (by decide) (by decide) ?_
        exact k
      refine Gb (fun _ => XS.aloadN X84.here hx rfl (hb hby d5_105) rfl rfl) ?_
      obtain ⟨T86, X86, e86, st86⟩ := getF X84 hx hZ hown (host := "") (Or.inl (wq hw 11 rfl)) Via.refl e84 F1 (g := (mkF m 106 (sh6 a0 q1 (1 : Int32)) [(.ref a0)])) rfl rfl (hb hby d5_106)
      refine Gb st86 ?_
      refine Gb (fun _ => XS.iloadN X86.here hx rfl (hb hby d5_109) rfl) ?_
      refine Gb (fun _ => XS.aloadN X86.here hx rfl (hb hby d5_110) rfl rfl) ?_
      obtain ⟨T87, X87, e87, st87⟩ := getF X86 hx hZ hown (host := "") (Or.inl (wq hw 11 rfl)) Via.refl e86 F1 (g := (mkF m 111 (sh6 a0 q1 (1 : Int32)) [(.ref a0), (.int (1 : Int32)), (.ref ar)])) rfl rfl (hb hby d5_111)
      refine Gb st87 ?_
      refine Gb (fun _ => XS.iloadN X87.here hx rfl (hb hby d5_114) rfl) ?_
      refine Gb (fun _ => XS.iconst X87.here hx rfl (hb hby d5_115)) ?_
      refine Gb (fun _ => XS.iadd X87.here hx rfl (hb hby d5_116) rfl) ?_
      refine Gb (fun _ => XS.aloadN X87.here hx rfl (hb hby d5_117) rfl rfl) ?_
      obtain ⟨T88, X88, e88, st88⟩ := getF X87 hx hZ hown (host := "") (Or.inl (wq hw 29 rfl)) Via.refl e87 F2 (g := (mkF m 118 (sh6 a0 q1 (1 : Int32)) [(.ref a0), (.int (2 : Int32)), (.ref ar), (.int (1 : Int32)), (.ref ar)])) rfl rfl (hb hby d5_118)
      refine Gb st88 ?_
      refine Gb (fun _ => XS.iloadN X88.here hx rfl (hb hby d5_121) rfl) ?_
      refine Gb (fun _ => XS.isub X88.here hx rfl (hb hby d5_122) rfl) ?_
      obtain ⟨T89, h89, L89, X89, e89, Nn89, K89, V89, st89⟩ := cpA X88 hx hZ hown (wq hw 35 rfl) (wq hw 38 rfl) (wq hw 36 rfl) (wq hw 37 rfl) e88 (us := []) F3 F3 (Or.inr ⟨rfl, rfl, trivial⟩) (sp := (1 : Int32)) (dp := (2 : Int32)) (nn := (0 : Int32)) (by decide) (by decide) (by decide) (by decide) (by decide) rfl (Nat.le_of_ble_eq_true rfl) N11 Ge1 (g := (mkF m 123 (sh6 a0 q1 (1 : Int32)) [(.int (0 : Int32)), (.int (2 : Int32)), (.ref ar), (.int (1 : Int32)), (.ref ar)])) rfl (by rw [hml]; rfl) rfl (hb hby d5_123) (by decide) (W := 0) (by show 2 * 0 + _ ≤ _; exact Nat.le_of_eq rfl) (by decide)
      have f90 := F0.keep K89
      have f91 := F1.keep K89 (ninS Ne0 nin0)
      have f92 := F2.keep K89 (ninS Ne0 nin0)
      have f93 := F5.keep K89
      have f94 : Arv Z h89 ar kA (.object cH) (4 : Int32) [(.ref x1), .null, .null, .null] .null := V89
      have Kp89 : Keep h0 h89 [a0, ar] := Kp0.trans K89 (allS (Or.inl om1) all0)
      have Z95 := Nat.le_trans Z0 K89.1
      refine Gb st89 ?_
      obtain ⟨T96, h96, X96, e96, E96, A96, D96, -, st96⟩ := newO X89 hx hZ hown (wq hw 9 rfl) (wq hw 39 rfl) (wq hw 40 rfl) e89 (g := (mkF m 126 (sh6 a0 q1 (1 : Int32)) [])) rfl (hb hby d5_126) (by decide) (by decide)
      obtain ⟨b97, g96⟩ : ∃ z, z = h89.size := ⟨_, rfl⟩
      rw [← g96] at A96 D96 st96
      have ne98 : a0 ≠ b97 := Nat.ne_of_lt (Nat.lt_of_lt_of_le f90.lt (Nat.le_of_eq g96.symm))
      have ne99 : ar ≠ b97 := Nat.ne_of_lt (Nat.lt_of_lt_of_le f94.lt (Nat.le_of_eq g96.symm))
      have ne100 : x1 ≠ b97 := Nat.ne_of_lt (Nat.lt_of_lt_of_le f93.lt (Nat.le_of_eq g96.symm))
      have ge101 : n0 ≤ b97 := Nat.le_trans Z95 (Nat.le_of_eq g96.symm)
      have sz102 : h0.size ≤ b97 := Nat.le_trans Kp89.1 (Nat.le_of_eq g96.symm)
      have f103 := f90.ext E96
      have f104 := f91.ext E96
      have f105 := f92.ext E96
      have f106 := f93.ext E96
      have f107 := f94.ext E96
      have f108 : Fld Z h96 b97 cH "tick" "J" (.long (0 : Int64)) := D96 (Or.inr (wq hw 47 rfl)) (ty := .long) (by decide)
      have f109 : Fld Z h96 b97 cL "next" dL .null := D96 (Or.inl (wq hw 49 rfl)) (ty := (.object cL)) (by decide)
      have f110 : Fld Z h96 b97 cL "prev" dL .null := D96 (Or.inl (wq hw 51 rfl)) (ty := (.object cL)) (by decide)
      have Kp96 : Keep h0 h96 [a0, ar] := Kp89.ext E96
      have Z111 := Nat.le_trans Z95 E96.1
      refine Gb st96 ?_
      refine Gb (fun _ => XS.dup X96.here hx rfl (hb hby d5_129) rfl rfl) ?_
      refine Gb (fun _ => XS.lloadN X96.here hx rfl (hb hby d5_130) rfl) ?_
      obtain ⟨_, T112, L112, Lc112, X112, hF112, hQ112, st112⟩ := own_ci X96 hx hZ rfl hown (wq hw 41 rfl) (wq hw 42 rfl) (wq hw 40 rfl) (wq hw 43 rfl) (rmHeadI l Z az hw [] b97 q1 h96 n0 Z111 A96 f108 f109 f110 ge101) (W := 1) (g := (mkF m 131 (sh6 a0 q1 (1 : Int32)) [(.long q1), (.ref b97), (.ref b97)])) rfl (by rw [hml]; rfl) (argsL := [(.long q1)]) (rest := [(.ref b97)]) rfl (lenOf own_pd2 rfl) rfl (hb hby d5_131) e96 Nn89 (c' := 1) (s' := 3)
      obtain ⟨rfl, N112q, K112, f113, f114, f115, f116⟩ := hQ112
      have f117 := f103.keep K112
      have f118 := f104.keep K112 (ninS ne98 nin0)
      have f119 := f105.keep K112 (ninS ne98 nin0)
      have f120 := f106.keep K112
      have f121 := f107.keep K112 (ninS ne99 nin0)
      have f122 := A96.keep K112
      have Kp112 : Keep h0 T112.heap [a0, ar] := Kp96.trans K112 (allS (Or.inr sz102) all0)
      have Z123 := Nat.le_trans Z111 K112.1
      have N124 := hF112 N112q
      refine Gb st112 ?_
      refine Gb (fun _ => XS.astore X112.here hx rfl (hb hby d5_134) rfl rfl (l' := (sh7 a0 q1 (1 : Int32) b97)) rfl) ?_
      refine Gb (fun _ => XS.aloadN X112.here hx rfl (hb hby d5_136) rfl rfl) ?_
      obtain ⟨T125, X125, e125, st125⟩ := getF X112 hx hZ hown (host := "") (Or.inl (wq hw 11 rfl)) Via.refl rfl f118 (g := (mkF m 137 (sh7 a0 q1 (1 : Int32) b97) [(.ref a0)])) rfl rfl (hb hby d5_137)
      refine Gb st125 ?_
      refine Gb (fun _ => XS.iloadN X125.here hx rfl (hb hby d5_140) rfl) ?_
      refine Gb (fun _ => XS.aload X125.here hx rfl (hb hby d5_141) rfl rfl) ?_
      obtain ⟨cl126, cl126A, cl126q, cl126S, cl126N, cl126H, cl126G⟩ := id f121
      have cl126I : ¬ ((1 : Int32) < 0 ∨ cl126.slots.size ≤ ((1 : Int32)).toNatClampNeg) := inb_of cl126S ⟨by decide, by decide⟩
      obtain ⟨T126, h126, X126, e126, W126, st126⟩ := stR X125 hx hZ e125 cl126A (j := (1 : Int32)) cl126I rfl (Sto.ofV cl126A cl126q F4 (Ins.self f113)) (g := (mkF m 143 (sh7 a0 q1 (1 : Int32) b97) [(.ref b97), (.int (1 : Int32)), (.ref ar)])) rfl rfl (hb hby d5_143)
      have f127 := f117.wr W126
      have f128 := f118.other W126 (Or.inl Ne0)
      have f129 := f119.other W126 (Or.inl Ne0)
      have f130 := f120.wr W126
      have f131 := f113.wr W126
      have f132 := f114.other W126 (Or.inl (Ne.symm ne99))
      have f133 := f115.other W126 (Or.inl (Ne.symm ne99))
      have f134 := f116.other W126 (Or.inl (Ne.symm ne99))
      have f135 : Arv Z h126 ar kA (.object cH) (4 : Int32) [(.ref x1), (.ref b97), .null, .null] .null := Arv.set cl126A cl126q cl126S cl126N cl126H cl126G rfl W126 1 rfl (Nat.le_of_ble_eq_true rfl)
      have Kp126 : Keep h0 h126 [a0, ar] := Kp112.wr W126 (Or.inl om1)
      have Z136 := Nat.le_trans Z123 (Nat.le_of_eq W126.size.symm)
      have N137 := Fr.snoc X126 N124 Ge1
      refine Gb st126 ?_
      refine Gb (fun _ => XS.aloadN X126.here hx rfl (hb hby d5_144) rfl rfl) ?_
      refine Gb (fun _ => XS.dup X126.here hx rfl (hb hby d5_145) rfl rfl) ?_
      obtain ⟨T138, X138, e138, st138⟩ := getF X126 hx hZ hown (host := "") (Or.inl (wq hw 29 rfl)) Via.refl e126 f129 (g := (mkF m 146 (sh7 a0 q1 (1 : Int32) b97) [(.ref a0), (.ref a0)])) rfl rfl (hb hby d5_146)
      refine Gb st138 ?_
      refine Gb (fun _ => XS.iconst X138.here hx rfl (hb hby d5_149)) ?_
      refine Gb (fun _ => XS.iadd X138.here hx rfl (hb hby d5_150) rfl) ?_
      obtain ⟨T139, h139, X139, e139, W139, st139⟩ := putF X138 hx hZ hown (host := "") (Or.inl (wq hw 29 rfl)) Via.refl e138 f129 f127 (Or.inl (wq hw 30 rfl)) (wq hw 1 rfl) (ty := .int) (by decide) rfl rfl (g := (mkF m 151 (sh7 a0 q1 (1 : Int32) b97) [(.int (2 : Int32)), (.ref a0)])) rfl rfl (hb hby d5_151)
      have f140 := f127.wr W139
      have f141 := f128.other W139 (Or.inr (slot_ne (Or.inl (wq hw 12 rfl)) (Or.inl (wq hw 30 rfl)) (by decide) (t := (.array (.object cH))) (t' := .int) (by decide) (by decide)))
      have f142 := f130.wr W139
      have f143 := f131.wr W139
      have f144 := f132.other W139 (Or.inl (Ne.symm ne98))
      have f145 := f133.other W139 (Or.inl (Ne.symm ne98))
      have f146 := f134.other W139 (Or.inl (Ne.symm ne98))
      have f147 := f135.other W139 (Ne.symm Ne0)
      have f148 : Fld Z h139 a0 cD "count" "I" (.int (2 : Int32)) := f129.same W139
      have Kp139 : Keep h0 h139 [a0, ar] := Kp126.wr W139 (Or.inl om0)
      have Z149 := Nat.le_trans Z136 (Nat.le_of_eq W139.size.symm)
      have N150 := Fr.snoc X139 N137 Ge0
      refine Gb st139 ?_
      refine Gb (fun _ => XS.aload X139.here hx rfl (hb hby d5_154) rfl rfl) ?_
      obtain ⟨fs, hr, hrun, hended, hW, hsame⟩ := X139.leave (v := some (.ref b97)) (fun h => by rw [Bd.returns] at h; cases h)
      refine Goes.mk _ _ ?_ ⟨hrun, hended, _, _, rfl, ?_, ⟨_, rfl⟩, hW, hsame.mono (by decide) (by decide)⟩
      · exact retOut X139 hx Bd.returns rfl (Or.inr (Or.inr (Or.inr (Or.inr ⟨rfl, rfl, rfl⟩)))) (hb hby d5_156) hr
      · show QHeadOf1 Z a0 q1 ar kA x1 t1 h0 n0 _ T139.heap _
        rw [e139]
        exact (Or.inr (Or.inr ⟨b97, hc6, he, rfl, N150, Kp139, sz102, f141, f148, f147, f143, f144, f145, f146⟩))
theorem d5_64 : decode prog_4_method_8_code 64 = .ok (.aload_n 0, 1) := by decide +kernel
theorem d5_65 : decode prog_4_method_8_code 65 = .ok (.getfield 11, 3) := by decide +kernel
theorem d5_68 : decode prog_4_method_8_code 68 = .ok (.iload_n 3, 1) := by decide +kernel
theorem d5_69 : decode prog_4_method_8_code 69 = .ok (.iconst 1, 1) := by decide +kernel
theorem d5_70 : decode prog_4_method_8_code 70 = .ok (.isub, 1) := by decide +kernel
theorem d5_71 : decode prog_4_method_8_code 71 = .ok (.aaload, 1) := by decide +kernel
theorem d5_72 : decode prog_4_method_8_code 72 = .ok (.areturn, 1) := by decide +kernel
def QHeadOf2 (Z : State) (a0 : Addr) (q1 : Int64) (ar : Addr) (kA : ClassId) (x1 : Addr) (x2 : Addr) (t1 : Int64) (t2 : Int64) (h0 : Heap) (n0 : Nat) (v : Option Value) (h : Heap) (L : List Loc) : Prop := (t2 = q1 ∧ v = some (.ref x2) ∧ Fr n0 L ∧ h = h0) ∨ (∃ b27 : Addr, ¬ (t2 = q1) ∧ fDue2 q1 t1 t2 = (0 : Int32) ∧ v = some (.ref b27) ∧ Fr n0 L ∧ Keep h0 h [a0, ar] ∧ h0.size ≤ b27 ∧ Fld Z h a0 cD "heads" dA (.ref ar) ∧ Fld Z h a0 cD "count" "I" (.int (3 : Int32)) ∧ Arv Z h ar kA (.object cH) (4 : Int32) [(.ref b27), (.ref x1), (.ref x2), .null] .null ∧ Exa Z h b27 cH ∧ Fld Z h b27 cH "tick" "J" (.long q1) ∧ Fld Z h b27 cL "next" dL (.ref b27) ∧ Fld Z h b27 cL "prev" dL (.ref b27)) ∨ (¬ (t2 = q1) ∧ fDue2 q1 t1 t2 = (1 : Int32) ∧ t1 = q1 ∧ v = some (.ref x1) ∧ Fr n0 L ∧ h = h0) ∨ (∃ b107 : Addr, ¬ (t2 = q1) ∧ fDue2 q1 t1 t2 = (1 : Int32) ∧ ¬ (t1 = q1) ∧ v = some (.ref b107) ∧ Fr n0 L ∧ Keep h0 h [a0, ar] ∧ h0.size ≤ b107 ∧ Fld Z h a0 cD "heads" dA (.ref ar) ∧ Fld Z h a0 cD "count" "I" (.int (3 : Int32)) ∧ Arv Z h ar kA (.object cH) (4 : Int32) [(.ref x1), (.ref b107), (.ref x2), .null] .null ∧ Exa Z h b107 cH ∧ Fld Z h b107 cH "tick" "J" (.long q1) ∧ Fld Z h b107 cL "next" dL (.ref b107) ∧ Fld Z h b107 cL "prev" dL (.ref b107)) ∨ (∃ b184 : Addr, ¬ (t2 = q1) ∧ fDue2 q1 t1 t2 = (2 : Int32) ∧ v = some (.ref b184) ∧ Fr n0 L ∧ Keep h0 h [a0, ar] ∧ h0.size ≤ b184 ∧ Fld Z h a0 cD "heads" dA (.ref ar) ∧ Fld Z h a0 cD "count" "I" (.int (3 : Int32)) ∧ Arv Z h ar kA (.object cH) (4 : Int32) [(.ref x1), (.ref x2), (.ref b184), .null] .null ∧ Exa Z h b184 cH ∧ Fld Z h b184 cH "tick" "J" (.long q1) ∧ Fld Z h b184 cL "next" dL (.ref b184) ∧ Fld Z h b184 cL "prev" dL (.ref b184))
theorem efHeadOf2 (m : MethodId) (x0 : Addr) (x1 : Int64) : entryFrame m #[(.ref x0), (.long x1)] 5 = mkF m 0 #[.val (.ref x0), .val (.long x1), .second, .unset, .unset] [] := by first | (simp [entryFrame, mkF, argsToLocals, Value.category]; done) | rfl
set_option maxRecDepth 65536 in
set_option maxHeartbeats 40000000 in
theorem rmHeadOf2 (l : Launch) (Z : State) (az : Array Value) (hw : ∀ d ∈ tables_1, d.before az Z = true) (ws : List Jvm.Cond) (a0 : Addr) (q1 : Int64) (ar : Addr) (kA : ClassId) (x1 : Addr) (x2 : Addr) (t1 : Int64) (t2 : Int64) (h0 : Heap) (n0 : Nat) (Z0 : n0 ≤ h0.size) (F0 : Exa Z h0 a0 cD) (F1 : Fld Z h0 a0 cD "heads" dA (.ref ar)) (F2 : Fld Z h0 a0 cD "count" "I" (.int (2 : Int32))) (F3 : Arv Z h0 ar kA (.object cH) (4 : Int32) [(.ref x1), (.ref x2), .null, .null] .null) (F4 : Ovr Z kA cH) (F5 : Exa Z h0 x1 cH) (F6 : Fld Z h0 x1 cH "tick" "J" (.long t1)) (F7 : Exa Z h0 x2 cH) (F8 : Fld Z h0 x2 cH "tick" "J" (.long t2)) (Ne0 : a0 ≠ ar) (Ne1 : x1 ≠ a0) (Ne2 : x2 ≠ a0) (Ne3 : x1 ≠ ar) (Ne4 : x2 ≠ ar) (Ge0 : n0 ≤ a0) (Ge1 : n0 ≤ ar) :
    MetFree l y3 (head1 (Jvm.Cond.code y3 prog_4_method_8_code 5 (some (.object cH)) :: ws) ({ frames := 3, cells := 1, slots := 3, locals := 39 } : Room)) (fun a U => a = #[(.ref a0), (.long q1)] ∧ Z.Warmed39 U.vm ∧ U.heap = h0) (fun _ _ _ _ _ => True) (fun _ U o U' => ∃ v L, o = .returned v ∧ QHeadOf2 Z a0 q1 ar kA x1 x2 t1 t2 h0 n0 v U'.heap L ∧ FrameEnd U o U' L ({ frames := 3, cells := 1, slots := 3, locals := 39 } : Room).cells ({ frames := 3, cells := 1, slots := 3, locals := 39 } : Room).slots) := by
  refine MetFree.of_bodySF (plainFor_of_name own_pn_com_example_admit_one_admitone_engine_DueOrder) hisR ?_
  intro p e s m args below meth c s₁ Bd hml0 hP hK
  obtain ⟨rfl, hZ, hh⟩ := hP
  have hx := Bd.exec
  have hby := Bd.bytes
  have hml : c.maxLocals = 5 := hml0
  have hown : s.vm.findClass cD = some m.cls := findClass_of_methodNamed Bd.named
  have hnm := (name_of_methodNamed Bd.named Bd.method).1
  have X0 : Stand p l e ({ frames := 3, cells := 1, slots := 3, locals := 39 } : Room) s m #[(.ref a0), (.long q1)] below meth c s₁ [] 0 0 := Stand.of_body Bd
  have e0 : s₁.heap = h0 := by rw [← hh, Bd.state]; rfl
  have N0 := Fr.nil n0
  have Kp0 : Keep h0 h0 [a0, ar] := Keep.refl _ _
  refine Goes.start ?_
  refine Gb (B := s₁.setTop (mkF m 0 #[.val (.ref a0), .val (.long q1), .second, .unset, .unset] [])) (fun t k => castTop (efHeadOf2 m a0 q1) k) ?_
  refine Gb (fun _ => XS.aloadN X0.here hx rfl (hb hby d5_0) rfl rfl) ?_
  obtain ⟨T1, X1, e1, st1⟩ := getF X0 hx hZ hown (host := "") (Or.inl (wq hw 29 rfl)) Via.refl e0 F2 (g := (mkF m 1 (sh5 a0 q1) [(.ref a0)])) rfl rfl (hb hby d5_1)
  refine Gb st1 ?_
  refine Gb (fun _ => XS.ifNo X1.here hx rfl (hb hby d5_4) rfl ((if0 _ _).trans (tlt (by decide : (0 : Int32) < (2 : Int32))).2.2.2)) ?_
  refine Gb (fun _ => XS.aloadN X1.here hx rfl (hb hby d5_7) rfl rfl) ?_
  obtain ⟨T2, X2, e2, st2⟩ := getF X1 hx hZ hown (host := "") (Or.inl (wq hw 11 rfl)) Via.refl e1 F1 (g := (mkF m 8 (sh5 a0 q1) [(.ref a0)])) rfl rfl (hb hby d5_8)
  refine Gb st2 ?_
  refine Gb (fun _ => XS.aloadN X2.here hx rfl (hb hby d5_11) rfl rfl) ?_
  obtain ⟨T3, X3, e3, st3⟩ := getF X2 hx hZ hown (host := "") (Or.inl (wq hw 29 rfl)) Via.refl e2 F2 (g := (mkF m 12 (sh5 a0 q1) [(.ref a0), (.ref ar)])) rfl rfl (hb hby d5_12)
  refine Gb st3 ?_
  refine Gb (fun _ => XS.iconst X3.here hx rfl (hb hby d5_15)) ?_
  refine Gb (fun _ => XS.isub X3.here hx rfl (hb hby d5_16) rfl) ?_
  obtain ⟨cl4, cl4A, cl4q, cl4S, cl4N, cl4H, cl4G⟩ := id F3
  have cl4I : ¬ ((1 : Int32) < 0 ∨ cl4.slots.size ≤ ((1 : Int32)).toNatClampNeg) := inb_of cl4S ⟨by decide, by decide⟩
  have cl4T : cl4.slots[((1 : Int32)).toNatClampNeg]? = some (.ref x2) := cl4H.at cl4I rfl
  refine Gb (X3.aaload hx (j := (1 : Int32)) (v := (.ref x2)) (by rw [e3]; exact cl4A.1) (State.isArrayOf_alike hZ.alike cl4A.2.1) rfl cl4A.2.2 cl4I cl4T (g := (mkF m 17 (sh5 a0 q1) [(.int (1 : Int32)), (.ref ar)])) rfl rfl (hb hby d5_17)) ?_
  refine Gb (B := T3.setTop (mkF m 23 (sh5 a0 q1) [(.int (lcmpW t2 q1))])) (fun t k => ?_) ?_
  · refine getFR X3 hx hZ hown (wq hw 57 rfl) e3 F8 (g := (mkF m 18 (sh5 a0 q1) [(.ref x2)])) rfl rfl (hb hby d5_18) ?_
    refine XS.lloadN X3.here hx rfl (hb hby d5_21) rfl ?_
    refine XS.lcmp X3.here hx rfl (hb hby d5_22) rfl ?_
    exact k
  by_cases hc6 : t2 = q1
  · refine Gb (fun _ => XS.ifNo X3.here hx rfl (hb hby d5_23) rfl ((if0 _ _).trans (teq ((lw_eq t2 q1).mpr hc6)).2)) ?_
    refine Gb (fun _ => XS.aloadN X3.here hx rfl (hb hby d5_26) rfl rfl) ?_
    obtain ⟨T7, X7, e7, st7⟩ := getF X3 hx hZ hown (host := "") (Or.inl (wq hw 11 rfl)) Via.refl e3 F1 (g := (mkF m 27 (sh5 a0 q1) [(.ref a0)])) rfl rfl (hb hby d5_27)
    refine Gb st7 ?_
    refine Gb (fun _ => XS.aloadN X7.here hx rfl (hb hby d5_30) rfl rfl) ?_
    obtain ⟨T8, X8, e8, st8⟩ := getF X7 hx hZ hown (host := "") (Or.inl (wq hw 29 rfl)) Via.refl e7 F2 (g := (mkF m 31 (sh5 a0 q1) [(.ref a0), (.ref ar)])) rfl rfl (hb hby d5_31)
    refine Gb st8 ?_
    refine Gb (fun _ => XS.iconst X8.here hx rfl (hb hby d5_34)) ?_
    refine Gb (fun _ => XS.isub X8.here hx rfl (hb hby d5_35) rfl) ?_
    obtain ⟨cl9, cl9A, cl9q, cl9S, cl9N, cl9H, cl9G⟩ := id F3
    have cl9I : ¬ ((1 : Int32) < 0 ∨ cl9.slots.size ≤ ((1 : Int32)).toNatClampNeg) := inb_of cl9S ⟨by decide, by decide⟩
    have cl9T : cl9.slots[((1 : Int32)).toNatClampNeg]? = some (.ref x2) := cl9H.at cl9I rfl
    refine Gb (X8.aaload hx (j := (1 : Int32)) (v := (.ref x2)) (by rw [e8]; exact cl9A.1) (State.isArrayOf_alike hZ.alike cl9A.2.1) rfl cl9A.2.2 cl9I cl9T (g := (mkF m 36 (sh5 a0 q1) [(.int (1 : Int32)), (.ref ar)])) rfl rfl (hb hby d5_36)) ?_
    obtain ⟨fs, hr, hrun, hended, hW, hsame⟩ := X8.leave (v := some (.ref x2)) (fun h => by rw [Bd.returns] at h; cases h)
    refine Goes.mk _ _ ?_ ⟨hrun, hended, _, _, rfl, ?_, ⟨_, rfl⟩, hW, hsame.mono (by decide) (by decide)⟩
    · exact retOut X8 hx Bd.returns rfl (Or.inr (Or.inr (Or.inr (Or.inr ⟨rfl, rfl, rfl⟩)))) (hb hby d5_37) hr
    · show QHeadOf2 Z a0 q1 ar kA x1 x2 t1 t2 h0 n0 _ T8.heap _
      rw [e8]
      exact (Or.inl ⟨hc6, rfl, N0, rfl⟩)
  · refine Gb (fun _ => XS.ifYes X3.here hx rfl (pc0 := 23) (pc' := 38) rfl (hb hby d5_23) rfl ((if0 _ _).trans (feq (fun z => hc6 ((lw_eq t2 q1).mp z))).2) (by decide) (by decide)) ?_
    refine Gb (fun _ => XS.aloadN X3.here hx rfl (hb hby d5_38) rfl rfl) ?_
    refine Gb (fun _ => XS.lloadN X3.here hx rfl (hb hby d5_39) rfl) ?_
    obtain ⟨_, T10, L10, Lc10, X10, hF10, hQ10, st10⟩ := own_cp X3 hx hZ hown (wq hw 31 rfl) (wq hw 33 rfl) (wq hw 1 rfl) (wq hw 32 rfl) (wq hw 2 rfl) (wq hw 34 rfl) (rmDue2 l Z az hw [] a0 q1 ar kA x1 x2 t1 t2 h0 n0 Z0 F0 F1 F2 F3 F4 F5 F6 F7 F8) (W := 0) (g := (mkF m 40 (sh5 a0 q1) [(.long q1), (.ref a0)])) rfl (by rw [hml]; rfl) F0 (argsL := [(.long q1)]) (rest := []) rfl (lenOf own_pd1 rfl) rfl (hb hby d5_40) e3 N0 (c' := 0) (s' := 0)
    obtain ⟨rfl, N10q, e10⟩ := hQ10
    have N11 := hF10 N10q
    refine Gb st10 ?_
    rcases own_due2 q1 t1 t2 with he | he | he
    · rw [he]
      show Goes p.tables e below _ (T10.setTop (mkF m 43 (sh5 a0 q1) [(.int (0 : Int32))]))
      refine Gb (fun _ => XS.istoreN X10.here hx rfl (hb hby d5_43) rfl (l' := (sh6 a0 q1 (0 : Int32))) rfl) ?_
      refine Gb (fun _ => XS.iloadN X10.here hx rfl (hb hby d5_44) rfl) ?_
      refine Gb (fun _ => XS.ifYes X10.here hx rfl (pc0 := 45) (pc' := 73) rfl (hb hby d5_45) rfl ((if0 _ _).trans (flt (by decide : ¬ ((0 : Int32) < (0 : Int32)))).2.2.2) (by decide) (by decide)) ?_
      refine Gb (fun _ => XS.aloadN X10.here hx rfl (hb hby d5_73) rfl rfl) ?_
      obtain ⟨T12, X12, e12, st12⟩ := getF X10 hx hZ hown (host := "") (Or.inl (wq hw 29 rfl)) Via.refl e10 F2 (g := (mkF m 74 (sh6 a0 q1 (0 : Int32)) [(.ref a0)])) rfl rfl (hb hby d5_74)
      refine Gb st12 ?_
      refine Gb (fun _ => XS.aloadN X12.here hx rfl (hb hby d5_77) rfl rfl) ?_
      obtain ⟨T13, X13, e13, st13⟩ := getF X12 hx hZ hown (host := "") (Or.inl (wq hw 11 rfl)) Via.refl e12 F1 (g := (mkF m 78 (sh6 a0 q1 (0 : Int32)) [(.ref a0), (.int (2 : Int32))])) rfl rfl (hb hby d5_78)
      refine Gb st13 ?_
      obtain ⟨cl14, cl14A, -, cl14S, cl14N, -, -⟩ := id F3
      refine Gb (B := T13.setTop (mkF m 105 (sh6 a0 q1 (0 : Int32)) [])) (fun t k => ?_) ?_
      · refine X13.arraylength hx (by rw [e13]; exact cl14A.1) (State.isArrayOf_alike hZ.alike cl14A.2.1) (g := (mkF m 81 (sh6 a0 q1 (0 : Int32)) [(.ref ar), (.int (2 : Int32))])) rfl rfl (hb hby d5_81) _ ?_
        rw [len_of cl14S cl14N]
        refine XS.icmpYes X13.here hx rfl (pc0 := 82) (pc' := 105) rfl (hb hby d5_82) rfl (feq (by decide : ¬ ((2 : Int32) = (4 : Int32)))).2 (by decide) (by decide) ?_
        exact k
      refine Gb (fun _ => XS.aloadN X13.here hx rfl (hb hby d5_105) rfl rfl) ?_
      obtain ⟨T15, X15, e15, st15⟩ := getF X13 hx hZ hown (host := "") (Or.inl (wq hw 11 rfl)) Via.refl e13 F1 (g := (mkF m 106 (sh6 a0 q1 (0 : Int32)) [(.ref a0)])) rfl rfl (hb hby d5_106)
      refine Gb st15 ?_
      refine Gb (fun _ => XS.iloadN X15.here hx rfl (hb hby d5_109) rfl) ?_
      refine Gb (fun _ => XS.aloadN X15.here hx rfl (hb hby d5_110) rfl rfl) ?_
      obtain ⟨T16, X16, e16, st16⟩ := getF X15 hx hZ hown (host := "") (Or.inl (wq hw 11 rfl)) Via.refl e15 F1 (g := (mkF m 111 (sh6 a0 q1 (0 : Int32)) [(.ref a0), (.int (0 : Int32)), (.ref ar)])) rfl rfl (hb hby d5_111)
      refine Gb st16 ?_
      refine Gb (fun _ => XS.iloadN X16.here hx rfl (hb hby d5_114) rfl) ?_
      refine Gb (fun _ => XS.iconst X16.here hx rfl (hb hby d5_115)) ?_
      refine Gb (fun _ => XS.iadd X16.here hx rfl (hb hby d5_116) rfl) ?_
      refine Gb (fun _ => XS.aloadN X16.here hx rfl (hb hby d5_117) rfl rfl) ?_
      obtain ⟨T17, X17, e17, st17⟩ := getF X16 hx hZ hown (host := "") (Or.inl (wq hw 29 rfl)) Via.refl e16 F2 (g := (mkF m 118 (sh6 a0 q1 (0 : Int32)) [(.ref a0), (.int (1 : Int32)), (.ref ar), (.int (0 : Int32)), (.ref ar)])) rfl rfl (hb hby d5_118)
      refine Gb st17 ?_
      refine Gb (fun _ => XS.iloadN X17.here hx rfl (hb hby d5_121) rfl) ?_
      refine Gb (fun _ => XS.isub X17.here hx rfl (hb hby d5_122) rfl) ?_
      obtain ⟨cl18, cl18A, cl18q, -, -, -, -⟩ := id F3
      obtain ⟨T18, h18, L18, X18, e18, Nn18, K18, V18, st18⟩ := cpA X17 hx hZ hown (wq hw 35 rfl) (wq hw 38 rfl) (wq hw 36 rfl) (wq hw 37 rfl) e17 (us := [(.ref x1), (.ref x2)]) F3 F3 (Or.inr ⟨rfl, rfl, ⟨Sto.ofV cl18A cl18q F4 (Ins.self F5), ⟨Sto.ofV cl18A cl18q F4 (Ins.self F7), trivial⟩⟩⟩) (sp := (0 : Int32)) (dp := (1 : Int32)) (nn := (2 : Int32)) (by decide) (by decide) (by decide) (by decide) (by decide) rfl (Nat.le_of_ble_eq_true rfl) N11 Ge1 (g := (mkF m 123 (sh6 a0 q1 (0 : Int32)) [(.int (2 : Int32)), (.int (1 : Int32)), (.ref ar), (.int (0 : Int32)), (.ref ar)])) rfl (by rw [hml]; rfl) rfl (hb hby d5_123) (by decide) (W := 0) (by show 2 * 0 + _ ≤ _; exact Nat.le_of_eq rfl) (by decide)
      have f19 := F0.keep K18
      have f20 := F1.keep K18 (ninS Ne0 nin0)
      have f21 := F2.keep K18 (ninS Ne0 nin0)
      have f22 := F5.keep K18
      have f23 := F7.keep K18
      have f24 : Arv Z h18 ar kA (.object cH) (4 : Int32) [(.ref x1), (.ref x1), (.ref x2), .null] .null := V18
      have Kp18 : Keep h0 h18 [a0, ar] := Kp0.trans K18 (allS (Or.inl om1) all0)
      have Z25 := Nat.le_trans Z0 K18.1
      refine Gb st18 ?_
      obtain ⟨T26, h26, X26, e26, E26, A26, D26, -, st26⟩ := newO X18 hx hZ hown (wq hw 9 rfl) (wq hw 39 rfl) (wq hw 40 rfl) e18 (g := (mkF m 126 (sh6 a0 q1 (0 : Int32)) [])) rfl (hb hby d5_126) (by decide) (by decide)
      obtain ⟨b27, g26⟩ : ∃ z, z = h18.size := ⟨_, rfl⟩
      rw [← g26] at A26 D26 st26
      have ne28 : a0 ≠ b27 := Nat.ne_of_lt (Nat.lt_of_lt_of_le f19.lt (Nat.le_of_eq g26.symm))
      have ne29 : ar ≠ b27 := Nat.ne_of_lt (Nat.lt_of_lt_of_le f24.lt (Nat.le_of_eq g26.symm))
      have ne30 : x1 ≠ b27 := Nat.ne_of_lt (Nat.lt_of_lt_of_le f22.lt (Nat.le_of_eq g26.symm))
      have ne31 : x2 ≠ b27 := Nat.ne_of_lt (Nat.lt_of_lt_of_le f23.lt (Nat.le_of_eq g26.symm))
      have ge32 : n0 ≤ b27 := Nat.le_trans Z25 (Nat.le_of_eq g26.symm)
      have sz33 : h0.size ≤ b27 := Nat.le_trans Kp18.1 (Nat.le_of_eq g26.symm)
      have f34 := f19.ext E26
      have f35 := f20.ext E26
      have f36 := f21.ext E26
      have f37 := f22.ext E26
      have f38 := f23.ext E26
      have f39 := f24.ext E26
      have f40 : Fld Z h26 b27 cH "tick" "J" (.long (0 : Int64)) := D26 (Or.inr (wq hw 47 rfl)) (ty := .long) (by decide)
      have f41 : Fld Z h26 b27 cL "next" dL .null := D26 (Or.inl (wq hw 49 rfl)) (ty := (.object cL)) (by decide)
      have f42 : Fld Z h26 b27 cL "prev" dL .null := D26 (Or.inl (wq hw 51 rfl)) (ty := (.object cL)) (by decide)
      have Kp26 : Keep h0 h26 [a0, ar] := Kp18.ext E26
      have Z43 := Nat.le_trans Z25 E26.1
      refine Gb st26 ?_
      refine Gb (fun _ => XS.dup X26.here hx rfl (hb hby d5_129) rfl rfl) ?_
      refine Gb (fun _ => XS.lloadN X26.here hx rfl (hb hby d5_130) rfl) ?_
      obtain ⟨_, T44, L44, Lc44, X44, hF44, hQ44, st44⟩ := own_ci X26 hx hZ rfl hown (wq hw 41 rfl) (wq hw 42 rfl) (wq hw 40 rfl) (wq hw 43 rfl) (rmHeadI l Z az hw [] b27 q1 h26 n0 Z43 A26 f40 f41 f42 ge32) (W := 1) (g := (mkF m 131 (sh6 a0 q1 (0 : Int32)) [(.long q1), (.ref b27), (.ref b27)])) rfl (by rw [hml]; rfl) (argsL := [(.long q1)]) (rest := [(.ref b27)]) rfl (lenOf own_pd2 rfl) rfl (hb hby d5_131) e26 Nn18 (c' := 1) (s' := 3)
      obtain ⟨rfl, N44q, K44, f45, f46, f47, f48⟩ := hQ44
      have f49 := f34.keep K44
      have f50 := f35.keep K44 (ninS ne28 nin0)
      have f51 := f36.keep K44 (ninS ne28 nin0)
      have f52 := f37.keep K44
      have f53 := f38.keep K44
      have f54 := f39.keep K44 (ninS ne29 nin0)
      have f55 := A26.keep K44
      have Kp44 : Keep h0 T44.heap [a0, ar] := Kp26.trans K44 (allS (Or.inr sz33) all0)
      have Z56 := Nat.le_trans Z43 K44.1
      have N57 := hF44 N44q
      refine Gb st44 ?_
      refine Gb (fun _ => XS.astore X44.here hx rfl (hb hby d5_134) rfl rfl (l' := (sh7 a0 q1 (0 : Int32) b27)) rfl) ?_
      refine Gb (fun _ => XS.aloadN X44.here hx rfl (hb hby d5_136) rfl rfl) ?_
      obtain ⟨T58, X58, e58, st58⟩ := getF X44 hx hZ hown (host := "") (Or.inl (wq hw 11 rfl)) Via.refl rfl f50 (g := (mkF m 137 (sh7 a0 q1 (0 : Int32) b27) [(.ref a0)])) rfl rfl (hb hby d5_137)
      refine Gb st58 ?_
      refine Gb (fun _ => XS.iloadN X58.here hx rfl (hb hby d5_140) rfl) ?_
      refine Gb (fun _ => XS.aload X58.here hx rfl (hb hby d5_141) rfl rfl) ?_
      obtain ⟨cl59, cl59A, cl59q, cl59S, cl59N, cl59H, cl59G⟩ := id f54
      have cl59I : ¬ ((0 : Int32) < 0 ∨ cl59.slots.size ≤ ((0 : Int32)).toNatClampNeg) := inb_of cl59S ⟨by decide, by decide⟩
      obtain ⟨T59, h59, X59, e59, W59, st59⟩ := stR X58 hx hZ e58 cl59A (j := (0 : Int32)) cl59I rfl (Sto.ofV cl59A cl59q F4 (Ins.self f45)) (g := (mkF m 143 (sh7 a0 q1 (0 : Int32) b27) [(.ref b27), (.int (0 : Int32)), (.ref ar)])) rfl rfl (hb hby d5_143)
      have f60 := f49.wr W59
      have f61 := f50.other W59 (Or.inl Ne0)
      have f62 := f51.other W59 (Or.inl Ne0)
      have f63 := f52.wr W59
      have f64 := f53.wr W59
      have f65 := f45.wr W59
      have f66 := f46.other W59 (Or.inl (Ne.symm ne29))
      have f67 := f47.other W59 (Or.inl (Ne.symm ne29))
      have f68 := f48.other W59 (Or.inl (Ne.symm ne29))
      have f69 : Arv Z h59 ar kA (.object cH) (4 : Int32) [(.ref b27), (.ref x1), (.ref x2), .null] .null := Arv.set cl59A cl59q cl59S cl59N cl59H cl59G rfl W59 0 rfl (Nat.le_of_ble_eq_true rfl)
      have Kp59 : Keep h0 h59 [a0, ar] := Kp44.wr W59 (Or.inl om1)
      have Z70 := Nat.le_trans Z56 (Nat.le_of_eq W59.size.symm)
      have N71 := Fr.snoc X59 N57 Ge1
      refine Gb st59 ?_
      refine Gb (fun _ => XS.aloadN X59.here hx rfl (hb hby d5_144) rfl rfl) ?_
      refine Gb (fun _ => XS.dup X59.here hx rfl (hb hby d5_145) rfl rfl) ?_
      obtain ⟨T72, X72, e72, st72⟩ := getF X59 hx hZ hown (host := "") (Or.inl (wq hw 29 rfl)) Via.refl e59 f62 (g := (mkF m 146 (sh7 a0 q1 (0 : Int32) b27) [(.ref a0), (.ref a0)])) rfl rfl (hb hby d5_146)
      refine Gb st72 ?_
      refine Gb (fun _ => XS.iconst X72.here hx rfl (hb hby d5_149)) ?_
      refine Gb (fun _ => XS.iadd X72.here hx rfl (hb hby d5_150) rfl) ?_
      obtain ⟨T73, h73, X73, e73, W73, st73⟩ := putF X72 hx hZ hown (host := "") (Or.inl (wq hw 29 rfl)) Via.refl e72 f62 f60 (Or.inl (wq hw 30 rfl)) (wq hw 1 rfl) (ty := .int) (by decide) rfl rfl (g := (mkF m 151 (sh7 a0 q1 (0 : Int32) b27) [(.int (3 : Int32)), (.ref a0)])) rfl rfl (hb hby d5_151)
      have f74 := f60.wr W73
      have f75 := f61.other W73 (Or.inr (slot_ne (Or.inl (wq hw 12 rfl)) (Or.inl (wq hw 30 rfl)) (by decide) (t := (.array (.object cH))) (t' := .int) (by decide) (by decide)))
      have f76 := f63.wr W73
      have f77 := f64.wr W73
      have f78 := f65.wr W73
      have f79 := f66.other W73 (Or.inl (Ne.symm ne28))
      have f80 := f67.other W73 (Or.inl (Ne.symm ne28))
      have f81 := f68.other W73 (Or.inl (Ne.symm ne28))
      have f82 := f69.other W73 (Ne.symm Ne0)
      have f83 : Fld Z h73 a0 cD "count" "I" (.int (3 : Int32)) := f62.same W73
      have Kp73 : Keep h0 h73 [a0, ar] := Kp59.wr W73 (Or.inl om0)
      have Z84 := Nat.le_trans Z70 (Nat.le_of_eq W73.size.symm)
      have N85 := Fr.snoc X73 N71 Ge0
      refine Gb st73 ?_
      refine Gb (fun _ => XS.aload X73.here hx rfl (hb hby d5_154) rfl rfl) ?_
      obtain ⟨fs, hr, hrun, hended, hW, hsame⟩ := X73.leave (v := some (.ref b27)) (fun h => by rw [Bd.returns] at h; cases h)
      refine Goes.mk _ _ ?_ ⟨hrun, hended, _, _, rfl, ?_, ⟨_, rfl⟩, hW, hsame.mono (by decide) (by decide)⟩
      · exact retOut X73 hx Bd.returns rfl (Or.inr (Or.inr (Or.inr (Or.inr ⟨rfl, rfl, rfl⟩)))) (hb hby d5_156) hr
      · show QHeadOf2 Z a0 q1 ar kA x1 x2 t1 t2 h0 n0 _ T73.heap _
        rw [e73]
        exact (Or.inr (Or.inl ⟨b27, hc6, he, rfl, N85, Kp73, sz33, f75, f83, f82, f78, f79, f80, f81⟩))
    · rw [he]
      show Goes p.tables e below _ (T10.setTop (mkF m 43 (sh5 a0 q1) [(.int (1 : Int32))]))
      refine Gb (fun _ => XS.istoreN X10.here hx rfl (hb hby d5_43) rfl (l' := (sh6 a0 q1 (1 : Int32))) rfl) ?_
      refine Gb (fun _ => XS.iloadN X10.here hx rfl (hb hby d5_44) rfl) ?_
      refine Gb (fun _ => XS.ifNo X10.here hx rfl (hb hby d5_45) rfl ((if0 _ _).trans (tlt (by decide : (0 : Int32) < (1 : Int32))).2.2.2)) ?_
      refine Gb (fun _ => XS.aloadN X10.here hx rfl (hb hby d5_48) rfl rfl) ?_
      obtain ⟨T86, X86, e86, st86⟩ := getF X10 hx hZ hown (host := "") (Or.inl (wq hw 11 rfl)) Via.refl e10 F1 (g := (mkF m 49 (sh6 a0 q1 (1 : Int32)) [(.ref a0)])) rfl rfl (hb hby d5_49)
      refine Gb st86 ?_
      refine Gb (fun _ => XS.iloadN X86.here hx rfl (hb hby d5_52) rfl) ?_
      refine Gb (fun _ => XS.iconst X86.here hx rfl (hb hby d5_53)) ?_
      refine Gb (fun _ => XS.isub X86.here hx rfl (hb hby d5_54) rfl) ?_
      obtain ⟨cl87, cl87A, cl87q, cl87S, cl87N, cl87H, cl87G⟩ := id F3
      have cl87I : ¬ ((0 : Int32) < 0 ∨ cl87.slots.size ≤ ((0 : Int32)).toNatClampNeg) := inb_of cl87S ⟨by decide, by decide⟩
      have cl87T : cl87.slots[((0 : Int32)).toNatClampNeg]? = some (.ref x1) := cl87H.at cl87I rfl
      refine Gb (X86.aaload hx (j := (0 : Int32)) (v := (.ref x1)) (by rw [e86]; exact cl87A.1) (State.isArrayOf_alike hZ.alike cl87A.2.1) rfl cl87A.2.2 cl87I cl87T (g := (mkF m 55 (sh6 a0 q1 (1 : Int32)) [(.int (0 : Int32)), (.ref ar)])) rfl rfl (hb hby d5_55)) ?_
      refine Gb (B := T86.setTop (mkF m 61 (sh6 a0 q1 (1 : Int32)) [(.int (lcmpW t1 q1))])) (fun t k => ?_) ?_
      · refine getFR X86 hx hZ hown (wq hw 57 rfl) e86 F6 (g := (mkF m 56 (sh6 a0 q1 (1 : Int32)) [(.ref x1)])) rfl rfl (hb hby d5_56) ?_
        refine XS.lloadN X86.here hx rfl (hb hby d5_59) rfl ?_
        refine XS.lcmp X86.here hx rfl (hb hby d5_60) rfl ?_
        exact k
      by_cases hc89 : t1 = q1
      · refine Gb (fun _ => XS.ifNo X86.here hx rfl (hb hby d5_61) rfl ((if0 _ _).trans (teq ((lw_eq t1 q1).mpr hc89)).2)) ?_
        refine Gb (fun _ => XS.aloadN X86.here hx rfl (hb hby d5_64) rfl rfl) ?_
        obtain ⟨T90, X90, e90, st90⟩ := getF X86 hx hZ hown (host := "") (Or.inl (wq hw 11 rfl)) Via.refl e86 F1 (g := (mkF m 65 (sh6 a0 q1 (1 : Int32)) [(.ref a0)])) rfl rfl (hb hby d5_65)
        refine Gb st90 ?_
        refine Gb (fun _ => XS.iloadN X90.here hx rfl (hb hby d5_68) rfl) ?_
        refine Gb (fun _ => XS.iconst X90.here hx rfl (hb hby d5_69)) ?_
        refine Gb (fun _ => XS.isub X90.here hx rfl (hb hby d5_70) rfl) ?_
        obtain ⟨cl91, cl91A, cl91q, cl91S, cl91N, cl91H, cl91G⟩ := id F3
        have cl91I : ¬ ((0 : Int32) < 0 ∨ cl91.slots.size ≤ ((0 : Int32)).toNatClampNeg) := inb_of cl91S ⟨by decide, by decide⟩
        have cl91T : cl91.slots[((0 : Int32)).toNatClampNeg]? = some (.ref x1) := cl91H.at cl91I rfl
        refine Gb (X90.aaload hx (j := (0 : Int32)) (v := (.ref x1)) (by rw [e90]; exact cl91A.1) (State.isArrayOf_alike hZ.alike cl91A.2.1) rfl cl91A.2.2 cl91I cl91T (g := (mkF m 71 (sh6 a0 q1 (1 : Int32)) [(.int (0 : Int32)), (.ref ar)])) rfl rfl (hb hby d5_71)) ?_
        obtain ⟨fs, hr, hrun, hended, hW, hsame⟩ := X90.leave (v := some (.ref x1)) (fun h => by rw [Bd.returns] at h; cases h)
        refine Goes.mk _ _ ?_ ⟨hrun, hended, _, _, rfl, ?_, ⟨_, rfl⟩, hW, hsame.mono (by decide) (by decide)⟩
        · exact retOut X90 hx Bd.returns rfl (Or.inr (Or.inr (Or.inr (Or.inr ⟨rfl, rfl, rfl⟩)))) (hb hby d5_72) hr
        · show QHeadOf2 Z a0 q1 ar kA x1 x2 t1 t2 h0 n0 _ T90.heap _
          rw [e90]
          exact (Or.inr (Or.inr (Or.inl ⟨hc6, he, hc89, rfl, N11, rfl⟩)))
      · refine Gb (fun _ => XS.ifYes X86.here hx rfl (pc0 := 61) (pc' := 73) rfl (hb hby d5_61) rfl ((if0 _ _).trans (feq (fun z => hc89 ((lw_eq t1 q1).mp z))).2) (by decide) (by decide)) ?_
        refine Gb (fun _ => XS.aloadN X86.here hx rfl (hb hby d5_73) rfl rfl) ?_
        obtain ⟨T92, X92, e92, st92⟩ := getF X86 hx hZ hown (host := "") (Or.inl (wq hw 29 rfl)) Via.refl e86 F2 (g := (mkF m 74 (sh6 a0 q1 (1 : Int32)) [(.ref a0)])) rfl rfl (hb hby d5_74)
        refine Gb st92 ?_
        refine Gb (fun _ => XS.aloadN X92.here hx rfl (hb hby d5_77) rfl rfl) ?_
        obtain ⟨T93, X93, e93, st93⟩ := getF X92 hx hZ hown (host := "") (Or.inl (wq hw 11 rfl)) Via.refl e92 F1 (g := (mkF m 78 (sh6 a0 q1 (1 : Int32)) [(.ref a0), (.int (2 : Int32))])) rfl rfl (hb hby d5_78)
        refine Gb st93 ?_
        obtain ⟨cl94, cl94A, -, cl94S, cl94N, -, -⟩ := id F3
        refine Gb (B := T93.setTop (mkF m 105 (sh6 a0 q1 (1 : Int32)) [])) (fun t k => ?_) ?_
        · refine X93.arraylength hx (by rw [e93]; exact cl94A.1) (State.isArrayOf_alike hZ.alike cl94A.2.1) (g := (mkF m 81 (sh6 a0 q1 (1 : Int32)) [(.ref ar), (.int (2 : Int32))])) rfl rfl (hb hby d5_81) _ ?_
          rw [len_of cl94S cl94N]
          refine XS.icmpYes X93.here hx rfl (pc0 := 82) (pc' := 105) rfl (hb hby d5_82) rfl (feq (by decide : ¬ ((2 : Int32) = (4 : Int32)))).2 (by decide) (by decide) ?_
          exact k
        refine Gb (fun _ => XS.aloadN X93.here hx rfl (hb hby d5_105) rfl rfl) ?_
        obtain ⟨T95, X95, e95, st95⟩ := getF X93 hx hZ hown (host := "") (Or.inl (wq hw 11 rfl)) Via.refl e93 F1 (g := (mkF m 106 (sh6 a0 q1 (1 : Int32)) [(.ref a0)])) rfl rfl (hb hby d5_106)
        refine Gb st95 ?_
        refine Gb (fun _ => XS.iloadN X95.here hx rfl (hb hby d5_109) rfl) ?_
        refine Gb (fun _ => XS.aloadN X95.here hx rfl (hb hby d5_110) rfl rfl) ?_
        obtain ⟨T96, X96, e96, st96⟩ := getF X95 hx hZ hown (host := "") (Or.inl (wq hw 11 rfl)) Via.refl e95 F1 (g := (mkF m 111 (sh6 a0 q1 (1 : Int32)) [(.ref a0), (.int (1 : Int32)), (.ref ar)])) rfl rfl (hb hby d5_111)
        refine Gb st96 ?_
        refine Gb (fun _ => XS.iloadN X96.here hx rfl (hb hby d5_114) rfl) ?_
        refine Gb (fun _ => XS.iconst X96.here hx rfl (hb hby d5_115)) ?_
        refine Gb (fun _ => XS.iadd X96.here hx rfl (hb hby d5_116) rfl) ?_
        refine Gb (fun _ => XS.aloadN X96.here hx rfl (hb hby d5_117) rfl rfl) ?_
        obtain ⟨T97, X97, e97, st97⟩ := getF X96 hx hZ hown (host := "") (Or.inl (wq hw 29 rfl)) Via.refl e96 F2 (g := (mkF m 118 (sh6 a0 q1 (1 : Int32)) [(.ref a0), (.int (2 : Int32)), (.ref ar), (.int (1 : Int32)), (.ref ar)])) rfl rfl (hb hby d5_118)
        refine Gb st97 ?_
        refine Gb (fun _ => XS.iloadN X97.here hx rfl (hb hby d5_121) rfl) ?_
        refine Gb (fun _ => XS.isub X97.here hx rfl (hb hby d5_122) rfl) ?_
        obtain ⟨cl98, cl98A, cl98q, -, -, -, -⟩ := id F3
        obtain ⟨T98, h98, L98, X98, e98, Nn98, K98, V98, st98⟩ := cpA X97 hx hZ hown (wq hw 35 rfl) (wq hw 38 rfl) (wq hw 36 rfl) (wq hw 37 rfl) e97 (us := [(.ref x2)]) F3 F3 (Or.inr ⟨rfl, rfl, ⟨Sto.ofV cl98A cl98q F4 (Ins.self F7), trivial⟩⟩) (sp := (1 : Int32)) (dp := (2 : Int32)) (nn := (1 : Int32)) (by decide) (by decide) (by decide) (by decide) (by decide) rfl (Nat.le_of_ble_eq_true rfl) N11 Ge1 (g := (mkF m 123 (sh6 a0 q1 (1 : Int32)) [(.int (1 : Int32)), (.int (2 : Int32)), (.ref ar), (.int (1 : Int32)), (.ref ar)])) rfl (by rw [hml]; rfl) rfl (hb hby d5_123) (by decide) (W := 0) (by show 2 * 0 + _ ≤ _; exact Nat.le_of_eq rfl) (by decide)
        have f99 := F0.keep K98
        have f100 := F1.keep K98 (ninS Ne0 nin0)
        have f101 := F2.keep K98 (ninS Ne0 nin0)
        have f102 := F5.keep K98
        have f103 := F7.keep K98
        have f104 : Arv Z h98 ar kA (.object cH) (4 : Int32) [(.ref x1), (.ref x2), (.ref x2), .null] .null := V98
        have Kp98 : Keep h0 h98 [a0, ar] := Kp0.trans K98 (allS (Or.inl om1) all0)
        have Z105 := Nat.le_trans Z0 K98.1
        refine Gb st98 ?_
        obtain ⟨T106, h106, X106, e106, E106, A106, D106, -, st106⟩ := newO X98 hx hZ hown (wq hw 9 rfl) (wq hw 39 rfl) (wq hw 40 rfl) e98 (g := (mkF m 126 (sh6 a0 q1 (1 : Int32)) [])) rfl (hb hby d5_126) (by decide) (by decide)
        obtain ⟨b107, g106⟩ : ∃ z, z = h98.size := ⟨_, rfl⟩
        rw [← g106] at A106 D106 st106
        have ne108 : a0 ≠ b107 := Nat.ne_of_lt (Nat.lt_of_lt_of_le f99.lt (Nat.le_of_eq g106.symm))
        have ne109 : ar ≠ b107 := Nat.ne_of_lt (Nat.lt_of_lt_of_le f104.lt (Nat.le_of_eq g106.symm))
        have ne110 : x1 ≠ b107 := Nat.ne_of_lt (Nat.lt_of_lt_of_le f102.lt (Nat.le_of_eq g106.symm))
        have ne111 : x2 ≠ b107 := Nat.ne_of_lt (Nat.lt_of_lt_of_le f103.lt (Nat.le_of_eq g106.symm))
        have ge112 : n0 ≤ b107 := Nat.le_trans Z105 (Nat.le_of_eq g106.symm)
        have sz113 : h0.size ≤ b107 := Nat.le_trans Kp98.1 (Nat.le_of_eq g106.symm)
        have f114 := f99.ext E106
        have f115 := f100.ext E106
        have f116 := f101.ext E106
        have f117 := f102.ext E106
        have f118 := f103.ext E106
        have f119 := f104.ext E106
        have f120 : Fld Z h106 b107 cH "tick" "J" (.long (0 : Int64)) := D106 (Or.inr (wq hw 47 rfl)) (ty := .long) (by decide)
        have f121 : Fld Z h106 b107 cL "next" dL .null := D106 (Or.inl (wq hw 49 rfl)) (ty := (.object cL)) (by decide)
        have f122 : Fld Z h106 b107 cL "prev" dL .null := D106 (Or.inl (wq hw 51 rfl)) (ty := (.object cL)) (by decide)
        have Kp106 : Keep h0 h106 [a0, ar] := Kp98.ext E106
        have Z123 := Nat.le_trans Z105 E106.1
        refine Gb st106 ?_
        refine Gb (fun _ => XS.dup X106.here hx rfl (hb hby d5_129) rfl rfl) ?_
        refine Gb (fun _ => XS.lloadN X106.here hx rfl (hb hby d5_130) rfl) ?_
        obtain ⟨_, T124, L124, Lc124, X124, hF124, hQ124, st124⟩ := own_ci X106 hx hZ rfl hown (wq hw 41 rfl) (wq hw 42 rfl) (wq hw 40 rfl) (wq hw 43 rfl) (rmHeadI l Z az hw [] b107 q1 h106 n0 Z123 A106 f120 f121 f122 ge112) (W := 1) (g := (mkF m 131 (sh6 a0 q1 (1 : Int32)) [(.long q1), (.ref b107), (.ref b107)])) rfl (by rw [hml]; rfl) (argsL := [(.long q1)]) (rest := [(.ref b107)]) rfl (lenOf own_pd2 rfl) rfl (hb hby d5_131) e106 Nn98 (c' := 1) (s' := 3)
        obtain ⟨rfl, N124q, K124, f125, f126, f127, f128⟩ := hQ124
        have f129 := f114.keep K124
        have f130 := f115.keep K124 (ninS ne108 nin0)
        have f131 := f116.keep K124 (ninS ne108 nin0)
        have f132 := f117.keep K124
        have f133 := f118.keep K124
        have f134 := f119.keep K124 (ninS ne109 nin0)
        have f135 := A106.keep K124
        have Kp124 : Keep h0 T124.heap [a0, ar] := Kp106.trans K124 (allS (Or.inr sz113) all0)
        have Z136 := Nat.le_trans Z123 K124.1
        have N137 := hF124 N124q
        refine Gb st124 ?_
        refine Gb (fun _ => XS.astore X124.here hx rfl (hb hby d5_134) rfl rfl (l' := (sh7 a0 q1 (1 : Int32) b107)) rfl) ?_
        refine Gb (fun _ => XS.aloadN X124.here hx rfl (hb hby d5_136) rfl rfl) ?_
        obtain ⟨T138, X138, e138, st138⟩ := getF X124 hx hZ hown (host := "") (Or.inl (wq hw 11 rfl)) Via.refl rfl f130 (g := (mkF m 137 (sh7 a0 q1 (1 : Int32) b107) [(.ref a0)])) rfl rfl (hb hby d5_137)
        refine Gb st138 ?_
        refine Gb (fun _ => XS.iloadN X138.here hx rfl (hb hby d5_140) rfl) ?_
        refine Gb (fun _ => XS.aload X138.here hx rfl (hb hby d5_141) rfl rfl) ?_
        obtain ⟨cl139, cl139A, cl139q, cl139S, cl139N, cl139H, cl139G⟩ := id f134
        have cl139I : ¬ ((1 : Int32) < 0 ∨ cl139.slots.size ≤ ((1 : Int32)).toNatClampNeg) := inb_of cl139S ⟨by decide, by decide⟩
        obtain ⟨T139, h139, X139, e139, W139, st139⟩ := stR X138 hx hZ e138 cl139A (j := (1 : Int32)) cl139I rfl (Sto.ofV cl139A cl139q F4 (Ins.self f125)) (g := (mkF m 143 (sh7 a0 q1 (1 : Int32) b107) [(.ref b107), (.int (1 : Int32)), (.ref ar)])) rfl rfl (hb hby d5_143)
        have f140 := f129.wr W139
        have f141 := f130.other W139 (Or.inl Ne0)
        have f142 := f131.other W139 (Or.inl Ne0)
        have f143 := f132.wr W139
        have f144 := f133.wr W139
        have f145 := f125.wr W139
        have f146 := f126.other W139 (Or.inl (Ne.symm ne109))
        have f147 := f127.other W139 (Or.inl (Ne.symm ne109))
        have f148 := f128.other W139 (Or.inl (Ne.symm ne109))
        have f149 : Arv Z h139 ar kA (.object cH) (4 : Int32) [(.ref x1), (.ref b107), (.ref x2), .null] .null := Arv.set cl139A cl139q cl139S cl139N cl139H cl139G rfl W139 1 rfl (Nat.le_of_ble_eq_true rfl)
        have Kp139 : Keep h0 h139 [a0, ar] := Kp124.wr W139 (Or.inl om1)
        have Z150 := Nat.le_trans Z136 (Nat.le_of_eq W139.size.symm)
        have N151 := Fr.snoc X139 N137 Ge1
        refine Gb st139 ?_
        refine Gb (fun _ => XS.aloadN X139.here hx rfl (hb hby d5_144) rfl rfl) ?_
        refine Gb (fun _ => XS.dup X139.here hx rfl (hb hby d5_145) rfl rfl) ?_
        obtain ⟨T152, X152, e152, st152⟩ := getF X139 hx hZ hown (host := "") (Or.inl (wq hw 29 rfl)) Via.refl e139 f142 (g := (mkF m 146 (sh7 a0 q1 (1 : Int32) b107) [(.ref a0), (.ref a0)])) rfl rfl (hb hby d5_146)
        refine Gb st152 ?_
        refine Gb (fun _ => XS.iconst X152.here hx rfl (hb hby d5_149)) ?_
        refine Gb (fun _ => XS.iadd X152.here hx rfl (hb hby d5_150) rfl) ?_
        obtain ⟨T153, h153, X153, e153, W153, st153⟩ := putF X152 hx hZ hown (host := "") (Or.inl (wq hw 29 rfl)) Via.refl e152 f142 f140 (Or.inl (wq hw 30 rfl)) (wq hw 1 rfl) (ty := .int) (by decide) rfl rfl (g := (mkF m 151 (sh7 a0 q1 (1 : Int32) b107) [(.int (3 : Int32)), (.ref a0)])) rfl rfl (hb hby d5_151)
        have f154 := f140.wr W153
        have f155 := f141.other W153 (Or.inr (slot_ne (Or.inl (wq hw 12 rfl)) (Or.inl (wq hw 30 rfl)) (by decide) (t := (.array (.object cH))) (t' := .int) (by decide) (by decide)))
        have f156 := f143.wr W153
        have f157 := f144.wr W153
        have f158 := f145.wr W153
        have f159 := f146.other W153 (Or.inl (Ne.symm ne108))
        have f160 := f147.other W153 (Or.inl (Ne.symm ne108))
        have f161 := f148.other W153 (Or.inl (Ne.symm ne108))
        have f162 := f149.other W153 (Ne.symm Ne0)
        have f163 : Fld Z h153 a0 cD "count" "I" (.int (3 : Int32)) := f142.same W153
        have Kp153 : Keep h0 h153 [a0, ar] := Kp139.wr W153 (Or.inl om0)
        have Z164 := Nat.le_trans Z150 (Nat.le_of_eq W153.size.symm)
        have N165 := Fr.snoc X153 N151 Ge0
        refine Gb st153 ?_
        refine Gb (fun _ => XS.aload X153.here hx rfl (hb hby d5_154) rfl rfl) ?_
        obtain ⟨fs, hr, hrun, hended, hW, hsame⟩ := X153.leave (v := some (.ref b107)) (fun h => by rw [Bd.returns] at h; cases h)
        refine Goes.mk _ _ ?_ ⟨hrun, hended, _, _, rfl, ?_, ⟨_, rfl⟩, hW, hsame.mono (by decide) (by decide)⟩
        · exact retOut X153 hx Bd.returns rfl (Or.inr (Or.inr (Or.inr (Or.inr ⟨rfl, rfl, rfl⟩)))) (hb hby d5_156) hr
        · show QHeadOf2 Z a0 q1 ar kA x1 x2 t1 t2 h0 n0 _ T153.heap _
          rw [e153]
          exact (Or.inr (Or.inr (Or.inr (Or.inl ⟨b107, hc6, he, hc89, rfl, N165, Kp153, sz113, f155, f163, f162, f158, f159, f160, f161⟩))))
    · rw [he]
      show Goes p.tables e below _ (T10.setTop (mkF m 43 (sh5 a0 q1) [(.int (2 : Int32))]))
      refine Gb (fun _ => XS.istoreN X10.here hx rfl (hb hby d5_43) rfl (l' := (sh6 a0 q1 (2 : Int32))) rfl) ?_
      refine Gb (fun _ => XS.iloadN X10.here hx rfl (hb hby d5_44) rfl) ?_
      refine Gb (fun _ => XS.ifNo X10.here hx rfl (hb hby d5_45) rfl ((if0 _ _).trans (tlt (by decide : (0 : Int32) < (2 : Int32))).2.2.2)) ?_
      refine Gb (fun _ => XS.aloadN X10.here hx rfl (hb hby d5_48) rfl rfl) ?_
      obtain ⟨T166, X166, e166, st166⟩ := getF X10 hx hZ hown (host := "") (Or.inl (wq hw 11 rfl)) Via.refl e10 F1 (g := (mkF m 49 (sh6 a0 q1 (2 : Int32)) [(.ref a0)])) rfl rfl (hb hby d5_49)
      refine Gb st166 ?_
      refine Gb (fun _ => XS.iloadN X166.here hx rfl (hb hby d5_52) rfl) ?_
      refine Gb (fun _ => XS.iconst X166.here hx rfl (hb hby d5_53)) ?_
      refine Gb (fun _ => XS.isub X166.here hx rfl (hb hby d5_54) rfl) ?_
      obtain ⟨cl167, cl167A, cl167q, cl167S, cl167N, cl167H, cl167G⟩ := id F3
      have cl167I : ¬ ((1 : Int32) < 0 ∨ cl167.slots.size ≤ ((1 : Int32)).toNatClampNeg) := inb_of cl167S ⟨by decide, by decide⟩
      have cl167T : cl167.slots[((1 : Int32)).toNatClampNeg]? = some (.ref x2) := cl167H.at cl167I rfl
      refine Gb (X166.aaload hx (j := (1 : Int32)) (v := (.ref x2)) (by rw [e166]; exact cl167A.1) (State.isArrayOf_alike hZ.alike cl167A.2.1) rfl cl167A.2.2 cl167I cl167T (g := (mkF m 55 (sh6 a0 q1 (2 : Int32)) [(.int (1 : Int32)), (.ref ar)])) rfl rfl (hb hby d5_55)) ?_
      refine Gb (B := T166.setTop (mkF m 74 (sh6 a0 q1 (2 : Int32)) [(.ref a0)])) (fun t k => ?_) ?_
      · refine getFR X166 hx hZ hown (wq hw 57 rfl) e166 F8 (g := (mkF m 56 (sh6 a0 q1 (2 : Int32)) [(.ref x2)])) rfl rfl (hb hby d5_56) ?_
        refine XS.lloadN X166.here hx rfl (hb hby d5_59) rfl ?_
        refine XS.lcmp X166.here hx rfl (hb hby d5_60) rfl ?_
        refine XS.ifYes X166.here hx rfl (pc0 := 61) (pc' := 73) rfl (hb hby d5_61) rfl ((if0 _ _).trans (feq (fun z => hc6 ((lw_eq t2 q1).mp z))).2) (by decide) (by decide) ?_
        refine XS.aloadN X166.here hx rfl (hb hby d5_73) rfl rfl ?_
        exact k
      obtain ⟨T169, X169, e169, st169⟩ := getF X166 hx hZ hown (host := "") (Or.inl (wq hw 29 rfl)) Via.refl e166 F2 (g := (mkF m 74 (sh6 a0 q1 (2 : Int32)) [(.ref a0)])) rfl rfl (hb hby d5_74)
      refine Gb st169 ?_
      refine Gb (fun _ => XS.aloadN X169.here hx rfl (hb hby d5_77) rfl rfl) ?_
      obtain ⟨T170, X170, e170, st170⟩ := getF X169 hx hZ hown (host := "") (Or.inl (wq hw 11 rfl)) Via.refl e169 F1 (g := (mkF m 78 (sh6 a0 q1 (2 : Int32)) [(.ref a0), (.int (2 : Int32))])) rfl rfl (hb hby d5_78)
      refine Gb st170 ?_
      obtain ⟨cl171, cl171A, -, cl171S, cl171N, -, -⟩ := id F3
      refine Gb (B := T170.setTop (mkF m 105 (sh6 a0 q1 (2 : Int32)) [])) (fun t k => ?_) ?_
      · refine X170.arraylength hx (by rw [e170]; exact cl171A.1) (State.isArrayOf_alike hZ.alike cl171A.2.1) (g := (mkF m 81 (sh6 a0 q1 (2 : Int32)) [(.ref ar), (.int (2 : Int32))])) rfl rfl (hb hby d5_81) _ ?_
        rw [len_of cl171S cl171N]
        refine XS.icmpYes X170.here hx rfl (pc0 := 82) (pc' := 105) rfl (hb hby d5_82) rfl (feq (by decide : ¬ ((2 : Int32) = (4 : Int32)))).2 (by decide) (by decide) ?_
        exact k
      refine Gb (fun _ => XS.aloadN X170.here hx rfl (hb hby d5_105) rfl rfl) ?_
      obtain ⟨T172, X172, e172, st172⟩ := getF X170 hx hZ hown (host := "") (Or.inl (wq hw 11 rfl)) Via.refl e170 F1 (g := (mkF m 106 (sh6 a0 q1 (2 : Int32)) [(.ref a0)])) rfl rfl (hb hby d5_106)
      refine Gb st172 ?_
      refine Gb (fun _ => XS.iloadN X172.here hx rfl (hb hby d5_109) rfl) ?_
      refine Gb (fun _ => XS.aloadN X172.here hx rfl (hb hby d5_110) rfl rfl) ?_
      obtain ⟨T173, X173, e173, st173⟩ := getF X172 hx hZ hown (host := "") (Or.inl (wq hw 11 rfl)) Via.refl e172 F1 (g := (mkF m 111 (sh6 a0 q1 (2 : Int32)) [(.ref a0), (.int (2 : Int32)), (.ref ar)])) rfl rfl (hb hby d5_111)
      refine Gb st173 ?_
      refine Gb (fun _ => XS.iloadN X173.here hx rfl (hb hby d5_114) rfl) ?_
      refine Gb (fun _ => XS.iconst X173.here hx rfl (hb hby d5_115)) ?_
      refine Gb (fun _ => XS.iadd X173.here hx rfl (hb hby d5_116) rfl) ?_
      refine Gb (fun _ => XS.aloadN X173.here hx rfl (hb hby d5_117) rfl rfl) ?_
      obtain ⟨T174, X174, e174, st174⟩ := getF X173 hx hZ hown (host := "") (Or.inl (wq hw 29 rfl)) Via.refl e173 F2 (g := (mkF m 118 (sh6 a0 q1 (2 : Int32)) [(.ref a0), (.int (3 : Int32)), (.ref ar), (.int (2 : Int32)), (.ref ar)])) rfl rfl (hb hby d5_118)
      refine Gb st174 ?_
      refine Gb (fun _ => XS.iloadN X174.here hx rfl (hb hby d5_121) rfl) ?_
      refine Gb (fun _ => XS.isub X174.here hx rfl (hb hby d5_122) rfl) ?_
      obtain ⟨T175, h175, L175, X175, e175, Nn175, K175, V175, st175⟩ := cpA X174 hx hZ hown (wq hw 35 rfl) (wq hw 38 rfl) (wq hw 36 rfl) (wq hw 37 rfl) e174 (us := []) F3 F3 (Or.inr ⟨rfl, rfl, trivial⟩) (sp := (2 : Int32)) (dp := (3 : Int32)) (nn := (0 : Int32)) (by decide) (by decide) (by decide) (by decide) (by decide) rfl (Nat.le_of_ble_eq_true rfl) N11 Ge1 (g := (mkF m 123 (sh6 a0 q1 (2 : Int32)) [(.int (0 : Int32)), (.int (3 : Int32)), (.ref ar), (.int (2 : Int32)), (.ref ar)])) rfl (by rw [hml]; rfl) rfl (hb hby d5_123) (by decide) (W := 0) (by show 2 * 0 + _ ≤ _; exact Nat.le_of_eq rfl) (by decide)
      have f176 := F0.keep K175
      have f177 := F1.keep K175 (ninS Ne0 nin0)
      have f178 := F2.keep K175 (ninS Ne0 nin0)
      have f179 := F5.keep K175
      have f180 := F7.keep K175
      have f181 : Arv Z h175 ar kA (.object cH) (4 : Int32) [(.ref x1), (.ref x2), .null, .null] .null := V175
      have Kp175 : Keep h0 h175 [a0, ar] := Kp0.trans K175 (allS (Or.inl om1) all0)
      have Z182 := Nat.le_trans Z0 K175.1
      refine Gb st175 ?_
      obtain ⟨T183, h183, X183, e183, E183, A183, D183, -, st183⟩ := newO X175 hx hZ hown (wq hw 9 rfl) (wq hw 39 rfl) (wq hw 40 rfl) e175 (g := (mkF m 126 (sh6 a0 q1 (2 : Int32)) [])) rfl (hb hby d5_126) (by decide) (by decide)
      obtain ⟨b184, g183⟩ : ∃ z, z = h175.size := ⟨_, rfl⟩
      rw [← g183] at A183 D183 st183
      have ne185 : a0 ≠ b184 := Nat.ne_of_lt (Nat.lt_of_lt_of_le f176.lt (Nat.le_of_eq g183.symm))
      have ne186 : ar ≠ b184 := Nat.ne_of_lt (Nat.lt_of_lt_of_le f181.lt (Nat.le_of_eq g183.symm))
      have ne187 : x1 ≠ b184 := Nat.ne_of_lt (Nat.lt_of_lt_of_le f179.lt (Nat.le_of_eq g183.symm))
      have ne188 : x2 ≠ b184 := Nat.ne_of_lt (Nat.lt_of_lt_of_le f180.lt (Nat.le_of_eq g183.symm))
      have ge189 : n0 ≤ b184 := Nat.le_trans Z182 (Nat.le_of_eq g183.symm)
      have sz190 : h0.size ≤ b184 := Nat.le_trans Kp175.1 (Nat.le_of_eq g183.symm)
      have f191 := f176.ext E183
      have f192 := f177.ext E183
      have f193 := f178.ext E183
      have f194 := f179.ext E183
      have f195 := f180.ext E183
      have f196 := f181.ext E183
      have f197 : Fld Z h183 b184 cH "tick" "J" (.long (0 : Int64)) := D183 (Or.inr (wq hw 47 rfl)) (ty := .long) (by decide)
      have f198 : Fld Z h183 b184 cL "next" dL .null := D183 (Or.inl (wq hw 49 rfl)) (ty := (.object cL)) (by decide)
      have f199 : Fld Z h183 b184 cL "prev" dL .null := D183 (Or.inl (wq hw 51 rfl)) (ty := (.object cL)) (by decide)
      have Kp183 : Keep h0 h183 [a0, ar] := Kp175.ext E183
      have Z200 := Nat.le_trans Z182 E183.1
      refine Gb st183 ?_
      refine Gb (fun _ => XS.dup X183.here hx rfl (hb hby d5_129) rfl rfl) ?_
      refine Gb (fun _ => XS.lloadN X183.here hx rfl (hb hby d5_130) rfl) ?_
      obtain ⟨_, T201, L201, Lc201, X201, hF201, hQ201, st201⟩ := own_ci X183 hx hZ rfl hown (wq hw 41 rfl) (wq hw 42 rfl) (wq hw 40 rfl) (wq hw 43 rfl) (rmHeadI l Z az hw [] b184 q1 h183 n0 Z200 A183 f197 f198 f199 ge189) (W := 1) (g := (mkF m 131 (sh6 a0 q1 (2 : Int32)) [(.long q1), (.ref b184), (.ref b184)])) rfl (by rw [hml]; rfl) (argsL := [(.long q1)]) (rest := [(.ref b184)]) rfl (lenOf own_pd2 rfl) rfl (hb hby d5_131) e183 Nn175 (c' := 1) (s' := 3)
      obtain ⟨rfl, N201q, K201, f202, f203, f204, f205⟩ := hQ201
      have f206 := f191.keep K201
      have f207 := f192.keep K201 (ninS ne185 nin0)
      have f208 := f193.keep K201 (ninS ne185 nin0)
      have f209 := f194.keep K201
      have f210 := f195.keep K201
      have f211 := f196.keep K201 (ninS ne186 nin0)
      have f212 := A183.keep K201
      have Kp201 : Keep h0 T201.heap [a0, ar] := Kp183.trans K201 (allS (Or.inr sz190) all0)
      have Z213 := Nat.le_trans Z200 K201.1
      have N214 := hF201 N201q
      refine Gb st201 ?_
      refine Gb (fun _ => XS.astore X201.here hx rfl (hb hby d5_134) rfl rfl (l' := (sh7 a0 q1 (2 : Int32) b184)) rfl) ?_
      refine Gb (fun _ => XS.aloadN X201.here hx rfl (hb hby d5_136) rfl rfl) ?_
      obtain ⟨T215, X215, e215, st215⟩ := getF X201 hx hZ hown (host := "") (Or.inl (wq hw 11 rfl)) Via.refl rfl f207 (g := (mkF m 137 (sh7 a0 q1 (2 : Int32) b184) [(.ref a0)])) rfl rfl (hb hby d5_137)
      refine Gb st215 ?_
      refine Gb (fun _ => XS.iloadN X215.here hx rfl (hb hby d5_140) rfl) ?_
      refine Gb (fun _ => XS.aload X215.here hx rfl (hb hby d5_141) rfl rfl) ?_
      obtain ⟨cl216, cl216A, cl216q, cl216S, cl216N, cl216H, cl216G⟩ := id f211
      have cl216I : ¬ ((2 : Int32) < 0 ∨ cl216.slots.size ≤ ((2 : Int32)).toNatClampNeg) := inb_of cl216S ⟨by decide, by decide⟩
      obtain ⟨T216, h216, X216, e216, W216, st216⟩ := stR X215 hx hZ e215 cl216A (j := (2 : Int32)) cl216I rfl (Sto.ofV cl216A cl216q F4 (Ins.self f202)) (g := (mkF m 143 (sh7 a0 q1 (2 : Int32) b184) [(.ref b184), (.int (2 : Int32)), (.ref ar)])) rfl rfl (hb hby d5_143)
      have f217 := f206.wr W216
      have f218 := f207.other W216 (Or.inl Ne0)
      have f219 := f208.other W216 (Or.inl Ne0)
      have f220 := f209.wr W216
      have f221 := f210.wr W216
      have f222 := f202.wr W216
      have f223 := f203.other W216 (Or.inl (Ne.symm ne186))
      have f224 := f204.other W216 (Or.inl (Ne.symm ne186))
      have f225 := f205.other W216 (Or.inl (Ne.symm ne186))
      have f226 : Arv Z h216 ar kA (.object cH) (4 : Int32) [(.ref x1), (.ref x2), (.ref b184), .null] .null := Arv.set cl216A cl216q cl216S cl216N cl216H cl216G rfl W216 2 rfl (Nat.le_of_ble_eq_true rfl)
      have Kp216 : Keep h0 h216 [a0, ar] := Kp201.wr W216 (Or.inl om1)
      have Z227 := Nat.le_trans Z213 (Nat.le_of_eq W216.size.symm)
      have N228 := Fr.snoc X216 N214 Ge1
      refine Gb st216 ?_
      refine Gb (fun _ => XS.aloadN X216.here hx rfl (hb hby d5_144) rfl rfl) ?_
      refine Gb (fun _ => XS.dup X216.here hx rfl (hb hby d5_145) rfl rfl) ?_
      obtain ⟨T229, X229, e229, st229⟩ := getF X216 hx hZ hown (host := "") (Or.inl (wq hw 29 rfl)) Via.refl e216 f219 (g := (mkF m 146 (sh7 a0 q1 (2 : Int32) b184) [(.ref a0), (.ref a0)])) rfl rfl (hb hby d5_146)
      refine Gb st229 ?_
      refine Gb (fun _ => XS.iconst X229.here hx rfl (hb hby d5_149)) ?_
      refine Gb (fun _ => XS.iadd X229.here hx rfl (hb hby d5_150) rfl) ?_
      obtain ⟨T230, h230, X230, e230, W230, st230⟩ := putF X229 hx hZ hown (host := "") (Or.inl (wq hw 29 rfl)) Via.refl e229 f219 f217 (Or.inl (wq hw 30 rfl)) (wq hw 1 rfl) (ty := .int) (by decide) rfl rfl (g := (mkF m 151 (sh7 a0 q1 (2 : Int32) b184) [(.int (3 : Int32)), (.ref a0)])) rfl rfl (hb hby d5_151)
      have f231 := f217.wr W230
      have f232 := f218.other W230 (Or.inr (slot_ne (Or.inl (wq hw 12 rfl)) (Or.inl (wq hw 30 rfl)) (by decide) (t := (.array (.object cH))) (t' := .int) (by decide) (by decide)))
      have f233 := f220.wr W230
      have f234 := f221.wr W230
      have f235 := f222.wr W230
      have f236 := f223.other W230 (Or.inl (Ne.symm ne185))
      have f237 := f224.other W230 (Or.inl (Ne.symm ne185))
      have f238 := f225.other W230 (Or.inl (Ne.symm ne185))
      have f239 := f226.other W230 (Ne.symm Ne0)
      have f240 : Fld Z h230 a0 cD "count" "I" (.int (3 : Int32)) := f219.same W230
      have Kp230 : Keep h0 h230 [a0, ar] := Kp216.wr W230 (Or.inl om0)
      have Z241 := Nat.le_trans Z227 (Nat.le_of_eq W230.size.symm)
      have N242 := Fr.snoc X230 N228 Ge0
      refine Gb st230 ?_
      refine Gb (fun _ => XS.aload X230.here hx rfl (hb hby d5_154) rfl rfl) ?_
      obtain ⟨fs, hr, hrun, hended, hW, hsame⟩ := X230.leave (v := some (.ref b184)) (fun h => by rw [Bd.returns] at h; cases h)
      refine Goes.mk _ _ ?_ ⟨hrun, hended, _, _, rfl, ?_, ⟨_, rfl⟩, hW, hsame.mono (by decide) (by decide)⟩
      · exact retOut X230 hx Bd.returns rfl (Or.inr (Or.inr (Or.inr (Or.inr ⟨rfl, rfl, rfl⟩)))) (hb hby d5_156) hr
      · show QHeadOf2 Z a0 q1 ar kA x1 x2 t1 t2 h0 n0 _ T230.heap _
        rw [e230]
        exact (Or.inr (Or.inr (Or.inr (Or.inr ⟨b184, hc6, he, rfl, N242, Kp230, sz190, f232, f240, f239, f235, f236, f237, f238⟩))))
def QHeadOf3 (Z : State) (a0 : Addr) (q1 : Int64) (ar : Addr) (kA : ClassId) (x1 : Addr) (x2 : Addr) (x3 : Addr) (t1 : Int64) (t2 : Int64) (t3 : Int64) (h0 : Heap) (n0 : Nat) (v : Option Value) (h : Heap) (L : List Loc) : Prop := (t3 = q1 ∧ v = some (.ref x3) ∧ Fr n0 L ∧ h = h0) ∨ (∃ b28 : Addr, ¬ (t3 = q1) ∧ fDue3 q1 t1 t2 t3 = (0 : Int32) ∧ v = some (.ref b28) ∧ Fr n0 L ∧ Keep h0 h [a0, ar] ∧ h0.size ≤ b28 ∧ Fld Z h a0 cD "heads" dA (.ref ar) ∧ Fld Z h a0 cD "count" "I" (.int (4 : Int32)) ∧ Arv Z h ar kA (.object cH) (4 : Int32) [(.ref b28), (.ref x1), (.ref x2), (.ref x3)] .null ∧ Exa Z h b28 cH ∧ Fld Z h b28 cH "tick" "J" (.long q1) ∧ Fld Z h b28 cL "next" dL (.ref b28) ∧ Fld Z h b28 cL "prev" dL (.ref b28)) ∨ (¬ (t3 = q1) ∧ fDue3 q1 t1 t2 t3 = (1 : Int32) ∧ t1 = q1 ∧ v = some (.ref x1) ∧ Fr n0 L ∧ h = h0) ∨ (∃ b114 : Addr, ¬ (t3 = q1) ∧ fDue3 q1 t1 t2 t3 = (1 : Int32) ∧ ¬ (t1 = q1) ∧ v = some (.ref b114) ∧ Fr n0 L ∧ Keep h0 h [a0, ar] ∧ h0.size ≤ b114 ∧ Fld Z h a0 cD "heads" dA (.ref ar) ∧ Fld Z h a0 cD "count" "I" (.int (4 : Int32)) ∧ Arv Z h ar kA (.object cH) (4 : Int32) [(.ref x1), (.ref b114), (.ref x2), (.ref x3)] .null ∧ Exa Z h b114 cH ∧ Fld Z h b114 cH "tick" "J" (.long q1) ∧ Fld Z h b114 cL "next" dL (.ref b114) ∧ Fld Z h b114 cL "prev" dL (.ref b114)) ∨ (¬ (t3 = q1) ∧ fDue3 q1 t1 t2 t3 = (2 : Int32) ∧ t2 = q1 ∧ v = some (.ref x2) ∧ Fr n0 L ∧ h = h0) ∨ (∃ b200 : Addr, ¬ (t3 = q1) ∧ fDue3 q1 t1 t2 t3 = (2 : Int32) ∧ ¬ (t2 = q1) ∧ v = some (.ref b200) ∧ Fr n0 L ∧ Keep h0 h [a0, ar] ∧ h0.size ≤ b200 ∧ Fld Z h a0 cD "heads" dA (.ref ar) ∧ Fld Z h a0 cD "count" "I" (.int (4 : Int32)) ∧ Arv Z h ar kA (.object cH) (4 : Int32) [(.ref x1), (.ref x2), (.ref b200), (.ref x3)] .null ∧ Exa Z h b200 cH ∧ Fld Z h b200 cH "tick" "J" (.long q1) ∧ Fld Z h b200 cL "next" dL (.ref b200) ∧ Fld Z h b200 cL "prev" dL (.ref b200)) ∨ (∃ b283 : Addr, ¬ (t3 = q1) ∧ fDue3 q1 t1 t2 t3 = (3 : Int32) ∧ v = some (.ref b283) ∧ Fr n0 L ∧ Keep h0 h [a0, ar] ∧ h0.size ≤ b283 ∧ Fld Z h a0 cD "heads" dA (.ref ar) ∧ Fld Z h a0 cD "count" "I" (.int (4 : Int32)) ∧ Arv Z h ar kA (.object cH) (4 : Int32) [(.ref x1), (.ref x2), (.ref x3), (.ref b283)] .null ∧ Exa Z h b283 cH ∧ Fld Z h b283 cH "tick" "J" (.long q1) ∧ Fld Z h b283 cL "next" dL (.ref b283) ∧ Fld Z h b283 cL "prev" dL (.ref b283))
theorem efHeadOf3 (m : MethodId) (x0 : Addr) (x1 : Int64) : entryFrame m #[(.ref x0), (.long x1)] 5 = mkF m 0 #[.val (.ref x0), .val (.long x1), .second, .unset, .unset] [] := by first | (simp [entryFrame, mkF, argsToLocals, Value.category]; done) | rfl
set_option maxRecDepth 65536 in
set_option maxHeartbeats 40000000 in
theorem rmHeadOf3 (l : Launch) (Z : State) (az : Array Value) (hw : ∀ d ∈ tables_1, d.before az Z = true) (ws : List Jvm.Cond) (a0 : Addr) (q1 : Int64) (ar : Addr) (kA : ClassId) (x1 : Addr) (x2 : Addr) (x3 : Addr) (t1 : Int64) (t2 : Int64) (t3 : Int64) (h0 : Heap) (n0 : Nat) (Z0 : n0 ≤ h0.size) (F0 : Exa Z h0 a0 cD) (F1 : Fld Z h0 a0 cD "heads" dA (.ref ar)) (F2 : Fld Z h0 a0 cD "count" "I" (.int (3 : Int32))) (F3 : Arv Z h0 ar kA (.object cH) (4 : Int32) [(.ref x1), (.ref x2), (.ref x3), .null] .null) (F4 : Ovr Z kA cH) (F5 : Exa Z h0 x1 cH) (F6 : Fld Z h0 x1 cH "tick" "J" (.long t1)) (F7 : Exa Z h0 x2 cH) (F8 : Fld Z h0 x2 cH "tick" "J" (.long t2)) (F9 : Exa Z h0 x3 cH) (F10 : Fld Z h0 x3 cH "tick" "J" (.long t3)) (Ne0 : a0 ≠ ar) (Ne1 : x1 ≠ a0) (Ne2 : x2 ≠ a0) (Ne3 : x3 ≠ a0) (Ne4 : x1 ≠ ar) (Ne5 : x2 ≠ ar) (Ne6 : x3 ≠ ar) (Ge0 : n0 ≤ a0) (Ge1 : n0 ≤ ar) :
    MetFree l y3 (head1 (Jvm.Cond.code y3 prog_4_method_8_code 5 (some (.object cH)) :: ws) ({ frames := 3, cells := 1, slots := 3, locals := 39 } : Room)) (fun a U => a = #[(.ref a0), (.long q1)] ∧ Z.Warmed39 U.vm ∧ U.heap = h0) (fun _ _ _ _ _ => True) (fun _ U o U' => ∃ v L, o = .returned v ∧ QHeadOf3 Z a0 q1 ar kA x1 x2 x3 t1 t2 t3 h0 n0 v U'.heap L ∧ FrameEnd U o U' L ({ frames := 3, cells := 1, slots := 3, locals := 39 } : Room).cells ({ frames := 3, cells := 1, slots := 3, locals := 39 } : Room).slots) := by
  refine MetFree.of_bodySF (plainFor_of_name own_pn_com_example_admit_one_admitone_engine_DueOrder) hisR ?_
  intro p e s m args below meth c s₁ Bd hml0 hP hK
  obtain ⟨rfl, hZ, hh⟩ := hP
  have hx := Bd.exec
  have hby := Bd.bytes
  have hml : c.maxLocals = 5 := hml0
  have hown : s.vm.findClass cD = some m.cls := findClass_of_methodNamed Bd.named
  have hnm := (name_of_methodNamed Bd.named Bd.method).1
  have X0 : Stand p l e ({ frames := 3, cells := 1, slots := 3, locals := 39 } : Room) s m #[(.ref a0), (.long q1)] below meth c s₁ [] 0 0 := Stand.of_body Bd
  have e0 : s₁.heap = h0 := by rw [← hh, Bd.state]; rfl
  have N0 := Fr.nil n0
  have Kp0 : Keep h0 h0 [a0, ar] := Keep.refl _ _
  refine Goes.start ?_
  refine Gb (B := s₁.setTop (mkF m 0 #[.val (.ref a0), .val (.long q1), .second, .unset, .unset] [])) (fun t k => castTop (efHeadOf3 m a0 q1) k) ?_
  refine Gb (fun _ => XS.aloadN X0.here hx rfl (hb hby d5_0) rfl rfl) ?_
  obtain ⟨T1, X1, e1, st1⟩ := getF X0 hx hZ hown (host := "") (Or.inl (wq hw 29 rfl)) Via.refl e0 F2 (g := (mkF m 1 (sh5 a0 q1) [(.ref a0)])) rfl rfl (hb hby d5_1)
  refine Gb st1 ?_
  refine Gb (fun _ => XS.ifNo X1.here hx rfl (hb hby d5_4) rfl ((if0 _ _).trans (tlt (by decide : (0 : Int32) < (3 : Int32))).2.2.2)) ?_
  refine Gb (fun _ => XS.aloadN X1.here hx rfl (hb hby d5_7) rfl rfl) ?_
  obtain ⟨T2, X2, e2, st2⟩ := getF X1 hx hZ hown (host := "") (Or.inl (wq hw 11 rfl)) Via.refl e1 F1 (g := (mkF m 8 (sh5 a0 q1) [(.ref a0)])) rfl rfl (hb hby d5_8)
  refine Gb st2 ?_
  refine Gb (fun _ => XS.aloadN X2.here hx rfl (hb hby d5_11) rfl rfl) ?_
  obtain ⟨T3, X3, e3, st3⟩ := getF X2 hx hZ hown (host := "") (Or.inl (wq hw 29 rfl)) Via.refl e2 F2 (g := (mkF m 12 (sh5 a0 q1) [(.ref a0), (.ref ar)])) rfl rfl (hb hby d5_12)
  refine Gb st3 ?_
  refine Gb (fun _ => XS.iconst X3.here hx rfl (hb hby d5_15)) ?_
  refine Gb (fun _ => XS.isub X3.here hx rfl (hb hby d5_16) rfl) ?_
  obtain ⟨cl4, cl4A, cl4q, cl4S, cl4N, cl4H, cl4G⟩ := id F3
  have cl4I : ¬ ((2 : Int32) < 0 ∨ cl4.slots.size ≤ ((2 : Int32)).toNatClampNeg) := inb_of cl4S ⟨by decide, by decide⟩
  have cl4T : cl4.slots[((2 : Int32)).toNatClampNeg]? = some (.ref x3) := cl4H.at cl4I rfl
  refine Gb (X3.aaload hx (j := (2 : Int32)) (v := (.ref x3)) (by rw [e3]; exact cl4A.1) (State.isArrayOf_alike hZ.alike cl4A.2.1) rfl cl4A.2.2 cl4I cl4T (g := (mkF m 17 (sh5 a0 q1) [(.int (2 : Int32)), (.ref ar)])) rfl rfl (hb hby d5_17)) ?_
  refine Gb (B := T3.setTop (mkF m 23 (sh5 a0 q1) [(.int (lcmpW t3 q1))])) (fun t k => ?_) ?_
  · refine getFR X3 hx hZ hown (wq hw 57 rfl) e3 F10 (g := (mkF m 18 (sh5 a0 q1) [(.ref x3)])) rfl rfl (hb hby d5_18) ?_
    refine XS.lloadN X3.here hx rfl (hb hby d5_21) rfl ?_
    refine XS.lcmp X3.here hx rfl (hb hby d5_22) rfl ?_
    exact k
  by_cases hc6 : t3 = q1
  · refine Gb (fun _ => XS.ifNo X3.here hx rfl (hb hby d5_23) rfl ((if0 _ _).trans (teq ((lw_eq t3 q1).mpr hc6)).2)) ?_
    refine Gb (fun _ => XS.aloadN X3.here hx rfl (hb hby d5_26) rfl rfl) ?_
    obtain ⟨T7, X7, e7, st7⟩ := getF X3 hx hZ hown (host := "") (Or.inl (wq hw 11 rfl)) Via.refl e3 F1 (g := (mkF m 27 (sh5 a0 q1) [(.ref a0)])) rfl rfl (hb hby d5_27)
    refine Gb st7 ?_
    refine Gb (fun _ => XS.aloadN X7.here hx rfl (hb hby d5_30) rfl rfl) ?_
    obtain ⟨T8, X8, e8, st8⟩ := getF X7 hx hZ hown (host := "") (Or.inl (wq hw 29 rfl)) Via.refl e7 F2 (g := (mkF m 31 (sh5 a0 q1) [(.ref a0), (.ref ar)])) rfl rfl (hb hby d5_31)
    refine Gb st8 ?_
    refine Gb (fun _ => XS.iconst X8.here hx rfl (hb hby d5_34)) ?_
    refine Gb (fun _ => XS.isub X8.here hx rfl (hb hby d5_35) rfl) ?_
    obtain ⟨cl9, cl9A, cl9q, cl9S, cl9N, cl9H, cl9G⟩ := id F3
    have cl9I : ¬ ((2 : Int32) < 0 ∨ cl9.slots.size ≤ ((2 : Int32)).toNatClampNeg) := inb_of cl9S ⟨by decide, by decide⟩
    have cl9T : cl9.slots[((2 : Int32)).toNatClampNeg]? = some (.ref x3) := cl9H.at cl9I rfl
    refine Gb (X8.aaload hx (j := (2 : Int32)) (v := (.ref x3)) (by rw [e8]; exact cl9A.1) (State.isArrayOf_alike hZ.alike cl9A.2.1) rfl cl9A.2.2 cl9I cl9T (g := (mkF m 36 (sh5 a0 q1) [(.int (2 : Int32)), (.ref ar)])) rfl rfl (hb hby d5_36)) ?_
    obtain ⟨fs, hr, hrun, hended, hW, hsame⟩ := X8.leave (v := some (.ref x3)) (fun h => by rw [Bd.returns] at h; cases h)
    refine Goes.mk _ _ ?_ ⟨hrun, hended, _, _, rfl, ?_, ⟨_, rfl⟩, hW, hsame.mono (by decide) (by decide)⟩
    · exact retOut X8 hx Bd.returns rfl (Or.inr (Or.inr (Or.inr (Or.inr ⟨rfl, rfl, rfl⟩)))) (hb hby d5_37) hr
    · show QHeadOf3 Z a0 q1 ar kA x1 x2 x3 t1 t2 t3 h0 n0 _ T8.heap _
      rw [e8]
      exact (Or.inl ⟨hc6, rfl, N0, rfl⟩)
  · refine Gb (fun _ => XS.ifYes X3.here hx rfl (pc0 := 23) (pc' := 38) rfl (hb hby d5_23) rfl ((if0 _ _).trans (feq (fun z => hc6 ((lw_eq t3 q1).mp z))).2) (by decide) (by decide)) ?_
    refine Gb (fun _ => XS.aloadN X3.here hx rfl (hb hby d5_38) rfl rfl) ?_
    refine Gb (fun _ => XS.lloadN X3.here hx rfl (hb hby d5_39) rfl) ?_
    obtain ⟨_, T10, L10, Lc10, X10, hF10, hQ10, st10⟩ := own_cp X3 hx hZ hown (wq hw 31 rfl) (wq hw 33 rfl) (wq hw 1 rfl) (wq hw 32 rfl) (wq hw 2 rfl) (wq hw 34 rfl) (rmDue3 l Z az hw [] a0 q1 ar kA x1 x2 x3 t1 t2 t3 h0 n0 Z0 F0 F1 F2 F3 F4 F5 F6 F7 F8 F9 F10) (W := 0) (g := (mkF m 40 (sh5 a0 q1) [(.long q1), (.ref a0)])) rfl (by rw [hml]; rfl) F0 (argsL := [(.long q1)]) (rest := []) rfl (lenOf own_pd1 rfl) rfl (hb hby d5_40) e3 N0 (c' := 0) (s' := 0)
    obtain ⟨rfl, N10q, e10⟩ := hQ10
    have N11 := hF10 N10q
    refine Gb st10 ?_
    rcases own_due3 q1 t1 t2 t3 with he | he | he | he
    · rw [he]
      show Goes p.tables e below _ (T10.setTop (mkF m 43 (sh5 a0 q1) [(.int (0 : Int32))]))
      refine Gb (fun _ => XS.istoreN X10.here hx rfl (hb hby d5_43) rfl (l' := (sh6 a0 q1 (0 : Int32))) rfl) ?_
      refine Gb (fun _ => XS.iloadN X10.here hx rfl (hb hby d5_44) rfl) ?_
      refine Gb (fun _ => XS.ifYes X10.here hx rfl (pc0 := 45) (pc' := 73) rfl (hb hby d5_45) rfl ((if0 _ _).trans (flt (by decide : ¬ ((0 : Int32) < (0 : Int32)))).2.2.2) (by decide) (by decide)) ?_
      refine Gb (fun _ => XS.aloadN X10.here hx rfl (hb hby d5_73) rfl rfl) ?_
      obtain ⟨T12, X12, e12, st12⟩ := getF X10 hx hZ hown (host := "") (Or.inl (wq hw 29 rfl)) Via.refl e10 F2 (g := (mkF m 74 (sh6 a0 q1 (0 : Int32)) [(.ref a0)])) rfl rfl (hb hby d5_74)
      refine Gb st12 ?_
      refine Gb (fun _ => XS.aloadN X12.here hx rfl (hb hby d5_77) rfl rfl) ?_
      obtain ⟨T13, X13, e13, st13⟩ := getF X12 hx hZ hown (host := "") (Or.inl (wq hw 11 rfl)) Via.refl e12 F1 (g := (mkF m 78 (sh6 a0 q1 (0 : Int32)) [(.ref a0), (.int (3 : Int32))])) rfl rfl (hb hby d5_78)
      refine Gb st13 ?_
      obtain ⟨cl14, cl14A, -, cl14S, cl14N, -, -⟩ := id F3
      refine Gb (B := T13.setTop (mkF m 105 (sh6 a0 q1 (0 : Int32)) [])) (fun t k => ?_) ?_
      · refine X13.arraylength hx (by rw [e13]; exact cl14A.1) (State.isArrayOf_alike hZ.alike cl14A.2.1) (g := (mkF m 81 (sh6 a0 q1 (0 : Int32)) [(.ref ar), (.int (3 : Int32))])) rfl rfl (hb hby d5_81) _ ?_
        rw [len_of cl14S cl14N]
        refine XS.icmpYes X13.here hx rfl (pc0 := 82) (pc' := 105) rfl (hb hby d5_82) rfl (feq (by decide : ¬ ((3 : Int32) = (4 : Int32)))).2 (by decide) (by decide) ?_
        exact k
      refine Gb (fun _ => XS.aloadN X13.here hx rfl (hb hby d5_105) rfl rfl) ?_
      obtain ⟨T15, X15, e15, st15⟩ := getF X13 hx hZ hown (host := "") (Or.inl (wq hw 11 rfl)) Via.refl e13 F1 (g := (mkF m 106 (sh6 a0 q1 (0 : Int32)) [(.ref a0)])) rfl rfl (hb hby d5_106)
      refine Gb st15 ?_
      refine Gb (fun _ => XS.iloadN X15.here hx rfl (hb hby d5_109) rfl) ?_
      refine Gb (fun _ => XS.aloadN X15.here hx rfl (hb hby d5_110) rfl rfl) ?_
      obtain ⟨T16, X16, e16, st16⟩ := getF X15 hx hZ hown (host := "") (Or.inl (wq hw 11 rfl)) Via.refl e15 F1 (g := (mkF m 111 (sh6 a0 q1 (0 : Int32)) [(.ref a0), (.int (0 : Int32)), (.ref ar)])) rfl rfl (hb hby d5_111)
      refine Gb st16 ?_
      refine Gb (fun _ => XS.iloadN X16.here hx rfl (hb hby d5_114) rfl) ?_
      refine Gb (fun _ => XS.iconst X16.here hx rfl (hb hby d5_115)) ?_
      refine Gb (fun _ => XS.iadd X16.here hx rfl (hb hby d5_116) rfl) ?_
      refine Gb (fun _ => XS.aloadN X16.here hx rfl (hb hby d5_117) rfl rfl) ?_
      obtain ⟨T17, X17, e17, st17⟩ := getF X16 hx hZ hown (host := "") (Or.inl (wq hw 29 rfl)) Via.refl e16 F2 (g := (mkF m 118 (sh6 a0 q1 (0 : Int32)) [(.ref a0), (.int (1 : Int32)), (.ref ar), (.int (0 : Int32)), (.ref ar)])) rfl rfl (hb hby d5_118)
      refine Gb st17 ?_
      refine Gb (fun _ => XS.iloadN X17.here hx rfl (hb hby d5_121) rfl) ?_
      refine Gb (fun _ => XS.isub X17.here hx rfl (hb hby d5_122) rfl) ?_
      obtain ⟨cl18, cl18A, cl18q, -, -, -, -⟩ := id F3
      obtain ⟨T18, h18, L18, X18, e18, Nn18, K18, V18, st18⟩ := cpA X17 hx hZ hown (wq hw 35 rfl) (wq hw 38 rfl) (wq hw 36 rfl) (wq hw 37 rfl) e17 (us := [(.ref x1), (.ref x2), (.ref x3)]) F3 F3 (Or.inr ⟨rfl, rfl, ⟨Sto.ofV cl18A cl18q F4 (Ins.self F5), ⟨Sto.ofV cl18A cl18q F4 (Ins.self F7), ⟨Sto.ofV cl18A cl18q F4 (Ins.self F9), trivial⟩⟩⟩⟩) (sp := (0 : Int32)) (dp := (1 : Int32)) (nn := (3 : Int32)) (by decide) (by decide) (by decide) (by decide) (by decide) rfl (Nat.le_of_ble_eq_true rfl) N11 Ge1 (g := (mkF m 123 (sh6 a0 q1 (0 : Int32)) [(.int (3 : Int32)), (.int (1 : Int32)), (.ref ar), (.int (0 : Int32)), (.ref ar)])) rfl (by rw [hml]; rfl) rfl (hb hby d5_123) (by decide) (W := 0) (by show 2 * 0 + _ ≤ _; exact Nat.le_of_eq rfl) (by decide)
      have f19 := F0.keep K18
      have f20 := F1.keep K18 (ninS Ne0 nin0)
      have f21 := F2.keep K18 (ninS Ne0 nin0)
      have f22 := F5.keep K18
      have f23 := F7.keep K18
      have f24 := F9.keep K18
      have f25 : Arv Z h18 ar kA (.object cH) (4 : Int32) [(.ref x1), (.ref x1), (.ref x2), (.ref x3)] .null := V18
      have Kp18 : Keep h0 h18 [a0, ar] := Kp0.trans K18 (allS (Or.inl om1) all0)
      have Z26 := Nat.le_trans Z0 K18.1
      refine Gb st18 ?_
      obtain ⟨T27, h27, X27, e27, E27, A27, D27, -, st27⟩ := newO X18 hx hZ hown (wq hw 9 rfl) (wq hw 39 rfl) (wq hw 40 rfl) e18 (g := (mkF m 126 (sh6 a0 q1 (0 : Int32)) [])) rfl (hb hby d5_126) (by decide) (by decide)
      obtain ⟨b28, g27⟩ : ∃ z, z = h18.size := ⟨_, rfl⟩
      rw [← g27] at A27 D27 st27
      have ne29 : a0 ≠ b28 := Nat.ne_of_lt (Nat.lt_of_lt_of_le f19.lt (Nat.le_of_eq g27.symm))
      have ne30 : ar ≠ b28 := Nat.ne_of_lt (Nat.lt_of_lt_of_le f25.lt (Nat.le_of_eq g27.symm))
      have ne31 : x1 ≠ b28 := Nat.ne_of_lt (Nat.lt_of_lt_of_le f22.lt (Nat.le_of_eq g27.symm))
      have ne32 : x2 ≠ b28 := Nat.ne_of_lt (Nat.lt_of_lt_of_le f23.lt (Nat.le_of_eq g27.symm))
      have ne33 : x3 ≠ b28 := Nat.ne_of_lt (Nat.lt_of_lt_of_le f24.lt (Nat.le_of_eq g27.symm))
      have ge34 : n0 ≤ b28 := Nat.le_trans Z26 (Nat.le_of_eq g27.symm)
      have sz35 : h0.size ≤ b28 := Nat.le_trans Kp18.1 (Nat.le_of_eq g27.symm)
      have f36 := f19.ext E27
      have f37 := f20.ext E27
      have f38 := f21.ext E27
      have f39 := f22.ext E27
      have f40 := f23.ext E27
      have f41 := f24.ext E27
      have f42 := f25.ext E27
      have f43 : Fld Z h27 b28 cH "tick" "J" (.long (0 : Int64)) := D27 (Or.inr (wq hw 47 rfl)) (ty := .long) (by decide)
      have f44 : Fld Z h27 b28 cL "next" dL .null := D27 (Or.inl (wq hw 49 rfl)) (ty := (.object cL)) (by decide)
      have f45 : Fld Z h27 b28 cL "prev" dL .null := D27 (Or.inl (wq hw 51 rfl)) (ty := (.object cL)) (by decide)
      have Kp27 : Keep h0 h27 [a0, ar] := Kp18.ext E27
      have Z46 := Nat.le_trans Z26 E27.1
      refine Gb st27 ?_
      refine Gb (fun _ => XS.dup X27.here hx rfl (hb hby d5_129) rfl rfl) ?_
      refine Gb (fun _ => XS.lloadN X27.here hx rfl (hb hby d5_130) rfl) ?_
      obtain ⟨_, T47, L47, Lc47, X47, hF47, hQ47, st47⟩ := own_ci X27 hx hZ rfl hown (wq hw 41 rfl) (wq hw 42 rfl) (wq hw 40 rfl) (wq hw 43 rfl) (rmHeadI l Z az hw [] b28 q1 h27 n0 Z46 A27 f43 f44 f45 ge34) (W := 1) (g := (mkF m 131 (sh6 a0 q1 (0 : Int32)) [(.long q1), (.ref b28), (.ref b28)])) rfl (by rw [hml]; rfl) (argsL := [(.long q1)]) (rest := [(.ref b28)]) rfl (lenOf own_pd2 rfl) rfl (hb hby d5_131) e27 Nn18 (c' := 1) (s' := 3)
      obtain ⟨rfl, N47q, K47, f48, f49, f50, f51⟩ := hQ47
      have f52 := f36.keep K47
      have f53 := f37.keep K47 (ninS ne29 nin0)
      have f54 := f38.keep K47 (ninS ne29 nin0)
      have f55 := f39.keep K47
      have f56 := f40.keep K47
      have f57 := f41.keep K47
      have f58 := f42.keep K47 (ninS ne30 nin0)
      have f59 := A27.keep K47
      have Kp47 : Keep h0 T47.heap [a0, ar] := Kp27.trans K47 (allS (Or.inr sz35) all0)
      have Z60 := Nat.le_trans Z46 K47.1
      have N61 := hF47 N47q
      refine Gb st47 ?_
      refine Gb (fun _ => XS.astore X47.here hx rfl (hb hby d5_134) rfl rfl (l' := (sh7 a0 q1 (0 : Int32) b28)) rfl) ?_
      refine Gb (fun _ => XS.aloadN X47.here hx rfl (hb hby d5_136) rfl rfl) ?_
      obtain ⟨T62, X62, e62, st62⟩ := getF X47 hx hZ hown (host := "") (Or.inl (wq hw 11 rfl)) Via.refl rfl f53 (g := (mkF m 137 (sh7 a0 q1 (0 : Int32) b28) [(.ref a0)])) rfl rfl (hb hby d5_137)
      refine Gb st62 ?_
      refine Gb (fun _ => XS.iloadN X62.here hx rfl (hb hby d5_140) rfl) ?_
      refine Gb (fun _ => XS.aload X62.here hx rfl (hb hby d5_141) rfl rfl) ?_
      obtain ⟨cl63, cl63A, cl63q, cl63S, cl63N, cl63H, cl63G⟩ := id f58
      have cl63I : ¬ ((0 : Int32) < 0 ∨ cl63.slots.size ≤ ((0 : Int32)).toNatClampNeg) := inb_of cl63S ⟨by decide, by decide⟩
      obtain ⟨T63, h63, X63, e63, W63, st63⟩ := stR X62 hx hZ e62 cl63A (j := (0 : Int32)) cl63I rfl (Sto.ofV cl63A cl63q F4 (Ins.self f48)) (g := (mkF m 143 (sh7 a0 q1 (0 : Int32) b28) [(.ref b28), (.int (0 : Int32)), (.ref ar)])) rfl rfl (hb hby d5_143)
      have f64 := f52.wr W63
      have f65 := f53.other W63 (Or.inl Ne0)
      have f66 := f54.other W63 (Or.inl Ne0)
      have f67 := f55.wr W63
      have f68 := f56.wr W63
      have f69 := f57.wr W63
      have f70 := f48.wr W63
      have f71 := f49.other W63 (Or.inl (Ne.symm ne30))
      have f72 := f50.other W63 (Or.inl (Ne.symm ne30))
      have f73 := f51.other W63 (Or.inl (Ne.symm ne30))
      have f74 : Arv Z h63 ar kA (.object cH) (4 : Int32) [(.ref b28), (.ref x1), (.ref x2), (.ref x3)] .null := Arv.set cl63A cl63q cl63S cl63N cl63H cl63G rfl W63 0 rfl (Nat.le_of_ble_eq_true rfl)
      have Kp63 : Keep h0 h63 [a0, ar] := Kp47.wr W63 (Or.inl om1)
      have Z75 := Nat.le_trans Z60 (Nat.le_of_eq W63.size.symm)
      have N76 := Fr.snoc X63 N61 Ge1
      refine Gb st63 ?_
      refine Gb (fun _ => XS.aloadN X63.here hx rfl (hb hby d5_144) rfl rfl) ?_
      refine Gb (fun _ => XS.dup X63.here hx rfl (hb hby d5_145) rfl rfl) ?_
      obtain ⟨T77, X77, e77, st77⟩ := getF X63 hx hZ hown (host := "") (Or.inl (wq hw 29 rfl)) Via.refl e63 f66 (g := (mkF m 146 (sh7 a0 q1 (0 : Int32) b28) [(.ref a0), (.ref a0)])) rfl rfl (hb hby d5_146)
      refine Gb st77 ?_
      refine Gb (fun _ => XS.iconst X77.here hx rfl (hb hby d5_149)) ?_
      refine Gb (fun _ => XS.iadd X77.here hx rfl (hb hby d5_150) rfl) ?_
      obtain ⟨T78, h78, X78, e78, W78, st78⟩ := putF X77 hx hZ hown (host := "") (Or.inl (wq hw 29 rfl)) Via.refl e77 f66 f64 (Or.inl (wq hw 30 rfl)) (wq hw 1 rfl) (ty := .int) (by decide) rfl rfl (g := (mkF m 151 (sh7 a0 q1 (0 : Int32) b28) [(.int (4 : Int32)), (.ref a0)])) rfl rfl (hb hby d5_151)
      have f79 := f64.wr W78
      have f80 := f65.other W78 (Or.inr (slot_ne (Or.inl (wq hw 12 rfl)) (Or.inl (wq hw 30 rfl)) (by decide) (t := (.array (.object cH))) (t' := .int) (by decide) (by decide)))
      have f81 := f67.wr W78
      have f82 := f68.wr W78
      have f83 := f69.wr W78
      have f84 := f70.wr W78
      have f85 := f71.other W78 (Or.inl (Ne.symm ne29))
      have f86 := f72.other W78 (Or.inl (Ne.symm ne29))
      have f87 := f73.other W78 (Or.inl (Ne.symm ne29))
      have f88 := f74.other W78 (Ne.symm Ne0)
      have f89 : Fld Z h78 a0 cD "count" "I" (.int (4 : Int32)) := f66.same W78
      have Kp78 : Keep h0 h78 [a0, ar] := Kp63.wr W78 (Or.inl om0)
      have Z90 := Nat.le_trans Z75 (Nat.le_of_eq W78.size.symm)
      have N91 := Fr.snoc X78 N76 Ge0
      refine Gb st78 ?_
      refine Gb (fun _ => XS.aload X78.here hx rfl (hb hby d5_154) rfl rfl) ?_
      obtain ⟨fs, hr, hrun, hended, hW, hsame⟩ := X78.leave (v := some (.ref b28)) (fun h => by rw [Bd.returns] at h; cases h)
      refine Goes.mk _ _ ?_ ⟨hrun, hended, _, _, rfl, ?_, ⟨_, rfl⟩, hW, hsame.mono (by decide) (by decide)⟩
      · exact retOut X78 hx Bd.returns rfl (Or.inr (Or.inr (Or.inr (Or.inr ⟨rfl, rfl, rfl⟩)))) (hb hby d5_156) hr
      · show QHeadOf3 Z a0 q1 ar kA x1 x2 x3 t1 t2 t3 h0 n0 _ T78.heap _
        rw [e78]
        exact (Or.inr (Or.inl ⟨b28, hc6, he, rfl, N91, Kp78, sz35, f80, f89, f88, f84, f85, f86, f87⟩))
    · rw [he]
      show Goes p.tables e below _ (T10.setTop (mkF m 43 (sh5 a0 q1) [(.int (1 : Int32))]))
      refine Gb (fun _ => XS.istoreN X10.here hx rfl (hb hby d5_43) rfl (l' := (sh6 a0 q1 (1 : Int32))) rfl) ?_
      refine Gb (fun _ => XS.iloadN X10.here hx rfl (hb hby d5_44) rfl) ?_
      refine Gb (fun _ => XS.ifNo X10.here hx rfl (hb hby d5_45) rfl ((if0 _ _).trans (tlt (by decide : (0 : Int32) < (1 : Int32))).2.2.2)) ?_
      refine Gb (fun _ => XS.aloadN X10.here hx rfl (hb hby d5_48) rfl rfl) ?_
      obtain ⟨T92, X92, e92, st92⟩ := getF X10 hx hZ hown (host := "") (Or.inl (wq hw 11 rfl)) Via.refl e10 F1 (g := (mkF m 49 (sh6 a0 q1 (1 : Int32)) [(.ref a0)])) rfl rfl (hb hby d5_49)
      refine Gb st92 ?_
      refine Gb (fun _ => XS.iloadN X92.here hx rfl (hb hby d5_52) rfl) ?_
      refine Gb (fun _ => XS.iconst X92.here hx rfl (hb hby d5_53)) ?_
      refine Gb (fun _ => XS.isub X92.here hx rfl (hb hby d5_54) rfl) ?_
      obtain ⟨cl93, cl93A, cl93q, cl93S, cl93N, cl93H, cl93G⟩ := id F3
      have cl93I : ¬ ((0 : Int32) < 0 ∨ cl93.slots.size ≤ ((0 : Int32)).toNatClampNeg) := inb_of cl93S ⟨by decide, by decide⟩
      have cl93T : cl93.slots[((0 : Int32)).toNatClampNeg]? = some (.ref x1) := cl93H.at cl93I rfl
      refine Gb (X92.aaload hx (j := (0 : Int32)) (v := (.ref x1)) (by rw [e92]; exact cl93A.1) (State.isArrayOf_alike hZ.alike cl93A.2.1) rfl cl93A.2.2 cl93I cl93T (g := (mkF m 55 (sh6 a0 q1 (1 : Int32)) [(.int (0 : Int32)), (.ref ar)])) rfl rfl (hb hby d5_55)) ?_
      refine Gb (B := T92.setTop (mkF m 61 (sh6 a0 q1 (1 : Int32)) [(.int (lcmpW t1 q1))])) (fun t k => ?_) ?_
      · refine getFR X92 hx hZ hown (wq hw 57 rfl) e92 F6 (g := (mkF m 56 (sh6 a0 q1 (1 : Int32)) [(.ref x1)])) rfl rfl (hb hby d5_56) ?_
        refine XS.lloadN X92.here hx rfl (hb hby d5_59) rfl ?_
        refine XS.lcmp X92.here hx rfl (hb hby d5_60) rfl ?_
        exact k
      by_cases hc95 : t1 = q1
      · refine Gb (fun _ => XS.ifNo X92.here hx rfl (hb hby d5_61) rfl ((if0 _ _).trans (teq ((lw_eq t1 q1).mpr hc95)).2)) ?_
        refine Gb (fun _ => XS.aloadN X92.here hx rfl (hb hby d5_64) rfl rfl) ?_
        obtain ⟨T96, X96, e96, st96⟩ := getF X92 hx hZ hown (host := "") (Or.inl (wq hw 11 rfl)) Via.refl e92 F1 (g := (mkF m 65 (sh6 a0 q1 (1 : Int32)) [(.ref a0)])) rfl rfl (hb hby d5_65)
        refine Gb st96 ?_
        refine Gb (fun _ => XS.iloadN X96.here hx rfl (hb hby d5_68) rfl) ?_
        refine Gb (fun _ => XS.iconst X96.here hx rfl (hb hby d5_69)) ?_
        refine Gb (fun _ => XS.isub X96.here hx rfl (hb hby d5_70) rfl) ?_
        obtain ⟨cl97, cl97A, cl97q, cl97S, cl97N, cl97H, cl97G⟩ := id F3
        have cl97I : ¬ ((0 : Int32) < 0 ∨ cl97.slots.size ≤ ((0 : Int32)).toNatClampNeg) := inb_of cl97S ⟨by decide, by decide⟩
        have cl97T : cl97.slots[((0 : Int32)).toNatClampNeg]? = some (.ref x1) := cl97H.at cl97I rfl
        refine Gb (X96.aaload hx (j := (0 : Int32)) (v := (.ref x1)) (by rw [e96]; exact cl97A.1) (State.isArrayOf_alike hZ.alike cl97A.2.1) rfl cl97A.2.2 cl97I cl97T (g := (mkF m 71 (sh6 a0 q1 (1 : Int32)) [(.int (0 : Int32)), (.ref ar)])) rfl rfl (hb hby d5_71)) ?_
        obtain ⟨fs, hr, hrun, hended, hW, hsame⟩ := X96.leave (v := some (.ref x1)) (fun h => by rw [Bd.returns] at h; cases h)
        refine Goes.mk _ _ ?_ ⟨hrun, hended, _, _, rfl, ?_, ⟨_, rfl⟩, hW, hsame.mono (by decide) (by decide)⟩
        · exact retOut X96 hx Bd.returns rfl (Or.inr (Or.inr (Or.inr (Or.inr ⟨rfl, rfl, rfl⟩)))) (hb hby d5_72) hr
        · show QHeadOf3 Z a0 q1 ar kA x1 x2 x3 t1 t2 t3 h0 n0 _ T96.heap _
          rw [e96]
          exact (Or.inr (Or.inr (Or.inl ⟨hc6, he, hc95, rfl, N11, rfl⟩)))
      · refine Gb (fun _ => XS.ifYes X92.here hx rfl (pc0 := 61) (pc' := 73) rfl (hb hby d5_61) rfl ((if0 _ _).trans (feq (fun z => hc95 ((lw_eq t1 q1).mp z))).2) (by decide) (by decide)) ?_
        refine Gb (fun _ => XS.aloadN X92.here hx rfl (hb hby d5_73) rfl rfl) ?_
        obtain ⟨T98, X98, e98, st98⟩ := getF X92 hx hZ hown (host := "") (Or.inl (wq hw 29 rfl)) Via.refl e92 F2 (g := (mkF m 74 (sh6 a0 q1 (1 : Int32)) [(.ref a0)])) rfl rfl (hb hby d5_74)
        refine Gb st98 ?_
        refine Gb (fun _ => XS.aloadN X98.here hx rfl (hb hby d5_77) rfl rfl) ?_
        obtain ⟨T99, X99, e99, st99⟩ := getF X98 hx hZ hown (host := "") (Or.inl (wq hw 11 rfl)) Via.refl e98 F1 (g := (mkF m 78 (sh6 a0 q1 (1 : Int32)) [(.ref a0), (.int (3 : Int32))])) rfl rfl (hb hby d5_78)
        refine Gb st99 ?_
        obtain ⟨cl100, cl100A, -, cl100S, cl100N, -, -⟩ := id F3
        refine Gb (B := T99.setTop (mkF m 105 (sh6 a0 q1 (1 : Int32)) [])) (fun t k => ?_) ?_
        · refine X99.arraylength hx (by rw [e99]; exact cl100A.1) (State.isArrayOf_alike hZ.alike cl100A.2.1) (g := (mkF m 81 (sh6 a0 q1 (1 : Int32)) [(.ref ar), (.int (3 : Int32))])) rfl rfl (hb hby d5_81) _ ?_
          rw [len_of cl100S cl100N]
          refine XS.icmpYes X99.here hx rfl (pc0 := 82) (pc' := 105) rfl (hb hby d5_82) rfl (feq (by decide : ¬ ((3 : Int32) = (4 : Int32)))).2 (by decide) (by decide) ?_
          exact k
        refine Gb (fun _ => XS.aloadN X99.here hx rfl (hb hby d5_105) rfl rfl) ?_
        obtain ⟨T101, X101, e101, st101⟩ := getF X99 hx hZ hown (host := "") (Or.inl (wq hw 11 rfl)) Via.refl e99 F1 (g := (mkF m 106 (sh6 a0 q1 (1 : Int32)) [(.ref a0)])) rfl rfl (hb hby d5_106)
        refine Gb st101 ?_
        refine Gb (fun _ => XS.iloadN X101.here hx rfl (hb hby d5_109) rfl) ?_
        refine Gb (fun _ => XS.aloadN X101.here hx rfl (hb hby d5_110) rfl rfl) ?_
        obtain ⟨T102, X102, e102, st102⟩ := getF X101 hx hZ hown (host := "") (Or.inl (wq hw 11 rfl)) Via.refl e101 F1 (g := (mkF m 111 (sh6 a0 q1 (1 : Int32)) [(.ref a0), (.int (1 : Int32)), (.ref ar)])) rfl rfl (hb hby d5_111)
        refine Gb st102 ?_
        refine Gb (fun _ => XS.iloadN X102.here hx rfl (hb hby d5_114) rfl) ?_
        refine Gb (fun _ => XS.iconst X102.here hx rfl (hb hby d5_115)) ?_
        refine Gb (fun _ => XS.iadd X102.here hx rfl (hb hby d5_116) rfl) ?_
        refine Gb (fun _ => XS.aloadN X102.here hx rfl (hb hby d5_117) rfl rfl) ?_
        obtain ⟨T103, X103, e103, st103⟩ := getF X102 hx hZ hown (host := "") (Or.inl (wq hw 29 rfl)) Via.refl e102 F2 (g := (mkF m 118 (sh6 a0 q1 (1 : Int32)) [(.ref a0), (.int (2 : Int32)), (.ref ar), (.int (1 : Int32)), (.ref ar)])) rfl rfl (hb hby d5_118)
        refine Gb st103 ?_
        refine Gb (fun _ => XS.iloadN X103.here hx rfl (hb hby d5_121) rfl) ?_
        refine Gb (fun _ => XS.isub X103.here hx rfl (hb hby d5_122) rfl) ?_
        obtain ⟨cl104, cl104A, cl104q, -, -, -, -⟩ := id F3
        obtain ⟨T104, h104, L104, X104, e104, Nn104, K104, V104, st104⟩ := cpA X103 hx hZ hown (wq hw 35 rfl) (wq hw 38 rfl) (wq hw 36 rfl) (wq hw 37 rfl) e103 (us := [(.ref x2), (.ref x3)]) F3 F3 (Or.inr ⟨rfl, rfl, ⟨Sto.ofV cl104A cl104q F4 (Ins.self F7), ⟨Sto.ofV cl104A cl104q F4 (Ins.self F9), trivial⟩⟩⟩) (sp := (1 : Int32)) (dp := (2 : Int32)) (nn := (2 : Int32)) (by decide) (by decide) (by decide) (by decide) (by decide) rfl (Nat.le_of_ble_eq_true rfl) N11 Ge1 (g := (mkF m 123 (sh6 a0 q1 (1 : Int32)) [(.int (2 : Int32)), (.int (2 : Int32)), (.ref ar), (.int (1 : Int32)), (.ref ar)])) rfl (by rw [hml]; rfl) rfl (hb hby d5_123) (by decide) (W := 0) (by show 2 * 0 + _ ≤ _; exact Nat.le_of_eq rfl) (by decide)
        have f105 := F0.keep K104
        have f106 := F1.keep K104 (ninS Ne0 nin0)
        have f107 := F2.keep K104 (ninS Ne0 nin0)
        have f108 := F5.keep K104
        have f109 := F7.keep K104
        have f110 := F9.keep K104
        have f111 : Arv Z h104 ar kA (.object cH) (4 : Int32) [(.ref x1), (.ref x2), (.ref x2), (.ref x3)] .null := V104
        have Kp104 : Keep h0 h104 [a0, ar] := Kp0.trans K104 (allS (Or.inl om1) all0)
        have Z112 := Nat.le_trans Z0 K104.1
        refine Gb st104 ?_
        obtain ⟨T113, h113, X113, e113, E113, A113, D113, -, st113⟩ := newO X104 hx hZ hown (wq hw 9 rfl) (wq hw 39 rfl) (wq hw 40 rfl) e104 (g := (mkF m 126 (sh6 a0 q1 (1 : Int32)) [])) rfl (hb hby d5_126) (by decide) (by decide)
        obtain ⟨b114, g113⟩ : ∃ z, z = h104.size := ⟨_, rfl⟩
        rw [← g113] at A113 D113 st113
        have ne115 : a0 ≠ b114 := Nat.ne_of_lt (Nat.lt_of_lt_of_le f105.lt (Nat.le_of_eq g113.symm))
        have ne116 : ar ≠ b114 := Nat.ne_of_lt (Nat.lt_of_lt_of_le f111.lt (Nat.le_of_eq g113.symm))
        have ne117 : x1 ≠ b114 := Nat.ne_of_lt (Nat.lt_of_lt_of_le f108.lt (Nat.le_of_eq g113.symm))
        have ne118 : x2 ≠ b114 := Nat.ne_of_lt (Nat.lt_of_lt_of_le f109.lt (Nat.le_of_eq g113.symm))
        have ne119 : x3 ≠ b114 := Nat.ne_of_lt (Nat.lt_of_lt_of_le f110.lt (Nat.le_of_eq g113.symm))
        have ge120 : n0 ≤ b114 := Nat.le_trans Z112 (Nat.le_of_eq g113.symm)
        have sz121 : h0.size ≤ b114 := Nat.le_trans Kp104.1 (Nat.le_of_eq g113.symm)
        have f122 := f105.ext E113
        have f123 := f106.ext E113
        have f124 := f107.ext E113
        have f125 := f108.ext E113
        have f126 := f109.ext E113
        have f127 := f110.ext E113
        have f128 := f111.ext E113
        have f129 : Fld Z h113 b114 cH "tick" "J" (.long (0 : Int64)) := D113 (Or.inr (wq hw 47 rfl)) (ty := .long) (by decide)
        have f130 : Fld Z h113 b114 cL "next" dL .null := D113 (Or.inl (wq hw 49 rfl)) (ty := (.object cL)) (by decide)
        have f131 : Fld Z h113 b114 cL "prev" dL .null := D113 (Or.inl (wq hw 51 rfl)) (ty := (.object cL)) (by decide)
        have Kp113 : Keep h0 h113 [a0, ar] := Kp104.ext E113
        have Z132 := Nat.le_trans Z112 E113.1
        refine Gb st113 ?_
        refine Gb (fun _ => XS.dup X113.here hx rfl (hb hby d5_129) rfl rfl) ?_
        refine Gb (fun _ => XS.lloadN X113.here hx rfl (hb hby d5_130) rfl) ?_
        obtain ⟨_, T133, L133, Lc133, X133, hF133, hQ133, st133⟩ := own_ci X113 hx hZ rfl hown (wq hw 41 rfl) (wq hw 42 rfl) (wq hw 40 rfl) (wq hw 43 rfl) (rmHeadI l Z az hw [] b114 q1 h113 n0 Z132 A113 f129 f130 f131 ge120) (W := 1) (g := (mkF m 131 (sh6 a0 q1 (1 : Int32)) [(.long q1), (.ref b114), (.ref b114)])) rfl (by rw [hml]; rfl) (argsL := [(.long q1)]) (rest := [(.ref b114)]) rfl (lenOf own_pd2 rfl) rfl (hb hby d5_131) e113 Nn104 (c' := 1) (s' := 3)
        obtain ⟨rfl, N133q, K133, f134, f135, f136, f137⟩ := hQ133
        have f138 := f122.keep K133
        have f139 := f123.keep K133 (ninS ne115 nin0)
        have f140 := f124.keep K133 (ninS ne115 nin0)
        have f141 := f125.keep K133
        have f142 := f126.keep K133
        have f143 := f127.keep K133
        have f144 := f128.keep K133 (ninS ne116 nin0)
        have f145 := A113.keep K133
        have Kp133 : Keep h0 T133.heap [a0, ar] := Kp113.trans K133 (allS (Or.inr sz121) all0)
        have Z146 := Nat.le_trans Z132 K133.1
        have N147 := hF133 N133q
        refine Gb st133 ?_
        refine Gb (fun _ => XS.astore X133.here hx rfl (hb hby d5_134) rfl rfl (l' := (sh7 a0 q1 (1 : Int32) b114)) rfl) ?_
        refine Gb (fun _ => XS.aloadN X133.here hx rfl (hb hby d5_136) rfl rfl) ?_
        obtain ⟨T148, X148, e148, st148⟩ := getF X133 hx hZ hown (host := "") (Or.inl (wq hw 11 rfl)) Via.refl rfl f139 (g := (mkF m 137 (sh7 a0 q1 (1 : Int32) b114) [(.ref a0)])) rfl rfl (hb hby d5_137)
        refine Gb st148 ?_
        refine Gb (fun _ => XS.iloadN X148.here hx rfl (hb hby d5_140) rfl) ?_
        refine Gb (fun _ => XS.aload X148.here hx rfl (hb hby d5_141) rfl rfl) ?_
        obtain ⟨cl149, cl149A, cl149q, cl149S, cl149N, cl149H, cl149G⟩ := id f144
        have cl149I : ¬ ((1 : Int32) < 0 ∨ cl149.slots.size ≤ ((1 : Int32)).toNatClampNeg) := inb_of cl149S ⟨by decide, by decide⟩
        obtain ⟨T149, h149, X149, e149, W149, st149⟩ := stR X148 hx hZ e148 cl149A (j := (1 : Int32)) cl149I rfl (Sto.ofV cl149A cl149q F4 (Ins.self f134)) (g := (mkF m 143 (sh7 a0 q1 (1 : Int32) b114) [(.ref b114), (.int (1 : Int32)), (.ref ar)])) rfl rfl (hb hby d5_143)
        have f150 := f138.wr W149
        have f151 := f139.other W149 (Or.inl Ne0)
        have f152 := f140.other W149 (Or.inl Ne0)
        have f153 := f141.wr W149
        have f154 := f142.wr W149
        have f155 := f143.wr W149
        have f156 := f134.wr W149
        have f157 := f135.other W149 (Or.inl (Ne.symm ne116))
        have f158 := f136.other W149 (Or.inl (Ne.symm ne116))
        have f159 := f137.other W149 (Or.inl (Ne.symm ne116))
        have f160 : Arv Z h149 ar kA (.object cH) (4 : Int32) [(.ref x1), (.ref b114), (.ref x2), (.ref x3)] .null := Arv.set cl149A cl149q cl149S cl149N cl149H cl149G rfl W149 1 rfl (Nat.le_of_ble_eq_true rfl)
        have Kp149 : Keep h0 h149 [a0, ar] := Kp133.wr W149 (Or.inl om1)
        have Z161 := Nat.le_trans Z146 (Nat.le_of_eq W149.size.symm)
        have N162 := Fr.snoc X149 N147 Ge1
        refine Gb st149 ?_
        refine Gb (fun _ => XS.aloadN X149.here hx rfl (hb hby d5_144) rfl rfl) ?_
        refine Gb (fun _ => XS.dup X149.here hx rfl (hb hby d5_145) rfl rfl) ?_
        obtain ⟨T163, X163, e163, st163⟩ := getF X149 hx hZ hown (host := "") (Or.inl (wq hw 29 rfl)) Via.refl e149 f152 (g := (mkF m 146 (sh7 a0 q1 (1 : Int32) b114) [(.ref a0), (.ref a0)])) rfl rfl (hb hby d5_146)
        refine Gb st163 ?_
        refine Gb (fun _ => XS.iconst X163.here hx rfl (hb hby d5_149)) ?_
        refine Gb (fun _ => XS.iadd X163.here hx rfl (hb hby d5_150) rfl) ?_
        obtain ⟨T164, h164, X164, e164, W164, st164⟩ := putF X163 hx hZ hown (host := "") (Or.inl (wq hw 29 rfl)) Via.refl e163 f152 f150 (Or.inl (wq hw 30 rfl)) (wq hw 1 rfl) (ty := .int) (by decide) rfl rfl (g := (mkF m 151 (sh7 a0 q1 (1 : Int32) b114) [(.int (4 : Int32)), (.ref a0)])) rfl rfl (hb hby d5_151)
        have f165 := f150.wr W164
        have f166 := f151.other W164 (Or.inr (slot_ne (Or.inl (wq hw 12 rfl)) (Or.inl (wq hw 30 rfl)) (by decide) (t := (.array (.object cH))) (t' := .int) (by decide) (by decide)))
        have f167 := f153.wr W164
        have f168 := f154.wr W164
        have f169 := f155.wr W164
        have f170 := f156.wr W164
        have f171 := f157.other W164 (Or.inl (Ne.symm ne115))
        have f172 := f158.other W164 (Or.inl (Ne.symm ne115))
        have f173 := f159.other W164 (Or.inl (Ne.symm ne115))
        have f174 := f160.other W164 (Ne.symm Ne0)
        have f175 : Fld Z h164 a0 cD "count" "I" (.int (4 : Int32)) := f152.same W164
        have Kp164 : Keep h0 h164 [a0, ar] := Kp149.wr W164 (Or.inl om0)
        have Z176 := Nat.le_trans Z161 (Nat.le_of_eq W164.size.symm)
        have N177 := Fr.snoc X164 N162 Ge0
        refine Gb st164 ?_
        refine Gb (fun _ => XS.aload X164.here hx rfl (hb hby d5_154) rfl rfl) ?_
        obtain ⟨fs, hr, hrun, hended, hW, hsame⟩ := X164.leave (v := some (.ref b114)) (fun h => by rw [Bd.returns] at h; cases h)
        refine Goes.mk _ _ ?_ ⟨hrun, hended, _, _, rfl, ?_, ⟨_, rfl⟩, hW, hsame.mono (by decide) (by decide)⟩
        · exact retOut X164 hx Bd.returns rfl (Or.inr (Or.inr (Or.inr (Or.inr ⟨rfl, rfl, rfl⟩)))) (hb hby d5_156) hr
        · show QHeadOf3 Z a0 q1 ar kA x1 x2 x3 t1 t2 t3 h0 n0 _ T164.heap _
          rw [e164]
          exact (Or.inr (Or.inr (Or.inr (Or.inl ⟨b114, hc6, he, hc95, rfl, N177, Kp164, sz121, f166, f175, f174, f170, f171, f172, f173⟩))))
    · rw [he]
      show Goes p.tables e below _ (T10.setTop (mkF m 43 (sh5 a0 q1) [(.int (2 : Int32))]))
      refine Gb (fun _ => XS.istoreN X10.here hx rfl (hb hby d5_43) rfl (l' := (sh6 a0 q1 (2 : Int32))) rfl) ?_
      refine Gb (fun _ => XS.iloadN X10.here hx rfl (hb hby d5_44) rfl) ?_
      refine Gb (fun _ => XS.ifNo X10.here hx rfl (hb hby d5_45) rfl ((if0 _ _).trans (tlt (by decide : (0 : Int32) < (2 : Int32))).2.2.2)) ?_
      refine Gb (fun _ => XS.aloadN X10.here hx rfl (hb hby d5_48) rfl rfl) ?_
      obtain ⟨T178, X178, e178, st178⟩ := getF X10 hx hZ hown (host := "") (Or.inl (wq hw 11 rfl)) Via.refl e10 F1 (g := (mkF m 49 (sh6 a0 q1 (2 : Int32)) [(.ref a0)])) rfl rfl (hb hby d5_49)
      refine Gb st178 ?_
      refine Gb (fun _ => XS.iloadN X178.here hx rfl (hb hby d5_52) rfl) ?_
      refine Gb (fun _ => XS.iconst X178.here hx rfl (hb hby d5_53)) ?_
      refine Gb (fun _ => XS.isub X178.here hx rfl (hb hby d5_54) rfl) ?_
      obtain ⟨cl179, cl179A, cl179q, cl179S, cl179N, cl179H, cl179G⟩ := id F3
      have cl179I : ¬ ((1 : Int32) < 0 ∨ cl179.slots.size ≤ ((1 : Int32)).toNatClampNeg) := inb_of cl179S ⟨by decide, by decide⟩
      have cl179T : cl179.slots[((1 : Int32)).toNatClampNeg]? = some (.ref x2) := cl179H.at cl179I rfl
      refine Gb (X178.aaload hx (j := (1 : Int32)) (v := (.ref x2)) (by rw [e178]; exact cl179A.1) (State.isArrayOf_alike hZ.alike cl179A.2.1) rfl cl179A.2.2 cl179I cl179T (g := (mkF m 55 (sh6 a0 q1 (2 : Int32)) [(.int (1 : Int32)), (.ref ar)])) rfl rfl (hb hby d5_55)) ?_
      refine Gb (B := T178.setTop (mkF m 61 (sh6 a0 q1 (2 : Int32)) [(.int (lcmpW t2 q1))])) (fun t k => ?_) ?_
      · refine getFR X178 hx hZ hown (wq hw 57 rfl) e178 F8 (g := (mkF m 56 (sh6 a0 q1 (2 : Int32)) [(.ref x2)])) rfl rfl (hb hby d5_56) ?_
        refine XS.lloadN X178.here hx rfl (hb hby d5_59) rfl ?_
        refine XS.lcmp X178.here hx rfl (hb hby d5_60) rfl ?_
        exact k
      by_cases hc181 : t2 = q1
      · refine Gb (fun _ => XS.ifNo X178.here hx rfl (hb hby d5_61) rfl ((if0 _ _).trans (teq ((lw_eq t2 q1).mpr hc181)).2)) ?_
        refine Gb (fun _ => XS.aloadN X178.here hx rfl (hb hby d5_64) rfl rfl) ?_
        obtain ⟨T182, X182, e182, st182⟩ := getF X178 hx hZ hown (host := "") (Or.inl (wq hw 11 rfl)) Via.refl e178 F1 (g := (mkF m 65 (sh6 a0 q1 (2 : Int32)) [(.ref a0)])) rfl rfl (hb hby d5_65)
        refine Gb st182 ?_
        refine Gb (fun _ => XS.iloadN X182.here hx rfl (hb hby d5_68) rfl) ?_
        refine Gb (fun _ => XS.iconst X182.here hx rfl (hb hby d5_69)) ?_
        refine Gb (fun _ => XS.isub X182.here hx rfl (hb hby d5_70) rfl) ?_
        obtain ⟨cl183, cl183A, cl183q, cl183S, cl183N, cl183H, cl183G⟩ := id F3
        have cl183I : ¬ ((1 : Int32) < 0 ∨ cl183.slots.size ≤ ((1 : Int32)).toNatClampNeg) := inb_of cl183S ⟨by decide, by decide⟩
        have cl183T : cl183.slots[((1 : Int32)).toNatClampNeg]? = some (.ref x2) := cl183H.at cl183I rfl
        refine Gb (X182.aaload hx (j := (1 : Int32)) (v := (.ref x2)) (by rw [e182]; exact cl183A.1) (State.isArrayOf_alike hZ.alike cl183A.2.1) rfl cl183A.2.2 cl183I cl183T (g := (mkF m 71 (sh6 a0 q1 (2 : Int32)) [(.int (1 : Int32)), (.ref ar)])) rfl rfl (hb hby d5_71)) ?_
        obtain ⟨fs, hr, hrun, hended, hW, hsame⟩ := X182.leave (v := some (.ref x2)) (fun h => by rw [Bd.returns] at h; cases h)
        refine Goes.mk _ _ ?_ ⟨hrun, hended, _, _, rfl, ?_, ⟨_, rfl⟩, hW, hsame.mono (by decide) (by decide)⟩
        · exact retOut X182 hx Bd.returns rfl (Or.inr (Or.inr (Or.inr (Or.inr ⟨rfl, rfl, rfl⟩)))) (hb hby d5_72) hr
        · show QHeadOf3 Z a0 q1 ar kA x1 x2 x3 t1 t2 t3 h0 n0 _ T182.heap _
          rw [e182]
          exact (Or.inr (Or.inr (Or.inr (Or.inr (Or.inl ⟨hc6, he, hc181, rfl, N11, rfl⟩)))))
      · refine Gb (fun _ => XS.ifYes X178.here hx rfl (pc0 := 61) (pc' := 73) rfl (hb hby d5_61) rfl ((if0 _ _).trans (feq (fun z => hc181 ((lw_eq t2 q1).mp z))).2) (by decide) (by decide)) ?_
        refine Gb (fun _ => XS.aloadN X178.here hx rfl (hb hby d5_73) rfl rfl) ?_
        obtain ⟨T184, X184, e184, st184⟩ := getF X178 hx hZ hown (host := "") (Or.inl (wq hw 29 rfl)) Via.refl e178 F2 (g := (mkF m 74 (sh6 a0 q1 (2 : Int32)) [(.ref a0)])) rfl rfl (hb hby d5_74)
        refine Gb st184 ?_
        refine Gb (fun _ => XS.aloadN X184.here hx rfl (hb hby d5_77) rfl rfl) ?_
        obtain ⟨T185, X185, e185, st185⟩ := getF X184 hx hZ hown (host := "") (Or.inl (wq hw 11 rfl)) Via.refl e184 F1 (g := (mkF m 78 (sh6 a0 q1 (2 : Int32)) [(.ref a0), (.int (3 : Int32))])) rfl rfl (hb hby d5_78)
        refine Gb st185 ?_
        obtain ⟨cl186, cl186A, -, cl186S, cl186N, -, -⟩ := id F3
        refine Gb (B := T185.setTop (mkF m 105 (sh6 a0 q1 (2 : Int32)) [])) (fun t k => ?_) ?_
        · refine X185.arraylength hx (by rw [e185]; exact cl186A.1) (State.isArrayOf_alike hZ.alike cl186A.2.1) (g := (mkF m 81 (sh6 a0 q1 (2 : Int32)) [(.ref ar), (.int (3 : Int32))])) rfl rfl (hb hby d5_81) _ ?_
          rw [len_of cl186S cl186N]
          refine XS.icmpYes X185.here hx rfl (pc0 := 82) (pc' := 105) rfl (hb hby d5_82) rfl (feq (by decide : ¬ ((3 : Int32) = (4 : Int32)))).2 (by decide) (by decide) ?_
          exact k
        refine Gb (fun _ => XS.aloadN X185.here hx rfl (hb hby d5_105) rfl rfl) ?_
        obtain ⟨T187, X187, e187, st187⟩ := getF X185 hx hZ hown (host := "") (Or.inl (wq hw 11 rfl)) Via.refl e185 F1 (g := (mkF m 106 (sh6 a0 q1 (2 : Int32)) [(.ref a0)])) rfl rfl (hb hby d5_106)
        refine Gb st187 ?_
        refine Gb (fun _ => XS.iloadN X187.here hx rfl (hb hby d5_109) rfl) ?_
        refine Gb (fun _ => XS.aloadN X187.here hx rfl (hb hby d5_110) rfl rfl) ?_
        obtain ⟨T188, X188, e188, st188⟩ := getF X187 hx hZ hown (host := "") (Or.inl (wq hw 11 rfl)) Via.refl e187 F1 (g := (mkF m 111 (sh6 a0 q1 (2 : Int32)) [(.ref a0), (.int (2 : Int32)), (.ref ar)])) rfl rfl (hb hby d5_111)
        refine Gb st188 ?_
        refine Gb (fun _ => XS.iloadN X188.here hx rfl (hb hby d5_114) rfl) ?_
        refine Gb (fun _ => XS.iconst X188.here hx rfl (hb hby d5_115)) ?_
        refine Gb (fun _ => XS.iadd X188.here hx rfl (hb hby d5_116) rfl) ?_
        refine Gb (fun _ => XS.aloadN X188.here hx rfl (hb hby d5_117) rfl rfl) ?_
        obtain ⟨T189, X189, e189, st189⟩ := getF X188 hx hZ hown (host := "") (Or.inl (wq hw 29 rfl)) Via.refl e188 F2 (g := (mkF m 118 (sh6 a0 q1 (2 : Int32)) [(.ref a0), (.int (3 : Int32)), (.ref ar), (.int (2 : Int32)), (.ref ar)])) rfl rfl (hb hby d5_118)
        refine Gb st189 ?_
        refine Gb (fun _ => XS.iloadN X189.here hx rfl (hb hby d5_121) rfl) ?_
        refine Gb (fun _ => XS.isub X189.here hx rfl (hb hby d5_122) rfl) ?_
        obtain ⟨cl190, cl190A, cl190q, -, -, -, -⟩ := id F3
        obtain ⟨T190, h190, L190, X190, e190, Nn190, K190, V190, st190⟩ := cpA X189 hx hZ hown (wq hw 35 rfl) (wq hw 38 rfl) (wq hw 36 rfl) (wq hw 37 rfl) e189 (us := [(.ref x3)]) F3 F3 (Or.inr ⟨rfl, rfl, ⟨Sto.ofV cl190A cl190q F4 (Ins.self F9), trivial⟩⟩) (sp := (2 : Int32)) (dp := (3 : Int32)) (nn := (1 : Int32)) (by decide) (by decide) (by decide) (by decide) (by decide) rfl (Nat.le_of_ble_eq_true rfl) N11 Ge1 (g := (mkF m 123 (sh6 a0 q1 (2 : Int32)) [(.int (1 : Int32)), (.int (3 : Int32)), (.ref ar), (.int (2 : Int32)), (.ref ar)])) rfl (by rw [hml]; rfl) rfl (hb hby d5_123) (by decide) (W := 0) (by show 2 * 0 + _ ≤ _; exact Nat.le_of_eq rfl) (by decide)
        have f191 := F0.keep K190
        have f192 := F1.keep K190 (ninS Ne0 nin0)
        have f193 := F2.keep K190 (ninS Ne0 nin0)
        have f194 := F5.keep K190
        have f195 := F7.keep K190
        have f196 := F9.keep K190
        have f197 : Arv Z h190 ar kA (.object cH) (4 : Int32) [(.ref x1), (.ref x2), (.ref x3), (.ref x3)] .null := V190
        have Kp190 : Keep h0 h190 [a0, ar] := Kp0.trans K190 (allS (Or.inl om1) all0)
        have Z198 := Nat.le_trans Z0 K190.1
        refine Gb st190 ?_
        obtain ⟨T199, h199, X199, e199, E199, A199, D199, -, st199⟩ := newO X190 hx hZ hown (wq hw 9 rfl) (wq hw 39 rfl) (wq hw 40 rfl) e190 (g := (mkF m 126 (sh6 a0 q1 (2 : Int32)) [])) rfl (hb hby d5_126) (by decide) (by decide)
        obtain ⟨b200, g199⟩ : ∃ z, z = h190.size := ⟨_, rfl⟩
        rw [← g199] at A199 D199 st199
        have ne201 : a0 ≠ b200 := Nat.ne_of_lt (Nat.lt_of_lt_of_le f191.lt (Nat.le_of_eq g199.symm))
        have ne202 : ar ≠ b200 := Nat.ne_of_lt (Nat.lt_of_lt_of_le f197.lt (Nat.le_of_eq g199.symm))
        have ne203 : x1 ≠ b200 := Nat.ne_of_lt (Nat.lt_of_lt_of_le f194.lt (Nat.le_of_eq g199.symm))
        have ne204 : x2 ≠ b200 := Nat.ne_of_lt (Nat.lt_of_lt_of_le f195.lt (Nat.le_of_eq g199.symm))
        have ne205 : x3 ≠ b200 := Nat.ne_of_lt (Nat.lt_of_lt_of_le f196.lt (Nat.le_of_eq g199.symm))
        have ge206 : n0 ≤ b200 := Nat.le_trans Z198 (Nat.le_of_eq g199.symm)
        have sz207 : h0.size ≤ b200 := Nat.le_trans Kp190.1 (Nat.le_of_eq g199.symm)
        have f208 := f191.ext E199
        have f209 := f192.ext E199
        have f210 := f193.ext E199
        have f211 := f194.ext E199
        have f212 := f195.ext E199
        have f213 := f196.ext E199
        have f214 := f197.ext E199
        have f215 : Fld Z h199 b200 cH "tick" "J" (.long (0 : Int64)) := D199 (Or.inr (wq hw 47 rfl)) (ty := .long) (by decide)
        have f216 : Fld Z h199 b200 cL "next" dL .null := D199 (Or.inl (wq hw 49 rfl)) (ty := (.object cL)) (by decide)
        have f217 : Fld Z h199 b200 cL "prev" dL .null := D199 (Or.inl (wq hw 51 rfl)) (ty := (.object cL)) (by decide)
        have Kp199 : Keep h0 h199 [a0, ar] := Kp190.ext E199
        have Z218 := Nat.le_trans Z198 E199.1
        refine Gb st199 ?_
        refine Gb (fun _ => XS.dup X199.here hx rfl (hb hby d5_129) rfl rfl) ?_
        refine Gb (fun _ => XS.lloadN X199.here hx rfl (hb hby d5_130) rfl) ?_
        obtain ⟨_, T219, L219, Lc219, X219, hF219, hQ219, st219⟩ := own_ci X199 hx hZ rfl hown (wq hw 41 rfl) (wq hw 42 rfl) (wq hw 40 rfl) (wq hw 43 rfl) (rmHeadI l Z az hw [] b200 q1 h199 n0 Z218 A199 f215 f216 f217 ge206) (W := 1) (g := (mkF m 131 (sh6 a0 q1 (2 : Int32)) [(.long q1), (.ref b200), (.ref b200)])) rfl (by rw [hml]; rfl) (argsL := [(.long q1)]) (rest := [(.ref b200)]) rfl (lenOf own_pd2 rfl) rfl (hb hby d5_131) e199 Nn190 (c' := 1) (s' := 3)
        obtain ⟨rfl, N219q, K219, f220, f221, f222, f223⟩ := hQ219
        have f224 := f208.keep K219
        have f225 := f209.keep K219 (ninS ne201 nin0)
        have f226 := f210.keep K219 (ninS ne201 nin0)
        have f227 := f211.keep K219
        have f228 := f212.keep K219
        have f229 := f213.keep K219
        have f230 := f214.keep K219 (ninS ne202 nin0)
        have f231 := A199.keep K219
        have Kp219 : Keep h0 T219.heap [a0, ar] := Kp199.trans K219 (allS (Or.inr sz207) all0)
        have Z232 := Nat.le_trans Z218 K219.1
        have N233 := hF219 N219q
        refine Gb st219 ?_
        refine Gb (fun _ => XS.astore X219.here hx rfl (hb hby d5_134) rfl rfl (l' := (sh7 a0 q1 (2 : Int32) b200)) rfl) ?_
        refine Gb (fun _ => XS.aloadN X219.here hx rfl (hb hby d5_136) rfl rfl) ?_
        obtain ⟨T234, X234, e234, st234⟩ := getF X219 hx hZ hown (host := "") (Or.inl (wq hw 11 rfl)) Via.refl rfl f225 (g := (mkF m 137 (sh7 a0 q1 (2 : Int32) b200) [(.ref a0)])) rfl rfl (hb hby d5_137)
        refine Gb st234 ?_
        refine Gb (fun _ => XS.iloadN X234.here hx rfl (hb hby d5_140) rfl) ?_
        refine Gb (fun _ => XS.aload X234.here hx rfl (hb hby d5_141) rfl rfl) ?_
        obtain ⟨cl235, cl235A, cl235q, cl235S, cl235N, cl235H, cl235G⟩ := id f230
        have cl235I : ¬ ((2 : Int32) < 0 ∨ cl235.slots.size ≤ ((2 : Int32)).toNatClampNeg) := inb_of cl235S ⟨by decide, by decide⟩
        obtain ⟨T235, h235, X235, e235, W235, st235⟩ := stR X234 hx hZ e234 cl235A (j := (2 : Int32)) cl235I rfl (Sto.ofV cl235A cl235q F4 (Ins.self f220)) (g := (mkF m 143 (sh7 a0 q1 (2 : Int32) b200) [(.ref b200), (.int (2 : Int32)), (.ref ar)])) rfl rfl (hb hby d5_143)
        have f236 := f224.wr W235
        have f237 := f225.other W235 (Or.inl Ne0)
        have f238 := f226.other W235 (Or.inl Ne0)
        have f239 := f227.wr W235
        have f240 := f228.wr W235
        have f241 := f229.wr W235
        have f242 := f220.wr W235
        have f243 := f221.other W235 (Or.inl (Ne.symm ne202))
        have f244 := f222.other W235 (Or.inl (Ne.symm ne202))
        have f245 := f223.other W235 (Or.inl (Ne.symm ne202))
        have f246 : Arv Z h235 ar kA (.object cH) (4 : Int32) [(.ref x1), (.ref x2), (.ref b200), (.ref x3)] .null := Arv.set cl235A cl235q cl235S cl235N cl235H cl235G rfl W235 2 rfl (Nat.le_of_ble_eq_true rfl)
        have Kp235 : Keep h0 h235 [a0, ar] := Kp219.wr W235 (Or.inl om1)
        have Z247 := Nat.le_trans Z232 (Nat.le_of_eq W235.size.symm)
        have N248 := Fr.snoc X235 N233 Ge1
        refine Gb st235 ?_
        refine Gb (fun _ => XS.aloadN X235.here hx rfl (hb hby d5_144) rfl rfl) ?_
        refine Gb (fun _ => XS.dup X235.here hx rfl (hb hby d5_145) rfl rfl) ?_
        obtain ⟨T249, X249, e249, st249⟩ := getF X235 hx hZ hown (host := "") (Or.inl (wq hw 29 rfl)) Via.refl e235 f238 (g := (mkF m 146 (sh7 a0 q1 (2 : Int32) b200) [(.ref a0), (.ref a0)])) rfl rfl (hb hby d5_146)
        refine Gb st249 ?_
        refine Gb (fun _ => XS.iconst X249.here hx rfl (hb hby d5_149)) ?_
        refine Gb (fun _ => XS.iadd X249.here hx rfl (hb hby d5_150) rfl) ?_
        obtain ⟨T250, h250, X250, e250, W250, st250⟩ := putF X249 hx hZ hown (host := "") (Or.inl (wq hw 29 rfl)) Via.refl e249 f238 f236 (Or.inl (wq hw 30 rfl)) (wq hw 1 rfl) (ty := .int) (by decide) rfl rfl (g := (mkF m 151 (sh7 a0 q1 (2 : Int32) b200) [(.int (4 : Int32)), (.ref a0)])) rfl rfl (hb hby d5_151)
        have f251 := f236.wr W250
        have f252 := f237.other W250 (Or.inr (slot_ne (Or.inl (wq hw 12 rfl)) (Or.inl (wq hw 30 rfl)) (by decide) (t := (.array (.object cH))) (t' := .int) (by decide) (by decide)))
        have f253 := f239.wr W250
        have f254 := f240.wr W250
        have f255 := f241.wr W250
        have f256 := f242.wr W250
        have f257 := f243.other W250 (Or.inl (Ne.symm ne201))
        have f258 := f244.other W250 (Or.inl (Ne.symm ne201))
        have f259 := f245.other W250 (Or.inl (Ne.symm ne201))
        have f260 := f246.other W250 (Ne.symm Ne0)
        have f261 : Fld Z h250 a0 cD "count" "I" (.int (4 : Int32)) := f238.same W250
        have Kp250 : Keep h0 h250 [a0, ar] := Kp235.wr W250 (Or.inl om0)
        have Z262 := Nat.le_trans Z247 (Nat.le_of_eq W250.size.symm)
        have N263 := Fr.snoc X250 N248 Ge0
        refine Gb st250 ?_
        refine Gb (fun _ => XS.aload X250.here hx rfl (hb hby d5_154) rfl rfl) ?_
        obtain ⟨fs, hr, hrun, hended, hW, hsame⟩ := X250.leave (v := some (.ref b200)) (fun h => by rw [Bd.returns] at h; cases h)
        refine Goes.mk _ _ ?_ ⟨hrun, hended, _, _, rfl, ?_, ⟨_, rfl⟩, hW, hsame.mono (by decide) (by decide)⟩
        · exact retOut X250 hx Bd.returns rfl (Or.inr (Or.inr (Or.inr (Or.inr ⟨rfl, rfl, rfl⟩)))) (hb hby d5_156) hr
        · show QHeadOf3 Z a0 q1 ar kA x1 x2 x3 t1 t2 t3 h0 n0 _ T250.heap _
          rw [e250]
          exact (Or.inr (Or.inr (Or.inr (Or.inr (Or.inr (Or.inl ⟨b200, hc6, he, hc181, rfl, N263, Kp250, sz207, f252, f261, f260, f256, f257, f258, f259⟩))))))
    · rw [he]
      show Goes p.tables e below _ (T10.setTop (mkF m 43 (sh5 a0 q1) [(.int (3 : Int32))]))
      refine Gb (fun _ => XS.istoreN X10.here hx rfl (hb hby d5_43) rfl (l' := (sh6 a0 q1 (3 : Int32))) rfl) ?_
      refine Gb (fun _ => XS.iloadN X10.here hx rfl (hb hby d5_44) rfl) ?_
      refine Gb (fun _ => XS.ifNo X10.here hx rfl (hb hby d5_45) rfl ((if0 _ _).trans (tlt (by decide : (0 : Int32) < (3 : Int32))).2.2.2)) ?_
      refine Gb (fun _ => XS.aloadN X10.here hx rfl (hb hby d5_48) rfl rfl) ?_
      obtain ⟨T264, X264, e264, st264⟩ := getF X10 hx hZ hown (host := "") (Or.inl (wq hw 11 rfl)) Via.refl e10 F1 (g := (mkF m 49 (sh6 a0 q1 (3 : Int32)) [(.ref a0)])) rfl rfl (hb hby d5_49)
      refine Gb st264 ?_
      refine Gb (fun _ => XS.iloadN X264.here hx rfl (hb hby d5_52) rfl) ?_
      refine Gb (fun _ => XS.iconst X264.here hx rfl (hb hby d5_53)) ?_
      refine Gb (fun _ => XS.isub X264.here hx rfl (hb hby d5_54) rfl) ?_
      obtain ⟨cl265, cl265A, cl265q, cl265S, cl265N, cl265H, cl265G⟩ := id F3
      have cl265I : ¬ ((2 : Int32) < 0 ∨ cl265.slots.size ≤ ((2 : Int32)).toNatClampNeg) := inb_of cl265S ⟨by decide, by decide⟩
      have cl265T : cl265.slots[((2 : Int32)).toNatClampNeg]? = some (.ref x3) := cl265H.at cl265I rfl
      refine Gb (X264.aaload hx (j := (2 : Int32)) (v := (.ref x3)) (by rw [e264]; exact cl265A.1) (State.isArrayOf_alike hZ.alike cl265A.2.1) rfl cl265A.2.2 cl265I cl265T (g := (mkF m 55 (sh6 a0 q1 (3 : Int32)) [(.int (2 : Int32)), (.ref ar)])) rfl rfl (hb hby d5_55)) ?_
      refine Gb (B := T264.setTop (mkF m 74 (sh6 a0 q1 (3 : Int32)) [(.ref a0)])) (fun t k => ?_) ?_
      · refine getFR X264 hx hZ hown (wq hw 57 rfl) e264 F10 (g := (mkF m 56 (sh6 a0 q1 (3 : Int32)) [(.ref x3)])) rfl rfl (hb hby d5_56) ?_
        refine XS.lloadN X264.here hx rfl (hb hby d5_59) rfl ?_
        refine XS.lcmp X264.here hx rfl (hb hby d5_60) rfl ?_
        refine XS.ifYes X264.here hx rfl (pc0 := 61) (pc' := 73) rfl (hb hby d5_61) rfl ((if0 _ _).trans (feq (fun z => hc6 ((lw_eq t3 q1).mp z))).2) (by decide) (by decide) ?_
        refine XS.aloadN X264.here hx rfl (hb hby d5_73) rfl rfl ?_
        exact k
      obtain ⟨T267, X267, e267, st267⟩ := getF X264 hx hZ hown (host := "") (Or.inl (wq hw 29 rfl)) Via.refl e264 F2 (g := (mkF m 74 (sh6 a0 q1 (3 : Int32)) [(.ref a0)])) rfl rfl (hb hby d5_74)
      refine Gb st267 ?_
      refine Gb (fun _ => XS.aloadN X267.here hx rfl (hb hby d5_77) rfl rfl) ?_
      obtain ⟨T268, X268, e268, st268⟩ := getF X267 hx hZ hown (host := "") (Or.inl (wq hw 11 rfl)) Via.refl e267 F1 (g := (mkF m 78 (sh6 a0 q1 (3 : Int32)) [(.ref a0), (.int (3 : Int32))])) rfl rfl (hb hby d5_78)
      refine Gb st268 ?_
      obtain ⟨cl269, cl269A, -, cl269S, cl269N, -, -⟩ := id F3
      refine Gb (B := T268.setTop (mkF m 105 (sh6 a0 q1 (3 : Int32)) [])) (fun t k => ?_) ?_
      · refine X268.arraylength hx (by rw [e268]; exact cl269A.1) (State.isArrayOf_alike hZ.alike cl269A.2.1) (g := (mkF m 81 (sh6 a0 q1 (3 : Int32)) [(.ref ar), (.int (3 : Int32))])) rfl rfl (hb hby d5_81) _ ?_
        rw [len_of cl269S cl269N]
        refine XS.icmpYes X268.here hx rfl (pc0 := 82) (pc' := 105) rfl (hb hby d5_82) rfl (feq (by decide : ¬ ((3 : Int32) = (4 : Int32)))).2 (by decide) (by decide) ?_
        exact k
      refine Gb (fun _ => XS.aloadN X268.here hx rfl (hb hby d5_105) rfl rfl) ?_
      obtain ⟨T270, X270, e270, st270⟩ := getF X268 hx hZ hown (host := "") (Or.inl (wq hw 11 rfl)) Via.refl e268 F1 (g := (mkF m 106 (sh6 a0 q1 (3 : Int32)) [(.ref a0)])) rfl rfl (hb hby d5_106)
      refine Gb st270 ?_
      refine Gb (fun _ => XS.iloadN X270.here hx rfl (hb hby d5_109) rfl) ?_
      refine Gb (fun _ => XS.aloadN X270.here hx rfl (hb hby d5_110) rfl rfl) ?_
      obtain ⟨T271, X271, e271, st271⟩ := getF X270 hx hZ hown (host := "") (Or.inl (wq hw 11 rfl)) Via.refl e270 F1 (g := (mkF m 111 (sh6 a0 q1 (3 : Int32)) [(.ref a0), (.int (3 : Int32)), (.ref ar)])) rfl rfl (hb hby d5_111)
      refine Gb st271 ?_
      refine Gb (fun _ => XS.iloadN X271.here hx rfl (hb hby d5_114) rfl) ?_
      refine Gb (fun _ => XS.iconst X271.here hx rfl (hb hby d5_115)) ?_
      refine Gb (fun _ => XS.iadd X271.here hx rfl (hb hby d5_116) rfl) ?_
      refine Gb (fun _ => XS.aloadN X271.here hx rfl (hb hby d5_117) rfl rfl) ?_
      obtain ⟨T272, X272, e272, st272⟩ := getF X271 hx hZ hown (host := "") (Or.inl (wq hw 29 rfl)) Via.refl e271 F2 (g := (mkF m 118 (sh6 a0 q1 (3 : Int32)) [(.ref a0), (.int (4 : Int32)), (.ref ar), (.int (3 : Int32)), (.ref ar)])) rfl rfl (hb hby d5_118)
      refine Gb st272 ?_
      refine Gb (fun _ => XS.iloadN X272.here hx rfl (hb hby d5_121) rfl) ?_
      refine Gb (fun _ => XS.isub X272.here hx rfl (hb hby d5_122) rfl) ?_
      obtain ⟨T273, h273, L273, X273, e273, Nn273, K273, V273, st273⟩ := cpA X272 hx hZ hown (wq hw 35 rfl) (wq hw 38 rfl) (wq hw 36 rfl) (wq hw 37 rfl) e272 (us := []) F3 F3 (Or.inr ⟨rfl, rfl, trivial⟩) (sp := (3 : Int32)) (dp := (4 : Int32)) (nn := (0 : Int32)) (by decide) (by decide) (by decide) (by decide) (by decide) rfl (Nat.le_of_ble_eq_true rfl) N11 Ge1 (g := (mkF m 123 (sh6 a0 q1 (3 : Int32)) [(.int (0 : Int32)), (.int (4 : Int32)), (.ref ar), (.int (3 : Int32)), (.ref ar)])) rfl (by rw [hml]; rfl) rfl (hb hby d5_123) (by decide) (W := 0) (by show 2 * 0 + _ ≤ _; exact Nat.le_of_eq rfl) (by decide)
      have f274 := F0.keep K273
      have f275 := F1.keep K273 (ninS Ne0 nin0)
      have f276 := F2.keep K273 (ninS Ne0 nin0)
      have f277 := F5.keep K273
      have f278 := F7.keep K273
      have f279 := F9.keep K273
      have f280 : Arv Z h273 ar kA (.object cH) (4 : Int32) [(.ref x1), (.ref x2), (.ref x3), .null] .null := V273
      have Kp273 : Keep h0 h273 [a0, ar] := Kp0.trans K273 (allS (Or.inl om1) all0)
      have Z281 := Nat.le_trans Z0 K273.1
      refine Gb st273 ?_
      obtain ⟨T282, h282, X282, e282, E282, A282, D282, -, st282⟩ := newO X273 hx hZ hown (wq hw 9 rfl) (wq hw 39 rfl) (wq hw 40 rfl) e273 (g := (mkF m 126 (sh6 a0 q1 (3 : Int32)) [])) rfl (hb hby d5_126) (by decide) (by decide)
      obtain ⟨b283, g282⟩ : ∃ z, z = h273.size := ⟨_, rfl⟩
      rw [← g282] at A282 D282 st282
      have ne284 : a0 ≠ b283 := Nat.ne_of_lt (Nat.lt_of_lt_of_le f274.lt (Nat.le_of_eq g282.symm))
      have ne285 : ar ≠ b283 := Nat.ne_of_lt (Nat.lt_of_lt_of_le f280.lt (Nat.le_of_eq g282.symm))
      have ne286 : x1 ≠ b283 := Nat.ne_of_lt (Nat.lt_of_lt_of_le f277.lt (Nat.le_of_eq g282.symm))
      have ne287 : x2 ≠ b283 := Nat.ne_of_lt (Nat.lt_of_lt_of_le f278.lt (Nat.le_of_eq g282.symm))
      have ne288 : x3 ≠ b283 := Nat.ne_of_lt (Nat.lt_of_lt_of_le f279.lt (Nat.le_of_eq g282.symm))
      have ge289 : n0 ≤ b283 := Nat.le_trans Z281 (Nat.le_of_eq g282.symm)
      have sz290 : h0.size ≤ b283 := Nat.le_trans Kp273.1 (Nat.le_of_eq g282.symm)
      have f291 := f274.ext E282
      have f292 := f275.ext E282
      have f293 := f276.ext E282
      have f294 := f277.ext E282
      have f295 := f278.ext E282
      have f296 := f279.ext E282
      have f297 := f280.ext E282
      have f298 : Fld Z h282 b283 cH "tick" "J" (.long (0 : Int64)) := D282 (Or.inr (wq hw 47 rfl)) (ty := .long) (by decide)
      have f299 : Fld Z h282 b283 cL "next" dL .null := D282 (Or.inl (wq hw 49 rfl)) (ty := (.object cL)) (by decide)
      have f300 : Fld Z h282 b283 cL "prev" dL .null := D282 (Or.inl (wq hw 51 rfl)) (ty := (.object cL)) (by decide)
      have Kp282 : Keep h0 h282 [a0, ar] := Kp273.ext E282
      have Z301 := Nat.le_trans Z281 E282.1
      refine Gb st282 ?_
      refine Gb (fun _ => XS.dup X282.here hx rfl (hb hby d5_129) rfl rfl) ?_
      refine Gb (fun _ => XS.lloadN X282.here hx rfl (hb hby d5_130) rfl) ?_
      obtain ⟨_, T302, L302, Lc302, X302, hF302, hQ302, st302⟩ := own_ci X282 hx hZ rfl hown (wq hw 41 rfl) (wq hw 42 rfl) (wq hw 40 rfl) (wq hw 43 rfl) (rmHeadI l Z az hw [] b283 q1 h282 n0 Z301 A282 f298 f299 f300 ge289) (W := 1) (g := (mkF m 131 (sh6 a0 q1 (3 : Int32)) [(.long q1), (.ref b283), (.ref b283)])) rfl (by rw [hml]; rfl) (argsL := [(.long q1)]) (rest := [(.ref b283)]) rfl (lenOf own_pd2 rfl) rfl (hb hby d5_131) e282 Nn273 (c' := 1) (s' := 3)
      obtain ⟨rfl, N302q, K302, f303, f304, f305, f306⟩ := hQ302
      have f307 := f291.keep K302
      have f308 := f292.keep K302 (ninS ne284 nin0)
      have f309 := f293.keep K302 (ninS ne284 nin0)
      have f310 := f294.keep K302
      have f311 := f295.keep K302
      have f312 := f296.keep K302
      have f313 := f297.keep K302 (ninS ne285 nin0)
      have f314 := A282.keep K302
      have Kp302 : Keep h0 T302.heap [a0, ar] := Kp282.trans K302 (allS (Or.inr sz290) all0)
      have Z315 := Nat.le_trans Z301 K302.1
      have N316 := hF302 N302q
      refine Gb st302 ?_
      refine Gb (fun _ => XS.astore X302.here hx rfl (hb hby d5_134) rfl rfl (l' := (sh7 a0 q1 (3 : Int32) b283)) rfl) ?_
      refine Gb (fun _ => XS.aloadN X302.here hx rfl (hb hby d5_136) rfl rfl) ?_
      obtain ⟨T317, X317, e317, st317⟩ := getF X302 hx hZ hown (host := "") (Or.inl (wq hw 11 rfl)) Via.refl rfl f308 (g := (mkF m 137 (sh7 a0 q1 (3 : Int32) b283) [(.ref a0)])) rfl rfl (hb hby d5_137)
      refine Gb st317 ?_
      refine Gb (fun _ => XS.iloadN X317.here hx rfl (hb hby d5_140) rfl) ?_
      refine Gb (fun _ => XS.aload X317.here hx rfl (hb hby d5_141) rfl rfl) ?_
      obtain ⟨cl318, cl318A, cl318q, cl318S, cl318N, cl318H, cl318G⟩ := id f313
      have cl318I : ¬ ((3 : Int32) < 0 ∨ cl318.slots.size ≤ ((3 : Int32)).toNatClampNeg) := inb_of cl318S ⟨by decide, by decide⟩
      obtain ⟨T318, h318, X318, e318, W318, st318⟩ := stR X317 hx hZ e317 cl318A (j := (3 : Int32)) cl318I rfl (Sto.ofV cl318A cl318q F4 (Ins.self f303)) (g := (mkF m 143 (sh7 a0 q1 (3 : Int32) b283) [(.ref b283), (.int (3 : Int32)), (.ref ar)])) rfl rfl (hb hby d5_143)
      have f319 := f307.wr W318
      have f320 := f308.other W318 (Or.inl Ne0)
      have f321 := f309.other W318 (Or.inl Ne0)
      have f322 := f310.wr W318
      have f323 := f311.wr W318
      have f324 := f312.wr W318
      have f325 := f303.wr W318
      have f326 := f304.other W318 (Or.inl (Ne.symm ne285))
      have f327 := f305.other W318 (Or.inl (Ne.symm ne285))
      have f328 := f306.other W318 (Or.inl (Ne.symm ne285))
      have f329 : Arv Z h318 ar kA (.object cH) (4 : Int32) [(.ref x1), (.ref x2), (.ref x3), (.ref b283)] .null := Arv.set cl318A cl318q cl318S cl318N cl318H cl318G rfl W318 3 rfl (Nat.le_of_ble_eq_true rfl)
      have Kp318 : Keep h0 h318 [a0, ar] := Kp302.wr W318 (Or.inl om1)
      have Z330 := Nat.le_trans Z315 (Nat.le_of_eq W318.size.symm)
      have N331 := Fr.snoc X318 N316 Ge1
      refine Gb st318 ?_
      refine Gb (fun _ => XS.aloadN X318.here hx rfl (hb hby d5_144) rfl rfl) ?_
      refine Gb (fun _ => XS.dup X318.here hx rfl (hb hby d5_145) rfl rfl) ?_
      obtain ⟨T332, X332, e332, st332⟩ := getF X318 hx hZ hown (host := "") (Or.inl (wq hw 29 rfl)) Via.refl e318 f321 (g := (mkF m 146 (sh7 a0 q1 (3 : Int32) b283) [(.ref a0), (.ref a0)])) rfl rfl (hb hby d5_146)
      refine Gb st332 ?_
      refine Gb (fun _ => XS.iconst X332.here hx rfl (hb hby d5_149)) ?_
      refine Gb (fun _ => XS.iadd X332.here hx rfl (hb hby d5_150) rfl) ?_
      obtain ⟨T333, h333, X333, e333, W333, st333⟩ := putF X332 hx hZ hown (host := "") (Or.inl (wq hw 29 rfl)) Via.refl e332 f321 f319 (Or.inl (wq hw 30 rfl)) (wq hw 1 rfl) (ty := .int) (by decide) rfl rfl (g := (mkF m 151 (sh7 a0 q1 (3 : Int32) b283) [(.int (4 : Int32)), (.ref a0)])) rfl rfl (hb hby d5_151)
      have f334 := f319.wr W333
      have f335 := f320.other W333 (Or.inr (slot_ne (Or.inl (wq hw 12 rfl)) (Or.inl (wq hw 30 rfl)) (by decide) (t := (.array (.object cH))) (t' := .int) (by decide) (by decide)))
      have f336 := f322.wr W333
      have f337 := f323.wr W333
      have f338 := f324.wr W333
      have f339 := f325.wr W333
      have f340 := f326.other W333 (Or.inl (Ne.symm ne284))
      have f341 := f327.other W333 (Or.inl (Ne.symm ne284))
      have f342 := f328.other W333 (Or.inl (Ne.symm ne284))
      have f343 := f329.other W333 (Ne.symm Ne0)
      have f344 : Fld Z h333 a0 cD "count" "I" (.int (4 : Int32)) := f321.same W333
      have Kp333 : Keep h0 h333 [a0, ar] := Kp318.wr W333 (Or.inl om0)
      have Z345 := Nat.le_trans Z330 (Nat.le_of_eq W333.size.symm)
      have N346 := Fr.snoc X333 N331 Ge0
      refine Gb st333 ?_
      refine Gb (fun _ => XS.aload X333.here hx rfl (hb hby d5_154) rfl rfl) ?_
      obtain ⟨fs, hr, hrun, hended, hW, hsame⟩ := X333.leave (v := some (.ref b283)) (fun h => by rw [Bd.returns] at h; cases h)
      refine Goes.mk _ _ ?_ ⟨hrun, hended, _, _, rfl, ?_, ⟨_, rfl⟩, hW, hsame.mono (by decide) (by decide)⟩
      · exact retOut X333 hx Bd.returns rfl (Or.inr (Or.inr (Or.inr (Or.inr ⟨rfl, rfl, rfl⟩)))) (hb hby d5_156) hr
      · show QHeadOf3 Z a0 q1 ar kA x1 x2 x3 t1 t2 t3 h0 n0 _ T333.heap _
        rw [e333]
        exact (Or.inr (Or.inr (Or.inr (Or.inr (Or.inr (Or.inr ⟨b283, hc6, he, rfl, N346, Kp333, sz290, f335, f344, f343, f339, f340, f341, f342⟩))))))
theorem d13_0 : decode prog_4_method_11_code 0 = .ok (.aload_n 0, 1) := by decide +kernel
theorem d13_1 : decode prog_4_method_11_code 1 = .ok (.getfield 11, 3) := by decide +kernel
theorem d13_4 : decode prog_4_method_11_code 4 = .ok (.arraylength, 1) := by decide +kernel
theorem d13_5 : decode prog_4_method_11_code 5 = .ok (.istore_n 1, 1) := by decide +kernel
theorem d13_6 : decode prog_4_method_11_code 6 = .ok (.iload_n 1, 1) := by decide +kernel
theorem d13_7 : decode prog_4_method_11_code 7 = .ok (.iconst 4, 1) := by decide +kernel
theorem d13_8 : decode prog_4_method_11_code 8 = .ok (.if_icmp .le 20, 3) := by decide +kernel
theorem d13_28 : decode prog_4_method_11_code 28 = .ok (.iload_n 1, 1) := by decide +kernel
theorem d13_29 : decode prog_4_method_11_code 29 = .ok (.aload_n 0, 1) := by decide +kernel
theorem d13_30 : decode prog_4_method_11_code 30 = .ok (.getfield 11, 3) := by decide +kernel
theorem d13_33 : decode prog_4_method_11_code 33 = .ok (.arraylength, 1) := by decide +kernel
theorem d13_34 : decode prog_4_method_11_code 34 = .ok (.if_icmp .eq 18, 3) := by decide +kernel
theorem d13_52 : decode prog_4_method_11_code 52 = .ok (.return_, 1) := by decide +kernel
def QShrink (Z : State) (a0 : Addr) (ar : Addr) (kA : ClassId) (vs : (List Value)) (h0 : Heap) (n0 : Nat) (v : Option Value) (h : Heap) (L : List Loc) : Prop := v = none ∧ Fr n0 L ∧ h = h0
theorem efShrink (m : MethodId) (x0 : Addr) : entryFrame m #[(.ref x0)] 2 = mkF m 0 #[.val (.ref x0), .unset] [] := by first | (simp [entryFrame, mkF, argsToLocals, Value.category]; done) | rfl
set_option maxRecDepth 65536 in
set_option maxHeartbeats 40000000 in
theorem rmShrink (l : Launch) (Z : State) (az : Array Value) (hw : ∀ d ∈ tables_1, d.before az Z = true) (ws : List Jvm.Cond) (a0 : Addr) (ar : Addr) (kA : ClassId) (vs : (List Value)) (h0 : Heap) (n0 : Nat) (Z0 : n0 ≤ h0.size) (F0 : Fld Z h0 a0 cD "heads" dA (.ref ar)) (F1 : Arv Z h0 ar kA (.object cH) (4 : Int32) vs .null) :
    MetFree l y10 (head1 (Jvm.Cond.code y10 prog_4_method_11_code 2 none :: ws) ({ frames := 0, cells := 0, slots := 0, locals := 0 } : Room)) (fun a U => a = #[(.ref a0)] ∧ Z.Warmed39 U.vm ∧ U.heap = h0) (fun _ _ _ _ _ => True) (fun _ U o U' => ∃ v L, o = .returned v ∧ QShrink Z a0 ar kA vs h0 n0 v U'.heap L ∧ FrameEnd U o U' L ({ frames := 0, cells := 0, slots := 0, locals := 0 } : Room).cells ({ frames := 0, cells := 0, slots := 0, locals := 0 } : Room).slots) := by
  refine MetFree.of_bodySF (plainFor_of_name own_pn_com_example_admit_one_admitone_engine_DueOrder) hisR ?_
  intro p e s m args below meth c s₁ Bd hml0 hP hK
  obtain ⟨rfl, hZ, hh⟩ := hP
  have hx := Bd.exec
  have hby := Bd.bytes
  have hml : c.maxLocals = 2 := hml0
  have hown : s.vm.findClass cD = some m.cls := findClass_of_methodNamed Bd.named
  have hnm := (name_of_methodNamed Bd.named Bd.method).1
  have X0 : Stand p l e ({ frames := 0, cells := 0, slots := 0, locals := 0 } : Room) s m #[(.ref a0)] below meth c s₁ [] 0 0 := Stand.of_body Bd
  have e0 : s₁.heap = h0 := by rw [← hh, Bd.state]; rfl
  have N0 := Fr.nil n0
  have Kp0 : Keep h0 h0 [] := Keep.refl _ _
  refine Goes.start ?_
  refine Gb (B := s₁.setTop (mkF m 0 #[.val (.ref a0), .unset] [])) (fun t k => castTop (efShrink m a0) k) ?_
  refine Gb (fun _ => XS.aloadN X0.here hx rfl (hb hby d13_0) rfl rfl) ?_
  obtain ⟨T1, X1, e1, st1⟩ := getF X0 hx hZ hown (host := "") (Or.inl (wq hw 11 rfl)) Via.refl e0 F0 (g := (mkF m 1 #[.val (.ref a0), .unset] [(.ref a0)])) rfl rfl (hb hby d13_1)
  refine Gb st1 ?_
  obtain ⟨cl2, cl2A, -, cl2S, cl2N, -, -⟩ := id F1
  refine Gb (B := T1.setTop (mkF m 30 #[.val (.ref a0), .val (.int (4 : Int32))] [(.ref a0), (.int (4 : Int32))])) (fun t k => ?_) ?_
  · refine X1.arraylength hx (by rw [e1]; exact cl2A.1) (State.isArrayOf_alike hZ.alike cl2A.2.1) (g := (mkF m 4 #[.val (.ref a0), .unset] [(.ref ar)])) rfl rfl (hb hby d13_4) _ ?_
    rw [len_of cl2S cl2N]
    refine XS.istoreN X1.here hx rfl (hb hby d13_5) rfl (l' := #[.val (.ref a0), .val (.int (4 : Int32))]) rfl ?_
    refine XS.iloadN X1.here hx rfl (hb hby d13_6) rfl ?_
    refine XS.iconst X1.here hx rfl (hb hby d13_7) ?_
    refine XS.icmpYes X1.here hx rfl (pc0 := 8) (pc' := 28) rfl (hb hby d13_8) rfl (flt (by decide : ¬ ((4 : Int32) < (4 : Int32)))).2.2.2 (by decide) (by decide) ?_
    refine XS.iloadN X1.here hx rfl (hb hby d13_28) rfl ?_
    refine XS.aloadN X1.here hx rfl (hb hby d13_29) rfl rfl ?_
    exact k
  obtain ⟨T3, X3, e3, st3⟩ := getF X1 hx hZ hown (host := "") (Or.inl (wq hw 11 rfl)) Via.refl e1 F0 (g := (mkF m 30 #[.val (.ref a0), .val (.int (4 : Int32))] [(.ref a0), (.int (4 : Int32))])) rfl rfl (hb hby d13_30)
  refine Gb st3 ?_
  obtain ⟨cl4, cl4A, -, cl4S, cl4N, -, -⟩ := id F1
  refine Gb (B := T3.setTop (mkF m 52 #[.val (.ref a0), .val (.int (4 : Int32))] [])) (fun t k => ?_) ?_
  · refine X3.arraylength hx (by rw [e3]; exact cl4A.1) (State.isArrayOf_alike hZ.alike cl4A.2.1) (g := (mkF m 33 #[.val (.ref a0), .val (.int (4 : Int32))] [(.ref ar), (.int (4 : Int32))])) rfl rfl (hb hby d13_33) _ ?_
    rw [len_of cl4S cl4N]
    refine XS.icmpYes X3.here hx rfl (pc0 := 34) (pc' := 52) rfl (hb hby d13_34) rfl (teq (by decide : (4 : Int32) = (4 : Int32))).1 (by decide) (by decide) ?_
    exact k
  obtain ⟨fs, hr, hrun, hended, hW, hsame⟩ := X3.leave (v := none) (fun _ => rfl)
  refine Goes.mk _ _ ?_ ⟨hrun, hended, _, _, rfl, ?_, ⟨_, rfl⟩, hW, hsame.mono (by decide) (by decide)⟩
  · exact X3.returnOut hx Bd.returns (hb hby d13_52) hr
  · show QShrink Z a0 ar kA vs h0 n0 _ T3.heap _
    rw [e3]
    exact ⟨rfl, N0, rfl⟩
theorem d12_0 : decode prog_4_method_9_code 0 = .ok (.aload_n 0, 1) := by decide +kernel
theorem d12_1 : decode prog_4_method_9_code 1 = .ok (.aload_n 1, 1) := by decide +kernel
theorem d12_2 : decode prog_4_method_9_code 2 = .ok (.getfield 23, 3) := by decide +kernel
theorem d12_5 : decode prog_4_method_9_code 5 = .ok (.invokevirtual 44, 3) := by decide +kernel
theorem d12_8 : decode prog_4_method_9_code 8 = .ok (.iconst 1, 1) := by decide +kernel
theorem d12_9 : decode prog_4_method_9_code 9 = .ok (.isub, 1) := by decide +kernel
theorem d12_10 : decode prog_4_method_9_code 10 = .ok (.istore_n 2, 1) := by decide +kernel
theorem d12_11 : decode prog_4_method_9_code 11 = .ok (.aload_n 0, 1) := by decide +kernel
theorem d12_12 : decode prog_4_method_9_code 12 = .ok (.getfield 11, 3) := by decide +kernel
theorem d12_15 : decode prog_4_method_9_code 15 = .ok (.iload_n 2, 1) := by decide +kernel
theorem d12_16 : decode prog_4_method_9_code 16 = .ok (.iconst 1, 1) := by decide +kernel
theorem d12_17 : decode prog_4_method_9_code 17 = .ok (.iadd, 1) := by decide +kernel
theorem d12_18 : decode prog_4_method_9_code 18 = .ok (.aload_n 0, 1) := by decide +kernel
theorem d12_19 : decode prog_4_method_9_code 19 = .ok (.getfield 11, 3) := by decide +kernel
theorem d12_22 : decode prog_4_method_9_code 22 = .ok (.iload_n 2, 1) := by decide +kernel
theorem d12_23 : decode prog_4_method_9_code 23 = .ok (.aload_n 0, 1) := by decide +kernel
theorem d12_24 : decode prog_4_method_9_code 24 = .ok (.getfield 15, 3) := by decide +kernel
theorem d12_27 : decode prog_4_method_9_code 27 = .ok (.iload_n 2, 1) := by decide +kernel
theorem d12_28 : decode prog_4_method_9_code 28 = .ok (.isub, 1) := by decide +kernel
theorem d12_29 : decode prog_4_method_9_code 29 = .ok (.iconst 1, 1) := by decide +kernel
theorem d12_30 : decode prog_4_method_9_code 30 = .ok (.isub, 1) := by decide +kernel
theorem d12_31 : decode prog_4_method_9_code 31 = .ok (.invokestatic 55, 3) := by decide +kernel
theorem d12_34 : decode prog_4_method_9_code 34 = .ok (.aload_n 0, 1) := by decide +kernel
theorem d12_35 : decode prog_4_method_9_code 35 = .ok (.dup, 1) := by decide +kernel
theorem d12_36 : decode prog_4_method_9_code 36 = .ok (.getfield 15, 3) := by decide +kernel
theorem d12_39 : decode prog_4_method_9_code 39 = .ok (.iconst 1, 1) := by decide +kernel
theorem d12_40 : decode prog_4_method_9_code 40 = .ok (.isub, 1) := by decide +kernel
theorem d12_41 : decode prog_4_method_9_code 41 = .ok (.putfield 15, 3) := by decide +kernel
theorem d12_44 : decode prog_4_method_9_code 44 = .ok (.aload_n 0, 1) := by decide +kernel
theorem d12_45 : decode prog_4_method_9_code 45 = .ok (.getfield 11, 3) := by decide +kernel
theorem d12_48 : decode prog_4_method_9_code 48 = .ok (.aload_n 0, 1) := by decide +kernel
theorem d12_49 : decode prog_4_method_9_code 49 = .ok (.getfield 15, 3) := by decide +kernel
theorem d12_52 : decode prog_4_method_9_code 52 = .ok (.aconst_null, 1) := by decide +kernel
theorem d12_53 : decode prog_4_method_9_code 53 = .ok (.aastore, 1) := by decide +kernel
theorem d12_54 : decode prog_4_method_9_code 54 = .ok (.aload_n 0, 1) := by decide +kernel
theorem d12_55 : decode prog_4_method_9_code 55 = .ok (.invokevirtual 65, 3) := by decide +kernel
theorem d12_58 : decode prog_4_method_9_code 58 = .ok (.return_, 1) := by decide +kernel
def QDrop1_1 (Z : State) (a0 : Addr) (x1 : Addr) (ar : Addr) (kA : ClassId) (t1 : Int64) (h0 : Heap) (n0 : Nat) (v : Option Value) (h : Heap) (L : List Loc) : Prop := v = none ∧ Fr n0 L ∧ Keep h0 h [ar, a0] ∧ Fld Z h a0 cD "heads" dA (.ref ar) ∧ Fld Z h a0 cD "count" "I" (.int (0 : Int32)) ∧ Arv Z h ar kA (.object cH) (4 : Int32) [.null, .null, .null, .null] .null
theorem efDrop1_1 (m : MethodId) (x0 : Addr) (x1 : Addr) : entryFrame m #[(.ref x0), (.ref x1)] 3 = mkF m 0 #[.val (.ref x0), .val (.ref x1), .unset] [] := by first | (simp [entryFrame, mkF, argsToLocals, Value.category]; done) | rfl
set_option maxRecDepth 65536 in
set_option maxHeartbeats 40000000 in
theorem rmDrop1_1 (l : Launch) (Z : State) (az : Array Value) (hw : ∀ d ∈ tables_1, d.before az Z = true) (ws : List Jvm.Cond) (a0 : Addr) (x1 : Addr) (ar : Addr) (kA : ClassId) (t1 : Int64) (h0 : Heap) (n0 : Nat) (Z0 : n0 ≤ h0.size) (F0 : Exa Z h0 a0 cD) (F1 : Fld Z h0 a0 cD "heads" dA (.ref ar)) (F2 : Fld Z h0 a0 cD "count" "I" (.int (1 : Int32))) (F3 : Arv Z h0 ar kA (.object cH) (4 : Int32) [(.ref x1), .null, .null, .null] .null) (F4 : Ovr Z kA cH) (F5 : Exa Z h0 x1 cH) (F6 : Fld Z h0 x1 cH "tick" "J" (.long t1)) (Ne0 : a0 ≠ ar) (Ne1 : x1 ≠ a0) (Ne2 : x1 ≠ ar) (Ge0 : n0 ≤ a0) (Ge1 : n0 ≤ ar) (HD : fDue1 t1 t1 = (1 : Int32)) :
    MetFree l y9 (head1 (Jvm.Cond.code y9 prog_4_method_9_code 3 none :: ws) ({ frames := 1, cells := 0, slots := 0, locals := 18 } : Room)) (fun a U => a = #[(.ref a0), (.ref x1)] ∧ Z.Warmed39 U.vm ∧ U.heap = h0) (fun _ _ _ _ _ => True) (fun _ U o U' => ∃ v L, o = .returned v ∧ QDrop1_1 Z a0 x1 ar kA t1 h0 n0 v U'.heap L ∧ FrameEnd U o U' L ({ frames := 1, cells := 0, slots := 0, locals := 18 } : Room).cells ({ frames := 1, cells := 0, slots := 0, locals := 18 } : Room).slots) := by
  refine MetFree.of_bodySF (plainFor_of_name own_pn_com_example_admit_one_admitone_engine_DueOrder) hisR ?_
  intro p e s m args below meth c s₁ Bd hml0 hP hK
  obtain ⟨rfl, hZ, hh⟩ := hP
  have hx := Bd.exec
  have hby := Bd.bytes
  have hml : c.maxLocals = 3 := hml0
  have hown : s.vm.findClass cD = some m.cls := findClass_of_methodNamed Bd.named
  have hnm := (name_of_methodNamed Bd.named Bd.method).1
  have X0 : Stand p l e ({ frames := 1, cells := 0, slots := 0, locals := 18 } : Room) s m #[(.ref a0), (.ref x1)] below meth c s₁ [] 0 0 := Stand.of_body Bd
  have e0 : s₁.heap = h0 := by rw [← hh, Bd.state]; rfl
  have N0 := Fr.nil n0
  have Kp0 : Keep h0 h0 [ar, a0] := Keep.refl _ _
  refine Goes.start ?_
  refine Gb (B := s₁.setTop (mkF m 0 #[.val (.ref a0), .val (.ref x1), .unset] [])) (fun t k => castTop (efDrop1_1 m a0 x1) k) ?_
  refine Gb (fun _ => XS.aloadN X0.here hx rfl (hb hby d12_0) rfl rfl) ?_
  refine Gb (fun _ => XS.aloadN X0.here hx rfl (hb hby d12_1) rfl rfl) ?_
  refine Gb (fun _ => getFR X0 hx hZ hown (wq hw 57 rfl) e0 F6 (g := (mkF m 2 (sh8 a0 x1) [(.ref x1), (.ref a0)])) rfl rfl (hb hby d12_2)) ?_
  obtain ⟨_, T2, L2, Lc2, X2, hF2, hQ2, st2⟩ := own_cp X0 hx hZ hown (wq hw 31 rfl) (wq hw 33 rfl) (wq hw 1 rfl) (wq hw 32 rfl) (wq hw 2 rfl) (wq hw 34 rfl) (rmDue1 l Z az hw [] a0 t1 ar kA x1 t1 h0 n0 Z0 F0 F1 F2 F3 F4 F5 F6) (W := 0) (g := (mkF m 5 (sh8 a0 x1) [(.long t1), (.ref a0)])) rfl (by rw [hml]; rfl) F0 (argsL := [(.long t1)]) (rest := []) rfl (lenOf own_pd1 rfl) rfl (hb hby d12_5) e0 N0 (c' := 0) (s' := 0)
  obtain ⟨rfl, N2q, e2⟩ := hQ2
  have N3 := hF2 N2q
  refine Gb st2 ?_
  rw [HD]
  show Goes p.tables e below _ (T2.setTop (mkF m 8 (sh8 a0 x1) [(.int (1 : Int32))]))
  refine Gb (fun _ => XS.iconst X2.here hx rfl (hb hby d12_8)) ?_
  refine Gb (fun _ => XS.isub X2.here hx rfl (hb hby d12_9) rfl) ?_
  refine Gb (fun _ => XS.istoreN X2.here hx rfl (hb hby d12_10) rfl (l' := (sh9 a0 x1 (0 : Int32))) rfl) ?_
  refine Gb (fun _ => XS.aloadN X2.here hx rfl (hb hby d12_11) rfl rfl) ?_
  obtain ⟨T4, X4, e4, st4⟩ := getF X2 hx hZ hown (host := "") (Or.inl (wq hw 11 rfl)) Via.refl e2 F1 (g := (mkF m 12 (sh9 a0 x1 (0 : Int32)) [(.ref a0)])) rfl rfl (hb hby d12_12)
  refine Gb st4 ?_
  refine Gb (fun _ => XS.iloadN X4.here hx rfl (hb hby d12_15) rfl) ?_
  refine Gb (fun _ => XS.iconst X4.here hx rfl (hb hby d12_16)) ?_
  refine Gb (fun _ => XS.iadd X4.here hx rfl (hb hby d12_17) rfl) ?_
  refine Gb (fun _ => XS.aloadN X4.here hx rfl (hb hby d12_18) rfl rfl) ?_
  obtain ⟨T5, X5, e5, st5⟩ := getF X4 hx hZ hown (host := "") (Or.inl (wq hw 11 rfl)) Via.refl e4 F1 (g := (mkF m 19 (sh9 a0 x1 (0 : Int32)) [(.ref a0), (.int (1 : Int32)), (.ref ar)])) rfl rfl (hb hby d12_19)
  refine Gb st5 ?_
  refine Gb (fun _ => XS.iloadN X5.here hx rfl (hb hby d12_22) rfl) ?_
  refine Gb (fun _ => XS.aloadN X5.here hx rfl (hb hby d12_23) rfl rfl) ?_
  obtain ⟨T6, X6, e6, st6⟩ := getF X5 hx hZ hown (host := "") (Or.inl (wq hw 29 rfl)) Via.refl e5 F2 (g := (mkF m 24 (sh9 a0 x1 (0 : Int32)) [(.ref a0), (.int (0 : Int32)), (.ref ar), (.int (1 : Int32)), (.ref ar)])) rfl rfl (hb hby d12_24)
  refine Gb st6 ?_
  refine Gb (fun _ => XS.iloadN X6.here hx rfl (hb hby d12_27) rfl) ?_
  refine Gb (fun _ => XS.isub X6.here hx rfl (hb hby d12_28) rfl) ?_
  refine Gb (fun _ => XS.iconst X6.here hx rfl (hb hby d12_29)) ?_
  refine Gb (fun _ => XS.isub X6.here hx rfl (hb hby d12_30) rfl) ?_
  obtain ⟨T7, h7, L7, X7, e7, Nn7, K7, V7, st7⟩ := cpA X6 hx hZ hown (wq hw 35 rfl) (wq hw 38 rfl) (wq hw 36 rfl) (wq hw 37 rfl) e6 (us := []) F3 F3 (Or.inr ⟨rfl, rfl, trivial⟩) (sp := (1 : Int32)) (dp := (0 : Int32)) (nn := (0 : Int32)) (by decide) (by decide) (by decide) (by decide) (by decide) rfl (Nat.le_of_ble_eq_true rfl) N3 Ge1 (g := (mkF m 31 (sh9 a0 x1 (0 : Int32)) [(.int (0 : Int32)), (.int (0 : Int32)), (.ref ar), (.int (1 : Int32)), (.ref ar)])) rfl (by rw [hml]; rfl) rfl (hb hby d12_31) (by decide) (W := 0) (by show 2 * 0 + _ ≤ _; exact Nat.le_of_eq rfl) (by decide)
  have f8 := F0.keep K7
  have f9 := F1.keep K7 (ninS Ne0 nin0)
  have f10 := F2.keep K7 (ninS Ne0 nin0)
  have f11 := F5.keep K7
  have f12 : Arv Z h7 ar kA (.object cH) (4 : Int32) [(.ref x1), .null, .null, .null] .null := V7
  have Kp7 : Keep h0 h7 [ar, a0] := Kp0.trans K7 (allS (Or.inl om0) all0)
  have Z13 := Nat.le_trans Z0 K7.1
  refine Gb st7 ?_
  refine Gb (fun _ => XS.aloadN X7.here hx rfl (hb hby d12_34) rfl rfl) ?_
  refine Gb (fun _ => XS.dup X7.here hx rfl (hb hby d12_35) rfl rfl) ?_
  obtain ⟨T14, X14, e14, st14⟩ := getF X7 hx hZ hown (host := "") (Or.inl (wq hw 29 rfl)) Via.refl e7 f10 (g := (mkF m 36 (sh9 a0 x1 (0 : Int32)) [(.ref a0), (.ref a0)])) rfl rfl (hb hby d12_36)
  refine Gb st14 ?_
  refine Gb (fun _ => XS.iconst X14.here hx rfl (hb hby d12_39)) ?_
  refine Gb (fun _ => XS.isub X14.here hx rfl (hb hby d12_40) rfl) ?_
  obtain ⟨T15, h15, X15, e15, W15, st15⟩ := putF X14 hx hZ hown (host := "") (Or.inl (wq hw 29 rfl)) Via.refl e14 f10 f8 (Or.inl (wq hw 30 rfl)) (wq hw 1 rfl) (ty := .int) (by decide) rfl rfl (g := (mkF m 41 (sh9 a0 x1 (0 : Int32)) [(.int (0 : Int32)), (.ref a0)])) rfl rfl (hb hby d12_41)
  have f16 := f8.wr W15
  have f17 := f9.other W15 (Or.inr (slot_ne (Or.inl (wq hw 12 rfl)) (Or.inl (wq hw 30 rfl)) (by decide) (t := (.array (.object cH))) (t' := .int) (by decide) (by decide)))
  have f18 := f11.wr W15
  have f19 := f12.other W15 (Ne.symm Ne0)
  have f20 : Fld Z h15 a0 cD "count" "I" (.int (0 : Int32)) := f10.same W15
  have Kp15 : Keep h0 h15 [ar, a0] := Kp7.wr W15 (Or.inl om1)
  have Z21 := Nat.le_trans Z13 (Nat.le_of_eq W15.size.symm)
  have N22 := Fr.snoc X15 Nn7 Ge0
  refine Gb st15 ?_
  refine Gb (fun _ => XS.aloadN X15.here hx rfl (hb hby d12_44) rfl rfl) ?_
  obtain ⟨T23, X23, e23, st23⟩ := getF X15 hx hZ hown (host := "") (Or.inl (wq hw 11 rfl)) Via.refl e15 f17 (g := (mkF m 45 (sh9 a0 x1 (0 : Int32)) [(.ref a0)])) rfl rfl (hb hby d12_45)
  refine Gb st23 ?_
  refine Gb (fun _ => XS.aloadN X23.here hx rfl (hb hby d12_48) rfl rfl) ?_
  obtain ⟨T24, X24, e24, st24⟩ := getF X23 hx hZ hown (host := "") (Or.inl (wq hw 29 rfl)) Via.refl e23 f20 (g := (mkF m 49 (sh9 a0 x1 (0 : Int32)) [(.ref a0), (.ref ar)])) rfl rfl (hb hby d12_49)
  refine Gb st24 ?_
  refine Gb (fun _ => XS.aconstNull X24.here hx rfl (hb hby d12_52)) ?_
  obtain ⟨cl25, cl25A, cl25q, cl25S, cl25N, cl25H, cl25G⟩ := id f19
  have cl25I : ¬ ((0 : Int32) < 0 ∨ cl25.slots.size ≤ ((0 : Int32)).toNatClampNeg) := inb_of cl25S ⟨by decide, by decide⟩
  obtain ⟨T25, h25, X25, e25, W25, st25⟩ := stR X24 hx hZ e24 cl25A (j := (0 : Int32)) cl25I rfl (Or.inl rfl) (g := (mkF m 53 (sh9 a0 x1 (0 : Int32)) [.null, (.int (0 : Int32)), (.ref ar)])) rfl rfl (hb hby d12_53)
  have f26 := f16.wr W25
  have f27 := f17.other W25 (Or.inl Ne0)
  have f28 := f18.wr W25
  have f29 := f20.other W25 (Or.inl Ne0)
  have f30 : Arv Z h25 ar kA (.object cH) (4 : Int32) [.null, .null, .null, .null] .null := Arv.set cl25A cl25q cl25S cl25N cl25H cl25G rfl W25 0 rfl (Nat.le_of_ble_eq_true rfl)
  have Kp25 : Keep h0 h25 [ar, a0] := Kp15.wr W25 (Or.inl om0)
  have Z31 := Nat.le_trans Z21 (Nat.le_of_eq W25.size.symm)
  have N32 := Fr.snoc X25 N22 Ge1
  refine Gb st25 ?_
  refine Gb (fun _ => XS.aloadN X25.here hx rfl (hb hby d12_54) rfl rfl) ?_
  obtain ⟨_, T33, L33, Lc33, X33, hF33, hQ33, st33⟩ := own_cp X25 hx hZ hown (wq hw 81 rfl) (wq hw 83 rfl) (wq hw 1 rfl) (wq hw 82 rfl) (wq hw 2 rfl) (wq hw 84 rfl) (rmShrink l Z az hw [] a0 ar kA [.null, .null, .null, .null] h25 n0 Z31 f27 f30) (W := 0) (g := (mkF m 55 (sh9 a0 x1 (0 : Int32)) [(.ref a0)])) rfl (by rw [hml]; rfl) f26 (argsL := []) (rest := []) rfl (lenOf own_pd0 rfl) rfl (hb hby d12_55) e25 N32 (c' := 0) (s' := 0)
  obtain ⟨rfl, N33q, e33⟩ := hQ33
  have N34 := hF33 N33q
  refine Gb st33 ?_
  obtain ⟨fs, hr, hrun, hended, hW, hsame⟩ := X33.leave (v := none) (fun _ => rfl)
  refine Goes.mk _ _ ?_ ⟨hrun, hended, _, _, rfl, ?_, ⟨_, rfl⟩, hW, hsame.mono (by decide) (by decide)⟩
  · exact X33.returnOut hx Bd.returns (hb hby d12_58) hr
  · show QDrop1_1 Z a0 x1 ar kA t1 h0 n0 _ T33.heap _
    rw [e33]
    exact ⟨rfl, N34, Kp25, f27, f29, f30⟩
def QDrop2_1 (Z : State) (a0 : Addr) (x1 : Addr) (ar : Addr) (kA : ClassId) (x2 : Addr) (t1 : Int64) (t2 : Int64) (h0 : Heap) (n0 : Nat) (v : Option Value) (h : Heap) (L : List Loc) : Prop := v = none ∧ Fr n0 L ∧ Keep h0 h [ar, a0] ∧ Fld Z h a0 cD "heads" dA (.ref ar) ∧ Fld Z h a0 cD "count" "I" (.int (1 : Int32)) ∧ Arv Z h ar kA (.object cH) (4 : Int32) [(.ref x2), .null, .null, .null] .null
theorem efDrop2_1 (m : MethodId) (x0 : Addr) (x1 : Addr) : entryFrame m #[(.ref x0), (.ref x1)] 3 = mkF m 0 #[.val (.ref x0), .val (.ref x1), .unset] [] := by first | (simp [entryFrame, mkF, argsToLocals, Value.category]; done) | rfl
set_option maxRecDepth 65536 in
set_option maxHeartbeats 40000000 in
theorem rmDrop2_1 (l : Launch) (Z : State) (az : Array Value) (hw : ∀ d ∈ tables_1, d.before az Z = true) (ws : List Jvm.Cond) (a0 : Addr) (x1 : Addr) (ar : Addr) (kA : ClassId) (x2 : Addr) (t1 : Int64) (t2 : Int64) (h0 : Heap) (n0 : Nat) (Z0 : n0 ≤ h0.size) (F0 : Exa Z h0 a0 cD) (F1 : Fld Z h0 a0 cD "heads" dA (.ref ar)) (F2 : Fld Z h0 a0 cD "count" "I" (.int (2 : Int32))) (F3 : Arv Z h0 ar kA (.object cH) (4 : Int32) [(.ref x1), (.ref x2), .null, .null] .null) (F4 : Ovr Z kA cH) (F5 : Exa Z h0 x1 cH) (F6 : Fld Z h0 x1 cH "tick" "J" (.long t1)) (F7 : Exa Z h0 x2 cH) (F8 : Fld Z h0 x2 cH "tick" "J" (.long t2)) (Ne0 : a0 ≠ ar) (Ne1 : x1 ≠ a0) (Ne2 : x2 ≠ a0) (Ne3 : x1 ≠ ar) (Ne4 : x2 ≠ ar) (Ge0 : n0 ≤ a0) (Ge1 : n0 ≤ ar) (HD : fDue2 t1 t1 t2 = (1 : Int32)) :
    MetFree l y9 (head1 (Jvm.Cond.code y9 prog_4_method_9_code 3 none :: ws) ({ frames := 1, cells := 0, slots := 0, locals := 18 } : Room)) (fun a U => a = #[(.ref a0), (.ref x1)] ∧ Z.Warmed39 U.vm ∧ U.heap = h0) (fun _ _ _ _ _ => True) (fun _ U o U' => ∃ v L, o = .returned v ∧ QDrop2_1 Z a0 x1 ar kA x2 t1 t2 h0 n0 v U'.heap L ∧ FrameEnd U o U' L ({ frames := 1, cells := 0, slots := 0, locals := 18 } : Room).cells ({ frames := 1, cells := 0, slots := 0, locals := 18 } : Room).slots) := by
  refine MetFree.of_bodySF (plainFor_of_name own_pn_com_example_admit_one_admitone_engine_DueOrder) hisR ?_
  intro p e s m args below meth c s₁ Bd hml0 hP hK
  obtain ⟨rfl, hZ, hh⟩ := hP
  have hx := Bd.exec
  have hby := Bd.bytes
  have hml : c.maxLocals = 3 := hml0
  have hown : s.vm.findClass cD = some m.cls := findClass_of_methodNamed Bd.named
  have hnm := (name_of_methodNamed Bd.named Bd.method).1
  have X0 : Stand p l e ({ frames := 1, cells := 0, slots := 0, locals := 18 } : Room) s m #[(.ref a0), (.ref x1)] below meth c s₁ [] 0 0 := Stand.of_body Bd
  have e0 : s₁.heap = h0 := by rw [← hh, Bd.state]; rfl
  have N0 := Fr.nil n0
  have Kp0 : Keep h0 h0 [ar, a0] := Keep.refl _ _
  refine Goes.start ?_
  refine Gb (B := s₁.setTop (mkF m 0 #[.val (.ref a0), .val (.ref x1), .unset] [])) (fun t k => castTop (efDrop2_1 m a0 x1) k) ?_
  refine Gb (fun _ => XS.aloadN X0.here hx rfl (hb hby d12_0) rfl rfl) ?_
  refine Gb (fun _ => XS.aloadN X0.here hx rfl (hb hby d12_1) rfl rfl) ?_
  refine Gb (fun _ => getFR X0 hx hZ hown (wq hw 57 rfl) e0 F6 (g := (mkF m 2 (sh8 a0 x1) [(.ref x1), (.ref a0)])) rfl rfl (hb hby d12_2)) ?_
  obtain ⟨_, T2, L2, Lc2, X2, hF2, hQ2, st2⟩ := own_cp X0 hx hZ hown (wq hw 31 rfl) (wq hw 33 rfl) (wq hw 1 rfl) (wq hw 32 rfl) (wq hw 2 rfl) (wq hw 34 rfl) (rmDue2 l Z az hw [] a0 t1 ar kA x1 x2 t1 t2 h0 n0 Z0 F0 F1 F2 F3 F4 F5 F6 F7 F8) (W := 0) (g := (mkF m 5 (sh8 a0 x1) [(.long t1), (.ref a0)])) rfl (by rw [hml]; rfl) F0 (argsL := [(.long t1)]) (rest := []) rfl (lenOf own_pd1 rfl) rfl (hb hby d12_5) e0 N0 (c' := 0) (s' := 0)
  obtain ⟨rfl, N2q, e2⟩ := hQ2
  have N3 := hF2 N2q
  refine Gb st2 ?_
  rw [HD]
  show Goes p.tables e below _ (T2.setTop (mkF m 8 (sh8 a0 x1) [(.int (1 : Int32))]))
  refine Gb (fun _ => XS.iconst X2.here hx rfl (hb hby d12_8)) ?_
  refine Gb (fun _ => XS.isub X2.here hx rfl (hb hby d12_9) rfl) ?_
  refine Gb (fun _ => XS.istoreN X2.here hx rfl (hb hby d12_10) rfl (l' := (sh9 a0 x1 (0 : Int32))) rfl) ?_
  refine Gb (fun _ => XS.aloadN X2.here hx rfl (hb hby d12_11) rfl rfl) ?_
  obtain ⟨T4, X4, e4, st4⟩ := getF X2 hx hZ hown (host := "") (Or.inl (wq hw 11 rfl)) Via.refl e2 F1 (g := (mkF m 12 (sh9 a0 x1 (0 : Int32)) [(.ref a0)])) rfl rfl (hb hby d12_12)
  refine Gb st4 ?_
  refine Gb (fun _ => XS.iloadN X4.here hx rfl (hb hby d12_15) rfl) ?_
  refine Gb (fun _ => XS.iconst X4.here hx rfl (hb hby d12_16)) ?_
  refine Gb (fun _ => XS.iadd X4.here hx rfl (hb hby d12_17) rfl) ?_
  refine Gb (fun _ => XS.aloadN X4.here hx rfl (hb hby d12_18) rfl rfl) ?_
  obtain ⟨T5, X5, e5, st5⟩ := getF X4 hx hZ hown (host := "") (Or.inl (wq hw 11 rfl)) Via.refl e4 F1 (g := (mkF m 19 (sh9 a0 x1 (0 : Int32)) [(.ref a0), (.int (1 : Int32)), (.ref ar)])) rfl rfl (hb hby d12_19)
  refine Gb st5 ?_
  refine Gb (fun _ => XS.iloadN X5.here hx rfl (hb hby d12_22) rfl) ?_
  refine Gb (fun _ => XS.aloadN X5.here hx rfl (hb hby d12_23) rfl rfl) ?_
  obtain ⟨T6, X6, e6, st6⟩ := getF X5 hx hZ hown (host := "") (Or.inl (wq hw 29 rfl)) Via.refl e5 F2 (g := (mkF m 24 (sh9 a0 x1 (0 : Int32)) [(.ref a0), (.int (0 : Int32)), (.ref ar), (.int (1 : Int32)), (.ref ar)])) rfl rfl (hb hby d12_24)
  refine Gb st6 ?_
  refine Gb (fun _ => XS.iloadN X6.here hx rfl (hb hby d12_27) rfl) ?_
  refine Gb (fun _ => XS.isub X6.here hx rfl (hb hby d12_28) rfl) ?_
  refine Gb (fun _ => XS.iconst X6.here hx rfl (hb hby d12_29)) ?_
  refine Gb (fun _ => XS.isub X6.here hx rfl (hb hby d12_30) rfl) ?_
  obtain ⟨cl7, cl7A, cl7q, -, -, -, -⟩ := id F3
  obtain ⟨T7, h7, L7, X7, e7, Nn7, K7, V7, st7⟩ := cpA X6 hx hZ hown (wq hw 35 rfl) (wq hw 38 rfl) (wq hw 36 rfl) (wq hw 37 rfl) e6 (us := [(.ref x2)]) F3 F3 (Or.inr ⟨rfl, rfl, ⟨Sto.ofV cl7A cl7q F4 (Ins.self F7), trivial⟩⟩) (sp := (1 : Int32)) (dp := (0 : Int32)) (nn := (1 : Int32)) (by decide) (by decide) (by decide) (by decide) (by decide) rfl (Nat.le_of_ble_eq_true rfl) N3 Ge1 (g := (mkF m 31 (sh9 a0 x1 (0 : Int32)) [(.int (1 : Int32)), (.int (0 : Int32)), (.ref ar), (.int (1 : Int32)), (.ref ar)])) rfl (by rw [hml]; rfl) rfl (hb hby d12_31) (by decide) (W := 0) (by show 2 * 0 + _ ≤ _; exact Nat.le_of_eq rfl) (by decide)
  have f8 := F0.keep K7
  have f9 := F1.keep K7 (ninS Ne0 nin0)
  have f10 := F2.keep K7 (ninS Ne0 nin0)
  have f11 := F5.keep K7
  have f12 := F7.keep K7
  have f13 : Arv Z h7 ar kA (.object cH) (4 : Int32) [(.ref x2), (.ref x2), .null, .null] .null := V7
  have Kp7 : Keep h0 h7 [ar, a0] := Kp0.trans K7 (allS (Or.inl om0) all0)
  have Z14 := Nat.le_trans Z0 K7.1
  refine Gb st7 ?_
  refine Gb (fun _ => XS.aloadN X7.here hx rfl (hb hby d12_34) rfl rfl) ?_
  refine Gb (fun _ => XS.dup X7.here hx rfl (hb hby d12_35) rfl rfl) ?_
  obtain ⟨T15, X15, e15, st15⟩ := getF X7 hx hZ hown (host := "") (Or.inl (wq hw 29 rfl)) Via.refl e7 f10 (g := (mkF m 36 (sh9 a0 x1 (0 : Int32)) [(.ref a0), (.ref a0)])) rfl rfl (hb hby d12_36)
  refine Gb st15 ?_
  refine Gb (fun _ => XS.iconst X15.here hx rfl (hb hby d12_39)) ?_
  refine Gb (fun _ => XS.isub X15.here hx rfl (hb hby d12_40) rfl) ?_
  obtain ⟨T16, h16, X16, e16, W16, st16⟩ := putF X15 hx hZ hown (host := "") (Or.inl (wq hw 29 rfl)) Via.refl e15 f10 f8 (Or.inl (wq hw 30 rfl)) (wq hw 1 rfl) (ty := .int) (by decide) rfl rfl (g := (mkF m 41 (sh9 a0 x1 (0 : Int32)) [(.int (1 : Int32)), (.ref a0)])) rfl rfl (hb hby d12_41)
  have f17 := f8.wr W16
  have f18 := f9.other W16 (Or.inr (slot_ne (Or.inl (wq hw 12 rfl)) (Or.inl (wq hw 30 rfl)) (by decide) (t := (.array (.object cH))) (t' := .int) (by decide) (by decide)))
  have f19 := f11.wr W16
  have f20 := f12.wr W16
  have f21 := f13.other W16 (Ne.symm Ne0)
  have f22 : Fld Z h16 a0 cD "count" "I" (.int (1 : Int32)) := f10.same W16
  have Kp16 : Keep h0 h16 [ar, a0] := Kp7.wr W16 (Or.inl om1)
  have Z23 := Nat.le_trans Z14 (Nat.le_of_eq W16.size.symm)
  have N24 := Fr.snoc X16 Nn7 Ge0
  refine Gb st16 ?_
  refine Gb (fun _ => XS.aloadN X16.here hx rfl (hb hby d12_44) rfl rfl) ?_
  obtain ⟨T25, X25, e25, st25⟩ := getF X16 hx hZ hown (host := "") (Or.inl (wq hw 11 rfl)) Via.refl e16 f18 (g := (mkF m 45 (sh9 a0 x1 (0 : Int32)) [(.ref a0)])) rfl rfl (hb hby d12_45)
  refine Gb st25 ?_
  refine Gb (fun _ => XS.aloadN X25.here hx rfl (hb hby d12_48) rfl rfl) ?_
  obtain ⟨T26, X26, e26, st26⟩ := getF X25 hx hZ hown (host := "") (Or.inl (wq hw 29 rfl)) Via.refl e25 f22 (g := (mkF m 49 (sh9 a0 x1 (0 : Int32)) [(.ref a0), (.ref ar)])) rfl rfl (hb hby d12_49)
  refine Gb st26 ?_
  refine Gb (fun _ => XS.aconstNull X26.here hx rfl (hb hby d12_52)) ?_
  obtain ⟨cl27, cl27A, cl27q, cl27S, cl27N, cl27H, cl27G⟩ := id f21
  have cl27I : ¬ ((1 : Int32) < 0 ∨ cl27.slots.size ≤ ((1 : Int32)).toNatClampNeg) := inb_of cl27S ⟨by decide, by decide⟩
  obtain ⟨T27, h27, X27, e27, W27, st27⟩ := stR X26 hx hZ e26 cl27A (j := (1 : Int32)) cl27I rfl (Or.inl rfl) (g := (mkF m 53 (sh9 a0 x1 (0 : Int32)) [.null, (.int (1 : Int32)), (.ref ar)])) rfl rfl (hb hby d12_53)
  have f28 := f17.wr W27
  have f29 := f18.other W27 (Or.inl Ne0)
  have f30 := f19.wr W27
  have f31 := f20.wr W27
  have f32 := f22.other W27 (Or.inl Ne0)
  have f33 : Arv Z h27 ar kA (.object cH) (4 : Int32) [(.ref x2), .null, .null, .null] .null := Arv.set cl27A cl27q cl27S cl27N cl27H cl27G rfl W27 1 rfl (Nat.le_of_ble_eq_true rfl)
  have Kp27 : Keep h0 h27 [ar, a0] := Kp16.wr W27 (Or.inl om0)
  have Z34 := Nat.le_trans Z23 (Nat.le_of_eq W27.size.symm)
  have N35 := Fr.snoc X27 N24 Ge1
  refine Gb st27 ?_
  refine Gb (fun _ => XS.aloadN X27.here hx rfl (hb hby d12_54) rfl rfl) ?_
  obtain ⟨_, T36, L36, Lc36, X36, hF36, hQ36, st36⟩ := own_cp X27 hx hZ hown (wq hw 81 rfl) (wq hw 83 rfl) (wq hw 1 rfl) (wq hw 82 rfl) (wq hw 2 rfl) (wq hw 84 rfl) (rmShrink l Z az hw [] a0 ar kA [(.ref x2), .null, .null, .null] h27 n0 Z34 f29 f33) (W := 0) (g := (mkF m 55 (sh9 a0 x1 (0 : Int32)) [(.ref a0)])) rfl (by rw [hml]; rfl) f28 (argsL := []) (rest := []) rfl (lenOf own_pd0 rfl) rfl (hb hby d12_55) e27 N35 (c' := 0) (s' := 0)
  obtain ⟨rfl, N36q, e36⟩ := hQ36
  have N37 := hF36 N36q
  refine Gb st36 ?_
  obtain ⟨fs, hr, hrun, hended, hW, hsame⟩ := X36.leave (v := none) (fun _ => rfl)
  refine Goes.mk _ _ ?_ ⟨hrun, hended, _, _, rfl, ?_, ⟨_, rfl⟩, hW, hsame.mono (by decide) (by decide)⟩
  · exact X36.returnOut hx Bd.returns (hb hby d12_58) hr
  · show QDrop2_1 Z a0 x1 ar kA x2 t1 t2 h0 n0 _ T36.heap _
    rw [e36]
    exact ⟨rfl, N37, Kp27, f29, f32, f33⟩
def QDrop2_2 (Z : State) (a0 : Addr) (x2 : Addr) (ar : Addr) (kA : ClassId) (x1 : Addr) (t1 : Int64) (t2 : Int64) (h0 : Heap) (n0 : Nat) (v : Option Value) (h : Heap) (L : List Loc) : Prop := v = none ∧ Fr n0 L ∧ Keep h0 h [ar, a0] ∧ Fld Z h a0 cD "heads" dA (.ref ar) ∧ Fld Z h a0 cD "count" "I" (.int (1 : Int32)) ∧ Arv Z h ar kA (.object cH) (4 : Int32) [(.ref x1), .null, .null, .null] .null
theorem efDrop2_2 (m : MethodId) (x0 : Addr) (x1 : Addr) : entryFrame m #[(.ref x0), (.ref x1)] 3 = mkF m 0 #[.val (.ref x0), .val (.ref x1), .unset] [] := by first | (simp [entryFrame, mkF, argsToLocals, Value.category]; done) | rfl
set_option maxRecDepth 65536 in
set_option maxHeartbeats 40000000 in
theorem rmDrop2_2 (l : Launch) (Z : State) (az : Array Value) (hw : ∀ d ∈ tables_1, d.before az Z = true) (ws : List Jvm.Cond) (a0 : Addr) (x2 : Addr) (ar : Addr) (kA : ClassId) (x1 : Addr) (t1 : Int64) (t2 : Int64) (h0 : Heap) (n0 : Nat) (Z0 : n0 ≤ h0.size) (F0 : Exa Z h0 a0 cD) (F1 : Fld Z h0 a0 cD "heads" dA (.ref ar)) (F2 : Fld Z h0 a0 cD "count" "I" (.int (2 : Int32))) (F3 : Arv Z h0 ar kA (.object cH) (4 : Int32) [(.ref x1), (.ref x2), .null, .null] .null) (F4 : Ovr Z kA cH) (F5 : Exa Z h0 x1 cH) (F6 : Fld Z h0 x1 cH "tick" "J" (.long t1)) (F7 : Exa Z h0 x2 cH) (F8 : Fld Z h0 x2 cH "tick" "J" (.long t2)) (Ne0 : a0 ≠ ar) (Ne1 : x1 ≠ a0) (Ne2 : x2 ≠ a0) (Ne3 : x1 ≠ ar) (Ne4 : x2 ≠ ar) (Ge0 : n0 ≤ a0) (Ge1 : n0 ≤ ar) (HD : fDue2 t2 t1 t2 = (2 : Int32)) :
    MetFree l y9 (head1 (Jvm.Cond.code y9 prog_4_method_9_code 3 none :: ws) ({ frames := 1, cells := 0, slots := 0, locals := 18 } : Room)) (fun a U => a = #[(.ref a0), (.ref x2)] ∧ Z.Warmed39 U.vm ∧ U.heap = h0) (fun _ _ _ _ _ => True) (fun _ U o U' => ∃ v L, o = .returned v ∧ QDrop2_2 Z a0 x2 ar kA x1 t1 t2 h0 n0 v U'.heap L ∧ FrameEnd U o U' L ({ frames := 1, cells := 0, slots := 0, locals := 18 } : Room).cells ({ frames := 1, cells := 0, slots := 0, locals := 18 } : Room).slots) := by
  refine MetFree.of_bodySF (plainFor_of_name own_pn_com_example_admit_one_admitone_engine_DueOrder) hisR ?_
  intro p e s m args below meth c s₁ Bd hml0 hP hK
  obtain ⟨rfl, hZ, hh⟩ := hP
  have hx := Bd.exec
  have hby := Bd.bytes
  have hml : c.maxLocals = 3 := hml0
  have hown : s.vm.findClass cD = some m.cls := findClass_of_methodNamed Bd.named
  have hnm := (name_of_methodNamed Bd.named Bd.method).1
  have X0 : Stand p l e ({ frames := 1, cells := 0, slots := 0, locals := 18 } : Room) s m #[(.ref a0), (.ref x2)] below meth c s₁ [] 0 0 := Stand.of_body Bd
  have e0 : s₁.heap = h0 := by rw [← hh, Bd.state]; rfl
  have N0 := Fr.nil n0
  have Kp0 : Keep h0 h0 [ar, a0] := Keep.refl _ _
  refine Goes.start ?_
  refine Gb (B := s₁.setTop (mkF m 0 #[.val (.ref a0), .val (.ref x2), .unset] [])) (fun t k => castTop (efDrop2_2 m a0 x2) k) ?_
  refine Gb (fun _ => XS.aloadN X0.here hx rfl (hb hby d12_0) rfl rfl) ?_
  refine Gb (fun _ => XS.aloadN X0.here hx rfl (hb hby d12_1) rfl rfl) ?_
  refine Gb (fun _ => getFR X0 hx hZ hown (wq hw 57 rfl) e0 F8 (g := (mkF m 2 (sh8 a0 x2) [(.ref x2), (.ref a0)])) rfl rfl (hb hby d12_2)) ?_
  obtain ⟨_, T2, L2, Lc2, X2, hF2, hQ2, st2⟩ := own_cp X0 hx hZ hown (wq hw 31 rfl) (wq hw 33 rfl) (wq hw 1 rfl) (wq hw 32 rfl) (wq hw 2 rfl) (wq hw 34 rfl) (rmDue2 l Z az hw [] a0 t2 ar kA x1 x2 t1 t2 h0 n0 Z0 F0 F1 F2 F3 F4 F5 F6 F7 F8) (W := 0) (g := (mkF m 5 (sh8 a0 x2) [(.long t2), (.ref a0)])) rfl (by rw [hml]; rfl) F0 (argsL := [(.long t2)]) (rest := []) rfl (lenOf own_pd1 rfl) rfl (hb hby d12_5) e0 N0 (c' := 0) (s' := 0)
  obtain ⟨rfl, N2q, e2⟩ := hQ2
  have N3 := hF2 N2q
  refine Gb st2 ?_
  rw [HD]
  show Goes p.tables e below _ (T2.setTop (mkF m 8 (sh8 a0 x2) [(.int (2 : Int32))]))
  refine Gb (fun _ => XS.iconst X2.here hx rfl (hb hby d12_8)) ?_
  refine Gb (fun _ => XS.isub X2.here hx rfl (hb hby d12_9) rfl) ?_
  refine Gb (fun _ => XS.istoreN X2.here hx rfl (hb hby d12_10) rfl (l' := (sh9 a0 x2 (1 : Int32))) rfl) ?_
  refine Gb (fun _ => XS.aloadN X2.here hx rfl (hb hby d12_11) rfl rfl) ?_
  obtain ⟨T4, X4, e4, st4⟩ := getF X2 hx hZ hown (host := "") (Or.inl (wq hw 11 rfl)) Via.refl e2 F1 (g := (mkF m 12 (sh9 a0 x2 (1 : Int32)) [(.ref a0)])) rfl rfl (hb hby d12_12)
  refine Gb st4 ?_
  refine Gb (fun _ => XS.iloadN X4.here hx rfl (hb hby d12_15) rfl) ?_
  refine Gb (fun _ => XS.iconst X4.here hx rfl (hb hby d12_16)) ?_
  refine Gb (fun _ => XS.iadd X4.here hx rfl (hb hby d12_17) rfl) ?_
  refine Gb (fun _ => XS.aloadN X4.here hx rfl (hb hby d12_18) rfl rfl) ?_
  obtain ⟨T5, X5, e5, st5⟩ := getF X4 hx hZ hown (host := "") (Or.inl (wq hw 11 rfl)) Via.refl e4 F1 (g := (mkF m 19 (sh9 a0 x2 (1 : Int32)) [(.ref a0), (.int (2 : Int32)), (.ref ar)])) rfl rfl (hb hby d12_19)
  refine Gb st5 ?_
  refine Gb (fun _ => XS.iloadN X5.here hx rfl (hb hby d12_22) rfl) ?_
  refine Gb (fun _ => XS.aloadN X5.here hx rfl (hb hby d12_23) rfl rfl) ?_
  obtain ⟨T6, X6, e6, st6⟩ := getF X5 hx hZ hown (host := "") (Or.inl (wq hw 29 rfl)) Via.refl e5 F2 (g := (mkF m 24 (sh9 a0 x2 (1 : Int32)) [(.ref a0), (.int (1 : Int32)), (.ref ar), (.int (2 : Int32)), (.ref ar)])) rfl rfl (hb hby d12_24)
  refine Gb st6 ?_
  refine Gb (fun _ => XS.iloadN X6.here hx rfl (hb hby d12_27) rfl) ?_
  refine Gb (fun _ => XS.isub X6.here hx rfl (hb hby d12_28) rfl) ?_
  refine Gb (fun _ => XS.iconst X6.here hx rfl (hb hby d12_29)) ?_
  refine Gb (fun _ => XS.isub X6.here hx rfl (hb hby d12_30) rfl) ?_
  obtain ⟨T7, h7, L7, X7, e7, Nn7, K7, V7, st7⟩ := cpA X6 hx hZ hown (wq hw 35 rfl) (wq hw 38 rfl) (wq hw 36 rfl) (wq hw 37 rfl) e6 (us := []) F3 F3 (Or.inr ⟨rfl, rfl, trivial⟩) (sp := (2 : Int32)) (dp := (1 : Int32)) (nn := (0 : Int32)) (by decide) (by decide) (by decide) (by decide) (by decide) rfl (Nat.le_of_ble_eq_true rfl) N3 Ge1 (g := (mkF m 31 (sh9 a0 x2 (1 : Int32)) [(.int (0 : Int32)), (.int (1 : Int32)), (.ref ar), (.int (2 : Int32)), (.ref ar)])) rfl (by rw [hml]; rfl) rfl (hb hby d12_31) (by decide) (W := 0) (by show 2 * 0 + _ ≤ _; exact Nat.le_of_eq rfl) (by decide)
  have f8 := F0.keep K7
  have f9 := F1.keep K7 (ninS Ne0 nin0)
  have f10 := F2.keep K7 (ninS Ne0 nin0)
  have f11 := F5.keep K7
  have f12 := F7.keep K7
  have f13 : Arv Z h7 ar kA (.object cH) (4 : Int32) [(.ref x1), (.ref x2), .null, .null] .null := V7
  have Kp7 : Keep h0 h7 [ar, a0] := Kp0.trans K7 (allS (Or.inl om0) all0)
  have Z14 := Nat.le_trans Z0 K7.1
  refine Gb st7 ?_
  refine Gb (fun _ => XS.aloadN X7.here hx rfl (hb hby d12_34) rfl rfl) ?_
  refine Gb (fun _ => XS.dup X7.here hx rfl (hb hby d12_35) rfl rfl) ?_
  obtain ⟨T15, X15, e15, st15⟩ := getF X7 hx hZ hown (host := "") (Or.inl (wq hw 29 rfl)) Via.refl e7 f10 (g := (mkF m 36 (sh9 a0 x2 (1 : Int32)) [(.ref a0), (.ref a0)])) rfl rfl (hb hby d12_36)
  refine Gb st15 ?_
  refine Gb (fun _ => XS.iconst X15.here hx rfl (hb hby d12_39)) ?_
  refine Gb (fun _ => XS.isub X15.here hx rfl (hb hby d12_40) rfl) ?_
  obtain ⟨T16, h16, X16, e16, W16, st16⟩ := putF X15 hx hZ hown (host := "") (Or.inl (wq hw 29 rfl)) Via.refl e15 f10 f8 (Or.inl (wq hw 30 rfl)) (wq hw 1 rfl) (ty := .int) (by decide) rfl rfl (g := (mkF m 41 (sh9 a0 x2 (1 : Int32)) [(.int (1 : Int32)), (.ref a0)])) rfl rfl (hb hby d12_41)
  have f17 := f8.wr W16
  have f18 := f9.other W16 (Or.inr (slot_ne (Or.inl (wq hw 12 rfl)) (Or.inl (wq hw 30 rfl)) (by decide) (t := (.array (.object cH))) (t' := .int) (by decide) (by decide)))
  have f19 := f11.wr W16
  have f20 := f12.wr W16
  have f21 := f13.other W16 (Ne.symm Ne0)
  have f22 : Fld Z h16 a0 cD "count" "I" (.int (1 : Int32)) := f10.same W16
  have Kp16 : Keep h0 h16 [ar, a0] := Kp7.wr W16 (Or.inl om1)
  have Z23 := Nat.le_trans Z14 (Nat.le_of_eq W16.size.symm)
  have N24 := Fr.snoc X16 Nn7 Ge0
  refine Gb st16 ?_
  refine Gb (fun _ => XS.aloadN X16.here hx rfl (hb hby d12_44) rfl rfl) ?_
  obtain ⟨T25, X25, e25, st25⟩ := getF X16 hx hZ hown (host := "") (Or.inl (wq hw 11 rfl)) Via.refl e16 f18 (g := (mkF m 45 (sh9 a0 x2 (1 : Int32)) [(.ref a0)])) rfl rfl (hb hby d12_45)
  refine Gb st25 ?_
  refine Gb (fun _ => XS.aloadN X25.here hx rfl (hb hby d12_48) rfl rfl) ?_
  obtain ⟨T26, X26, e26, st26⟩ := getF X25 hx hZ hown (host := "") (Or.inl (wq hw 29 rfl)) Via.refl e25 f22 (g := (mkF m 49 (sh9 a0 x2 (1 : Int32)) [(.ref a0), (.ref ar)])) rfl rfl (hb hby d12_49)
  refine Gb st26 ?_
  refine Gb (fun _ => XS.aconstNull X26.here hx rfl (hb hby d12_52)) ?_
  obtain ⟨cl27, cl27A, cl27q, cl27S, cl27N, cl27H, cl27G⟩ := id f21
  have cl27I : ¬ ((1 : Int32) < 0 ∨ cl27.slots.size ≤ ((1 : Int32)).toNatClampNeg) := inb_of cl27S ⟨by decide, by decide⟩
  obtain ⟨T27, h27, X27, e27, W27, st27⟩ := stR X26 hx hZ e26 cl27A (j := (1 : Int32)) cl27I rfl (Or.inl rfl) (g := (mkF m 53 (sh9 a0 x2 (1 : Int32)) [.null, (.int (1 : Int32)), (.ref ar)])) rfl rfl (hb hby d12_53)
  have f28 := f17.wr W27
  have f29 := f18.other W27 (Or.inl Ne0)
  have f30 := f19.wr W27
  have f31 := f20.wr W27
  have f32 := f22.other W27 (Or.inl Ne0)
  have f33 : Arv Z h27 ar kA (.object cH) (4 : Int32) [(.ref x1), .null, .null, .null] .null := Arv.set cl27A cl27q cl27S cl27N cl27H cl27G rfl W27 1 rfl (Nat.le_of_ble_eq_true rfl)
  have Kp27 : Keep h0 h27 [ar, a0] := Kp16.wr W27 (Or.inl om0)
  have Z34 := Nat.le_trans Z23 (Nat.le_of_eq W27.size.symm)
  have N35 := Fr.snoc X27 N24 Ge1
  refine Gb st27 ?_
  refine Gb (fun _ => XS.aloadN X27.here hx rfl (hb hby d12_54) rfl rfl) ?_
  obtain ⟨_, T36, L36, Lc36, X36, hF36, hQ36, st36⟩ := own_cp X27 hx hZ hown (wq hw 81 rfl) (wq hw 83 rfl) (wq hw 1 rfl) (wq hw 82 rfl) (wq hw 2 rfl) (wq hw 84 rfl) (rmShrink l Z az hw [] a0 ar kA [(.ref x1), .null, .null, .null] h27 n0 Z34 f29 f33) (W := 0) (g := (mkF m 55 (sh9 a0 x2 (1 : Int32)) [(.ref a0)])) rfl (by rw [hml]; rfl) f28 (argsL := []) (rest := []) rfl (lenOf own_pd0 rfl) rfl (hb hby d12_55) e27 N35 (c' := 0) (s' := 0)
  obtain ⟨rfl, N36q, e36⟩ := hQ36
  have N37 := hF36 N36q
  refine Gb st36 ?_
  obtain ⟨fs, hr, hrun, hended, hW, hsame⟩ := X36.leave (v := none) (fun _ => rfl)
  refine Goes.mk _ _ ?_ ⟨hrun, hended, _, _, rfl, ?_, ⟨_, rfl⟩, hW, hsame.mono (by decide) (by decide)⟩
  · exact X36.returnOut hx Bd.returns (hb hby d12_58) hr
  · show QDrop2_2 Z a0 x2 ar kA x1 t1 t2 h0 n0 _ T36.heap _
    rw [e36]
    exact ⟨rfl, N37, Kp27, f29, f32, f33⟩
def QDrop3_1 (Z : State) (a0 : Addr) (x1 : Addr) (ar : Addr) (kA : ClassId) (x2 : Addr) (x3 : Addr) (t1 : Int64) (t2 : Int64) (t3 : Int64) (h0 : Heap) (n0 : Nat) (v : Option Value) (h : Heap) (L : List Loc) : Prop := v = none ∧ Fr n0 L ∧ Keep h0 h [ar, a0] ∧ Fld Z h a0 cD "heads" dA (.ref ar) ∧ Fld Z h a0 cD "count" "I" (.int (2 : Int32)) ∧ Arv Z h ar kA (.object cH) (4 : Int32) [(.ref x2), (.ref x3), .null, .null] .null
theorem efDrop3_1 (m : MethodId) (x0 : Addr) (x1 : Addr) : entryFrame m #[(.ref x0), (.ref x1)] 3 = mkF m 0 #[.val (.ref x0), .val (.ref x1), .unset] [] := by first | (simp [entryFrame, mkF, argsToLocals, Value.category]; done) | rfl
set_option maxRecDepth 65536 in
set_option maxHeartbeats 40000000 in
theorem rmDrop3_1 (l : Launch) (Z : State) (az : Array Value) (hw : ∀ d ∈ tables_1, d.before az Z = true) (ws : List Jvm.Cond) (a0 : Addr) (x1 : Addr) (ar : Addr) (kA : ClassId) (x2 : Addr) (x3 : Addr) (t1 : Int64) (t2 : Int64) (t3 : Int64) (h0 : Heap) (n0 : Nat) (Z0 : n0 ≤ h0.size) (F0 : Exa Z h0 a0 cD) (F1 : Fld Z h0 a0 cD "heads" dA (.ref ar)) (F2 : Fld Z h0 a0 cD "count" "I" (.int (3 : Int32))) (F3 : Arv Z h0 ar kA (.object cH) (4 : Int32) [(.ref x1), (.ref x2), (.ref x3), .null] .null) (F4 : Ovr Z kA cH) (F5 : Exa Z h0 x1 cH) (F6 : Fld Z h0 x1 cH "tick" "J" (.long t1)) (F7 : Exa Z h0 x2 cH) (F8 : Fld Z h0 x2 cH "tick" "J" (.long t2)) (F9 : Exa Z h0 x3 cH) (F10 : Fld Z h0 x3 cH "tick" "J" (.long t3)) (Ne0 : a0 ≠ ar) (Ne1 : x1 ≠ a0) (Ne2 : x2 ≠ a0) (Ne3 : x3 ≠ a0) (Ne4 : x1 ≠ ar) (Ne5 : x2 ≠ ar) (Ne6 : x3 ≠ ar) (Ge0 : n0 ≤ a0) (Ge1 : n0 ≤ ar) (HD : fDue3 t1 t1 t2 t3 = (1 : Int32)) :
    MetFree l y9 (head1 (Jvm.Cond.code y9 prog_4_method_9_code 3 none :: ws) ({ frames := 1, cells := 0, slots := 0, locals := 18 } : Room)) (fun a U => a = #[(.ref a0), (.ref x1)] ∧ Z.Warmed39 U.vm ∧ U.heap = h0) (fun _ _ _ _ _ => True) (fun _ U o U' => ∃ v L, o = .returned v ∧ QDrop3_1 Z a0 x1 ar kA x2 x3 t1 t2 t3 h0 n0 v U'.heap L ∧ FrameEnd U o U' L ({ frames := 1, cells := 0, slots := 0, locals := 18 } : Room).cells ({ frames := 1, cells := 0, slots := 0, locals := 18 } : Room).slots) := by
  refine MetFree.of_bodySF (plainFor_of_name own_pn_com_example_admit_one_admitone_engine_DueOrder) hisR ?_
  intro p e s m args below meth c s₁ Bd hml0 hP hK
  obtain ⟨rfl, hZ, hh⟩ := hP
  have hx := Bd.exec
  have hby := Bd.bytes
  have hml : c.maxLocals = 3 := hml0
  have hown : s.vm.findClass cD = some m.cls := findClass_of_methodNamed Bd.named
  have hnm := (name_of_methodNamed Bd.named Bd.method).1
  have X0 : Stand p l e ({ frames := 1, cells := 0, slots := 0, locals := 18 } : Room) s m #[(.ref a0), (.ref x1)] below meth c s₁ [] 0 0 := Stand.of_body Bd
  have e0 : s₁.heap = h0 := by rw [← hh, Bd.state]; rfl
  have N0 := Fr.nil n0
  have Kp0 : Keep h0 h0 [ar, a0] := Keep.refl _ _
  refine Goes.start ?_
  refine Gb (B := s₁.setTop (mkF m 0 #[.val (.ref a0), .val (.ref x1), .unset] [])) (fun t k => castTop (efDrop3_1 m a0 x1) k) ?_
  refine Gb (fun _ => XS.aloadN X0.here hx rfl (hb hby d12_0) rfl rfl) ?_
  refine Gb (fun _ => XS.aloadN X0.here hx rfl (hb hby d12_1) rfl rfl) ?_
  refine Gb (fun _ => getFR X0 hx hZ hown (wq hw 57 rfl) e0 F6 (g := (mkF m 2 (sh8 a0 x1) [(.ref x1), (.ref a0)])) rfl rfl (hb hby d12_2)) ?_
  obtain ⟨_, T2, L2, Lc2, X2, hF2, hQ2, st2⟩ := own_cp X0 hx hZ hown (wq hw 31 rfl) (wq hw 33 rfl) (wq hw 1 rfl) (wq hw 32 rfl) (wq hw 2 rfl) (wq hw 34 rfl) (rmDue3 l Z az hw [] a0 t1 ar kA x1 x2 x3 t1 t2 t3 h0 n0 Z0 F0 F1 F2 F3 F4 F5 F6 F7 F8 F9 F10) (W := 0) (g := (mkF m 5 (sh8 a0 x1) [(.long t1), (.ref a0)])) rfl (by rw [hml]; rfl) F0 (argsL := [(.long t1)]) (rest := []) rfl (lenOf own_pd1 rfl) rfl (hb hby d12_5) e0 N0 (c' := 0) (s' := 0)
  obtain ⟨rfl, N2q, e2⟩ := hQ2
  have N3 := hF2 N2q
  refine Gb st2 ?_
  rw [HD]
  show Goes p.tables e below _ (T2.setTop (mkF m 8 (sh8 a0 x1) [(.int (1 : Int32))]))
  refine Gb (fun _ => XS.iconst X2.here hx rfl (hb hby d12_8)) ?_
  refine Gb (fun _ => XS.isub X2.here hx rfl (hb hby d12_9) rfl) ?_
  refine Gb (fun _ => XS.istoreN X2.here hx rfl (hb hby d12_10) rfl (l' := (sh9 a0 x1 (0 : Int32))) rfl) ?_
  refine Gb (fun _ => XS.aloadN X2.here hx rfl (hb hby d12_11) rfl rfl) ?_
  obtain ⟨T4, X4, e4, st4⟩ := getF X2 hx hZ hown (host := "") (Or.inl (wq hw 11 rfl)) Via.refl e2 F1 (g := (mkF m 12 (sh9 a0 x1 (0 : Int32)) [(.ref a0)])) rfl rfl (hb hby d12_12)
  refine Gb st4 ?_
  refine Gb (fun _ => XS.iloadN X4.here hx rfl (hb hby d12_15) rfl) ?_
  refine Gb (fun _ => XS.iconst X4.here hx rfl (hb hby d12_16)) ?_
  refine Gb (fun _ => XS.iadd X4.here hx rfl (hb hby d12_17) rfl) ?_
  refine Gb (fun _ => XS.aloadN X4.here hx rfl (hb hby d12_18) rfl rfl) ?_
  obtain ⟨T5, X5, e5, st5⟩ := getF X4 hx hZ hown (host := "") (Or.inl (wq hw 11 rfl)) Via.refl e4 F1 (g := (mkF m 19 (sh9 a0 x1 (0 : Int32)) [(.ref a0), (.int (1 : Int32)), (.ref ar)])) rfl rfl (hb hby d12_19)
  refine Gb st5 ?_
  refine Gb (fun _ => XS.iloadN X5.here hx rfl (hb hby d12_22) rfl) ?_
  refine Gb (fun _ => XS.aloadN X5.here hx rfl (hb hby d12_23) rfl rfl) ?_
  obtain ⟨T6, X6, e6, st6⟩ := getF X5 hx hZ hown (host := "") (Or.inl (wq hw 29 rfl)) Via.refl e5 F2 (g := (mkF m 24 (sh9 a0 x1 (0 : Int32)) [(.ref a0), (.int (0 : Int32)), (.ref ar), (.int (1 : Int32)), (.ref ar)])) rfl rfl (hb hby d12_24)
  refine Gb st6 ?_
  refine Gb (fun _ => XS.iloadN X6.here hx rfl (hb hby d12_27) rfl) ?_
  refine Gb (fun _ => XS.isub X6.here hx rfl (hb hby d12_28) rfl) ?_
  refine Gb (fun _ => XS.iconst X6.here hx rfl (hb hby d12_29)) ?_
  refine Gb (fun _ => XS.isub X6.here hx rfl (hb hby d12_30) rfl) ?_
  obtain ⟨cl7, cl7A, cl7q, -, -, -, -⟩ := id F3
  obtain ⟨T7, h7, L7, X7, e7, Nn7, K7, V7, st7⟩ := cpA X6 hx hZ hown (wq hw 35 rfl) (wq hw 38 rfl) (wq hw 36 rfl) (wq hw 37 rfl) e6 (us := [(.ref x2), (.ref x3)]) F3 F3 (Or.inr ⟨rfl, rfl, ⟨Sto.ofV cl7A cl7q F4 (Ins.self F7), ⟨Sto.ofV cl7A cl7q F4 (Ins.self F9), trivial⟩⟩⟩) (sp := (1 : Int32)) (dp := (0 : Int32)) (nn := (2 : Int32)) (by decide) (by decide) (by decide) (by decide) (by decide) rfl (Nat.le_of_ble_eq_true rfl) N3 Ge1 (g := (mkF m 31 (sh9 a0 x1 (0 : Int32)) [(.int (2 : Int32)), (.int (0 : Int32)), (.ref ar), (.int (1 : Int32)), (.ref ar)])) rfl (by rw [hml]; rfl) rfl (hb hby d12_31) (by decide) (W := 0) (by show 2 * 0 + _ ≤ _; exact Nat.le_of_eq rfl) (by decide)
  have f8 := F0.keep K7
  have f9 := F1.keep K7 (ninS Ne0 nin0)
  have f10 := F2.keep K7 (ninS Ne0 nin0)
  have f11 := F5.keep K7
  have f12 := F7.keep K7
  have f13 := F9.keep K7
  have f14 : Arv Z h7 ar kA (.object cH) (4 : Int32) [(.ref x2), (.ref x3), (.ref x3), .null] .null := V7
  have Kp7 : Keep h0 h7 [ar, a0] := Kp0.trans K7 (allS (Or.inl om0) all0)
  have Z15 := Nat.le_trans Z0 K7.1
  refine Gb st7 ?_
  refine Gb (fun _ => XS.aloadN X7.here hx rfl (hb hby d12_34) rfl rfl) ?_
  refine Gb (fun _ => XS.dup X7.here hx rfl (hb hby d12_35) rfl rfl) ?_
  obtain ⟨T16, X16, e16, st16⟩ := getF X7 hx hZ hown (host := "") (Or.inl (wq hw 29 rfl)) Via.refl e7 f10 (g := (mkF m 36 (sh9 a0 x1 (0 : Int32)) [(.ref a0), (.ref a0)])) rfl rfl (hb hby d12_36)
  refine Gb st16 ?_
  refine Gb (fun _ => XS.iconst X16.here hx rfl (hb hby d12_39)) ?_
  refine Gb (fun _ => XS.isub X16.here hx rfl (hb hby d12_40) rfl) ?_
  obtain ⟨T17, h17, X17, e17, W17, st17⟩ := putF X16 hx hZ hown (host := "") (Or.inl (wq hw 29 rfl)) Via.refl e16 f10 f8 (Or.inl (wq hw 30 rfl)) (wq hw 1 rfl) (ty := .int) (by decide) rfl rfl (g := (mkF m 41 (sh9 a0 x1 (0 : Int32)) [(.int (2 : Int32)), (.ref a0)])) rfl rfl (hb hby d12_41)
  have f18 := f8.wr W17
  have f19 := f9.other W17 (Or.inr (slot_ne (Or.inl (wq hw 12 rfl)) (Or.inl (wq hw 30 rfl)) (by decide) (t := (.array (.object cH))) (t' := .int) (by decide) (by decide)))
  have f20 := f11.wr W17
  have f21 := f12.wr W17
  have f22 := f13.wr W17
  have f23 := f14.other W17 (Ne.symm Ne0)
  have f24 : Fld Z h17 a0 cD "count" "I" (.int (2 : Int32)) := f10.same W17
  have Kp17 : Keep h0 h17 [ar, a0] := Kp7.wr W17 (Or.inl om1)
  have Z25 := Nat.le_trans Z15 (Nat.le_of_eq W17.size.symm)
  have N26 := Fr.snoc X17 Nn7 Ge0
  refine Gb st17 ?_
  refine Gb (fun _ => XS.aloadN X17.here hx rfl (hb hby d12_44) rfl rfl) ?_
  obtain ⟨T27, X27, e27, st27⟩ := getF X17 hx hZ hown (host := "") (Or.inl (wq hw 11 rfl)) Via.refl e17 f19 (g := (mkF m 45 (sh9 a0 x1 (0 : Int32)) [(.ref a0)])) rfl rfl (hb hby d12_45)
  refine Gb st27 ?_
  refine Gb (fun _ => XS.aloadN X27.here hx rfl (hb hby d12_48) rfl rfl) ?_
  obtain ⟨T28, X28, e28, st28⟩ := getF X27 hx hZ hown (host := "") (Or.inl (wq hw 29 rfl)) Via.refl e27 f24 (g := (mkF m 49 (sh9 a0 x1 (0 : Int32)) [(.ref a0), (.ref ar)])) rfl rfl (hb hby d12_49)
  refine Gb st28 ?_
  refine Gb (fun _ => XS.aconstNull X28.here hx rfl (hb hby d12_52)) ?_
  obtain ⟨cl29, cl29A, cl29q, cl29S, cl29N, cl29H, cl29G⟩ := id f23
  have cl29I : ¬ ((2 : Int32) < 0 ∨ cl29.slots.size ≤ ((2 : Int32)).toNatClampNeg) := inb_of cl29S ⟨by decide, by decide⟩
  obtain ⟨T29, h29, X29, e29, W29, st29⟩ := stR X28 hx hZ e28 cl29A (j := (2 : Int32)) cl29I rfl (Or.inl rfl) (g := (mkF m 53 (sh9 a0 x1 (0 : Int32)) [.null, (.int (2 : Int32)), (.ref ar)])) rfl rfl (hb hby d12_53)
  have f30 := f18.wr W29
  have f31 := f19.other W29 (Or.inl Ne0)
  have f32 := f20.wr W29
  have f33 := f21.wr W29
  have f34 := f22.wr W29
  have f35 := f24.other W29 (Or.inl Ne0)
  have f36 : Arv Z h29 ar kA (.object cH) (4 : Int32) [(.ref x2), (.ref x3), .null, .null] .null := Arv.set cl29A cl29q cl29S cl29N cl29H cl29G rfl W29 2 rfl (Nat.le_of_ble_eq_true rfl)
  have Kp29 : Keep h0 h29 [ar, a0] := Kp17.wr W29 (Or.inl om0)
  have Z37 := Nat.le_trans Z25 (Nat.le_of_eq W29.size.symm)
  have N38 := Fr.snoc X29 N26 Ge1
  refine Gb st29 ?_
  refine Gb (fun _ => XS.aloadN X29.here hx rfl (hb hby d12_54) rfl rfl) ?_
  obtain ⟨_, T39, L39, Lc39, X39, hF39, hQ39, st39⟩ := own_cp X29 hx hZ hown (wq hw 81 rfl) (wq hw 83 rfl) (wq hw 1 rfl) (wq hw 82 rfl) (wq hw 2 rfl) (wq hw 84 rfl) (rmShrink l Z az hw [] a0 ar kA [(.ref x2), (.ref x3), .null, .null] h29 n0 Z37 f31 f36) (W := 0) (g := (mkF m 55 (sh9 a0 x1 (0 : Int32)) [(.ref a0)])) rfl (by rw [hml]; rfl) f30 (argsL := []) (rest := []) rfl (lenOf own_pd0 rfl) rfl (hb hby d12_55) e29 N38 (c' := 0) (s' := 0)
  obtain ⟨rfl, N39q, e39⟩ := hQ39
  have N40 := hF39 N39q
  refine Gb st39 ?_
  obtain ⟨fs, hr, hrun, hended, hW, hsame⟩ := X39.leave (v := none) (fun _ => rfl)
  refine Goes.mk _ _ ?_ ⟨hrun, hended, _, _, rfl, ?_, ⟨_, rfl⟩, hW, hsame.mono (by decide) (by decide)⟩
  · exact X39.returnOut hx Bd.returns (hb hby d12_58) hr
  · show QDrop3_1 Z a0 x1 ar kA x2 x3 t1 t2 t3 h0 n0 _ T39.heap _
    rw [e39]
    exact ⟨rfl, N40, Kp29, f31, f35, f36⟩
def QDrop3_2 (Z : State) (a0 : Addr) (x2 : Addr) (ar : Addr) (kA : ClassId) (x1 : Addr) (x3 : Addr) (t1 : Int64) (t2 : Int64) (t3 : Int64) (h0 : Heap) (n0 : Nat) (v : Option Value) (h : Heap) (L : List Loc) : Prop := v = none ∧ Fr n0 L ∧ Keep h0 h [ar, a0] ∧ Fld Z h a0 cD "heads" dA (.ref ar) ∧ Fld Z h a0 cD "count" "I" (.int (2 : Int32)) ∧ Arv Z h ar kA (.object cH) (4 : Int32) [(.ref x1), (.ref x3), .null, .null] .null
theorem efDrop3_2 (m : MethodId) (x0 : Addr) (x1 : Addr) : entryFrame m #[(.ref x0), (.ref x1)] 3 = mkF m 0 #[.val (.ref x0), .val (.ref x1), .unset] [] := by first | (simp [entryFrame, mkF, argsToLocals, Value.category]; done) | rfl
set_option maxRecDepth 65536 in
set_option maxHeartbeats 40000000 in
theorem rmDrop3_2 (l : Launch) (Z : State) (az : Array Value) (hw : ∀ d ∈ tables_1, d.before az Z = true) (ws : List Jvm.Cond) (a0 : Addr) (x2 : Addr) (ar : Addr) (kA : ClassId) (x1 : Addr) (x3 : Addr) (t1 : Int64) (t2 : Int64) (t3 : Int64) (h0 : Heap) (n0 : Nat) (Z0 : n0 ≤ h0.size) (F0 : Exa Z h0 a0 cD) (F1 : Fld Z h0 a0 cD "heads" dA (.ref ar)) (F2 : Fld Z h0 a0 cD "count" "I" (.int (3 : Int32))) (F3 : Arv Z h0 ar kA (.object cH) (4 : Int32) [(.ref x1), (.ref x2), (.ref x3), .null] .null) (F4 : Ovr Z kA cH) (F5 : Exa Z h0 x1 cH) (F6 : Fld Z h0 x1 cH "tick" "J" (.long t1)) (F7 : Exa Z h0 x2 cH) (F8 : Fld Z h0 x2 cH "tick" "J" (.long t2)) (F9 : Exa Z h0 x3 cH) (F10 : Fld Z h0 x3 cH "tick" "J" (.long t3)) (Ne0 : a0 ≠ ar) (Ne1 : x1 ≠ a0) (Ne2 : x2 ≠ a0) (Ne3 : x3 ≠ a0) (Ne4 : x1 ≠ ar) (Ne5 : x2 ≠ ar) (Ne6 : x3 ≠ ar) (Ge0 : n0 ≤ a0) (Ge1 : n0 ≤ ar) (HD : fDue3 t2 t1 t2 t3 = (2 : Int32)) :
    MetFree l y9 (head1 (Jvm.Cond.code y9 prog_4_method_9_code 3 none :: ws) ({ frames := 1, cells := 0, slots := 0, locals := 18 } : Room)) (fun a U => a = #[(.ref a0), (.ref x2)] ∧ Z.Warmed39 U.vm ∧ U.heap = h0) (fun _ _ _ _ _ => True) (fun _ U o U' => ∃ v L, o = .returned v ∧ QDrop3_2 Z a0 x2 ar kA x1 x3 t1 t2 t3 h0 n0 v U'.heap L ∧ FrameEnd U o U' L ({ frames := 1, cells := 0, slots := 0, locals := 18 } : Room).cells ({ frames := 1, cells := 0, slots := 0, locals := 18 } : Room).slots) := by
  refine MetFree.of_bodySF (plainFor_of_name own_pn_com_example_admit_one_admitone_engine_DueOrder) hisR ?_
  intro p e s m args below meth c s₁ Bd hml0 hP hK
  obtain ⟨rfl, hZ, hh⟩ := hP
  have hx := Bd.exec
  have hby := Bd.bytes
  have hml : c.maxLocals = 3 := hml0
  have hown : s.vm.findClass cD = some m.cls := findClass_of_methodNamed Bd.named
  have hnm := (name_of_methodNamed Bd.named Bd.method).1
  have X0 : Stand p l e ({ frames := 1, cells := 0, slots := 0, locals := 18 } : Room) s m #[(.ref a0), (.ref x2)] below meth c s₁ [] 0 0 := Stand.of_body Bd
  have e0 : s₁.heap = h0 := by rw [← hh, Bd.state]; rfl
  have N0 := Fr.nil n0
  have Kp0 : Keep h0 h0 [ar, a0] := Keep.refl _ _
  refine Goes.start ?_
  refine Gb (B := s₁.setTop (mkF m 0 #[.val (.ref a0), .val (.ref x2), .unset] [])) (fun t k => castTop (efDrop3_2 m a0 x2) k) ?_
  refine Gb (fun _ => XS.aloadN X0.here hx rfl (hb hby d12_0) rfl rfl) ?_
  refine Gb (fun _ => XS.aloadN X0.here hx rfl (hb hby d12_1) rfl rfl) ?_
  refine Gb (fun _ => getFR X0 hx hZ hown (wq hw 57 rfl) e0 F8 (g := (mkF m 2 (sh8 a0 x2) [(.ref x2), (.ref a0)])) rfl rfl (hb hby d12_2)) ?_
  obtain ⟨_, T2, L2, Lc2, X2, hF2, hQ2, st2⟩ := own_cp X0 hx hZ hown (wq hw 31 rfl) (wq hw 33 rfl) (wq hw 1 rfl) (wq hw 32 rfl) (wq hw 2 rfl) (wq hw 34 rfl) (rmDue3 l Z az hw [] a0 t2 ar kA x1 x2 x3 t1 t2 t3 h0 n0 Z0 F0 F1 F2 F3 F4 F5 F6 F7 F8 F9 F10) (W := 0) (g := (mkF m 5 (sh8 a0 x2) [(.long t2), (.ref a0)])) rfl (by rw [hml]; rfl) F0 (argsL := [(.long t2)]) (rest := []) rfl (lenOf own_pd1 rfl) rfl (hb hby d12_5) e0 N0 (c' := 0) (s' := 0)
  obtain ⟨rfl, N2q, e2⟩ := hQ2
  have N3 := hF2 N2q
  refine Gb st2 ?_
  rw [HD]
  show Goes p.tables e below _ (T2.setTop (mkF m 8 (sh8 a0 x2) [(.int (2 : Int32))]))
  refine Gb (fun _ => XS.iconst X2.here hx rfl (hb hby d12_8)) ?_
  refine Gb (fun _ => XS.isub X2.here hx rfl (hb hby d12_9) rfl) ?_
  refine Gb (fun _ => XS.istoreN X2.here hx rfl (hb hby d12_10) rfl (l' := (sh9 a0 x2 (1 : Int32))) rfl) ?_
  refine Gb (fun _ => XS.aloadN X2.here hx rfl (hb hby d12_11) rfl rfl) ?_
  obtain ⟨T4, X4, e4, st4⟩ := getF X2 hx hZ hown (host := "") (Or.inl (wq hw 11 rfl)) Via.refl e2 F1 (g := (mkF m 12 (sh9 a0 x2 (1 : Int32)) [(.ref a0)])) rfl rfl (hb hby d12_12)
  refine Gb st4 ?_
  refine Gb (fun _ => XS.iloadN X4.here hx rfl (hb hby d12_15) rfl) ?_
  refine Gb (fun _ => XS.iconst X4.here hx rfl (hb hby d12_16)) ?_
  refine Gb (fun _ => XS.iadd X4.here hx rfl (hb hby d12_17) rfl) ?_
  refine Gb (fun _ => XS.aloadN X4.here hx rfl (hb hby d12_18) rfl rfl) ?_
  obtain ⟨T5, X5, e5, st5⟩ := getF X4 hx hZ hown (host := "") (Or.inl (wq hw 11 rfl)) Via.refl e4 F1 (g := (mkF m 19 (sh9 a0 x2 (1 : Int32)) [(.ref a0), (.int (2 : Int32)), (.ref ar)])) rfl rfl (hb hby d12_19)
  refine Gb st5 ?_
  refine Gb (fun _ => XS.iloadN X5.here hx rfl (hb hby d12_22) rfl) ?_
  refine Gb (fun _ => XS.aloadN X5.here hx rfl (hb hby d12_23) rfl rfl) ?_
  obtain ⟨T6, X6, e6, st6⟩ := getF X5 hx hZ hown (host := "") (Or.inl (wq hw 29 rfl)) Via.refl e5 F2 (g := (mkF m 24 (sh9 a0 x2 (1 : Int32)) [(.ref a0), (.int (1 : Int32)), (.ref ar), (.int (2 : Int32)), (.ref ar)])) rfl rfl (hb hby d12_24)
  refine Gb st6 ?_
  refine Gb (fun _ => XS.iloadN X6.here hx rfl (hb hby d12_27) rfl) ?_
  refine Gb (fun _ => XS.isub X6.here hx rfl (hb hby d12_28) rfl) ?_
  refine Gb (fun _ => XS.iconst X6.here hx rfl (hb hby d12_29)) ?_
  refine Gb (fun _ => XS.isub X6.here hx rfl (hb hby d12_30) rfl) ?_
  obtain ⟨cl7, cl7A, cl7q, -, -, -, -⟩ := id F3
  obtain ⟨T7, h7, L7, X7, e7, Nn7, K7, V7, st7⟩ := cpA X6 hx hZ hown (wq hw 35 rfl) (wq hw 38 rfl) (wq hw 36 rfl) (wq hw 37 rfl) e6 (us := [(.ref x3)]) F3 F3 (Or.inr ⟨rfl, rfl, ⟨Sto.ofV cl7A cl7q F4 (Ins.self F9), trivial⟩⟩) (sp := (2 : Int32)) (dp := (1 : Int32)) (nn := (1 : Int32)) (by decide) (by decide) (by decide) (by decide) (by decide) rfl (Nat.le_of_ble_eq_true rfl) N3 Ge1 (g := (mkF m 31 (sh9 a0 x2 (1 : Int32)) [(.int (1 : Int32)), (.int (1 : Int32)), (.ref ar), (.int (2 : Int32)), (.ref ar)])) rfl (by rw [hml]; rfl) rfl (hb hby d12_31) (by decide) (W := 0) (by show 2 * 0 + _ ≤ _; exact Nat.le_of_eq rfl) (by decide)
  have f8 := F0.keep K7
  have f9 := F1.keep K7 (ninS Ne0 nin0)
  have f10 := F2.keep K7 (ninS Ne0 nin0)
  have f11 := F5.keep K7
  have f12 := F7.keep K7
  have f13 := F9.keep K7
  have f14 : Arv Z h7 ar kA (.object cH) (4 : Int32) [(.ref x1), (.ref x3), (.ref x3), .null] .null := V7
  have Kp7 : Keep h0 h7 [ar, a0] := Kp0.trans K7 (allS (Or.inl om0) all0)
  have Z15 := Nat.le_trans Z0 K7.1
  refine Gb st7 ?_
  refine Gb (fun _ => XS.aloadN X7.here hx rfl (hb hby d12_34) rfl rfl) ?_
  refine Gb (fun _ => XS.dup X7.here hx rfl (hb hby d12_35) rfl rfl) ?_
  obtain ⟨T16, X16, e16, st16⟩ := getF X7 hx hZ hown (host := "") (Or.inl (wq hw 29 rfl)) Via.refl e7 f10 (g := (mkF m 36 (sh9 a0 x2 (1 : Int32)) [(.ref a0), (.ref a0)])) rfl rfl (hb hby d12_36)
  refine Gb st16 ?_
  refine Gb (fun _ => XS.iconst X16.here hx rfl (hb hby d12_39)) ?_
  refine Gb (fun _ => XS.isub X16.here hx rfl (hb hby d12_40) rfl) ?_
  obtain ⟨T17, h17, X17, e17, W17, st17⟩ := putF X16 hx hZ hown (host := "") (Or.inl (wq hw 29 rfl)) Via.refl e16 f10 f8 (Or.inl (wq hw 30 rfl)) (wq hw 1 rfl) (ty := .int) (by decide) rfl rfl (g := (mkF m 41 (sh9 a0 x2 (1 : Int32)) [(.int (2 : Int32)), (.ref a0)])) rfl rfl (hb hby d12_41)
  have f18 := f8.wr W17
  have f19 := f9.other W17 (Or.inr (slot_ne (Or.inl (wq hw 12 rfl)) (Or.inl (wq hw 30 rfl)) (by decide) (t := (.array (.object cH))) (t' := .int) (by decide) (by decide)))
  have f20 := f11.wr W17
  have f21 := f12.wr W17
  have f22 := f13.wr W17
  have f23 := f14.other W17 (Ne.symm Ne0)
  have f24 : Fld Z h17 a0 cD "count" "I" (.int (2 : Int32)) := f10.same W17
  have Kp17 : Keep h0 h17 [ar, a0] := Kp7.wr W17 (Or.inl om1)
  have Z25 := Nat.le_trans Z15 (Nat.le_of_eq W17.size.symm)
  have N26 := Fr.snoc X17 Nn7 Ge0
  refine Gb st17 ?_
  refine Gb (fun _ => XS.aloadN X17.here hx rfl (hb hby d12_44) rfl rfl) ?_
  obtain ⟨T27, X27, e27, st27⟩ := getF X17 hx hZ hown (host := "") (Or.inl (wq hw 11 rfl)) Via.refl e17 f19 (g := (mkF m 45 (sh9 a0 x2 (1 : Int32)) [(.ref a0)])) rfl rfl (hb hby d12_45)
  refine Gb st27 ?_
  refine Gb (fun _ => XS.aloadN X27.here hx rfl (hb hby d12_48) rfl rfl) ?_
  obtain ⟨T28, X28, e28, st28⟩ := getF X27 hx hZ hown (host := "") (Or.inl (wq hw 29 rfl)) Via.refl e27 f24 (g := (mkF m 49 (sh9 a0 x2 (1 : Int32)) [(.ref a0), (.ref ar)])) rfl rfl (hb hby d12_49)
  refine Gb st28 ?_
  refine Gb (fun _ => XS.aconstNull X28.here hx rfl (hb hby d12_52)) ?_
  obtain ⟨cl29, cl29A, cl29q, cl29S, cl29N, cl29H, cl29G⟩ := id f23
  have cl29I : ¬ ((2 : Int32) < 0 ∨ cl29.slots.size ≤ ((2 : Int32)).toNatClampNeg) := inb_of cl29S ⟨by decide, by decide⟩
  obtain ⟨T29, h29, X29, e29, W29, st29⟩ := stR X28 hx hZ e28 cl29A (j := (2 : Int32)) cl29I rfl (Or.inl rfl) (g := (mkF m 53 (sh9 a0 x2 (1 : Int32)) [.null, (.int (2 : Int32)), (.ref ar)])) rfl rfl (hb hby d12_53)
  have f30 := f18.wr W29
  have f31 := f19.other W29 (Or.inl Ne0)
  have f32 := f20.wr W29
  have f33 := f21.wr W29
  have f34 := f22.wr W29
  have f35 := f24.other W29 (Or.inl Ne0)
  have f36 : Arv Z h29 ar kA (.object cH) (4 : Int32) [(.ref x1), (.ref x3), .null, .null] .null := Arv.set cl29A cl29q cl29S cl29N cl29H cl29G rfl W29 2 rfl (Nat.le_of_ble_eq_true rfl)
  have Kp29 : Keep h0 h29 [ar, a0] := Kp17.wr W29 (Or.inl om0)
  have Z37 := Nat.le_trans Z25 (Nat.le_of_eq W29.size.symm)
  have N38 := Fr.snoc X29 N26 Ge1
  refine Gb st29 ?_
  refine Gb (fun _ => XS.aloadN X29.here hx rfl (hb hby d12_54) rfl rfl) ?_
  obtain ⟨_, T39, L39, Lc39, X39, hF39, hQ39, st39⟩ := own_cp X29 hx hZ hown (wq hw 81 rfl) (wq hw 83 rfl) (wq hw 1 rfl) (wq hw 82 rfl) (wq hw 2 rfl) (wq hw 84 rfl) (rmShrink l Z az hw [] a0 ar kA [(.ref x1), (.ref x3), .null, .null] h29 n0 Z37 f31 f36) (W := 0) (g := (mkF m 55 (sh9 a0 x2 (1 : Int32)) [(.ref a0)])) rfl (by rw [hml]; rfl) f30 (argsL := []) (rest := []) rfl (lenOf own_pd0 rfl) rfl (hb hby d12_55) e29 N38 (c' := 0) (s' := 0)
  obtain ⟨rfl, N39q, e39⟩ := hQ39
  have N40 := hF39 N39q
  refine Gb st39 ?_
  obtain ⟨fs, hr, hrun, hended, hW, hsame⟩ := X39.leave (v := none) (fun _ => rfl)
  refine Goes.mk _ _ ?_ ⟨hrun, hended, _, _, rfl, ?_, ⟨_, rfl⟩, hW, hsame.mono (by decide) (by decide)⟩
  · exact X39.returnOut hx Bd.returns (hb hby d12_58) hr
  · show QDrop3_2 Z a0 x2 ar kA x1 x3 t1 t2 t3 h0 n0 _ T39.heap _
    rw [e39]
    exact ⟨rfl, N40, Kp29, f31, f35, f36⟩
def QDrop3_3 (Z : State) (a0 : Addr) (x3 : Addr) (ar : Addr) (kA : ClassId) (x1 : Addr) (x2 : Addr) (t1 : Int64) (t2 : Int64) (t3 : Int64) (h0 : Heap) (n0 : Nat) (v : Option Value) (h : Heap) (L : List Loc) : Prop := v = none ∧ Fr n0 L ∧ Keep h0 h [ar, a0] ∧ Fld Z h a0 cD "heads" dA (.ref ar) ∧ Fld Z h a0 cD "count" "I" (.int (2 : Int32)) ∧ Arv Z h ar kA (.object cH) (4 : Int32) [(.ref x1), (.ref x2), .null, .null] .null
theorem efDrop3_3 (m : MethodId) (x0 : Addr) (x1 : Addr) : entryFrame m #[(.ref x0), (.ref x1)] 3 = mkF m 0 #[.val (.ref x0), .val (.ref x1), .unset] [] := by first | (simp [entryFrame, mkF, argsToLocals, Value.category]; done) | rfl
set_option maxRecDepth 65536 in
set_option maxHeartbeats 40000000 in
theorem rmDrop3_3 (l : Launch) (Z : State) (az : Array Value) (hw : ∀ d ∈ tables_1, d.before az Z = true) (ws : List Jvm.Cond) (a0 : Addr) (x3 : Addr) (ar : Addr) (kA : ClassId) (x1 : Addr) (x2 : Addr) (t1 : Int64) (t2 : Int64) (t3 : Int64) (h0 : Heap) (n0 : Nat) (Z0 : n0 ≤ h0.size) (F0 : Exa Z h0 a0 cD) (F1 : Fld Z h0 a0 cD "heads" dA (.ref ar)) (F2 : Fld Z h0 a0 cD "count" "I" (.int (3 : Int32))) (F3 : Arv Z h0 ar kA (.object cH) (4 : Int32) [(.ref x1), (.ref x2), (.ref x3), .null] .null) (F4 : Ovr Z kA cH) (F5 : Exa Z h0 x1 cH) (F6 : Fld Z h0 x1 cH "tick" "J" (.long t1)) (F7 : Exa Z h0 x2 cH) (F8 : Fld Z h0 x2 cH "tick" "J" (.long t2)) (F9 : Exa Z h0 x3 cH) (F10 : Fld Z h0 x3 cH "tick" "J" (.long t3)) (Ne0 : a0 ≠ ar) (Ne1 : x1 ≠ a0) (Ne2 : x2 ≠ a0) (Ne3 : x3 ≠ a0) (Ne4 : x1 ≠ ar) (Ne5 : x2 ≠ ar) (Ne6 : x3 ≠ ar) (Ge0 : n0 ≤ a0) (Ge1 : n0 ≤ ar) (HD : fDue3 t3 t1 t2 t3 = (3 : Int32)) :
    MetFree l y9 (head1 (Jvm.Cond.code y9 prog_4_method_9_code 3 none :: ws) ({ frames := 1, cells := 0, slots := 0, locals := 18 } : Room)) (fun a U => a = #[(.ref a0), (.ref x3)] ∧ Z.Warmed39 U.vm ∧ U.heap = h0) (fun _ _ _ _ _ => True) (fun _ U o U' => ∃ v L, o = .returned v ∧ QDrop3_3 Z a0 x3 ar kA x1 x2 t1 t2 t3 h0 n0 v U'.heap L ∧ FrameEnd U o U' L ({ frames := 1, cells := 0, slots := 0, locals := 18 } : Room).cells ({ frames := 1, cells := 0, slots := 0, locals := 18 } : Room).slots) := by
  refine MetFree.of_bodySF (plainFor_of_name own_pn_com_example_admit_one_admitone_engine_DueOrder) hisR ?_
  intro p e s m args below meth c s₁ Bd hml0 hP hK
  obtain ⟨rfl, hZ, hh⟩ := hP
  have hx := Bd.exec
  have hby := Bd.bytes
  have hml : c.maxLocals = 3 := hml0
  have hown : s.vm.findClass cD = some m.cls := findClass_of_methodNamed Bd.named
  have hnm := (name_of_methodNamed Bd.named Bd.method).1
  have X0 : Stand p l e ({ frames := 1, cells := 0, slots := 0, locals := 18 } : Room) s m #[(.ref a0), (.ref x3)] below meth c s₁ [] 0 0 := Stand.of_body Bd
  have e0 : s₁.heap = h0 := by rw [← hh, Bd.state]; rfl
  have N0 := Fr.nil n0
  have Kp0 : Keep h0 h0 [ar, a0] := Keep.refl _ _
  refine Goes.start ?_
  refine Gb (B := s₁.setTop (mkF m 0 #[.val (.ref a0), .val (.ref x3), .unset] [])) (fun t k => castTop (efDrop3_3 m a0 x3) k) ?_
  refine Gb (fun _ => XS.aloadN X0.here hx rfl (hb hby d12_0) rfl rfl) ?_
  refine Gb (fun _ => XS.aloadN X0.here hx rfl (hb hby d12_1) rfl rfl) ?_
  refine Gb (fun _ => getFR X0 hx hZ hown (wq hw 57 rfl) e0 F10 (g := (mkF m 2 (sh8 a0 x3) [(.ref x3), (.ref a0)])) rfl rfl (hb hby d12_2)) ?_
  obtain ⟨_, T2, L2, Lc2, X2, hF2, hQ2, st2⟩ := own_cp X0 hx hZ hown (wq hw 31 rfl) (wq hw 33 rfl) (wq hw 1 rfl) (wq hw 32 rfl) (wq hw 2 rfl) (wq hw 34 rfl) (rmDue3 l Z az hw [] a0 t3 ar kA x1 x2 x3 t1 t2 t3 h0 n0 Z0 F0 F1 F2 F3 F4 F5 F6 F7 F8 F9 F10) (W := 0) (g := (mkF m 5 (sh8 a0 x3) [(.long t3), (.ref a0)])) rfl (by rw [hml]; rfl) F0 (argsL := [(.long t3)]) (rest := []) rfl (lenOf own_pd1 rfl) rfl (hb hby d12_5) e0 N0 (c' := 0) (s' := 0)
  obtain ⟨rfl, N2q, e2⟩ := hQ2
  have N3 := hF2 N2q
  refine Gb st2 ?_
  rw [HD]
  show Goes p.tables e below _ (T2.setTop (mkF m 8 (sh8 a0 x3) [(.int (3 : Int32))]))
  refine Gb (fun _ => XS.iconst X2.here hx rfl (hb hby d12_8)) ?_
  refine Gb (fun _ => XS.isub X2.here hx rfl (hb hby d12_9) rfl) ?_
  refine Gb (fun _ => XS.istoreN X2.here hx rfl (hb hby d12_10) rfl (l' := (sh9 a0 x3 (2 : Int32))) rfl) ?_
  refine Gb (fun _ => XS.aloadN X2.here hx rfl (hb hby d12_11) rfl rfl) ?_
  obtain ⟨T4, X4, e4, st4⟩ := getF X2 hx hZ hown (host := "") (Or.inl (wq hw 11 rfl)) Via.refl e2 F1 (g := (mkF m 12 (sh9 a0 x3 (2 : Int32)) [(.ref a0)])) rfl rfl (hb hby d12_12)
  refine Gb st4 ?_
  refine Gb (fun _ => XS.iloadN X4.here hx rfl (hb hby d12_15) rfl) ?_
  refine Gb (fun _ => XS.iconst X4.here hx rfl (hb hby d12_16)) ?_
  refine Gb (fun _ => XS.iadd X4.here hx rfl (hb hby d12_17) rfl) ?_
  refine Gb (fun _ => XS.aloadN X4.here hx rfl (hb hby d12_18) rfl rfl) ?_
  obtain ⟨T5, X5, e5, st5⟩ := getF X4 hx hZ hown (host := "") (Or.inl (wq hw 11 rfl)) Via.refl e4 F1 (g := (mkF m 19 (sh9 a0 x3 (2 : Int32)) [(.ref a0), (.int (3 : Int32)), (.ref ar)])) rfl rfl (hb hby d12_19)
  refine Gb st5 ?_
  refine Gb (fun _ => XS.iloadN X5.here hx rfl (hb hby d12_22) rfl) ?_
  refine Gb (fun _ => XS.aloadN X5.here hx rfl (hb hby d12_23) rfl rfl) ?_
  obtain ⟨T6, X6, e6, st6⟩ := getF X5 hx hZ hown (host := "") (Or.inl (wq hw 29 rfl)) Via.refl e5 F2 (g := (mkF m 24 (sh9 a0 x3 (2 : Int32)) [(.ref a0), (.int (2 : Int32)), (.ref ar), (.int (3 : Int32)), (.ref ar)])) rfl rfl (hb hby d12_24)
  refine Gb st6 ?_
  refine Gb (fun _ => XS.iloadN X6.here hx rfl (hb hby d12_27) rfl) ?_
  refine Gb (fun _ => XS.isub X6.here hx rfl (hb hby d12_28) rfl) ?_
  refine Gb (fun _ => XS.iconst X6.here hx rfl (hb hby d12_29)) ?_
  refine Gb (fun _ => XS.isub X6.here hx rfl (hb hby d12_30) rfl) ?_
  obtain ⟨T7, h7, L7, X7, e7, Nn7, K7, V7, st7⟩ := cpA X6 hx hZ hown (wq hw 35 rfl) (wq hw 38 rfl) (wq hw 36 rfl) (wq hw 37 rfl) e6 (us := []) F3 F3 (Or.inr ⟨rfl, rfl, trivial⟩) (sp := (3 : Int32)) (dp := (2 : Int32)) (nn := (0 : Int32)) (by decide) (by decide) (by decide) (by decide) (by decide) rfl (Nat.le_of_ble_eq_true rfl) N3 Ge1 (g := (mkF m 31 (sh9 a0 x3 (2 : Int32)) [(.int (0 : Int32)), (.int (2 : Int32)), (.ref ar), (.int (3 : Int32)), (.ref ar)])) rfl (by rw [hml]; rfl) rfl (hb hby d12_31) (by decide) (W := 0) (by show 2 * 0 + _ ≤ _; exact Nat.le_of_eq rfl) (by decide)
  have f8 := F0.keep K7
  have f9 := F1.keep K7 (ninS Ne0 nin0)
  have f10 := F2.keep K7 (ninS Ne0 nin0)
  have f11 := F5.keep K7
  have f12 := F7.keep K7
  have f13 := F9.keep K7
  have f14 : Arv Z h7 ar kA (.object cH) (4 : Int32) [(.ref x1), (.ref x2), (.ref x3), .null] .null := V7
  have Kp7 : Keep h0 h7 [ar, a0] := Kp0.trans K7 (allS (Or.inl om0) all0)
  have Z15 := Nat.le_trans Z0 K7.1
  refine Gb st7 ?_
  refine Gb (fun _ => XS.aloadN X7.here hx rfl (hb hby d12_34) rfl rfl) ?_
  refine Gb (fun _ => XS.dup X7.here hx rfl (hb hby d12_35) rfl rfl) ?_
  obtain ⟨T16, X16, e16, st16⟩ := getF X7 hx hZ hown (host := "") (Or.inl (wq hw 29 rfl)) Via.refl e7 f10 (g := (mkF m 36 (sh9 a0 x3 (2 : Int32)) [(.ref a0), (.ref a0)])) rfl rfl (hb hby d12_36)
  refine Gb st16 ?_
  refine Gb (fun _ => XS.iconst X16.here hx rfl (hb hby d12_39)) ?_
  refine Gb (fun _ => XS.isub X16.here hx rfl (hb hby d12_40) rfl) ?_
  obtain ⟨T17, h17, X17, e17, W17, st17⟩ := putF X16 hx hZ hown (host := "") (Or.inl (wq hw 29 rfl)) Via.refl e16 f10 f8 (Or.inl (wq hw 30 rfl)) (wq hw 1 rfl) (ty := .int) (by decide) rfl rfl (g := (mkF m 41 (sh9 a0 x3 (2 : Int32)) [(.int (2 : Int32)), (.ref a0)])) rfl rfl (hb hby d12_41)
  have f18 := f8.wr W17
  have f19 := f9.other W17 (Or.inr (slot_ne (Or.inl (wq hw 12 rfl)) (Or.inl (wq hw 30 rfl)) (by decide) (t := (.array (.object cH))) (t' := .int) (by decide) (by decide)))
  have f20 := f11.wr W17
  have f21 := f12.wr W17
  have f22 := f13.wr W17
  have f23 := f14.other W17 (Ne.symm Ne0)
  have f24 : Fld Z h17 a0 cD "count" "I" (.int (2 : Int32)) := f10.same W17
  have Kp17 : Keep h0 h17 [ar, a0] := Kp7.wr W17 (Or.inl om1)
  have Z25 := Nat.le_trans Z15 (Nat.le_of_eq W17.size.symm)
  have N26 := Fr.snoc X17 Nn7 Ge0
  refine Gb st17 ?_
  refine Gb (fun _ => XS.aloadN X17.here hx rfl (hb hby d12_44) rfl rfl) ?_
  obtain ⟨T27, X27, e27, st27⟩ := getF X17 hx hZ hown (host := "") (Or.inl (wq hw 11 rfl)) Via.refl e17 f19 (g := (mkF m 45 (sh9 a0 x3 (2 : Int32)) [(.ref a0)])) rfl rfl (hb hby d12_45)
  refine Gb st27 ?_
  refine Gb (fun _ => XS.aloadN X27.here hx rfl (hb hby d12_48) rfl rfl) ?_
  obtain ⟨T28, X28, e28, st28⟩ := getF X27 hx hZ hown (host := "") (Or.inl (wq hw 29 rfl)) Via.refl e27 f24 (g := (mkF m 49 (sh9 a0 x3 (2 : Int32)) [(.ref a0), (.ref ar)])) rfl rfl (hb hby d12_49)
  refine Gb st28 ?_
  refine Gb (fun _ => XS.aconstNull X28.here hx rfl (hb hby d12_52)) ?_
  obtain ⟨cl29, cl29A, cl29q, cl29S, cl29N, cl29H, cl29G⟩ := id f23
  have cl29I : ¬ ((2 : Int32) < 0 ∨ cl29.slots.size ≤ ((2 : Int32)).toNatClampNeg) := inb_of cl29S ⟨by decide, by decide⟩
  obtain ⟨T29, h29, X29, e29, W29, st29⟩ := stR X28 hx hZ e28 cl29A (j := (2 : Int32)) cl29I rfl (Or.inl rfl) (g := (mkF m 53 (sh9 a0 x3 (2 : Int32)) [.null, (.int (2 : Int32)), (.ref ar)])) rfl rfl (hb hby d12_53)
  have f30 := f18.wr W29
  have f31 := f19.other W29 (Or.inl Ne0)
  have f32 := f20.wr W29
  have f33 := f21.wr W29
  have f34 := f22.wr W29
  have f35 := f24.other W29 (Or.inl Ne0)
  have f36 : Arv Z h29 ar kA (.object cH) (4 : Int32) [(.ref x1), (.ref x2), .null, .null] .null := Arv.set cl29A cl29q cl29S cl29N cl29H cl29G rfl W29 2 rfl (Nat.le_of_ble_eq_true rfl)
  have Kp29 : Keep h0 h29 [ar, a0] := Kp17.wr W29 (Or.inl om0)
  have Z37 := Nat.le_trans Z25 (Nat.le_of_eq W29.size.symm)
  have N38 := Fr.snoc X29 N26 Ge1
  refine Gb st29 ?_
  refine Gb (fun _ => XS.aloadN X29.here hx rfl (hb hby d12_54) rfl rfl) ?_
  obtain ⟨_, T39, L39, Lc39, X39, hF39, hQ39, st39⟩ := own_cp X29 hx hZ hown (wq hw 81 rfl) (wq hw 83 rfl) (wq hw 1 rfl) (wq hw 82 rfl) (wq hw 2 rfl) (wq hw 84 rfl) (rmShrink l Z az hw [] a0 ar kA [(.ref x1), (.ref x2), .null, .null] h29 n0 Z37 f31 f36) (W := 0) (g := (mkF m 55 (sh9 a0 x3 (2 : Int32)) [(.ref a0)])) rfl (by rw [hml]; rfl) f30 (argsL := []) (rest := []) rfl (lenOf own_pd0 rfl) rfl (hb hby d12_55) e29 N38 (c' := 0) (s' := 0)
  obtain ⟨rfl, N39q, e39⟩ := hQ39
  have N40 := hF39 N39q
  refine Gb st39 ?_
  obtain ⟨fs, hr, hrun, hended, hW, hsame⟩ := X39.leave (v := none) (fun _ => rfl)
  refine Goes.mk _ _ ?_ ⟨hrun, hended, _, _, rfl, ?_, ⟨_, rfl⟩, hW, hsame.mono (by decide) (by decide)⟩
  · exact X39.returnOut hx Bd.returns (hb hby d12_58) hr
  · show QDrop3_3 Z a0 x3 ar kA x1 x2 t1 t2 t3 h0 n0 _ T39.heap _
    rw [e39]
    exact ⟨rfl, N40, Kp29, f31, f35, f36⟩
def QDrop4_1 (Z : State) (a0 : Addr) (x1 : Addr) (ar : Addr) (kA : ClassId) (x2 : Addr) (x3 : Addr) (x4 : Addr) (t1 : Int64) (t2 : Int64) (t3 : Int64) (t4 : Int64) (h0 : Heap) (n0 : Nat) (v : Option Value) (h : Heap) (L : List Loc) : Prop := v = none ∧ Fr n0 L ∧ Keep h0 h [ar, a0] ∧ Fld Z h a0 cD "heads" dA (.ref ar) ∧ Fld Z h a0 cD "count" "I" (.int (3 : Int32)) ∧ Arv Z h ar kA (.object cH) (4 : Int32) [(.ref x2), (.ref x3), (.ref x4), .null] .null
theorem efDrop4_1 (m : MethodId) (x0 : Addr) (x1 : Addr) : entryFrame m #[(.ref x0), (.ref x1)] 3 = mkF m 0 #[.val (.ref x0), .val (.ref x1), .unset] [] := by first | (simp [entryFrame, mkF, argsToLocals, Value.category]; done) | rfl
set_option maxRecDepth 65536 in
set_option maxHeartbeats 40000000 in
theorem rmDrop4_1 (l : Launch) (Z : State) (az : Array Value) (hw : ∀ d ∈ tables_1, d.before az Z = true) (ws : List Jvm.Cond) (a0 : Addr) (x1 : Addr) (ar : Addr) (kA : ClassId) (x2 : Addr) (x3 : Addr) (x4 : Addr) (t1 : Int64) (t2 : Int64) (t3 : Int64) (t4 : Int64) (h0 : Heap) (n0 : Nat) (Z0 : n0 ≤ h0.size) (F0 : Exa Z h0 a0 cD) (F1 : Fld Z h0 a0 cD "heads" dA (.ref ar)) (F2 : Fld Z h0 a0 cD "count" "I" (.int (4 : Int32))) (F3 : Arv Z h0 ar kA (.object cH) (4 : Int32) [(.ref x1), (.ref x2), (.ref x3), (.ref x4)] .null) (F4 : Ovr Z kA cH) (F5 : Exa Z h0 x1 cH) (F6 : Fld Z h0 x1 cH "tick" "J" (.long t1)) (F7 : Exa Z h0 x2 cH) (F8 : Fld Z h0 x2 cH "tick" "J" (.long t2)) (F9 : Exa Z h0 x3 cH) (F10 : Fld Z h0 x3 cH "tick" "J" (.long t3)) (F11 : Exa Z h0 x4 cH) (F12 : Fld Z h0 x4 cH "tick" "J" (.long t4)) (Ne0 : a0 ≠ ar) (Ne1 : x1 ≠ a0) (Ne2 : x2 ≠ a0) (Ne3 : x3 ≠ a0) (Ne4 : x4 ≠ a0) (Ne5 : x1 ≠ ar) (Ne6 : x2 ≠ ar) (Ne7 : x3 ≠ ar) (Ne8 : x4 ≠ ar) (Ge0 : n0 ≤ a0) (Ge1 : n0 ≤ ar) (HD : fDue4 t1 t1 t2 t3 t4 = (1 : Int32)) :
    MetFree l y9 (head1 (Jvm.Cond.code y9 prog_4_method_9_code 3 none :: ws) ({ frames := 1, cells := 0, slots := 0, locals := 18 } : Room)) (fun a U => a = #[(.ref a0), (.ref x1)] ∧ Z.Warmed39 U.vm ∧ U.heap = h0) (fun _ _ _ _ _ => True) (fun _ U o U' => ∃ v L, o = .returned v ∧ QDrop4_1 Z a0 x1 ar kA x2 x3 x4 t1 t2 t3 t4 h0 n0 v U'.heap L ∧ FrameEnd U o U' L ({ frames := 1, cells := 0, slots := 0, locals := 18 } : Room).cells ({ frames := 1, cells := 0, slots := 0, locals := 18 } : Room).slots) := by
  refine MetFree.of_bodySF (plainFor_of_name own_pn_com_example_admit_one_admitone_engine_DueOrder) hisR ?_
  intro p e s m args below meth c s₁ Bd hml0 hP hK
  obtain ⟨rfl, hZ, hh⟩ := hP
  have hx := Bd.exec
  have hby := Bd.bytes
  have hml : c.maxLocals = 3 := hml0
  have hown : s.vm.findClass cD = some m.cls := findClass_of_methodNamed Bd.named
  have hnm := (name_of_methodNamed Bd.named Bd.method).1
  have X0 : Stand p l e ({ frames := 1, cells := 0, slots := 0, locals := 18 } : Room) s m #[(.ref a0), (.ref x1)] below meth c s₁ [] 0 0 := Stand.of_body Bd
  have e0 : s₁.heap = h0 := by rw [← hh, Bd.state]; rfl
  have N0 := Fr.nil n0
  have Kp0 : Keep h0 h0 [ar, a0] := Keep.refl _ _
  refine Goes.start ?_
  refine Gb (B := s₁.setTop (mkF m 0 #[.val (.ref a0), .val (.ref x1), .unset] [])) (fun t k => castTop (efDrop4_1 m a0 x1) k) ?_
  refine Gb (fun _ => XS.aloadN X0.here hx rfl (hb hby d12_0) rfl rfl) ?_
  refine Gb (fun _ => XS.aloadN X0.here hx rfl (hb hby d12_1) rfl rfl) ?_
  refine Gb (fun _ => getFR X0 hx hZ hown (wq hw 57 rfl) e0 F6 (g := (mkF m 2 (sh8 a0 x1) [(.ref x1), (.ref a0)])) rfl rfl (hb hby d12_2)) ?_
  obtain ⟨_, T2, L2, Lc2, X2, hF2, hQ2, st2⟩ := own_cp X0 hx hZ hown (wq hw 31 rfl) (wq hw 33 rfl) (wq hw 1 rfl) (wq hw 32 rfl) (wq hw 2 rfl) (wq hw 34 rfl) (rmDue4 l Z az hw [] a0 t1 ar kA x1 x2 x3 x4 t1 t2 t3 t4 h0 n0 Z0 F0 F1 F2 F3 F4 F5 F6 F7 F8 F9 F10 F11 F12) (W := 0) (g := (mkF m 5 (sh8 a0 x1) [(.long t1), (.ref a0)])) rfl (by rw [hml]; rfl) F0 (argsL := [(.long t1)]) (rest := []) rfl (lenOf own_pd1 rfl) rfl (hb hby d12_5) e0 N0 (c' := 0) (s' := 0)
  obtain ⟨rfl, N2q, e2⟩ := hQ2
  have N3 := hF2 N2q
  refine Gb st2 ?_
  rw [HD]
  show Goes p.tables e below _ (T2.setTop (mkF m 8 (sh8 a0 x1) [(.int (1 : Int32))]))
  refine Gb (fun _ => XS.iconst X2.here hx rfl (hb hby d12_8)) ?_
  refine Gb (fun _ => XS.isub X2.here hx rfl (hb hby d12_9) rfl) ?_
  refine Gb (fun _ => XS.istoreN X2.here hx rfl (hb hby d12_10) rfl (l' := (sh9 a0 x1 (0 : Int32))) rfl) ?_
  refine Gb (fun _ => XS.aloadN X2.here hx rfl (hb hby d12_11) rfl rfl) ?_
  obtain ⟨T4, X4, e4, st4⟩ := getF X2 hx hZ hown (host := "") (Or.inl (wq hw 11 rfl)) Via.refl e2 F1 (g := (mkF m 12 (sh9 a0 x1 (0 : Int32)) [(.ref a0)])) rfl rfl (hb hby d12_12)
  refine Gb st4 ?_
  refine Gb (fun _ => XS.iloadN X4.here hx rfl (hb hby d12_15) rfl) ?_
  refine Gb (fun _ => XS.iconst X4.here hx rfl (hb hby d12_16)) ?_
  refine Gb (fun _ => XS.iadd X4.here hx rfl (hb hby d12_17) rfl) ?_
  refine Gb (fun _ => XS.aloadN X4.here hx rfl (hb hby d12_18) rfl rfl) ?_
  obtain ⟨T5, X5, e5, st5⟩ := getF X4 hx hZ hown (host := "") (Or.inl (wq hw 11 rfl)) Via.refl e4 F1 (g := (mkF m 19 (sh9 a0 x1 (0 : Int32)) [(.ref a0), (.int (1 : Int32)), (.ref ar)])) rfl rfl (hb hby d12_19)
  refine Gb st5 ?_
  refine Gb (fun _ => XS.iloadN X5.here hx rfl (hb hby d12_22) rfl) ?_
  refine Gb (fun _ => XS.aloadN X5.here hx rfl (hb hby d12_23) rfl rfl) ?_
  obtain ⟨T6, X6, e6, st6⟩ := getF X5 hx hZ hown (host := "") (Or.inl (wq hw 29 rfl)) Via.refl e5 F2 (g := (mkF m 24 (sh9 a0 x1 (0 : Int32)) [(.ref a0), (.int (0 : Int32)), (.ref ar), (.int (1 : Int32)), (.ref ar)])) rfl rfl (hb hby d12_24)
  refine Gb st6 ?_
  refine Gb (fun _ => XS.iloadN X6.here hx rfl (hb hby d12_27) rfl) ?_
  refine Gb (fun _ => XS.isub X6.here hx rfl (hb hby d12_28) rfl) ?_
  refine Gb (fun _ => XS.iconst X6.here hx rfl (hb hby d12_29)) ?_
  refine Gb (fun _ => XS.isub X6.here hx rfl (hb hby d12_30) rfl) ?_
  obtain ⟨cl7, cl7A, cl7q, -, -, -, -⟩ := id F3
  obtain ⟨T7, h7, L7, X7, e7, Nn7, K7, V7, st7⟩ := cpA X6 hx hZ hown (wq hw 35 rfl) (wq hw 38 rfl) (wq hw 36 rfl) (wq hw 37 rfl) e6 (us := [(.ref x2), (.ref x3), (.ref x4)]) F3 F3 (Or.inr ⟨rfl, rfl, ⟨Sto.ofV cl7A cl7q F4 (Ins.self F7), ⟨Sto.ofV cl7A cl7q F4 (Ins.self F9), ⟨Sto.ofV cl7A cl7q F4 (Ins.self F11), trivial⟩⟩⟩⟩) (sp := (1 : Int32)) (dp := (0 : Int32)) (nn := (3 : Int32)) (by decide) (by decide) (by decide) (by decide) (by decide) rfl (Nat.le_of_ble_eq_true rfl) N3 Ge1 (g := (mkF m 31 (sh9 a0 x1 (0 : Int32)) [(.int (3 : Int32)), (.int (0 : Int32)), (.ref ar), (.int (1 : Int32)), (.ref ar)])) rfl (by rw [hml]; rfl) rfl (hb hby d12_31) (by decide) (W := 0) (by show 2 * 0 + _ ≤ _; exact Nat.le_of_eq rfl) (by decide)
  have f8 := F0.keep K7
  have f9 := F1.keep K7 (ninS Ne0 nin0)
  have f10 := F2.keep K7 (ninS Ne0 nin0)
  have f11 := F5.keep K7
  have f12 := F7.keep K7
  have f13 := F9.keep K7
  have f14 := F11.keep K7
  have f15 : Arv Z h7 ar kA (.object cH) (4 : Int32) [(.ref x2), (.ref x3), (.ref x4), (.ref x4)] .null := V7
  have Kp7 : Keep h0 h7 [ar, a0] := Kp0.trans K7 (allS (Or.inl om0) all0)
  have Z16 := Nat.le_trans Z0 K7.1
  refine Gb st7 ?_
  refine Gb (fun _ => XS.aloadN X7.here hx rfl (hb hby d12_34) rfl rfl) ?_
  refine Gb (fun _ => XS.dup X7.here hx rfl (hb hby d12_35) rfl rfl) ?_
  obtain ⟨T17, X17, e17, st17⟩ := getF X7 hx hZ hown (host := "") (Or.inl (wq hw 29 rfl)) Via.refl e7 f10 (g := (mkF m 36 (sh9 a0 x1 (0 : Int32)) [(.ref a0), (.ref a0)])) rfl rfl (hb hby d12_36)
  refine Gb st17 ?_
  refine Gb (fun _ => XS.iconst X17.here hx rfl (hb hby d12_39)) ?_
  refine Gb (fun _ => XS.isub X17.here hx rfl (hb hby d12_40) rfl) ?_
  obtain ⟨T18, h18, X18, e18, W18, st18⟩ := putF X17 hx hZ hown (host := "") (Or.inl (wq hw 29 rfl)) Via.refl e17 f10 f8 (Or.inl (wq hw 30 rfl)) (wq hw 1 rfl) (ty := .int) (by decide) rfl rfl (g := (mkF m 41 (sh9 a0 x1 (0 : Int32)) [(.int (3 : Int32)), (.ref a0)])) rfl rfl (hb hby d12_41)
  have f19 := f8.wr W18
  have f20 := f9.other W18 (Or.inr (slot_ne (Or.inl (wq hw 12 rfl)) (Or.inl (wq hw 30 rfl)) (by decide) (t := (.array (.object cH))) (t' := .int) (by decide) (by decide)))
  have f21 := f11.wr W18
  have f22 := f12.wr W18
  have f23 := f13.wr W18
  have f24 := f14.wr W18
  have f25 := f15.other W18 (Ne.symm Ne0)
  have f26 : Fld Z h18 a0 cD "count" "I" (.int (3 : Int32)) := f10.same W18
  have Kp18 : Keep h0 h18 [ar, a0] := Kp7.wr W18 (Or.inl om1)
  have Z27 := Nat.le_trans Z16 (Nat.le_of_eq W18.size.symm)
  have N28 := Fr.snoc X18 Nn7 Ge0
  refine Gb st18 ?_
  refine Gb (fun _ => XS.aloadN X18.here hx rfl (hb hby d12_44) rfl rfl) ?_
  obtain ⟨T29, X29, e29, st29⟩ := getF X18 hx hZ hown (host := "") (Or.inl (wq hw 11 rfl)) Via.refl e18 f20 (g := (mkF m 45 (sh9 a0 x1 (0 : Int32)) [(.ref a0)])) rfl rfl (hb hby d12_45)
  refine Gb st29 ?_
  refine Gb (fun _ => XS.aloadN X29.here hx rfl (hb hby d12_48) rfl rfl) ?_
  obtain ⟨T30, X30, e30, st30⟩ := getF X29 hx hZ hown (host := "") (Or.inl (wq hw 29 rfl)) Via.refl e29 f26 (g := (mkF m 49 (sh9 a0 x1 (0 : Int32)) [(.ref a0), (.ref ar)])) rfl rfl (hb hby d12_49)
  refine Gb st30 ?_
  refine Gb (fun _ => XS.aconstNull X30.here hx rfl (hb hby d12_52)) ?_
  obtain ⟨cl31, cl31A, cl31q, cl31S, cl31N, cl31H, cl31G⟩ := id f25
  have cl31I : ¬ ((3 : Int32) < 0 ∨ cl31.slots.size ≤ ((3 : Int32)).toNatClampNeg) := inb_of cl31S ⟨by decide, by decide⟩
  obtain ⟨T31, h31, X31, e31, W31, st31⟩ := stR X30 hx hZ e30 cl31A (j := (3 : Int32)) cl31I rfl (Or.inl rfl) (g := (mkF m 53 (sh9 a0 x1 (0 : Int32)) [.null, (.int (3 : Int32)), (.ref ar)])) rfl rfl (hb hby d12_53)
  have f32 := f19.wr W31
  have f33 := f20.other W31 (Or.inl Ne0)
  have f34 := f21.wr W31
  have f35 := f22.wr W31
  have f36 := f23.wr W31
  have f37 := f24.wr W31
  have f38 := f26.other W31 (Or.inl Ne0)
  have f39 : Arv Z h31 ar kA (.object cH) (4 : Int32) [(.ref x2), (.ref x3), (.ref x4), .null] .null := Arv.set cl31A cl31q cl31S cl31N cl31H cl31G rfl W31 3 rfl (Nat.le_of_ble_eq_true rfl)
  have Kp31 : Keep h0 h31 [ar, a0] := Kp18.wr W31 (Or.inl om0)
  have Z40 := Nat.le_trans Z27 (Nat.le_of_eq W31.size.symm)
  have N41 := Fr.snoc X31 N28 Ge1
  refine Gb st31 ?_
  refine Gb (fun _ => XS.aloadN X31.here hx rfl (hb hby d12_54) rfl rfl) ?_
  obtain ⟨_, T42, L42, Lc42, X42, hF42, hQ42, st42⟩ := own_cp X31 hx hZ hown (wq hw 81 rfl) (wq hw 83 rfl) (wq hw 1 rfl) (wq hw 82 rfl) (wq hw 2 rfl) (wq hw 84 rfl) (rmShrink l Z az hw [] a0 ar kA [(.ref x2), (.ref x3), (.ref x4), .null] h31 n0 Z40 f33 f39) (W := 0) (g := (mkF m 55 (sh9 a0 x1 (0 : Int32)) [(.ref a0)])) rfl (by rw [hml]; rfl) f32 (argsL := []) (rest := []) rfl (lenOf own_pd0 rfl) rfl (hb hby d12_55) e31 N41 (c' := 0) (s' := 0)
  obtain ⟨rfl, N42q, e42⟩ := hQ42
  have N43 := hF42 N42q
  refine Gb st42 ?_
  obtain ⟨fs, hr, hrun, hended, hW, hsame⟩ := X42.leave (v := none) (fun _ => rfl)
  refine Goes.mk _ _ ?_ ⟨hrun, hended, _, _, rfl, ?_, ⟨_, rfl⟩, hW, hsame.mono (by decide) (by decide)⟩
  · exact X42.returnOut hx Bd.returns (hb hby d12_58) hr
  · show QDrop4_1 Z a0 x1 ar kA x2 x3 x4 t1 t2 t3 t4 h0 n0 _ T42.heap _
    rw [e42]
    exact ⟨rfl, N43, Kp31, f33, f38, f39⟩
def QDrop4_2 (Z : State) (a0 : Addr) (x2 : Addr) (ar : Addr) (kA : ClassId) (x1 : Addr) (x3 : Addr) (x4 : Addr) (t1 : Int64) (t2 : Int64) (t3 : Int64) (t4 : Int64) (h0 : Heap) (n0 : Nat) (v : Option Value) (h : Heap) (L : List Loc) : Prop := v = none ∧ Fr n0 L ∧ Keep h0 h [ar, a0] ∧ Fld Z h a0 cD "heads" dA (.ref ar) ∧ Fld Z h a0 cD "count" "I" (.int (3 : Int32)) ∧ Arv Z h ar kA (.object cH) (4 : Int32) [(.ref x1), (.ref x3), (.ref x4), .null] .null
theorem efDrop4_2 (m : MethodId) (x0 : Addr) (x1 : Addr) : entryFrame m #[(.ref x0), (.ref x1)] 3 = mkF m 0 #[.val (.ref x0), .val (.ref x1), .unset] [] := by first | (simp [entryFrame, mkF, argsToLocals, Value.category]; done) | rfl
set_option maxRecDepth 65536 in
set_option maxHeartbeats 40000000 in
theorem rmDrop4_2 (l : Launch) (Z : State) (az : Array Value) (hw : ∀ d ∈ tables_1, d.before az Z = true) (ws : List Jvm.Cond) (a0 : Addr) (x2 : Addr) (ar : Addr) (kA : ClassId) (x1 : Addr) (x3 : Addr) (x4 : Addr) (t1 : Int64) (t2 : Int64) (t3 : Int64) (t4 : Int64) (h0 : Heap) (n0 : Nat) (Z0 : n0 ≤ h0.size) (F0 : Exa Z h0 a0 cD) (F1 : Fld Z h0 a0 cD "heads" dA (.ref ar)) (F2 : Fld Z h0 a0 cD "count" "I" (.int (4 : Int32))) (F3 : Arv Z h0 ar kA (.object cH) (4 : Int32) [(.ref x1), (.ref x2), (.ref x3), (.ref x4)] .null) (F4 : Ovr Z kA cH) (F5 : Exa Z h0 x1 cH) (F6 : Fld Z h0 x1 cH "tick" "J" (.long t1)) (F7 : Exa Z h0 x2 cH) (F8 : Fld Z h0 x2 cH "tick" "J" (.long t2)) (F9 : Exa Z h0 x3 cH) (F10 : Fld Z h0 x3 cH "tick" "J" (.long t3)) (F11 : Exa Z h0 x4 cH) (F12 : Fld Z h0 x4 cH "tick" "J" (.long t4)) (Ne0 : a0 ≠ ar) (Ne1 : x1 ≠ a0) (Ne2 : x2 ≠ a0) (Ne3 : x3 ≠ a0) (Ne4 : x4 ≠ a0) (Ne5 : x1 ≠ ar) (Ne6 : x2 ≠ ar) (Ne7 : x3 ≠ ar) (Ne8 : x4 ≠ ar) (Ge0 : n0 ≤ a0) (Ge1 : n0 ≤ ar) (HD : fDue4 t2 t1 t2 t3 t4 = (2 : Int32)) :
    MetFree l y9 (head1 (Jvm.Cond.code y9 prog_4_method_9_code 3 none :: ws) ({ frames := 1, cells := 0, slots := 0, locals := 18 } : Room)) (fun a U => a = #[(.ref a0), (.ref x2)] ∧ Z.Warmed39 U.vm ∧ U.heap = h0) (fun _ _ _ _ _ => True) (fun _ U o U' => ∃ v L, o = .returned v ∧ QDrop4_2 Z a0 x2 ar kA x1 x3 x4 t1 t2 t3 t4 h0 n0 v U'.heap L ∧ FrameEnd U o U' L ({ frames := 1, cells := 0, slots := 0, locals := 18 } : Room).cells ({ frames := 1, cells := 0, slots := 0, locals := 18 } : Room).slots) := by
  refine MetFree.of_bodySF (plainFor_of_name own_pn_com_example_admit_one_admitone_engine_DueOrder) hisR ?_
  intro p e s m args below meth c s₁ Bd hml0 hP hK
  obtain ⟨rfl, hZ, hh⟩ := hP
  have hx := Bd.exec
  have hby := Bd.bytes
  have hml : c.maxLocals = 3 := hml0
  have hown : s.vm.findClass cD = some m.cls := findClass_of_methodNamed Bd.named
  have hnm := (name_of_methodNamed Bd.named Bd.method).1
  have X0 : Stand p l e ({ frames := 1, cells := 0, slots := 0, locals := 18 } : Room) s m #[(.ref a0), (.ref x2)] below meth c s₁ [] 0 0 := Stand.of_body Bd
  have e0 : s₁.heap = h0 := by rw [← hh, Bd.state]; rfl
  have N0 := Fr.nil n0
  have Kp0 : Keep h0 h0 [ar, a0] := Keep.refl _ _
  refine Goes.start ?_
  refine Gb (B := s₁.setTop (mkF m 0 #[.val (.ref a0), .val (.ref x2), .unset] [])) (fun t k => castTop (efDrop4_2 m a0 x2) k) ?_
  refine Gb (fun _ => XS.aloadN X0.here hx rfl (hb hby d12_0) rfl rfl) ?_
  refine Gb (fun _ => XS.aloadN X0.here hx rfl (hb hby d12_1) rfl rfl) ?_
  refine Gb (fun _ => getFR X0 hx hZ hown (wq hw 57 rfl) e0 F8 (g := (mkF m 2 (sh8 a0 x2) [(.ref x2), (.ref a0)])) rfl rfl (hb hby d12_2)) ?_
  obtain ⟨_, T2, L2, Lc2, X2, hF2, hQ2, st2⟩ := own_cp X0 hx hZ hown (wq hw 31 rfl) (wq hw 33 rfl) (wq hw 1 rfl) (wq hw 32 rfl) (wq hw 2 rfl) (wq hw 34 rfl) (rmDue4 l Z az hw [] a0 t2 ar kA x1 x2 x3 x4 t1 t2 t3 t4 h0 n0 Z0 F0 F1 F2 F3 F4 F5 F6 F7 F8 F9 F10 F11 F12) (W := 0) (g := (mkF m 5 (sh8 a0 x2) [(.long t2), (.ref a0)])) rfl (by rw [hml]; rfl) F0 (argsL := [(.long t2)]) (rest := []) rfl (lenOf own_pd1 rfl) rfl (hb hby d12_5) e0 N0 (c' := 0) (s' := 0)
  obtain ⟨rfl, N2q, e2⟩ := hQ2
  have N3 := hF2 N2q
  refine Gb st2 ?_
  rw [HD]
  show Goes p.tables e below _ (T2.setTop (mkF m 8 (sh8 a0 x2) [(.int (2 : Int32))]))
  refine Gb (fun _ => XS.iconst X2.here hx rfl (hb hby d12_8)) ?_
  refine Gb (fun _ => XS.isub X2.here hx rfl (hb hby d12_9) rfl) ?_
  refine Gb (fun _ => XS.istoreN X2.here hx rfl (hb hby d12_10) rfl (l' := (sh9 a0 x2 (1 : Int32))) rfl) ?_
  refine Gb (fun _ => XS.aloadN X2.here hx rfl (hb hby d12_11) rfl rfl) ?_
  obtain ⟨T4, X4, e4, st4⟩ := getF X2 hx hZ hown (host := "") (Or.inl (wq hw 11 rfl)) Via.refl e2 F1 (g := (mkF m 12 (sh9 a0 x2 (1 : Int32)) [(.ref a0)])) rfl rfl (hb hby d12_12)
  refine Gb st4 ?_
  refine Gb (fun _ => XS.iloadN X4.here hx rfl (hb hby d12_15) rfl) ?_
  refine Gb (fun _ => XS.iconst X4.here hx rfl (hb hby d12_16)) ?_
  refine Gb (fun _ => XS.iadd X4.here hx rfl (hb hby d12_17) rfl) ?_
  refine Gb (fun _ => XS.aloadN X4.here hx rfl (hb hby d12_18) rfl rfl) ?_
  obtain ⟨T5, X5, e5, st5⟩ := getF X4 hx hZ hown (host := "") (Or.inl (wq hw 11 rfl)) Via.refl e4 F1 (g := (mkF m 19 (sh9 a0 x2 (1 : Int32)) [(.ref a0), (.int (2 : Int32)), (.ref ar)])) rfl rfl (hb hby d12_19)
  refine Gb st5 ?_
  refine Gb (fun _ => XS.iloadN X5.here hx rfl (hb hby d12_22) rfl) ?_
  refine Gb (fun _ => XS.aloadN X5.here hx rfl (hb hby d12_23) rfl rfl) ?_
  obtain ⟨T6, X6, e6, st6⟩ := getF X5 hx hZ hown (host := "") (Or.inl (wq hw 29 rfl)) Via.refl e5 F2 (g := (mkF m 24 (sh9 a0 x2 (1 : Int32)) [(.ref a0), (.int (1 : Int32)), (.ref ar), (.int (2 : Int32)), (.ref ar)])) rfl rfl (hb hby d12_24)
  refine Gb st6 ?_
  refine Gb (fun _ => XS.iloadN X6.here hx rfl (hb hby d12_27) rfl) ?_
  refine Gb (fun _ => XS.isub X6.here hx rfl (hb hby d12_28) rfl) ?_
  refine Gb (fun _ => XS.iconst X6.here hx rfl (hb hby d12_29)) ?_
  refine Gb (fun _ => XS.isub X6.here hx rfl (hb hby d12_30) rfl) ?_
  obtain ⟨cl7, cl7A, cl7q, -, -, -, -⟩ := id F3
  obtain ⟨T7, h7, L7, X7, e7, Nn7, K7, V7, st7⟩ := cpA X6 hx hZ hown (wq hw 35 rfl) (wq hw 38 rfl) (wq hw 36 rfl) (wq hw 37 rfl) e6 (us := [(.ref x3), (.ref x4)]) F3 F3 (Or.inr ⟨rfl, rfl, ⟨Sto.ofV cl7A cl7q F4 (Ins.self F9), ⟨Sto.ofV cl7A cl7q F4 (Ins.self F11), trivial⟩⟩⟩) (sp := (2 : Int32)) (dp := (1 : Int32)) (nn := (2 : Int32)) (by decide) (by decide) (by decide) (by decide) (by decide) rfl (Nat.le_of_ble_eq_true rfl) N3 Ge1 (g := (mkF m 31 (sh9 a0 x2 (1 : Int32)) [(.int (2 : Int32)), (.int (1 : Int32)), (.ref ar), (.int (2 : Int32)), (.ref ar)])) rfl (by rw [hml]; rfl) rfl (hb hby d12_31) (by decide) (W := 0) (by show 2 * 0 + _ ≤ _; exact Nat.le_of_eq rfl) (by decide)
  have f8 := F0.keep K7
  have f9 := F1.keep K7 (ninS Ne0 nin0)
  have f10 := F2.keep K7 (ninS Ne0 nin0)
  have f11 := F5.keep K7
  have f12 := F7.keep K7
  have f13 := F9.keep K7
  have f14 := F11.keep K7
  have f15 : Arv Z h7 ar kA (.object cH) (4 : Int32) [(.ref x1), (.ref x3), (.ref x4), (.ref x4)] .null := V7
  have Kp7 : Keep h0 h7 [ar, a0] := Kp0.trans K7 (allS (Or.inl om0) all0)
  have Z16 := Nat.le_trans Z0 K7.1
  refine Gb st7 ?_
  refine Gb (fun _ => XS.aloadN X7.here hx rfl (hb hby d12_34) rfl rfl) ?_
  refine Gb (fun _ => XS.dup X7.here hx rfl (hb hby d12_35) rfl rfl) ?_
  obtain ⟨T17, X17, e17, st17⟩ := getF X7 hx hZ hown (host := "") (Or.inl (wq hw 29 rfl)) Via.refl e7 f10 (g := (mkF m 36 (sh9 a0 x2 (1 : Int32)) [(.ref a0), (.ref a0)])) rfl rfl (hb hby d12_36)
  refine Gb st17 ?_
  refine Gb (fun _ => XS.iconst X17.here hx rfl (hb hby d12_39)) ?_
  refine Gb (fun _ => XS.isub X17.here hx rfl (hb hby d12_40) rfl) ?_
  obtain ⟨T18, h18, X18, e18, W18, st18⟩ := putF X17 hx hZ hown (host := "") (Or.inl (wq hw 29 rfl)) Via.refl e17 f10 f8 (Or.inl (wq hw 30 rfl)) (wq hw 1 rfl) (ty := .int) (by decide) rfl rfl (g := (mkF m 41 (sh9 a0 x2 (1 : Int32)) [(.int (3 : Int32)), (.ref a0)])) rfl rfl (hb hby d12_41)
  have f19 := f8.wr W18
  have f20 := f9.other W18 (Or.inr (slot_ne (Or.inl (wq hw 12 rfl)) (Or.inl (wq hw 30 rfl)) (by decide) (t := (.array (.object cH))) (t' := .int) (by decide) (by decide)))
  have f21 := f11.wr W18
  have f22 := f12.wr W18
  have f23 := f13.wr W18
  have f24 := f14.wr W18
  have f25 := f15.other W18 (Ne.symm Ne0)
  have f26 : Fld Z h18 a0 cD "count" "I" (.int (3 : Int32)) := f10.same W18
  have Kp18 : Keep h0 h18 [ar, a0] := Kp7.wr W18 (Or.inl om1)
  have Z27 := Nat.le_trans Z16 (Nat.le_of_eq W18.size.symm)
  have N28 := Fr.snoc X18 Nn7 Ge0
  refine Gb st18 ?_
  refine Gb (fun _ => XS.aloadN X18.here hx rfl (hb hby d12_44) rfl rfl) ?_
  obtain ⟨T29, X29, e29, st29⟩ := getF X18 hx hZ hown (host := "") (Or.inl (wq hw 11 rfl)) Via.refl e18 f20 (g := (mkF m 45 (sh9 a0 x2 (1 : Int32)) [(.ref a0)])) rfl rfl (hb hby d12_45)
  refine Gb st29 ?_
  refine Gb (fun _ => XS.aloadN X29.here hx rfl (hb hby d12_48) rfl rfl) ?_
  obtain ⟨T30, X30, e30, st30⟩ := getF X29 hx hZ hown (host := "") (Or.inl (wq hw 29 rfl)) Via.refl e29 f26 (g := (mkF m 49 (sh9 a0 x2 (1 : Int32)) [(.ref a0), (.ref ar)])) rfl rfl (hb hby d12_49)
  refine Gb st30 ?_
  refine Gb (fun _ => XS.aconstNull X30.here hx rfl (hb hby d12_52)) ?_
  obtain ⟨cl31, cl31A, cl31q, cl31S, cl31N, cl31H, cl31G⟩ := id f25
  have cl31I : ¬ ((3 : Int32) < 0 ∨ cl31.slots.size ≤ ((3 : Int32)).toNatClampNeg) := inb_of cl31S ⟨by decide, by decide⟩
  obtain ⟨T31, h31, X31, e31, W31, st31⟩ := stR X30 hx hZ e30 cl31A (j := (3 : Int32)) cl31I rfl (Or.inl rfl) (g := (mkF m 53 (sh9 a0 x2 (1 : Int32)) [.null, (.int (3 : Int32)), (.ref ar)])) rfl rfl (hb hby d12_53)
  have f32 := f19.wr W31
  have f33 := f20.other W31 (Or.inl Ne0)
  have f34 := f21.wr W31
  have f35 := f22.wr W31
  have f36 := f23.wr W31
  have f37 := f24.wr W31
  have f38 := f26.other W31 (Or.inl Ne0)
  have f39 : Arv Z h31 ar kA (.object cH) (4 : Int32) [(.ref x1), (.ref x3), (.ref x4), .null] .null := Arv.set cl31A cl31q cl31S cl31N cl31H cl31G rfl W31 3 rfl (Nat.le_of_ble_eq_true rfl)
  have Kp31 : Keep h0 h31 [ar, a0] := Kp18.wr W31 (Or.inl om0)
  have Z40 := Nat.le_trans Z27 (Nat.le_of_eq W31.size.symm)
  have N41 := Fr.snoc X31 N28 Ge1
  refine Gb st31 ?_
  refine Gb (fun _ => XS.aloadN X31.here hx rfl (hb hby d12_54) rfl rfl) ?_
  obtain ⟨_, T42, L42, Lc42, X42, hF42, hQ42, st42⟩ := own_cp X31 hx hZ hown (wq hw 81 rfl) (wq hw 83 rfl) (wq hw 1 rfl) (wq hw 82 rfl) (wq hw 2 rfl) (wq hw 84 rfl) (rmShrink l Z az hw [] a0 ar kA [(.ref x1), (.ref x3), (.ref x4), .null] h31 n0 Z40 f33 f39) (W := 0) (g := (mkF m 55 (sh9 a0 x2 (1 : Int32)) [(.ref a0)])) rfl (by rw [hml]; rfl) f32 (argsL := []) (rest := []) rfl (lenOf own_pd0 rfl) rfl (hb hby d12_55) e31 N41 (c' := 0) (s' := 0)
  obtain ⟨rfl, N42q, e42⟩ := hQ42
  have N43 := hF42 N42q
  refine Gb st42 ?_
  obtain ⟨fs, hr, hrun, hended, hW, hsame⟩ := X42.leave (v := none) (fun _ => rfl)
  refine Goes.mk _ _ ?_ ⟨hrun, hended, _, _, rfl, ?_, ⟨_, rfl⟩, hW, hsame.mono (by decide) (by decide)⟩
  · exact X42.returnOut hx Bd.returns (hb hby d12_58) hr
  · show QDrop4_2 Z a0 x2 ar kA x1 x3 x4 t1 t2 t3 t4 h0 n0 _ T42.heap _
    rw [e42]
    exact ⟨rfl, N43, Kp31, f33, f38, f39⟩
def QDrop4_3 (Z : State) (a0 : Addr) (x3 : Addr) (ar : Addr) (kA : ClassId) (x1 : Addr) (x2 : Addr) (x4 : Addr) (t1 : Int64) (t2 : Int64) (t3 : Int64) (t4 : Int64) (h0 : Heap) (n0 : Nat) (v : Option Value) (h : Heap) (L : List Loc) : Prop := v = none ∧ Fr n0 L ∧ Keep h0 h [ar, a0] ∧ Fld Z h a0 cD "heads" dA (.ref ar) ∧ Fld Z h a0 cD "count" "I" (.int (3 : Int32)) ∧ Arv Z h ar kA (.object cH) (4 : Int32) [(.ref x1), (.ref x2), (.ref x4), .null] .null
theorem efDrop4_3 (m : MethodId) (x0 : Addr) (x1 : Addr) : entryFrame m #[(.ref x0), (.ref x1)] 3 = mkF m 0 #[.val (.ref x0), .val (.ref x1), .unset] [] := by first | (simp [entryFrame, mkF, argsToLocals, Value.category]; done) | rfl
set_option maxRecDepth 65536 in
set_option maxHeartbeats 40000000 in
theorem rmDrop4_3 (l : Launch) (Z : State) (az : Array Value) (hw : ∀ d ∈ tables_1, d.before az Z = true) (ws : List Jvm.Cond) (a0 : Addr) (x3 : Addr) (ar : Addr) (kA : ClassId) (x1 : Addr) (x2 : Addr) (x4 : Addr) (t1 : Int64) (t2 : Int64) (t3 : Int64) (t4 : Int64) (h0 : Heap) (n0 : Nat) (Z0 : n0 ≤ h0.size) (F0 : Exa Z h0 a0 cD) (F1 : Fld Z h0 a0 cD "heads" dA (.ref ar)) (F2 : Fld Z h0 a0 cD "count" "I" (.int (4 : Int32))) (F3 : Arv Z h0 ar kA (.object cH) (4 : Int32) [(.ref x1), (.ref x2), (.ref x3), (.ref x4)] .null) (F4 : Ovr Z kA cH) (F5 : Exa Z h0 x1 cH) (F6 : Fld Z h0 x1 cH "tick" "J" (.long t1)) (F7 : Exa Z h0 x2 cH) (F8 : Fld Z h0 x2 cH "tick" "J" (.long t2)) (F9 : Exa Z h0 x3 cH) (F10 : Fld Z h0 x3 cH "tick" "J" (.long t3)) (F11 : Exa Z h0 x4 cH) (F12 : Fld Z h0 x4 cH "tick" "J" (.long t4)) (Ne0 : a0 ≠ ar) (Ne1 : x1 ≠ a0) (Ne2 : x2 ≠ a0) (Ne3 : x3 ≠ a0) (Ne4 : x4 ≠ a0) (Ne5 : x1 ≠ ar) (Ne6 : x2 ≠ ar) (Ne7 : x3 ≠ ar) (Ne8 : x4 ≠ ar) (Ge0 : n0 ≤ a0) (Ge1 : n0 ≤ ar) (HD : fDue4 t3 t1 t2 t3 t4 = (3 : Int32)) :
    MetFree l y9 (head1 (Jvm.Cond.code y9 prog_4_method_9_code 3 none :: ws) ({ frames := 1, cells := 0, slots := 0, locals := 18 } : Room)) (fun a U => a = #[(.ref a0), (.ref x3)] ∧ Z.Warmed39 U.vm ∧ U.heap = h0) (fun _ _ _ _ _ => True) (fun _ U o U' => ∃ v L, o = .returned v ∧ QDrop4_3 Z a0 x3 ar kA x1 x2 x4 t1 t2 t3 t4 h0 n0 v U'.heap L ∧ FrameEnd U o U' L ({ frames := 1, cells := 0, slots := 0, locals := 18 } : Room).cells ({ frames := 1, cells := 0, slots := 0, locals := 18 } : Room).slots) := by
  refine MetFree.of_bodySF (plainFor_of_name own_pn_com_example_admit_one_admitone_engine_DueOrder) hisR ?_
  intro p e s m args below meth c s₁ Bd hml0 hP hK
  obtain ⟨rfl, hZ, hh⟩ := hP
  have hx := Bd.exec
  have hby := Bd.bytes
  have hml : c.maxLocals = 3 := hml0
  have hown : s.vm.findClass cD = some m.cls := findClass_of_methodNamed Bd.named
  have hnm := (name_of_methodNamed Bd.named Bd.method).1
  have X0 : Stand p l e ({ frames := 1, cells := 0, slots := 0, locals := 18 } : Room) s m #[(.ref a0), (.ref x3)] below meth c s₁ [] 0 0 := Stand.of_body Bd
  have e0 : s₁.heap = h0 := by rw [← hh, Bd.state]; rfl
  have N0 := Fr.nil n0
  have Kp0 : Keep h0 h0 [ar, a0] := Keep.refl _ _
  refine Goes.start ?_
  refine Gb (B := s₁.setTop (mkF m 0 #[.val (.ref a0), .val (.ref x3), .unset] [])) (fun t k => castTop (efDrop4_3 m a0 x3) k) ?_
  refine Gb (fun _ => XS.aloadN X0.here hx rfl (hb hby d12_0) rfl rfl) ?_
  refine Gb (fun _ => XS.aloadN X0.here hx rfl (hb hby d12_1) rfl rfl) ?_
  refine Gb (fun _ => getFR X0 hx hZ hown (wq hw 57 rfl) e0 F10 (g := (mkF m 2 (sh8 a0 x3) [(.ref x3), (.ref a0)])) rfl rfl (hb hby d12_2)) ?_
  obtain ⟨_, T2, L2, Lc2, X2, hF2, hQ2, st2⟩ := own_cp X0 hx hZ hown (wq hw 31 rfl) (wq hw 33 rfl) (wq hw 1 rfl) (wq hw 32 rfl) (wq hw 2 rfl) (wq hw 34 rfl) (rmDue4 l Z az hw [] a0 t3 ar kA x1 x2 x3 x4 t1 t2 t3 t4 h0 n0 Z0 F0 F1 F2 F3 F4 F5 F6 F7 F8 F9 F10 F11 F12) (W := 0) (g := (mkF m 5 (sh8 a0 x3) [(.long t3), (.ref a0)])) rfl (by rw [hml]; rfl) F0 (argsL := [(.long t3)]) (rest := []) rfl (lenOf own_pd1 rfl) rfl (hb hby d12_5) e0 N0 (c' := 0) (s' := 0)
  obtain ⟨rfl, N2q, e2⟩ := hQ2
  have N3 := hF2 N2q
  refine Gb st2 ?_
  rw [HD]
  show Goes p.tables e below _ (T2.setTop (mkF m 8 (sh8 a0 x3) [(.int (3 : Int32))]))
  refine Gb (fun _ => XS.iconst X2.here hx rfl (hb hby d12_8)) ?_
  refine Gb (fun _ => XS.isub X2.here hx rfl (hb hby d12_9) rfl) ?_
  refine Gb (fun _ => XS.istoreN X2.here hx rfl (hb hby d12_10) rfl (l' := (sh9 a0 x3 (2 : Int32))) rfl) ?_
  refine Gb (fun _ => XS.aloadN X2.here hx rfl (hb hby d12_11) rfl rfl) ?_
  obtain ⟨T4, X4, e4, st4⟩ := getF X2 hx hZ hown (host := "") (Or.inl (wq hw 11 rfl)) Via.refl e2 F1 (g := (mkF m 12 (sh9 a0 x3 (2 : Int32)) [(.ref a0)])) rfl rfl (hb hby d12_12)
  refine Gb st4 ?_
  refine Gb (fun _ => XS.iloadN X4.here hx rfl (hb hby d12_15) rfl) ?_
  refine Gb (fun _ => XS.iconst X4.here hx rfl (hb hby d12_16)) ?_
  refine Gb (fun _ => XS.iadd X4.here hx rfl (hb hby d12_17) rfl) ?_
  refine Gb (fun _ => XS.aloadN X4.here hx rfl (hb hby d12_18) rfl rfl) ?_
  obtain ⟨T5, X5, e5, st5⟩ := getF X4 hx hZ hown (host := "") (Or.inl (wq hw 11 rfl)) Via.refl e4 F1 (g := (mkF m 19 (sh9 a0 x3 (2 : Int32)) [(.ref a0), (.int (3 : Int32)), (.ref ar)])) rfl rfl (hb hby d12_19)
  refine Gb st5 ?_
  refine Gb (fun _ => XS.iloadN X5.here hx rfl (hb hby d12_22) rfl) ?_
  refine Gb (fun _ => XS.aloadN X5.here hx rfl (hb hby d12_23) rfl rfl) ?_
  obtain ⟨T6, X6, e6, st6⟩ := getF X5 hx hZ hown (host := "") (Or.inl (wq hw 29 rfl)) Via.refl e5 F2 (g := (mkF m 24 (sh9 a0 x3 (2 : Int32)) [(.ref a0), (.int (2 : Int32)), (.ref ar), (.int (3 : Int32)), (.ref ar)])) rfl rfl (hb hby d12_24)
  refine Gb st6 ?_
  refine Gb (fun _ => XS.iloadN X6.here hx rfl (hb hby d12_27) rfl) ?_
  refine Gb (fun _ => XS.isub X6.here hx rfl (hb hby d12_28) rfl) ?_
  refine Gb (fun _ => XS.iconst X6.here hx rfl (hb hby d12_29)) ?_
  refine Gb (fun _ => XS.isub X6.here hx rfl (hb hby d12_30) rfl) ?_
  obtain ⟨cl7, cl7A, cl7q, -, -, -, -⟩ := id F3
  obtain ⟨T7, h7, L7, X7, e7, Nn7, K7, V7, st7⟩ := cpA X6 hx hZ hown (wq hw 35 rfl) (wq hw 38 rfl) (wq hw 36 rfl) (wq hw 37 rfl) e6 (us := [(.ref x4)]) F3 F3 (Or.inr ⟨rfl, rfl, ⟨Sto.ofV cl7A cl7q F4 (Ins.self F11), trivial⟩⟩) (sp := (3 : Int32)) (dp := (2 : Int32)) (nn := (1 : Int32)) (by decide) (by decide) (by decide) (by decide) (by decide) rfl (Nat.le_of_ble_eq_true rfl) N3 Ge1 (g := (mkF m 31 (sh9 a0 x3 (2 : Int32)) [(.int (1 : Int32)), (.int (2 : Int32)), (.ref ar), (.int (3 : Int32)), (.ref ar)])) rfl (by rw [hml]; rfl) rfl (hb hby d12_31) (by decide) (W := 0) (by show 2 * 0 + _ ≤ _; exact Nat.le_of_eq rfl) (by decide)
  have f8 := F0.keep K7
  have f9 := F1.keep K7 (ninS Ne0 nin0)
  have f10 := F2.keep K7 (ninS Ne0 nin0)
  have f11 := F5.keep K7
  have f12 := F7.keep K7
  have f13 := F9.keep K7
  have f14 := F11.keep K7
  have f15 : Arv Z h7 ar kA (.object cH) (4 : Int32) [(.ref x1), (.ref x2), (.ref x4), (.ref x4)] .null := V7
  have Kp7 : Keep h0 h7 [ar, a0] := Kp0.trans K7 (allS (Or.inl om0) all0)
  have Z16 := Nat.le_trans Z0 K7.1
  refine Gb st7 ?_
  refine Gb (fun _ => XS.aloadN X7.here hx rfl (hb hby d12_34) rfl rfl) ?_
  refine Gb (fun _ => XS.dup X7.here hx rfl (hb hby d12_35) rfl rfl) ?_
  obtain ⟨T17, X17, e17, st17⟩ := getF X7 hx hZ hown (host := "") (Or.inl (wq hw 29 rfl)) Via.refl e7 f10 (g := (mkF m 36 (sh9 a0 x3 (2 : Int32)) [(.ref a0), (.ref a0)])) rfl rfl (hb hby d12_36)
  refine Gb st17 ?_
  refine Gb (fun _ => XS.iconst X17.here hx rfl (hb hby d12_39)) ?_
  refine Gb (fun _ => XS.isub X17.here hx rfl (hb hby d12_40) rfl) ?_
  obtain ⟨T18, h18, X18, e18, W18, st18⟩ := putF X17 hx hZ hown (host := "") (Or.inl (wq hw 29 rfl)) Via.refl e17 f10 f8 (Or.inl (wq hw 30 rfl)) (wq hw 1 rfl) (ty := .int) (by decide) rfl rfl (g := (mkF m 41 (sh9 a0 x3 (2 : Int32)) [(.int (3 : Int32)), (.ref a0)])) rfl rfl (hb hby d12_41)
  have f19 := f8.wr W18
  have f20 := f9.other W18 (Or.inr (slot_ne (Or.inl (wq hw 12 rfl)) (Or.inl (wq hw 30 rfl)) (by decide) (t := (.array (.object cH))) (t' := .int) (by decide) (by decide)))
  have f21 := f11.wr W18
  have f22 := f12.wr W18
  have f23 := f13.wr W18
  have f24 := f14.wr W18
  have f25 := f15.other W18 (Ne.symm Ne0)
  have f26 : Fld Z h18 a0 cD "count" "I" (.int (3 : Int32)) := f10.same W18
  have Kp18 : Keep h0 h18 [ar, a0] := Kp7.wr W18 (Or.inl om1)
  have Z27 := Nat.le_trans Z16 (Nat.le_of_eq W18.size.symm)
  have N28 := Fr.snoc X18 Nn7 Ge0
  refine Gb st18 ?_
  refine Gb (fun _ => XS.aloadN X18.here hx rfl (hb hby d12_44) rfl rfl) ?_
  obtain ⟨T29, X29, e29, st29⟩ := getF X18 hx hZ hown (host := "") (Or.inl (wq hw 11 rfl)) Via.refl e18 f20 (g := (mkF m 45 (sh9 a0 x3 (2 : Int32)) [(.ref a0)])) rfl rfl (hb hby d12_45)
  refine Gb st29 ?_
  refine Gb (fun _ => XS.aloadN X29.here hx rfl (hb hby d12_48) rfl rfl) ?_
  obtain ⟨T30, X30, e30, st30⟩ := getF X29 hx hZ hown (host := "") (Or.inl (wq hw 29 rfl)) Via.refl e29 f26 (g := (mkF m 49 (sh9 a0 x3 (2 : Int32)) [(.ref a0), (.ref ar)])) rfl rfl (hb hby d12_49)
  refine Gb st30 ?_
  refine Gb (fun _ => XS.aconstNull X30.here hx rfl (hb hby d12_52)) ?_
  obtain ⟨cl31, cl31A, cl31q, cl31S, cl31N, cl31H, cl31G⟩ := id f25
  have cl31I : ¬ ((3 : Int32) < 0 ∨ cl31.slots.size ≤ ((3 : Int32)).toNatClampNeg) := inb_of cl31S ⟨by decide, by decide⟩
  obtain ⟨T31, h31, X31, e31, W31, st31⟩ := stR X30 hx hZ e30 cl31A (j := (3 : Int32)) cl31I rfl (Or.inl rfl) (g := (mkF m 53 (sh9 a0 x3 (2 : Int32)) [.null, (.int (3 : Int32)), (.ref ar)])) rfl rfl (hb hby d12_53)
  have f32 := f19.wr W31
  have f33 := f20.other W31 (Or.inl Ne0)
  have f34 := f21.wr W31
  have f35 := f22.wr W31
  have f36 := f23.wr W31
  have f37 := f24.wr W31
  have f38 := f26.other W31 (Or.inl Ne0)
  have f39 : Arv Z h31 ar kA (.object cH) (4 : Int32) [(.ref x1), (.ref x2), (.ref x4), .null] .null := Arv.set cl31A cl31q cl31S cl31N cl31H cl31G rfl W31 3 rfl (Nat.le_of_ble_eq_true rfl)
  have Kp31 : Keep h0 h31 [ar, a0] := Kp18.wr W31 (Or.inl om0)
  have Z40 := Nat.le_trans Z27 (Nat.le_of_eq W31.size.symm)
  have N41 := Fr.snoc X31 N28 Ge1
  refine Gb st31 ?_
  refine Gb (fun _ => XS.aloadN X31.here hx rfl (hb hby d12_54) rfl rfl) ?_
  obtain ⟨_, T42, L42, Lc42, X42, hF42, hQ42, st42⟩ := own_cp X31 hx hZ hown (wq hw 81 rfl) (wq hw 83 rfl) (wq hw 1 rfl) (wq hw 82 rfl) (wq hw 2 rfl) (wq hw 84 rfl) (rmShrink l Z az hw [] a0 ar kA [(.ref x1), (.ref x2), (.ref x4), .null] h31 n0 Z40 f33 f39) (W := 0) (g := (mkF m 55 (sh9 a0 x3 (2 : Int32)) [(.ref a0)])) rfl (by rw [hml]; rfl) f32 (argsL := []) (rest := []) rfl (lenOf own_pd0 rfl) rfl (hb hby d12_55) e31 N41 (c' := 0) (s' := 0)
  obtain ⟨rfl, N42q, e42⟩ := hQ42
  have N43 := hF42 N42q
  refine Gb st42 ?_
  obtain ⟨fs, hr, hrun, hended, hW, hsame⟩ := X42.leave (v := none) (fun _ => rfl)
  refine Goes.mk _ _ ?_ ⟨hrun, hended, _, _, rfl, ?_, ⟨_, rfl⟩, hW, hsame.mono (by decide) (by decide)⟩
  · exact X42.returnOut hx Bd.returns (hb hby d12_58) hr
  · show QDrop4_3 Z a0 x3 ar kA x1 x2 x4 t1 t2 t3 t4 h0 n0 _ T42.heap _
    rw [e42]
    exact ⟨rfl, N43, Kp31, f33, f38, f39⟩
def QDrop4_4 (Z : State) (a0 : Addr) (x4 : Addr) (ar : Addr) (kA : ClassId) (x1 : Addr) (x2 : Addr) (x3 : Addr) (t1 : Int64) (t2 : Int64) (t3 : Int64) (t4 : Int64) (h0 : Heap) (n0 : Nat) (v : Option Value) (h : Heap) (L : List Loc) : Prop := v = none ∧ Fr n0 L ∧ Keep h0 h [ar, a0] ∧ Fld Z h a0 cD "heads" dA (.ref ar) ∧ Fld Z h a0 cD "count" "I" (.int (3 : Int32)) ∧ Arv Z h ar kA (.object cH) (4 : Int32) [(.ref x1), (.ref x2), (.ref x3), .null] .null
theorem efDrop4_4 (m : MethodId) (x0 : Addr) (x1 : Addr) : entryFrame m #[(.ref x0), (.ref x1)] 3 = mkF m 0 #[.val (.ref x0), .val (.ref x1), .unset] [] := by first | (simp [entryFrame, mkF, argsToLocals, Value.category]; done) | rfl
set_option maxRecDepth 65536 in
set_option maxHeartbeats 40000000 in
theorem rmDrop4_4 (l : Launch) (Z : State) (az : Array Value) (hw : ∀ d ∈ tables_1, d.before az Z = true) (ws : List Jvm.Cond) (a0 : Addr) (x4 : Addr) (ar : Addr) (kA : ClassId) (x1 : Addr) (x2 : Addr) (x3 : Addr) (t1 : Int64) (t2 : Int64) (t3 : Int64) (t4 : Int64) (h0 : Heap) (n0 : Nat) (Z0 : n0 ≤ h0.size) (F0 : Exa Z h0 a0 cD) (F1 : Fld Z h0 a0 cD "heads" dA (.ref ar)) (F2 : Fld Z h0 a0 cD "count" "I" (.int (4 : Int32))) (F3 : Arv Z h0 ar kA (.object cH) (4 : Int32) [(.ref x1), (.ref x2), (.ref x3), (.ref x4)] .null) (F4 : Ovr Z kA cH) (F5 : Exa Z h0 x1 cH) (F6 : Fld Z h0 x1 cH "tick" "J" (.long t1)) (F7 : Exa Z h0 x2 cH) (F8 : Fld Z h0 x2 cH "tick" "J" (.long t2)) (F9 : Exa Z h0 x3 cH) (F10 : Fld Z h0 x3 cH "tick" "J" (.long t3)) (F11 : Exa Z h0 x4 cH) (F12 : Fld Z h0 x4 cH "tick" "J" (.long t4)) (Ne0 : a0 ≠ ar) (Ne1 : x1 ≠ a0) (Ne2 : x2 ≠ a0) (Ne3 : x3 ≠ a0) (Ne4 : x4 ≠ a0) (Ne5 : x1 ≠ ar) (Ne6 : x2 ≠ ar) (Ne7 : x3 ≠ ar) (Ne8 : x4 ≠ ar) (Ge0 : n0 ≤ a0) (Ge1 : n0 ≤ ar) (HD : fDue4 t4 t1 t2 t3 t4 = (4 : Int32)) :
    MetFree l y9 (head1 (Jvm.Cond.code y9 prog_4_method_9_code 3 none :: ws) ({ frames := 1, cells := 0, slots := 0, locals := 18 } : Room)) (fun a U => a = #[(.ref a0), (.ref x4)] ∧ Z.Warmed39 U.vm ∧ U.heap = h0) (fun _ _ _ _ _ => True) (fun _ U o U' => ∃ v L, o = .returned v ∧ QDrop4_4 Z a0 x4 ar kA x1 x2 x3 t1 t2 t3 t4 h0 n0 v U'.heap L ∧ FrameEnd U o U' L ({ frames := 1, cells := 0, slots := 0, locals := 18 } : Room).cells ({ frames := 1, cells := 0, slots := 0, locals := 18 } : Room).slots) := by
  refine MetFree.of_bodySF (plainFor_of_name own_pn_com_example_admit_one_admitone_engine_DueOrder) hisR ?_
  intro p e s m args below meth c s₁ Bd hml0 hP hK
  obtain ⟨rfl, hZ, hh⟩ := hP
  have hx := Bd.exec
  have hby := Bd.bytes
  have hml : c.maxLocals = 3 := hml0
  have hown : s.vm.findClass cD = some m.cls := findClass_of_methodNamed Bd.named
  have hnm := (name_of_methodNamed Bd.named Bd.method).1
  have X0 : Stand p l e ({ frames := 1, cells := 0, slots := 0, locals := 18 } : Room) s m #[(.ref a0), (.ref x4)] below meth c s₁ [] 0 0 := Stand.of_body Bd
  have e0 : s₁.heap = h0 := by rw [← hh, Bd.state]; rfl
  have N0 := Fr.nil n0
  have Kp0 : Keep h0 h0 [ar, a0] := Keep.refl _ _
  refine Goes.start ?_
  refine Gb (B := s₁.setTop (mkF m 0 #[.val (.ref a0), .val (.ref x4), .unset] [])) (fun t k => castTop (efDrop4_4 m a0 x4) k) ?_
  refine Gb (fun _ => XS.aloadN X0.here hx rfl (hb hby d12_0) rfl rfl) ?_
  refine Gb (fun _ => XS.aloadN X0.here hx rfl (hb hby d12_1) rfl rfl) ?_
  refine Gb (fun _ => getFR X0 hx hZ hown (wq hw 57 rfl) e0 F12 (g := (mkF m 2 (sh8 a0 x4) [(.ref x4), (.ref a0)])) rfl rfl (hb hby d12_2)) ?_
  obtain ⟨_, T2, L2, Lc2, X2, hF2, hQ2, st2⟩ := own_cp X0 hx hZ hown (wq hw 31 rfl) (wq hw 33 rfl) (wq hw 1 rfl) (wq hw 32 rfl) (wq hw 2 rfl) (wq hw 34 rfl) (rmDue4 l Z az hw [] a0 t4 ar kA x1 x2 x3 x4 t1 t2 t3 t4 h0 n0 Z0 F0 F1 F2 F3 F4 F5 F6 F7 F8 F9 F10 F11 F12) (W := 0) (g := (mkF m 5 (sh8 a0 x4) [(.long t4), (.ref a0)])) rfl (by rw [hml]; rfl) F0 (argsL := [(.long t4)]) (rest := []) rfl (lenOf own_pd1 rfl) rfl (hb hby d12_5) e0 N0 (c' := 0) (s' := 0)
  obtain ⟨rfl, N2q, e2⟩ := hQ2
  have N3 := hF2 N2q
  refine Gb st2 ?_
  rw [HD]
  show Goes p.tables e below _ (T2.setTop (mkF m 8 (sh8 a0 x4) [(.int (4 : Int32))]))
  refine Gb (fun _ => XS.iconst X2.here hx rfl (hb hby d12_8)) ?_
  refine Gb (fun _ => XS.isub X2.here hx rfl (hb hby d12_9) rfl) ?_
  refine Gb (fun _ => XS.istoreN X2.here hx rfl (hb hby d12_10) rfl (l' := (sh9 a0 x4 (3 : Int32))) rfl) ?_
  refine Gb (fun _ => XS.aloadN X2.here hx rfl (hb hby d12_11) rfl rfl) ?_
  obtain ⟨T4, X4, e4, st4⟩ := getF X2 hx hZ hown (host := "") (Or.inl (wq hw 11 rfl)) Via.refl e2 F1 (g := (mkF m 12 (sh9 a0 x4 (3 : Int32)) [(.ref a0)])) rfl rfl (hb hby d12_12)
  refine Gb st4 ?_
  refine Gb (fun _ => XS.iloadN X4.here hx rfl (hb hby d12_15) rfl) ?_
  refine Gb (fun _ => XS.iconst X4.here hx rfl (hb hby d12_16)) ?_
  refine Gb (fun _ => XS.iadd X4.here hx rfl (hb hby d12_17) rfl) ?_
  refine Gb (fun _ => XS.aloadN X4.here hx rfl (hb hby d12_18) rfl rfl) ?_
  obtain ⟨T5, X5, e5, st5⟩ := getF X4 hx hZ hown (host := "") (Or.inl (wq hw 11 rfl)) Via.refl e4 F1 (g := (mkF m 19 (sh9 a0 x4 (3 : Int32)) [(.ref a0), (.int (4 : Int32)), (.ref ar)])) rfl rfl (hb hby d12_19)
  refine Gb st5 ?_
  refine Gb (fun _ => XS.iloadN X5.here hx rfl (hb hby d12_22) rfl) ?_
  refine Gb (fun _ => XS.aloadN X5.here hx rfl (hb hby d12_23) rfl rfl) ?_
  obtain ⟨T6, X6, e6, st6⟩ := getF X5 hx hZ hown (host := "") (Or.inl (wq hw 29 rfl)) Via.refl e5 F2 (g := (mkF m 24 (sh9 a0 x4 (3 : Int32)) [(.ref a0), (.int (3 : Int32)), (.ref ar), (.int (4 : Int32)), (.ref ar)])) rfl rfl (hb hby d12_24)
  refine Gb st6 ?_
  refine Gb (fun _ => XS.iloadN X6.here hx rfl (hb hby d12_27) rfl) ?_
  refine Gb (fun _ => XS.isub X6.here hx rfl (hb hby d12_28) rfl) ?_
  refine Gb (fun _ => XS.iconst X6.here hx rfl (hb hby d12_29)) ?_
  refine Gb (fun _ => XS.isub X6.here hx rfl (hb hby d12_30) rfl) ?_
  obtain ⟨T7, h7, L7, X7, e7, Nn7, K7, V7, st7⟩ := cpA X6 hx hZ hown (wq hw 35 rfl) (wq hw 38 rfl) (wq hw 36 rfl) (wq hw 37 rfl) e6 (us := []) F3 F3 (Or.inr ⟨rfl, rfl, trivial⟩) (sp := (4 : Int32)) (dp := (3 : Int32)) (nn := (0 : Int32)) (by decide) (by decide) (by decide) (by decide) (by decide) rfl (Nat.le_of_ble_eq_true rfl) N3 Ge1 (g := (mkF m 31 (sh9 a0 x4 (3 : Int32)) [(.int (0 : Int32)), (.int (3 : Int32)), (.ref ar), (.int (4 : Int32)), (.ref ar)])) rfl (by rw [hml]; rfl) rfl (hb hby d12_31) (by decide) (W := 0) (by show 2 * 0 + _ ≤ _; exact Nat.le_of_eq rfl) (by decide)
  have f8 := F0.keep K7
  have f9 := F1.keep K7 (ninS Ne0 nin0)
  have f10 := F2.keep K7 (ninS Ne0 nin0)
  have f11 := F5.keep K7
  have f12 := F7.keep K7
  have f13 := F9.keep K7
  have f14 := F11.keep K7
  have f15 : Arv Z h7 ar kA (.object cH) (4 : Int32) [(.ref x1), (.ref x2), (.ref x3), (.ref x4)] .null := V7
  have Kp7 : Keep h0 h7 [ar, a0] := Kp0.trans K7 (allS (Or.inl om0) all0)
  have Z16 := Nat.le_trans Z0 K7.1
  refine Gb st7 ?_
  refine Gb (fun _ => XS.aloadN X7.here hx rfl (hb hby d12_34) rfl rfl) ?_
  refine Gb (fun _ => XS.dup X7.here hx rfl (hb hby d12_35) rfl rfl) ?_
  obtain ⟨T17, X17, e17, st17⟩ := getF X7 hx hZ hown (host := "") (Or.inl (wq hw 29 rfl)) Via.refl e7 f10 (g := (mkF m 36 (sh9 a0 x4 (3 : Int32)) [(.ref a0), (.ref a0)])) rfl rfl (hb hby d12_36)
  refine Gb st17 ?_
  refine Gb (fun _ => XS.iconst X17.here hx rfl (hb hby d12_39)) ?_
  refine Gb (fun _ => XS.isub X17.here hx rfl (hb hby d12_40) rfl) ?_
  obtain ⟨T18, h18, X18, e18, W18, st18⟩ := putF X17 hx hZ hown (host := "") (Or.inl (wq hw 29 rfl)) Via.refl e17 f10 f8 (Or.inl (wq hw 30 rfl)) (wq hw 1 rfl) (ty := .int) (by decide) rfl rfl (g := (mkF m 41 (sh9 a0 x4 (3 : Int32)) [(.int (3 : Int32)), (.ref a0)])) rfl rfl (hb hby d12_41)
  have f19 := f8.wr W18
  have f20 := f9.other W18 (Or.inr (slot_ne (Or.inl (wq hw 12 rfl)) (Or.inl (wq hw 30 rfl)) (by decide) (t := (.array (.object cH))) (t' := .int) (by decide) (by decide)))
  have f21 := f11.wr W18
  have f22 := f12.wr W18
  have f23 := f13.wr W18
  have f24 := f14.wr W18
  have f25 := f15.other W18 (Ne.symm Ne0)
  have f26 : Fld Z h18 a0 cD "count" "I" (.int (3 : Int32)) := f10.same W18
  have Kp18 : Keep h0 h18 [ar, a0] := Kp7.wr W18 (Or.inl om1)
  have Z27 := Nat.le_trans Z16 (Nat.le_of_eq W18.size.symm)
  have N28 := Fr.snoc X18 Nn7 Ge0
  refine Gb st18 ?_
  refine Gb (fun _ => XS.aloadN X18.here hx rfl (hb hby d12_44) rfl rfl) ?_
  obtain ⟨T29, X29, e29, st29⟩ := getF X18 hx hZ hown (host := "") (Or.inl (wq hw 11 rfl)) Via.refl e18 f20 (g := (mkF m 45 (sh9 a0 x4 (3 : Int32)) [(.ref a0)])) rfl rfl (hb hby d12_45)
  refine Gb st29 ?_
  refine Gb (fun _ => XS.aloadN X29.here hx rfl (hb hby d12_48) rfl rfl) ?_
  obtain ⟨T30, X30, e30, st30⟩ := getF X29 hx hZ hown (host := "") (Or.inl (wq hw 29 rfl)) Via.refl e29 f26 (g := (mkF m 49 (sh9 a0 x4 (3 : Int32)) [(.ref a0), (.ref ar)])) rfl rfl (hb hby d12_49)
  refine Gb st30 ?_
  refine Gb (fun _ => XS.aconstNull X30.here hx rfl (hb hby d12_52)) ?_
  obtain ⟨cl31, cl31A, cl31q, cl31S, cl31N, cl31H, cl31G⟩ := id f25
  have cl31I : ¬ ((3 : Int32) < 0 ∨ cl31.slots.size ≤ ((3 : Int32)).toNatClampNeg) := inb_of cl31S ⟨by decide, by decide⟩
  obtain ⟨T31, h31, X31, e31, W31, st31⟩ := stR X30 hx hZ e30 cl31A (j := (3 : Int32)) cl31I rfl (Or.inl rfl) (g := (mkF m 53 (sh9 a0 x4 (3 : Int32)) [.null, (.int (3 : Int32)), (.ref ar)])) rfl rfl (hb hby d12_53)
  have f32 := f19.wr W31
  have f33 := f20.other W31 (Or.inl Ne0)
  have f34 := f21.wr W31
  have f35 := f22.wr W31
  have f36 := f23.wr W31
  have f37 := f24.wr W31
  have f38 := f26.other W31 (Or.inl Ne0)
  have f39 : Arv Z h31 ar kA (.object cH) (4 : Int32) [(.ref x1), (.ref x2), (.ref x3), .null] .null := Arv.set cl31A cl31q cl31S cl31N cl31H cl31G rfl W31 3 rfl (Nat.le_of_ble_eq_true rfl)
  have Kp31 : Keep h0 h31 [ar, a0] := Kp18.wr W31 (Or.inl om0)
  have Z40 := Nat.le_trans Z27 (Nat.le_of_eq W31.size.symm)
  have N41 := Fr.snoc X31 N28 Ge1
  refine Gb st31 ?_
  refine Gb (fun _ => XS.aloadN X31.here hx rfl (hb hby d12_54) rfl rfl) ?_
  obtain ⟨_, T42, L42, Lc42, X42, hF42, hQ42, st42⟩ := own_cp X31 hx hZ hown (wq hw 81 rfl) (wq hw 83 rfl) (wq hw 1 rfl) (wq hw 82 rfl) (wq hw 2 rfl) (wq hw 84 rfl) (rmShrink l Z az hw [] a0 ar kA [(.ref x1), (.ref x2), (.ref x3), .null] h31 n0 Z40 f33 f39) (W := 0) (g := (mkF m 55 (sh9 a0 x4 (3 : Int32)) [(.ref a0)])) rfl (by rw [hml]; rfl) f32 (argsL := []) (rest := []) rfl (lenOf own_pd0 rfl) rfl (hb hby d12_55) e31 N41 (c' := 0) (s' := 0)
  obtain ⟨rfl, N42q, e42⟩ := hQ42
  have N43 := hF42 N42q
  refine Gb st42 ?_
  obtain ⟨fs, hr, hrun, hended, hW, hsame⟩ := X42.leave (v := none) (fun _ => rfl)
  refine Goes.mk _ _ ?_ ⟨hrun, hended, _, _, rfl, ?_, ⟨_, rfl⟩, hW, hsame.mono (by decide) (by decide)⟩
  · exact X42.returnOut hx Bd.returns (hb hby d12_58) hr
  · show QDrop4_4 Z a0 x4 ar kA x1 x2 x3 t1 t2 t3 t4 h0 n0 _ T42.heap _
    rw [e42]
    exact ⟨rfl, N43, Kp31, f33, f38, f39⟩
theorem d4_0 : decode prog_4_method_5_code 0 = .ok (.aload_n 0, 1) := by decide +kernel
theorem d4_1 : decode prog_4_method_5_code 1 = .ok (.lload_n 2, 1) := by decide +kernel
theorem d4_2 : decode prog_4_method_5_code 2 = .ok (.invokevirtual 33, 3) := by decide +kernel
theorem own_pd3 : parseMethodDescriptor "(J)Lcom/example/admit_one/admitone/engine/DueOrder$Head;" = some ⟨[.long], some (.object cH)⟩ := by decide +kernel
theorem d4_5 : decode prog_4_method_5_code 5 = .ok (.astore 4, 2) := by decide +kernel
theorem d4_7 : decode prog_4_method_5_code 7 = .ok (.aload_n 1, 1) := by decide +kernel
theorem d4_8 : decode prog_4_method_5_code 8 = .ok (.aload 4, 2) := by decide +kernel
theorem d4_10 : decode prog_4_method_5_code 10 = .ok (.getfield 37, 3) := by decide +kernel
theorem d4_13 : decode prog_4_method_5_code 13 = .ok (.putfield 37, 3) := by decide +kernel
theorem d4_16 : decode prog_4_method_5_code 16 = .ok (.aload_n 1, 1) := by decide +kernel
theorem d4_17 : decode prog_4_method_5_code 17 = .ok (.aload 4, 2) := by decide +kernel
theorem d4_19 : decode prog_4_method_5_code 19 = .ok (.putfield 27, 3) := by decide +kernel
theorem d4_22 : decode prog_4_method_5_code 22 = .ok (.aload 4, 2) := by decide +kernel
theorem d4_24 : decode prog_4_method_5_code 24 = .ok (.getfield 37, 3) := by decide +kernel
theorem d4_27 : decode prog_4_method_5_code 27 = .ok (.aload_n 1, 1) := by decide +kernel
theorem d4_28 : decode prog_4_method_5_code 28 = .ok (.putfield 27, 3) := by decide +kernel
theorem d4_31 : decode prog_4_method_5_code 31 = .ok (.aload 4, 2) := by decide +kernel
theorem d4_33 : decode prog_4_method_5_code 33 = .ok (.aload_n 1, 1) := by decide +kernel
theorem d4_34 : decode prog_4_method_5_code 34 = .ok (.putfield 37, 3) := by decide +kernel
theorem d4_37 : decode prog_4_method_5_code 37 = .ok (.return_, 1) := by decide +kernel
def QFile0 (Z : State) (a0 : Addr) (a1 : Addr) (q2 : Int64) (ar : Addr) (kA : ClassId) (nl : Value) (pl : Value) (h0 : Heap) (n0 : Nat) (v : Option Value) (h : Heap) (L : List Loc) : Prop := (∃ b2 : Addr, v = none ∧ Fr n0 L ∧ Keep h0 h [ar, a0, a1] ∧ h0.size ≤ b2 ∧ Fld Z h a0 cD "heads" dA (.ref ar) ∧ Fld Z h a0 cD "count" "I" (.int (1 : Int32)) ∧ Arv Z h ar kA (.object cH) (4 : Int32) [(.ref b2), .null, .null, .null] .null ∧ Exa Z h b2 cH ∧ Fld Z h b2 cH "tick" "J" (.long q2) ∧ Fld Z h b2 cL "next" dL (.ref a1) ∧ Fld Z h b2 cL "prev" dL (.ref a1) ∧ Fld Z h a1 cL "next" dL (.ref b2) ∧ Fld Z h a1 cL "prev" dL (.ref b2))
theorem efFile0 (m : MethodId) (x0 : Addr) (x1 : Addr) (x2 : Int64) : entryFrame m #[(.ref x0), (.ref x1), (.long x2)] 5 = mkF m 0 #[.val (.ref x0), .val (.ref x1), .val (.long x2), .second, .unset] [] := by first | (simp [entryFrame, mkF, argsToLocals, Value.category]; done) | rfl
set_option maxRecDepth 65536 in
set_option maxHeartbeats 40000000 in
theorem rmFile0 (l : Launch) (Z : State) (az : Array Value) (hw : ∀ d ∈ tables_1, d.before az Z = true) (ws : List Jvm.Cond) (a0 : Addr) (a1 : Addr) (q2 : Int64) (ar : Addr) (kA : ClassId) (nl : Value) (pl : Value) (h0 : Heap) (n0 : Nat) (Z0 : n0 ≤ h0.size) (F0 : Exa Z h0 a0 cD) (F1 : Fld Z h0 a0 cD "heads" dA (.ref ar)) (F2 : Fld Z h0 a0 cD "count" "I" (.int (0 : Int32))) (F3 : Arv Z h0 ar kA (.object cH) (4 : Int32) [.null, .null, .null, .null] .null) (F4 : Ovr Z kA cH) (F5 : Exa Z h0 a1 cL) (F6 : Fld Z h0 a1 cL "next" dL nl) (F7 : Fld Z h0 a1 cL "prev" dL pl) (Ne0 : a0 ≠ ar) (Ne1 : a1 ≠ a0) (Ne2 : a1 ≠ ar) (Ge0 : n0 ≤ a0) (Ge1 : n0 ≤ ar) (Ge2 : n0 ≤ a1) :
    MetFree l y2 (head1 (Jvm.Cond.code y2 prog_4_method_5_code 5 none :: ws) ({ frames := 4, cells := 1, slots := 3, locals := 55 } : Room)) (fun a U => a = #[(.ref a0), (.ref a1), (.long q2)] ∧ Z.Warmed39 U.vm ∧ U.heap = h0) (fun _ _ _ _ _ => True) (fun _ U o U' => ∃ v L, o = .returned v ∧ QFile0 Z a0 a1 q2 ar kA nl pl h0 n0 v U'.heap L ∧ FrameEnd U o U' L ({ frames := 4, cells := 1, slots := 3, locals := 55 } : Room).cells ({ frames := 4, cells := 1, slots := 3, locals := 55 } : Room).slots) := by
  refine MetFree.of_bodySF (plainFor_of_name own_pn_com_example_admit_one_admitone_engine_DueOrder) hisR ?_
  intro p e s m args below meth c s₁ Bd hml0 hP hK
  obtain ⟨rfl, hZ, hh⟩ := hP
  have hx := Bd.exec
  have hby := Bd.bytes
  have hml : c.maxLocals = 5 := hml0
  have hown : s.vm.findClass cD = some m.cls := findClass_of_methodNamed Bd.named
  have hnm := (name_of_methodNamed Bd.named Bd.method).1
  have X0 : Stand p l e ({ frames := 4, cells := 1, slots := 3, locals := 55 } : Room) s m #[(.ref a0), (.ref a1), (.long q2)] below meth c s₁ [] 0 0 := Stand.of_body Bd
  have e0 : s₁.heap = h0 := by rw [← hh, Bd.state]; rfl
  have N0 := Fr.nil n0
  have Kp0 : Keep h0 h0 [] := Keep.refl _ _
  refine Goes.start ?_
  refine Gb (B := s₁.setTop (mkF m 0 #[.val (.ref a0), .val (.ref a1), .val (.long q2), .second, .unset] [])) (fun t k => castTop (efFile0 m a0 a1 q2) k) ?_
  refine Gb (fun _ => XS.aloadN X0.here hx rfl (hb hby d4_0) rfl rfl) ?_
  refine Gb (fun _ => XS.lloadN X0.here hx rfl (hb hby d4_1) rfl) ?_
  obtain ⟨_, T1, L1, Lc1, X1, hF1, hQ1, st1⟩ := own_cp X0 hx hZ hown (wq hw 25 rfl) (wq hw 27 rfl) (wq hw 1 rfl) (wq hw 26 rfl) (wq hw 2 rfl) (wq hw 28 rfl) (rmHeadOf0 l Z az hw [] a0 q2 ar kA h0 n0 Z0 F0 F1 F2 F3 F4 Ne0 Ge0 Ge1) (W := 0) (g := (mkF m 2 (sh10 a0 a1 q2) [(.long q2), (.ref a0)])) rfl (by rw [hml]; rfl) F0 (argsL := [(.long q2)]) (rest := []) rfl (lenOf own_pd3 rfl) rfl (hb hby d4_2) e0 N0 (c' := 1) (s' := 3)
  rcases hQ1 with ⟨b2, rfl, Nq11, K12, sz10, f3, f4, f5, f6, f7, f8, f9⟩
  · have Kt14 : Keep h0 h0 [ar, a0, a1] := Keep.refl _ _
    have ne15 : a0 ≠ b2 := Nat.ne_of_lt (Nat.lt_of_lt_of_le F0.lt sz10)
    have ne16 : ar ≠ b2 := Nat.ne_of_lt (Nat.lt_of_lt_of_le F3.lt sz10)
    have ne17 : a1 ≠ b2 := Nat.ne_of_lt (Nat.lt_of_lt_of_le F5.lt sz10)
    have ge18 : n0 ≤ b2 := Nat.le_trans Z0 sz10
    have sz19 : h0.size ≤ b2 := Nat.le_trans Kt14.1 sz10
    have KK12 := K12
    have f20 := F0.keep KK12
    have f21 := F5.keep KK12
    have f22 := F6.keep KK12 (ninS Ne1 (ninS Ne2 nin0))
    have f23 := F7.keep KK12 (ninS Ne1 (ninS Ne2 nin0))
    have KpK12 := Kt14.trans K12 (allS (Or.inl om1) (allS (Or.inl om0) all0))
    have Z24 := Nat.le_trans Z0 K12.1
    have N25 := hF1 Nq11
    refine Gb st1 ?_
    show Goes p.tables e below _ (T1.setTop (mkF m 5 (sh10 a0 a1 q2) [(.ref b2)]))
    refine Gb (fun _ => XS.astore X1.here hx rfl (hb hby d4_5) rfl rfl (l' := (sh11 a0 a1 q2 b2)) rfl) ?_
    refine Gb (fun _ => XS.aloadN X1.here hx rfl (hb hby d4_7) rfl rfl) ?_
    refine Gb (fun _ => XS.aload X1.here hx rfl (hb hby d4_8) rfl rfl) ?_
    refine Gb (fun _ => getFR X1 hx hZ hown (wq hw 53 rfl) rfl f9 (g := (mkF m 10 (sh11 a0 a1 q2 b2) [(.ref b2), (.ref a1)])) rfl rfl (hb hby d4_10)) ?_
    obtain ⟨T27, h27, X27, e27, W27, st27⟩ := putFR X1 hx hZ hown (wq hw 53 rfl) rfl f23 f21 (wq hw 54 rfl) (wq hw 14 rfl) (ty := (.object cL)) (by decide) rfl rfl (g := (mkF m 13 (sh11 a0 a1 q2 b2) [(.ref b2), (.ref a1)])) rfl rfl (hb hby d4_13)
    have f28 := f20.wr W27
    have f29 := f21.wr W27
    have f30 := f22.other W27 (Or.inr (slot_ne (Or.inl (wq hw 56 rfl)) (Or.inl (wq hw 54 rfl)) (by decide) (t := (.object cL)) (t' := (.object cL)) (by decide) (by decide)))
    have f31 := f3.other W27 (Or.inl (Ne.symm Ne1))
    have f32 := f4.other W27 (Or.inl (Ne.symm Ne1))
    have f33 := f5.other W27 (Ne.symm Ne2)
    have f34 := f6.wr W27
    have f35 := f7.other W27 (Or.inl (Ne.symm ne17))
    have f36 := f8.other W27 (Or.inl (Ne.symm ne17))
    have f37 := f9.other W27 (Or.inl (Ne.symm ne17))
    have f38 : Fld Z h27 a1 cL "prev" dL (.ref b2) := f23.same W27
    have Kp27 := KpK12.wr W27 (Or.inl om2)
    have Z39 := Nat.le_trans Z24 (Nat.le_of_eq W27.size.symm)
    have N40 := Fr.snoc X27 N25 Ge2
    refine Gb st27 ?_
    refine Gb (fun _ => XS.aloadN X27.here hx rfl (hb hby d4_16) rfl rfl) ?_
    refine Gb (fun _ => XS.aload X27.here hx rfl (hb hby d4_17) rfl rfl) ?_
    obtain ⟨T41, h41, X41, e41, W41, st41⟩ := putFR X27 hx hZ hown (wq hw 55 rfl) e27 f30 f29 (wq hw 56 rfl) (wq hw 14 rfl) (ty := (.object cL)) (by decide) rfl rfl (g := (mkF m 19 (sh11 a0 a1 q2 b2) [(.ref b2), (.ref a1)])) rfl rfl (hb hby d4_19)
    have f42 := f28.wr W41
    have f43 := f29.wr W41
    have f44 := f31.other W41 (Or.inl (Ne.symm Ne1))
    have f45 := f32.other W41 (Or.inl (Ne.symm Ne1))
    have f46 := f33.other W41 (Ne.symm Ne2)
    have f47 := f34.wr W41
    have f48 := f35.other W41 (Or.inl (Ne.symm ne17))
    have f49 := f36.other W41 (Or.inl (Ne.symm ne17))
    have f50 := f37.other W41 (Or.inl (Ne.symm ne17))
    have f51 := f38.other W41 (Or.inr (slot_ne (Or.inl (wq hw 54 rfl)) (Or.inl (wq hw 56 rfl)) (by decide) (t := (.object cL)) (t' := (.object cL)) (by decide) (by decide)))
    have f52 : Fld Z h41 a1 cL "next" dL (.ref b2) := f30.same W41
    have Kp41 := Kp27.wr W41 (Or.inl om2)
    have Z53 := Nat.le_trans Z39 (Nat.le_of_eq W41.size.symm)
    have N54 := Fr.snoc X41 N40 Ge2
    refine Gb st41 ?_
    refine Gb (fun _ => XS.aload X41.here hx rfl (hb hby d4_22) rfl rfl) ?_
    refine Gb (fun _ => getFR X41 hx hZ hown (wq hw 53 rfl) e41 f50 (g := (mkF m 24 (sh11 a0 a1 q2 b2) [(.ref b2)])) rfl rfl (hb hby d4_24)) ?_
    refine Gb (fun _ => XS.aloadN X41.here hx rfl (hb hby d4_27) rfl rfl) ?_
    obtain ⟨T56, h56, X56, e56, W56, st56⟩ := putFR X41 hx hZ hown (wq hw 55 rfl) e41 f49 f47 (wq hw 49 rfl) (wq hw 39 rfl) (ty := (.object cL)) (by decide) rfl rfl (g := (mkF m 28 (sh11 a0 a1 q2 b2) [(.ref a1), (.ref b2)])) rfl rfl (hb hby d4_28)
    have f57 := f42.wr W56
    have f58 := f43.wr W56
    have f59 := f44.other W56 (Or.inl ne15)
    have f60 := f45.other W56 (Or.inl ne15)
    have f61 := f46.other W56 ne16
    have f62 := f47.wr W56
    have f63 := f48.other W56 (Or.inr (slot_ne (Or.inr (wq hw 47 rfl)) (Or.inl (wq hw 49 rfl)) (by decide) (t := .long) (t' := (.object cL)) (by decide) (by decide)))
    have f64 := f50.other W56 (Or.inr (slot_ne (Or.inl (wq hw 51 rfl)) (Or.inl (wq hw 49 rfl)) (by decide) (t := (.object cL)) (t' := (.object cL)) (by decide) (by decide)))
    have f65 := f51.other W56 (Or.inl ne17)
    have f66 := f52.other W56 (Or.inl ne17)
    have f67 : Fld Z h56 b2 cL "next" dL (.ref a1) := f49.same W56
    have Kp56 := Kp41.wr W56 (Or.inr sz19)
    have Z68 := Nat.le_trans Z53 (Nat.le_of_eq W56.size.symm)
    have N69 := Fr.snoc X56 N54 ge18
    refine Gb st56 ?_
    refine Gb (fun _ => XS.aload X56.here hx rfl (hb hby d4_31) rfl rfl) ?_
    refine Gb (fun _ => XS.aloadN X56.here hx rfl (hb hby d4_33) rfl rfl) ?_
    obtain ⟨T70, h70, X70, e70, W70, st70⟩ := putFR X56 hx hZ hown (wq hw 53 rfl) e56 f64 f62 (wq hw 51 rfl) (wq hw 39 rfl) (ty := (.object cL)) (by decide) rfl rfl (g := (mkF m 34 (sh11 a0 a1 q2 b2) [(.ref a1), (.ref b2)])) rfl rfl (hb hby d4_34)
    have f71 := f57.wr W70
    have f72 := f58.wr W70
    have f73 := f59.other W70 (Or.inl ne15)
    have f74 := f60.other W70 (Or.inl ne15)
    have f75 := f61.other W70 ne16
    have f76 := f62.wr W70
    have f77 := f63.other W70 (Or.inr (slot_ne (Or.inr (wq hw 47 rfl)) (Or.inl (wq hw 51 rfl)) (by decide) (t := .long) (t' := (.object cL)) (by decide) (by decide)))
    have f78 := f65.other W70 (Or.inl ne17)
    have f79 := f66.other W70 (Or.inl ne17)
    have f80 := f67.other W70 (Or.inr (slot_ne (Or.inl (wq hw 49 rfl)) (Or.inl (wq hw 51 rfl)) (by decide) (t := (.object cL)) (t' := (.object cL)) (by decide) (by decide)))
    have f81 : Fld Z h70 b2 cL "prev" dL (.ref a1) := f64.same W70
    have Kp70 := Kp56.wr W70 (Or.inr sz19)
    have Z82 := Nat.le_trans Z68 (Nat.le_of_eq W70.size.symm)
    have N83 := Fr.snoc X70 N69 ge18
    refine Gb st70 ?_
    obtain ⟨fs, hr, hrun, hended, hW, hsame⟩ := X70.leave (v := none) (fun _ => rfl)
    refine Goes.mk _ _ ?_ ⟨hrun, hended, _, _, rfl, ?_, ⟨_, rfl⟩, hW, hsame.mono (by decide) (by decide)⟩
    · exact X70.returnOut hx Bd.returns (hb hby d4_37) hr
    · show QFile0 Z a0 a1 q2 ar kA nl pl h0 n0 _ T70.heap _
      rw [e70]
      exact ⟨b2, rfl, N83, Kp70, sz19, f73, f74, f75, f76, f77, f80, f81, f79, f78⟩
def QFile1 (Z : State) (a0 : Addr) (a1 : Addr) (q2 : Int64) (ar : Addr) (kA : ClassId) (x1 : Addr) (t1 : Int64) (nl : Value) (pl : Value) (z1 : Addr) (w1 : Value) (nx1 : Value) (pz1 : Value) (h0 : Heap) (n0 : Nat) (v : Option Value) (h : Heap) (L : List Loc) : Prop := (t1 = q2 ∧ v = none ∧ Fr n0 L ∧ Keep h0 h [a1, z1, x1] ∧ Fld Z h a1 cL "next" dL (.ref x1) ∧ Fld Z h a1 cL "prev" dL (.ref z1) ∧ Fld Z h z1 cL "next" dL (.ref a1) ∧ Fld Z h z1 cL "prev" dL pz1 ∧ Fld Z h x1 cL "next" dL nx1 ∧ Fld Z h x1 cL "prev" dL (.ref a1) ∧ Fld Z h x1 cH "tick" "J" (.long t1)) ∨ (∃ b5 : Addr, ¬ (t1 = q2) ∧ fDue1 q2 t1 = (0 : Int32) ∧ v = none ∧ Fr n0 L ∧ Keep h0 h [ar, a0, a1] ∧ h0.size ≤ b5 ∧ Fld Z h a0 cD "heads" dA (.ref ar) ∧ Fld Z h a0 cD "count" "I" (.int (2 : Int32)) ∧ Arv Z h ar kA (.object cH) (4 : Int32) [(.ref b5), (.ref x1), .null, .null] .null ∧ Exa Z h b5 cH ∧ Fld Z h b5 cH "tick" "J" (.long q2) ∧ Fld Z h b5 cL "next" dL (.ref a1) ∧ Fld Z h b5 cL "prev" dL (.ref a1) ∧ Fld Z h a1 cL "next" dL (.ref b5) ∧ Fld Z h a1 cL "prev" dL (.ref b5)) ∨ (∃ b18 : Addr, ¬ (t1 = q2) ∧ fDue1 q2 t1 = (1 : Int32) ∧ v = none ∧ Fr n0 L ∧ Keep h0 h [ar, a0, a1] ∧ h0.size ≤ b18 ∧ Fld Z h a0 cD "heads" dA (.ref ar) ∧ Fld Z h a0 cD "count" "I" (.int (2 : Int32)) ∧ Arv Z h ar kA (.object cH) (4 : Int32) [(.ref x1), (.ref b18), .null, .null] .null ∧ Exa Z h b18 cH ∧ Fld Z h b18 cH "tick" "J" (.long q2) ∧ Fld Z h b18 cL "next" dL (.ref a1) ∧ Fld Z h b18 cL "prev" dL (.ref a1) ∧ Fld Z h a1 cL "next" dL (.ref b18) ∧ Fld Z h a1 cL "prev" dL (.ref b18))
theorem efFile1 (m : MethodId) (x0 : Addr) (x1 : Addr) (x2 : Int64) : entryFrame m #[(.ref x0), (.ref x1), (.long x2)] 5 = mkF m 0 #[.val (.ref x0), .val (.ref x1), .val (.long x2), .second, .unset] [] := by first | (simp [entryFrame, mkF, argsToLocals, Value.category]; done) | rfl
set_option maxRecDepth 65536 in
set_option maxHeartbeats 40000000 in
theorem rmFile1 (l : Launch) (Z : State) (az : Array Value) (hw : ∀ d ∈ tables_1, d.before az Z = true) (ws : List Jvm.Cond) (a0 : Addr) (a1 : Addr) (q2 : Int64) (ar : Addr) (kA : ClassId) (x1 : Addr) (t1 : Int64) (nl : Value) (pl : Value) (z1 : Addr) (w1 : Value) (nx1 : Value) (pz1 : Value) (h0 : Heap) (n0 : Nat) (Z0 : n0 ≤ h0.size) (F0 : Exa Z h0 a0 cD) (F1 : Fld Z h0 a0 cD "heads" dA (.ref ar)) (F2 : Fld Z h0 a0 cD "count" "I" (.int (1 : Int32))) (F3 : Arv Z h0 ar kA (.object cH) (4 : Int32) [(.ref x1), .null, .null, .null] .null) (F4 : Ovr Z kA cH) (F5 : Exa Z h0 x1 cH) (F6 : Fld Z h0 x1 cH "tick" "J" (.long t1)) (F7 : Exa Z h0 a1 cL) (F8 : Fld Z h0 a1 cL "next" dL nl) (F9 : Fld Z h0 a1 cL "prev" dL pl) (F10 : Fld Z h0 x1 cL "prev" dL (.ref z1)) (F11 : Exa Z h0 z1 cL) (F12 : Fld Z h0 z1 cL "next" dL w1) (F13 : Fld Z h0 x1 cL "next" dL nx1) (F14 : Fld Z h0 z1 cL "prev" dL pz1) (Ne0 : a0 ≠ ar) (Ne1 : x1 ≠ a0) (Ne2 : x1 ≠ ar) (Ne3 : a1 ≠ a0) (Ne4 : a1 ≠ ar) (Ne5 : a1 ≠ x1) (Ne6 : a1 ≠ z1) (Ne7 : x1 ≠ z1) (Ge0 : n0 ≤ a0) (Ge1 : n0 ≤ ar) (Ge2 : n0 ≤ a1) (Ge3 : n0 ≤ x1) (Ge4 : n0 ≤ z1) :
    MetFree l y2 (head1 (Jvm.Cond.code y2 prog_4_method_5_code 5 none :: ws) ({ frames := 4, cells := 1, slots := 3, locals := 55 } : Room)) (fun a U => a = #[(.ref a0), (.ref a1), (.long q2)] ∧ Z.Warmed39 U.vm ∧ U.heap = h0) (fun _ _ _ _ _ => True) (fun _ U o U' => ∃ v L, o = .returned v ∧ QFile1 Z a0 a1 q2 ar kA x1 t1 nl pl z1 w1 nx1 pz1 h0 n0 v U'.heap L ∧ FrameEnd U o U' L ({ frames := 4, cells := 1, slots := 3, locals := 55 } : Room).cells ({ frames := 4, cells := 1, slots := 3, locals := 55 } : Room).slots) := by
  refine MetFree.of_bodySF (plainFor_of_name own_pn_com_example_admit_one_admitone_engine_DueOrder) hisR ?_
  intro p e s m args below meth c s₁ Bd hml0 hP hK
  obtain ⟨rfl, hZ, hh⟩ := hP
  have hx := Bd.exec
  have hby := Bd.bytes
  have hml : c.maxLocals = 5 := hml0
  have hown : s.vm.findClass cD = some m.cls := findClass_of_methodNamed Bd.named
  have hnm := (name_of_methodNamed Bd.named Bd.method).1
  have X0 : Stand p l e ({ frames := 4, cells := 1, slots := 3, locals := 55 } : Room) s m #[(.ref a0), (.ref a1), (.long q2)] below meth c s₁ [] 0 0 := Stand.of_body Bd
  have e0 : s₁.heap = h0 := by rw [← hh, Bd.state]; rfl
  have N0 := Fr.nil n0
  have Kp0 : Keep h0 h0 [] := Keep.refl _ _
  refine Goes.start ?_
  refine Gb (B := s₁.setTop (mkF m 0 #[.val (.ref a0), .val (.ref a1), .val (.long q2), .second, .unset] [])) (fun t k => castTop (efFile1 m a0 a1 q2) k) ?_
  refine Gb (fun _ => XS.aloadN X0.here hx rfl (hb hby d4_0) rfl rfl) ?_
  refine Gb (fun _ => XS.lloadN X0.here hx rfl (hb hby d4_1) rfl) ?_
  obtain ⟨_, T1, L1, Lc1, X1, hF1, hQ1, st1⟩ := own_cp X0 hx hZ hown (wq hw 25 rfl) (wq hw 27 rfl) (wq hw 1 rfl) (wq hw 26 rfl) (wq hw 2 rfl) (wq hw 28 rfl) (rmHeadOf1 l Z az hw [] a0 q2 ar kA x1 t1 h0 n0 Z0 F0 F1 F2 F3 F4 F5 F6 Ne0 Ne1 Ne2 Ge0 Ge1) (W := 0) (g := (mkF m 2 (sh10 a0 a1 q2) [(.long q2), (.ref a0)])) rfl (by rw [hml]; rfl) F0 (argsL := [(.long q2)]) (rest := []) rfl (lenOf own_pd3 rfl) rfl (hb hby d4_2) e0 N0 (c' := 1) (s' := 3)
  rcases hQ1 with ⟨hd2, rfl, Nq3, K4⟩ | ⟨b5, hd6, hd7, rfl, Nq16, K17, sz15, f8, f9, f10, f11, f12, f13, f14⟩ | ⟨b18, hd19, hd20, rfl, Nq29, K30, sz28, f21, f22, f23, f24, f25, f26, f27⟩
  · have Kt32 : Keep h0 h0 [a1, z1, x1] := Keep.refl _ _
    have N33 := hF1 Nq3
    refine Gb st1 ?_
    show Goes p.tables e below _ (T1.setTop (mkF m 5 (sh10 a0 a1 q2) [(.ref x1)]))
    refine Gb (fun _ => XS.astore X1.here hx rfl (hb hby d4_5) rfl rfl (l' := (sh11 a0 a1 q2 x1)) rfl) ?_
    refine Gb (fun _ => XS.aloadN X1.here hx rfl (hb hby d4_7) rfl rfl) ?_
    refine Gb (fun _ => XS.aload X1.here hx rfl (hb hby d4_8) rfl rfl) ?_
    refine Gb (fun _ => getFR X1 hx hZ hown (wq hw 53 rfl) K4 F10 (g := (mkF m 10 (sh11 a0 a1 q2 x1) [(.ref x1), (.ref a1)])) rfl rfl (hb hby d4_10)) ?_
    obtain ⟨T35, h35, X35, e35, W35, st35⟩ := putFR X1 hx hZ hown (wq hw 53 rfl) K4 F9 F7 (wq hw 54 rfl) (wq hw 14 rfl) (ty := (.object cL)) (by decide) rfl rfl (g := (mkF m 13 (sh11 a0 a1 q2 x1) [(.ref z1), (.ref a1)])) rfl rfl (hb hby d4_13)
    have f36 := F5.wr W35
    have f37 := F6.other W35 (Or.inl (Ne.symm Ne5))
    have f38 := F7.wr W35
    have f39 := F8.other W35 (Or.inr (slot_ne (Or.inl (wq hw 56 rfl)) (Or.inl (wq hw 54 rfl)) (by decide) (t := (.object cL)) (t' := (.object cL)) (by decide) (by decide)))
    have f40 := F10.other W35 (Or.inl (Ne.symm Ne5))
    have f41 := F11.wr W35
    have f42 := F12.other W35 (Or.inl (Ne.symm Ne6))
    have f43 := F13.other W35 (Or.inl (Ne.symm Ne5))
    have f44 := F14.other W35 (Or.inl (Ne.symm Ne6))
    have f45 : Fld Z h35 a1 cL "prev" dL (.ref z1) := F9.same W35
    have Kp35 := Kt32.wr W35 (Or.inl om0)
    have Z46 := Nat.le_trans Z0 (Nat.le_of_eq W35.size.symm)
    have N47 := Fr.snoc X35 N33 Ge2
    refine Gb st35 ?_
    refine Gb (fun _ => XS.aloadN X35.here hx rfl (hb hby d4_16) rfl rfl) ?_
    refine Gb (fun _ => XS.aload X35.here hx rfl (hb hby d4_17) rfl rfl) ?_
    obtain ⟨T48, h48, X48, e48, W48, st48⟩ := putFR X35 hx hZ hown (wq hw 55 rfl) e35 f39 f38 (wq hw 56 rfl) (wq hw 14 rfl) (ty := (.object cL)) (by decide) rfl rfl (g := (mkF m 19 (sh11 a0 a1 q2 x1) [(.ref x1), (.ref a1)])) rfl rfl (hb hby d4_19)
    have f49 := f36.wr W48
    have f50 := f37.other W48 (Or.inl (Ne.symm Ne5))
    have f51 := f38.wr W48
    have f52 := f40.other W48 (Or.inl (Ne.symm Ne5))
    have f53 := f41.wr W48
    have f54 := f42.other W48 (Or.inl (Ne.symm Ne6))
    have f55 := f43.other W48 (Or.inl (Ne.symm Ne5))
    have f56 := f44.other W48 (Or.inl (Ne.symm Ne6))
    have f57 := f45.other W48 (Or.inr (slot_ne (Or.inl (wq hw 54 rfl)) (Or.inl (wq hw 56 rfl)) (by decide) (t := (.object cL)) (t' := (.object cL)) (by decide) (by decide)))
    have f58 : Fld Z h48 a1 cL "next" dL (.ref x1) := f39.same W48
    have Kp48 := Kp35.wr W48 (Or.inl om0)
    have Z59 := Nat.le_trans Z46 (Nat.le_of_eq W48.size.symm)
    have N60 := Fr.snoc X48 N47 Ge2
    refine Gb st48 ?_
    refine Gb (fun _ => XS.aload X48.here hx rfl (hb hby d4_22) rfl rfl) ?_
    refine Gb (fun _ => getFR X48 hx hZ hown (wq hw 53 rfl) e48 f52 (g := (mkF m 24 (sh11 a0 a1 q2 x1) [(.ref x1)])) rfl rfl (hb hby d4_24)) ?_
    refine Gb (fun _ => XS.aloadN X48.here hx rfl (hb hby d4_27) rfl rfl) ?_
    obtain ⟨T62, h62, X62, e62, W62, st62⟩ := putFR X48 hx hZ hown (wq hw 55 rfl) e48 f54 f53 (wq hw 56 rfl) (wq hw 14 rfl) (ty := (.object cL)) (by decide) rfl rfl (g := (mkF m 28 (sh11 a0 a1 q2 x1) [(.ref a1), (.ref z1)])) rfl rfl (hb hby d4_28)
    have f63 := f49.wr W62
    have f64 := f50.other W62 (Or.inl Ne7)
    have f65 := f51.wr W62
    have f66 := f52.other W62 (Or.inl Ne7)
    have f67 := f53.wr W62
    have f68 := f55.other W62 (Or.inl Ne7)
    have f69 := f56.other W62 (Or.inr (slot_ne (Or.inl (wq hw 54 rfl)) (Or.inl (wq hw 56 rfl)) (by decide) (t := (.object cL)) (t' := (.object cL)) (by decide) (by decide)))
    have f70 := f57.other W62 (Or.inl Ne6)
    have f71 := f58.other W62 (Or.inl Ne6)
    have f72 : Fld Z h62 z1 cL "next" dL (.ref a1) := f54.same W62
    have Kp62 := Kp48.wr W62 (Or.inl om1)
    have Z73 := Nat.le_trans Z59 (Nat.le_of_eq W62.size.symm)
    have N74 := Fr.snoc X62 N60 Ge4
    refine Gb st62 ?_
    refine Gb (fun _ => XS.aload X62.here hx rfl (hb hby d4_31) rfl rfl) ?_
    refine Gb (fun _ => XS.aloadN X62.here hx rfl (hb hby d4_33) rfl rfl) ?_
    obtain ⟨T75, h75, X75, e75, W75, st75⟩ := putFR X62 hx hZ hown (wq hw 53 rfl) e62 f66 f63 (wq hw 51 rfl) (wq hw 39 rfl) (ty := (.object cL)) (by decide) rfl rfl (g := (mkF m 34 (sh11 a0 a1 q2 x1) [(.ref a1), (.ref x1)])) rfl rfl (hb hby d4_34)
    have f76 := f63.wr W75
    have f77 := f64.other W75 (Or.inr (slot_ne (Or.inr (wq hw 47 rfl)) (Or.inl (wq hw 51 rfl)) (by decide) (t := .long) (t' := (.object cL)) (by decide) (by decide)))
    have f78 := f65.wr W75
    have f79 := f67.wr W75
    have f80 := f68.other W75 (Or.inr (slot_ne (Or.inl (wq hw 49 rfl)) (Or.inl (wq hw 51 rfl)) (by decide) (t := (.object cL)) (t' := (.object cL)) (by decide) (by decide)))
    have f81 := f69.other W75 (Or.inl (Ne.symm Ne7))
    have f82 := f70.other W75 (Or.inl Ne5)
    have f83 := f71.other W75 (Or.inl Ne5)
    have f84 := f72.other W75 (Or.inl (Ne.symm Ne7))
    have f85 : Fld Z h75 x1 cL "prev" dL (.ref a1) := f66.same W75
    have Kp75 := Kp62.wr W75 (Or.inl om2)
    have Z86 := Nat.le_trans Z73 (Nat.le_of_eq W75.size.symm)
    have N87 := Fr.snoc X75 N74 Ge3
    refine Gb st75 ?_
    obtain ⟨fs, hr, hrun, hended, hW, hsame⟩ := X75.leave (v := none) (fun _ => rfl)
    refine Goes.mk _ _ ?_ ⟨hrun, hended, _, _, rfl, ?_, ⟨_, rfl⟩, hW, hsame.mono (by decide) (by decide)⟩
    · exact X75.returnOut hx Bd.returns (hb hby d4_37) hr
    · show QFile1 Z a0 a1 q2 ar kA x1 t1 nl pl z1 w1 nx1 pz1 h0 n0 _ T75.heap _
      rw [e75]
      exact (Or.inl ⟨hd2, rfl, N87, Kp75, f83, f82, f84, f81, f80, f85, f77⟩)
  · have Kt89 : Keep h0 h0 [ar, a0, a1] := Keep.refl _ _
    have ne90 : a0 ≠ b5 := Nat.ne_of_lt (Nat.lt_of_lt_of_le F0.lt sz15)
    have ne91 : ar ≠ b5 := Nat.ne_of_lt (Nat.lt_of_lt_of_le F3.lt sz15)
    have ne92 : a1 ≠ b5 := Nat.ne_of_lt (Nat.lt_of_lt_of_le F7.lt sz15)
    have ge93 : n0 ≤ b5 := Nat.le_trans Z0 sz15
    have sz94 : h0.size ≤ b5 := Nat.le_trans Kt89.1 sz15
    have KK17 := K17
    have f95 := F0.keep KK17
    have f96 := F7.keep KK17
    have f97 := F8.keep KK17 (ninS Ne3 (ninS Ne4 nin0))
    have f98 := F9.keep KK17 (ninS Ne3 (ninS Ne4 nin0))
    have KpK17 := Kt89.trans K17 (allS (Or.inl om1) (allS (Or.inl om0) all0))
    have Z99 := Nat.le_trans Z0 K17.1
    have N100 := hF1 Nq16
    refine Gb st1 ?_
    show Goes p.tables e below _ (T1.setTop (mkF m 5 (sh10 a0 a1 q2) [(.ref b5)]))
    refine Gb (fun _ => XS.astore X1.here hx rfl (hb hby d4_5) rfl rfl (l' := (sh11 a0 a1 q2 b5)) rfl) ?_
    refine Gb (fun _ => XS.aloadN X1.here hx rfl (hb hby d4_7) rfl rfl) ?_
    refine Gb (fun _ => XS.aload X1.here hx rfl (hb hby d4_8) rfl rfl) ?_
    refine Gb (fun _ => getFR X1 hx hZ hown (wq hw 53 rfl) rfl f14 (g := (mkF m 10 (sh11 a0 a1 q2 b5) [(.ref b5), (.ref a1)])) rfl rfl (hb hby d4_10)) ?_
    obtain ⟨T102, h102, X102, e102, W102, st102⟩ := putFR X1 hx hZ hown (wq hw 53 rfl) rfl f98 f96 (wq hw 54 rfl) (wq hw 14 rfl) (ty := (.object cL)) (by decide) rfl rfl (g := (mkF m 13 (sh11 a0 a1 q2 b5) [(.ref b5), (.ref a1)])) rfl rfl (hb hby d4_13)
    have f103 := f95.wr W102
    have f104 := f96.wr W102
    have f105 := f97.other W102 (Or.inr (slot_ne (Or.inl (wq hw 56 rfl)) (Or.inl (wq hw 54 rfl)) (by decide) (t := (.object cL)) (t' := (.object cL)) (by decide) (by decide)))
    have f106 := f8.other W102 (Or.inl (Ne.symm Ne3))
    have f107 := f9.other W102 (Or.inl (Ne.symm Ne3))
    have f108 := f10.other W102 (Ne.symm Ne4)
    have f109 := f11.wr W102
    have f110 := f12.other W102 (Or.inl (Ne.symm ne92))
    have f111 := f13.other W102 (Or.inl (Ne.symm ne92))
    have f112 := f14.other W102 (Or.inl (Ne.symm ne92))
    have f113 : Fld Z h102 a1 cL "prev" dL (.ref b5) := f98.same W102
    have Kp102 := KpK17.wr W102 (Or.inl om2)
    have Z114 := Nat.le_trans Z99 (Nat.le_of_eq W102.size.symm)
    have N115 := Fr.snoc X102 N100 Ge2
    refine Gb st102 ?_
    refine Gb (fun _ => XS.aloadN X102.here hx rfl (hb hby d4_16) rfl rfl) ?_
    refine Gb (fun _ => XS.aload X102.here hx rfl (hb hby d4_17) rfl rfl) ?_
    obtain ⟨T116, h116, X116, e116, W116, st116⟩ := putFR X102 hx hZ hown (wq hw 55 rfl) e102 f105 f104 (wq hw 56 rfl) (wq hw 14 rfl) (ty := (.object cL)) (by decide) rfl rfl (g := (mkF m 19 (sh11 a0 a1 q2 b5) [(.ref b5), (.ref a1)])) rfl rfl (hb hby d4_19)
    have f117 := f103.wr W116
    have f118 := f104.wr W116
    have f119 := f106.other W116 (Or.inl (Ne.symm Ne3))
    have f120 := f107.other W116 (Or.inl (Ne.symm Ne3))
    have f121 := f108.other W116 (Ne.symm Ne4)
    have f122 := f109.wr W116
    have f123 := f110.other W116 (Or.inl (Ne.symm ne92))
    have f124 := f111.other W116 (Or.inl (Ne.symm ne92))
    have f125 := f112.other W116 (Or.inl (Ne.symm ne92))
    have f126 := f113.other W116 (Or.inr (slot_ne (Or.inl (wq hw 54 rfl)) (Or.inl (wq hw 56 rfl)) (by decide) (t := (.object cL)) (t' := (.object cL)) (by decide) (by decide)))
    have f127 : Fld Z h116 a1 cL "next" dL (.ref b5) := f105.same W116
    have Kp116 := Kp102.wr W116 (Or.inl om2)
    have Z128 := Nat.le_trans Z114 (Nat.le_of_eq W116.size.symm)
    have N129 := Fr.snoc X116 N115 Ge2
    refine Gb st116 ?_
    refine Gb (fun _ => XS.aload X116.here hx rfl (hb hby d4_22) rfl rfl) ?_
    refine Gb (fun _ => getFR X116 hx hZ hown (wq hw 53 rfl) e116 f125 (g := (mkF m 24 (sh11 a0 a1 q2 b5) [(.ref b5)])) rfl rfl (hb hby d4_24)) ?_
    refine Gb (fun _ => XS.aloadN X116.here hx rfl (hb hby d4_27) rfl rfl) ?_
    obtain ⟨T131, h131, X131, e131, W131, st131⟩ := putFR X116 hx hZ hown (wq hw 55 rfl) e116 f124 f122 (wq hw 49 rfl) (wq hw 39 rfl) (ty := (.object cL)) (by decide) rfl rfl (g := (mkF m 28 (sh11 a0 a1 q2 b5) [(.ref a1), (.ref b5)])) rfl rfl (hb hby d4_28)
    have f132 := f117.wr W131
    have f133 := f118.wr W131
    have f134 := f119.other W131 (Or.inl ne90)
    have f135 := f120.other W131 (Or.inl ne90)
    have f136 := f121.other W131 ne91
    have f137 := f122.wr W131
    have f138 := f123.other W131 (Or.inr (slot_ne (Or.inr (wq hw 47 rfl)) (Or.inl (wq hw 49 rfl)) (by decide) (t := .long) (t' := (.object cL)) (by decide) (by decide)))
    have f139 := f125.other W131 (Or.inr (slot_ne (Or.inl (wq hw 51 rfl)) (Or.inl (wq hw 49 rfl)) (by decide) (t := (.object cL)) (t' := (.object cL)) (by decide) (by decide)))
    have f140 := f126.other W131 (Or.inl ne92)
    have f141 := f127.other W131 (Or.inl ne92)
    have f142 : Fld Z h131 b5 cL "next" dL (.ref a1) := f124.same W131
    have Kp131 := Kp116.wr W131 (Or.inr sz94)
    have Z143 := Nat.le_trans Z128 (Nat.le_of_eq W131.size.symm)
    have N144 := Fr.snoc X131 N129 ge93
    refine Gb st131 ?_
    refine Gb (fun _ => XS.aload X131.here hx rfl (hb hby d4_31) rfl rfl) ?_
    refine Gb (fun _ => XS.aloadN X131.here hx rfl (hb hby d4_33) rfl rfl) ?_
    obtain ⟨T145, h145, X145, e145, W145, st145⟩ := putFR X131 hx hZ hown (wq hw 53 rfl) e131 f139 f137 (wq hw 51 rfl) (wq hw 39 rfl) (ty := (.object cL)) (by decide) rfl rfl (g := (mkF m 34 (sh11 a0 a1 q2 b5) [(.ref a1), (.ref b5)])) rfl rfl (hb hby d4_34)
    have f146 := f132.wr W145
    have f147 := f133.wr W145
    have f148 := f134.other W145 (Or.inl ne90)
    have f149 := f135.other W145 (Or.inl ne90)
    have f150 := f136.other W145 ne91
    have f151 := f137.wr W145
    have f152 := f138.other W145 (Or.inr (slot_ne (Or.inr (wq hw 47 rfl)) (Or.inl (wq hw 51 rfl)) (by decide) (t := .long) (t' := (.object cL)) (by decide) (by decide)))
    have f153 := f140.other W145 (Or.inl ne92)
    have f154 := f141.other W145 (Or.inl ne92)
    have f155 := f142.other W145 (Or.inr (slot_ne (Or.inl (wq hw 49 rfl)) (Or.inl (wq hw 51 rfl)) (by decide) (t := (.object cL)) (t' := (.object cL)) (by decide) (by decide)))
    have f156 : Fld Z h145 b5 cL "prev" dL (.ref a1) := f139.same W145
    have Kp145 := Kp131.wr W145 (Or.inr sz94)
    have Z157 := Nat.le_trans Z143 (Nat.le_of_eq W145.size.symm)
    have N158 := Fr.snoc X145 N144 ge93
    refine Gb st145 ?_
    obtain ⟨fs, hr, hrun, hended, hW, hsame⟩ := X145.leave (v := none) (fun _ => rfl)
    refine Goes.mk _ _ ?_ ⟨hrun, hended, _, _, rfl, ?_, ⟨_, rfl⟩, hW, hsame.mono (by decide) (by decide)⟩
    · exact X145.returnOut hx Bd.returns (hb hby d4_37) hr
    · show QFile1 Z a0 a1 q2 ar kA x1 t1 nl pl z1 w1 nx1 pz1 h0 n0 _ T145.heap _
      rw [e145]
      exact (Or.inr (Or.inl ⟨b5, hd6, hd7, rfl, N158, Kp145, sz94, f148, f149, f150, f151, f152, f155, f156, f154, f153⟩))
  · have Kt160 : Keep h0 h0 [ar, a0, a1] := Keep.refl _ _
    have ne161 : a0 ≠ b18 := Nat.ne_of_lt (Nat.lt_of_lt_of_le F0.lt sz28)
    have ne162 : ar ≠ b18 := Nat.ne_of_lt (Nat.lt_of_lt_of_le F3.lt sz28)
    have ne163 : a1 ≠ b18 := Nat.ne_of_lt (Nat.lt_of_lt_of_le F7.lt sz28)
    have ge164 : n0 ≤ b18 := Nat.le_trans Z0 sz28
    have sz165 : h0.size ≤ b18 := Nat.le_trans Kt160.1 sz28
    have KK30 := K30
    have f166 := F0.keep KK30
    have f167 := F7.keep KK30
    have f168 := F8.keep KK30 (ninS Ne3 (ninS Ne4 nin0))
    have f169 := F9.keep KK30 (ninS Ne3 (ninS Ne4 nin0))
    have KpK30 := Kt160.trans K30 (allS (Or.inl om1) (allS (Or.inl om0) all0))
    have Z170 := Nat.le_trans Z0 K30.1
    have N171 := hF1 Nq29
    refine Gb st1 ?_
    show Goes p.tables e below _ (T1.setTop (mkF m 5 (sh10 a0 a1 q2) [(.ref b18)]))
    refine Gb (fun _ => XS.astore X1.here hx rfl (hb hby d4_5) rfl rfl (l' := (sh11 a0 a1 q2 b18)) rfl) ?_
    refine Gb (fun _ => XS.aloadN X1.here hx rfl (hb hby d4_7) rfl rfl) ?_
    refine Gb (fun _ => XS.aload X1.here hx rfl (hb hby d4_8) rfl rfl) ?_
    refine Gb (fun _ => getFR X1 hx hZ hown (wq hw 53 rfl) rfl f27 (g := (mkF m 10 (sh11 a0 a1 q2 b18) [(.ref b18), (.ref a1)])) rfl rfl (hb hby d4_10)) ?_
    obtain ⟨T173, h173, X173, e173, W173, st173⟩ := putFR X1 hx hZ hown (wq hw 53 rfl) rfl f169 f167 (wq hw 54 rfl) (wq hw 14 rfl) (ty := (.object cL)) (by decide) rfl rfl (g := (mkF m 13 (sh11 a0 a1 q2 b18) [(.ref b18), (.ref a1)])) rfl rfl (hb hby d4_13)
    have f174 := f166.wr W173
    have f175 := f167.wr W173
    have f176 := f168.other W173 (Or.inr (slot_ne (Or.inl (wq hw 56 rfl)) (Or.inl (wq hw 54 rfl)) (by decide) (t := (.object cL)) (t' := (.object cL)) (by decide) (by decide)))
    have f177 := f21.other W173 (Or.inl (Ne.symm Ne3))
    have f178 := f22.other W173 (Or.inl (Ne.symm Ne3))
    have f179 := f23.other W173 (Ne.symm Ne4)
    have f180 := f24.wr W173
    have f181 := f25.other W173 (Or.inl (Ne.symm ne163))
    have f182 := f26.other W173 (Or.inl (Ne.symm ne163))
    have f183 := f27.other W173 (Or.inl (Ne.symm ne163))
    have f184 : Fld Z h173 a1 cL "prev" dL (.ref b18) := f169.same W173
    have Kp173 := KpK30.wr W173 (Or.inl om2)
    have Z185 := Nat.le_trans Z170 (Nat.le_of_eq W173.size.symm)
    have N186 := Fr.snoc X173 N171 Ge2
    refine Gb st173 ?_
    refine Gb (fun _ => XS.aloadN X173.here hx rfl (hb hby d4_16) rfl rfl) ?_
    refine Gb (fun _ => XS.aload X173.here hx rfl (hb hby d4_17) rfl rfl) ?_
    obtain ⟨T187, h187, X187, e187, W187, st187⟩ := putFR X173 hx hZ hown (wq hw 55 rfl) e173 f176 f175 (wq hw 56 rfl) (wq hw 14 rfl) (ty := (.object cL)) (by decide) rfl rfl (g := (mkF m 19 (sh11 a0 a1 q2 b18) [(.ref b18), (.ref a1)])) rfl rfl (hb hby d4_19)
    have f188 := f174.wr W187
    have f189 := f175.wr W187
    have f190 := f177.other W187 (Or.inl (Ne.symm Ne3))
    have f191 := f178.other W187 (Or.inl (Ne.symm Ne3))
    have f192 := f179.other W187 (Ne.symm Ne4)
    have f193 := f180.wr W187
    have f194 := f181.other W187 (Or.inl (Ne.symm ne163))
    have f195 := f182.other W187 (Or.inl (Ne.symm ne163))
    have f196 := f183.other W187 (Or.inl (Ne.symm ne163))
    have f197 := f184.other W187 (Or.inr (slot_ne (Or.inl (wq hw 54 rfl)) (Or.inl (wq hw 56 rfl)) (by decide) (t := (.object cL)) (t' := (.object cL)) (by decide) (by decide)))
    have f198 : Fld Z h187 a1 cL "next" dL (.ref b18) := f176.same W187
    have Kp187 := Kp173.wr W187 (Or.inl om2)
    have Z199 := Nat.le_trans Z185 (Nat.le_of_eq W187.size.symm)
    have N200 := Fr.snoc X187 N186 Ge2
    refine Gb st187 ?_
    refine Gb (fun _ => XS.aload X187.here hx rfl (hb hby d4_22) rfl rfl) ?_
    refine Gb (fun _ => getFR X187 hx hZ hown (wq hw 53 rfl) e187 f196 (g := (mkF m 24 (sh11 a0 a1 q2 b18) [(.ref b18)])) rfl rfl (hb hby d4_24)) ?_
    refine Gb (fun _ => XS.aloadN X187.here hx rfl (hb hby d4_27) rfl rfl) ?_
    obtain ⟨T202, h202, X202, e202, W202, st202⟩ := putFR X187 hx hZ hown (wq hw 55 rfl) e187 f195 f193 (wq hw 49 rfl) (wq hw 39 rfl) (ty := (.object cL)) (by decide) rfl rfl (g := (mkF m 28 (sh11 a0 a1 q2 b18) [(.ref a1), (.ref b18)])) rfl rfl (hb hby d4_28)
    have f203 := f188.wr W202
    have f204 := f189.wr W202
    have f205 := f190.other W202 (Or.inl ne161)
    have f206 := f191.other W202 (Or.inl ne161)
    have f207 := f192.other W202 ne162
    have f208 := f193.wr W202
    have f209 := f194.other W202 (Or.inr (slot_ne (Or.inr (wq hw 47 rfl)) (Or.inl (wq hw 49 rfl)) (by decide) (t := .long) (t' := (.object cL)) (by decide) (by decide)))
    have f210 := f196.other W202 (Or.inr (slot_ne (Or.inl (wq hw 51 rfl)) (Or.inl (wq hw 49 rfl)) (by decide) (t := (.object cL)) (t' := (.object cL)) (by decide) (by decide)))
    have f211 := f197.other W202 (Or.inl ne163)
    have f212 := f198.other W202 (Or.inl ne163)
    have f213 : Fld Z h202 b18 cL "next" dL (.ref a1) := f195.same W202
    have Kp202 := Kp187.wr W202 (Or.inr sz165)
    have Z214 := Nat.le_trans Z199 (Nat.le_of_eq W202.size.symm)
    have N215 := Fr.snoc X202 N200 ge164
    refine Gb st202 ?_
    refine Gb (fun _ => XS.aload X202.here hx rfl (hb hby d4_31) rfl rfl) ?_
    refine Gb (fun _ => XS.aloadN X202.here hx rfl (hb hby d4_33) rfl rfl) ?_
    obtain ⟨T216, h216, X216, e216, W216, st216⟩ := putFR X202 hx hZ hown (wq hw 53 rfl) e202 f210 f208 (wq hw 51 rfl) (wq hw 39 rfl) (ty := (.object cL)) (by decide) rfl rfl (g := (mkF m 34 (sh11 a0 a1 q2 b18) [(.ref a1), (.ref b18)])) rfl rfl (hb hby d4_34)
    have f217 := f203.wr W216
    have f218 := f204.wr W216
    have f219 := f205.other W216 (Or.inl ne161)
    have f220 := f206.other W216 (Or.inl ne161)
    have f221 := f207.other W216 ne162
    have f222 := f208.wr W216
    have f223 := f209.other W216 (Or.inr (slot_ne (Or.inr (wq hw 47 rfl)) (Or.inl (wq hw 51 rfl)) (by decide) (t := .long) (t' := (.object cL)) (by decide) (by decide)))
    have f224 := f211.other W216 (Or.inl ne163)
    have f225 := f212.other W216 (Or.inl ne163)
    have f226 := f213.other W216 (Or.inr (slot_ne (Or.inl (wq hw 49 rfl)) (Or.inl (wq hw 51 rfl)) (by decide) (t := (.object cL)) (t' := (.object cL)) (by decide) (by decide)))
    have f227 : Fld Z h216 b18 cL "prev" dL (.ref a1) := f210.same W216
    have Kp216 := Kp202.wr W216 (Or.inr sz165)
    have Z228 := Nat.le_trans Z214 (Nat.le_of_eq W216.size.symm)
    have N229 := Fr.snoc X216 N215 ge164
    refine Gb st216 ?_
    obtain ⟨fs, hr, hrun, hended, hW, hsame⟩ := X216.leave (v := none) (fun _ => rfl)
    refine Goes.mk _ _ ?_ ⟨hrun, hended, _, _, rfl, ?_, ⟨_, rfl⟩, hW, hsame.mono (by decide) (by decide)⟩
    · exact X216.returnOut hx Bd.returns (hb hby d4_37) hr
    · show QFile1 Z a0 a1 q2 ar kA x1 t1 nl pl z1 w1 nx1 pz1 h0 n0 _ T216.heap _
      rw [e216]
      exact (Or.inr (Or.inr ⟨b18, hd19, hd20, rfl, N229, Kp216, sz165, f219, f220, f221, f222, f223, f226, f227, f225, f224⟩))
def QFile2 (Z : State) (a0 : Addr) (a1 : Addr) (q2 : Int64) (ar : Addr) (kA : ClassId) (x1 : Addr) (x2 : Addr) (t1 : Int64) (t2 : Int64) (nl : Value) (pl : Value) (z1 : Addr) (z2 : Addr) (w1 : Value) (w2 : Value) (nx1 : Value) (nx2 : Value) (pz1 : Value) (pz2 : Value) (h0 : Heap) (n0 : Nat) (v : Option Value) (h : Heap) (L : List Loc) : Prop := (t2 = q2 ∧ v = none ∧ Fr n0 L ∧ Keep h0 h [a1, z2, x2] ∧ Fld Z h a1 cL "next" dL (.ref x2) ∧ Fld Z h a1 cL "prev" dL (.ref z2) ∧ Fld Z h z2 cL "next" dL (.ref a1) ∧ Fld Z h z2 cL "prev" dL pz2 ∧ Fld Z h x2 cL "next" dL nx2 ∧ Fld Z h x2 cL "prev" dL (.ref a1) ∧ Fld Z h x2 cH "tick" "J" (.long t2)) ∨ (∃ b5 : Addr, ¬ (t2 = q2) ∧ fDue2 q2 t1 t2 = (0 : Int32) ∧ v = none ∧ Fr n0 L ∧ Keep h0 h [ar, a0, a1] ∧ h0.size ≤ b5 ∧ Fld Z h a0 cD "heads" dA (.ref ar) ∧ Fld Z h a0 cD "count" "I" (.int (3 : Int32)) ∧ Arv Z h ar kA (.object cH) (4 : Int32) [(.ref b5), (.ref x1), (.ref x2), .null] .null ∧ Exa Z h b5 cH ∧ Fld Z h b5 cH "tick" "J" (.long q2) ∧ Fld Z h b5 cL "next" dL (.ref a1) ∧ Fld Z h b5 cL "prev" dL (.ref a1) ∧ Fld Z h a1 cL "next" dL (.ref b5) ∧ Fld Z h a1 cL "prev" dL (.ref b5)) ∨ (¬ (t2 = q2) ∧ fDue2 q2 t1 t2 = (1 : Int32) ∧ t1 = q2 ∧ v = none ∧ Fr n0 L ∧ Keep h0 h [a1, z1, x1] ∧ Fld Z h a1 cL "next" dL (.ref x1) ∧ Fld Z h a1 cL "prev" dL (.ref z1) ∧ Fld Z h z1 cL "next" dL (.ref a1) ∧ Fld Z h z1 cL "prev" dL pz1 ∧ Fld Z h x1 cL "next" dL nx1 ∧ Fld Z h x1 cL "prev" dL (.ref a1) ∧ Fld Z h x1 cH "tick" "J" (.long t1)) ∨ (∃ b23 : Addr, ¬ (t2 = q2) ∧ fDue2 q2 t1 t2 = (1 : Int32) ∧ ¬ (t1 = q2) ∧ v = none ∧ Fr n0 L ∧ Keep h0 h [ar, a0, a1] ∧ h0.size ≤ b23 ∧ Fld Z h a0 cD "heads" dA (.ref ar) ∧ Fld Z h a0 cD "count" "I" (.int (3 : Int32)) ∧ Arv Z h ar kA (.object cH) (4 : Int32) [(.ref x1), (.ref b23), (.ref x2), .null] .null ∧ Exa Z h b23 cH ∧ Fld Z h b23 cH "tick" "J" (.long q2) ∧ Fld Z h b23 cL "next" dL (.ref a1) ∧ Fld Z h b23 cL "prev" dL (.ref a1) ∧ Fld Z h a1 cL "next" dL (.ref b23) ∧ Fld Z h a1 cL "prev" dL (.ref b23)) ∨ (∃ b37 : Addr, ¬ (t2 = q2) ∧ fDue2 q2 t1 t2 = (2 : Int32) ∧ v = none ∧ Fr n0 L ∧ Keep h0 h [ar, a0, a1] ∧ h0.size ≤ b37 ∧ Fld Z h a0 cD "heads" dA (.ref ar) ∧ Fld Z h a0 cD "count" "I" (.int (3 : Int32)) ∧ Arv Z h ar kA (.object cH) (4 : Int32) [(.ref x1), (.ref x2), (.ref b37), .null] .null ∧ Exa Z h b37 cH ∧ Fld Z h b37 cH "tick" "J" (.long q2) ∧ Fld Z h b37 cL "next" dL (.ref a1) ∧ Fld Z h b37 cL "prev" dL (.ref a1) ∧ Fld Z h a1 cL "next" dL (.ref b37) ∧ Fld Z h a1 cL "prev" dL (.ref b37))
theorem efFile2 (m : MethodId) (x0 : Addr) (x1 : Addr) (x2 : Int64) : entryFrame m #[(.ref x0), (.ref x1), (.long x2)] 5 = mkF m 0 #[.val (.ref x0), .val (.ref x1), .val (.long x2), .second, .unset] [] := by first | (simp [entryFrame, mkF, argsToLocals, Value.category]; done) | rfl
set_option maxRecDepth 65536 in
set_option maxHeartbeats 40000000 in
theorem rmFile2 (l : Launch) (Z : State) (az : Array Value) (hw : ∀ d ∈ tables_1, d.before az Z = true) (ws : List Jvm.Cond) (a0 : Addr) (a1 : Addr) (q2 : Int64) (ar : Addr) (kA : ClassId) (x1 : Addr) (x2 : Addr) (t1 : Int64) (t2 : Int64) (nl : Value) (pl : Value) (z1 : Addr) (z2 : Addr) (w1 : Value) (w2 : Value) (nx1 : Value) (nx2 : Value) (pz1 : Value) (pz2 : Value) (h0 : Heap) (n0 : Nat) (Z0 : n0 ≤ h0.size) (F0 : Exa Z h0 a0 cD) (F1 : Fld Z h0 a0 cD "heads" dA (.ref ar)) (F2 : Fld Z h0 a0 cD "count" "I" (.int (2 : Int32))) (F3 : Arv Z h0 ar kA (.object cH) (4 : Int32) [(.ref x1), (.ref x2), .null, .null] .null) (F4 : Ovr Z kA cH) (F5 : Exa Z h0 x1 cH) (F6 : Fld Z h0 x1 cH "tick" "J" (.long t1)) (F7 : Exa Z h0 x2 cH) (F8 : Fld Z h0 x2 cH "tick" "J" (.long t2)) (F9 : Exa Z h0 a1 cL) (F10 : Fld Z h0 a1 cL "next" dL nl) (F11 : Fld Z h0 a1 cL "prev" dL pl) (F12 : Fld Z h0 x1 cL "prev" dL (.ref z1)) (F13 : Exa Z h0 z1 cL) (F14 : Fld Z h0 z1 cL "next" dL w1) (F15 : Fld Z h0 x1 cL "next" dL nx1) (F16 : Fld Z h0 z1 cL "prev" dL pz1) (F17 : Fld Z h0 x2 cL "prev" dL (.ref z2)) (F18 : Exa Z h0 z2 cL) (F19 : Fld Z h0 z2 cL "next" dL w2) (F20 : Fld Z h0 x2 cL "next" dL nx2) (F21 : Fld Z h0 z2 cL "prev" dL pz2) (Ne0 : a0 ≠ ar) (Ne1 : x1 ≠ a0) (Ne2 : x2 ≠ a0) (Ne3 : x1 ≠ ar) (Ne4 : x2 ≠ ar) (Ne5 : a1 ≠ a0) (Ne6 : a1 ≠ ar) (Ne7 : a1 ≠ x1) (Ne8 : a1 ≠ z1) (Ne9 : x1 ≠ z1) (Ne10 : a1 ≠ x2) (Ne11 : a1 ≠ z2) (Ne12 : x2 ≠ z2) (Ge0 : n0 ≤ a0) (Ge1 : n0 ≤ ar) (Ge2 : n0 ≤ a1) (Ge3 : n0 ≤ x1) (Ge4 : n0 ≤ x2) (Ge5 : n0 ≤ z1) (Ge6 : n0 ≤ z2) :
    MetFree l y2 (head1 (Jvm.Cond.code y2 prog_4_method_5_code 5 none :: ws) ({ frames := 4, cells := 1, slots := 3, locals := 55 } : Room)) (fun a U => a = #[(.ref a0), (.ref a1), (.long q2)] ∧ Z.Warmed39 U.vm ∧ U.heap = h0) (fun _ _ _ _ _ => True) (fun _ U o U' => ∃ v L, o = .returned v ∧ QFile2 Z a0 a1 q2 ar kA x1 x2 t1 t2 nl pl z1 z2 w1 w2 nx1 nx2 pz1 pz2 h0 n0 v U'.heap L ∧ FrameEnd U o U' L ({ frames := 4, cells := 1, slots := 3, locals := 55 } : Room).cells ({ frames := 4, cells := 1, slots := 3, locals := 55 } : Room).slots) := by
  refine MetFree.of_bodySF (plainFor_of_name own_pn_com_example_admit_one_admitone_engine_DueOrder) hisR ?_
  intro p e s m args below meth c s₁ Bd hml0 hP hK
  obtain ⟨rfl, hZ, hh⟩ := hP
  have hx := Bd.exec
  have hby := Bd.bytes
  have hml : c.maxLocals = 5 := hml0
  have hown : s.vm.findClass cD = some m.cls := findClass_of_methodNamed Bd.named
  have hnm := (name_of_methodNamed Bd.named Bd.method).1
  have X0 : Stand p l e ({ frames := 4, cells := 1, slots := 3, locals := 55 } : Room) s m #[(.ref a0), (.ref a1), (.long q2)] below meth c s₁ [] 0 0 := Stand.of_body Bd
  have e0 : s₁.heap = h0 := by rw [← hh, Bd.state]; rfl
  have N0 := Fr.nil n0
  have Kp0 : Keep h0 h0 [] := Keep.refl _ _
  refine Goes.start ?_
  refine Gb (B := s₁.setTop (mkF m 0 #[.val (.ref a0), .val (.ref a1), .val (.long q2), .second, .unset] [])) (fun t k => castTop (efFile2 m a0 a1 q2) k) ?_
  refine Gb (fun _ => XS.aloadN X0.here hx rfl (hb hby d4_0) rfl rfl) ?_
  refine Gb (fun _ => XS.lloadN X0.here hx rfl (hb hby d4_1) rfl) ?_
  obtain ⟨_, T1, L1, Lc1, X1, hF1, hQ1, st1⟩ := own_cp X0 hx hZ hown (wq hw 25 rfl) (wq hw 27 rfl) (wq hw 1 rfl) (wq hw 26 rfl) (wq hw 2 rfl) (wq hw 28 rfl) (rmHeadOf2 l Z az hw [] a0 q2 ar kA x1 x2 t1 t2 h0 n0 Z0 F0 F1 F2 F3 F4 F5 F6 F7 F8 Ne0 Ne1 Ne2 Ne3 Ne4 Ge0 Ge1) (W := 0) (g := (mkF m 2 (sh10 a0 a1 q2) [(.long q2), (.ref a0)])) rfl (by rw [hml]; rfl) F0 (argsL := [(.long q2)]) (rest := []) rfl (lenOf own_pd3 rfl) rfl (hb hby d4_2) e0 N0 (c' := 1) (s' := 3)
  rcases hQ1 with ⟨hd2, rfl, Nq3, K4⟩ | ⟨b5, hd6, hd7, rfl, Nq16, K17, sz15, f8, f9, f10, f11, f12, f13, f14⟩ | ⟨hd18, hd19, hd20, rfl, Nq21, K22⟩ | ⟨b23, hd24, hd25, hd26, rfl, Nq35, K36, sz34, f27, f28, f29, f30, f31, f32, f33⟩ | ⟨b37, hd38, hd39, rfl, Nq48, K49, sz47, f40, f41, f42, f43, f44, f45, f46⟩
  · have Kt51 : Keep h0 h0 [a1, z2, x2] := Keep.refl _ _
    have N52 := hF1 Nq3
    refine Gb st1 ?_
    show Goes p.tables e below _ (T1.setTop (mkF m 5 (sh10 a0 a1 q2) [(.ref x2)]))
    refine Gb (fun _ => XS.astore X1.here hx rfl (hb hby d4_5) rfl rfl (l' := (sh11 a0 a1 q2 x2)) rfl) ?_
    refine Gb (fun _ => XS.aloadN X1.here hx rfl (hb hby d4_7) rfl rfl) ?_
    refine Gb (fun _ => XS.aload X1.here hx rfl (hb hby d4_8) rfl rfl) ?_
    refine Gb (fun _ => getFR X1 hx hZ hown (wq hw 53 rfl) K4 F17 (g := (mkF m 10 (sh11 a0 a1 q2 x2) [(.ref x2), (.ref a1)])) rfl rfl (hb hby d4_10)) ?_
    obtain ⟨T54, h54, X54, e54, W54, st54⟩ := putFR X1 hx hZ hown (wq hw 53 rfl) K4 F11 F9 (wq hw 54 rfl) (wq hw 14 rfl) (ty := (.object cL)) (by decide) rfl rfl (g := (mkF m 13 (sh11 a0 a1 q2 x2) [(.ref z2), (.ref a1)])) rfl rfl (hb hby d4_13)
    have f55 := F7.wr W54
    have f56 := F8.other W54 (Or.inl (Ne.symm Ne10))
    have f57 := F9.wr W54
    have f58 := F10.other W54 (Or.inr (slot_ne (Or.inl (wq hw 56 rfl)) (Or.inl (wq hw 54 rfl)) (by decide) (t := (.object cL)) (t' := (.object cL)) (by decide) (by decide)))
    have f59 := F17.other W54 (Or.inl (Ne.symm Ne10))
    have f60 := F18.wr W54
    have f61 := F19.other W54 (Or.inl (Ne.symm Ne11))
    have f62 := F20.other W54 (Or.inl (Ne.symm Ne10))
    have f63 := F21.other W54 (Or.inl (Ne.symm Ne11))
    have f64 : Fld Z h54 a1 cL "prev" dL (.ref z2) := F11.same W54
    have Kp54 := Kt51.wr W54 (Or.inl om0)
    have Z65 := Nat.le_trans Z0 (Nat.le_of_eq W54.size.symm)
    have N66 := Fr.snoc X54 N52 Ge2
    refine Gb st54 ?_
    refine Gb (fun _ => XS.aloadN X54.here hx rfl (hb hby d4_16) rfl rfl) ?_
    refine Gb (fun _ => XS.aload X54.here hx rfl (hb hby d4_17) rfl rfl) ?_
    obtain ⟨T67, h67, X67, e67, W67, st67⟩ := putFR X54 hx hZ hown (wq hw 55 rfl) e54 f58 f57 (wq hw 56 rfl) (wq hw 14 rfl) (ty := (.object cL)) (by decide) rfl rfl (g := (mkF m 19 (sh11 a0 a1 q2 x2) [(.ref x2), (.ref a1)])) rfl rfl (hb hby d4_19)
    have f68 := f55.wr W67
    have f69 := f56.other W67 (Or.inl (Ne.symm Ne10))
    have f70 := f57.wr W67
    have f71 := f59.other W67 (Or.inl (Ne.symm Ne10))
    have f72 := f60.wr W67
    have f73 := f61.other W67 (Or.inl (Ne.symm Ne11))
    have f74 := f62.other W67 (Or.inl (Ne.symm Ne10))
    have f75 := f63.other W67 (Or.inl (Ne.symm Ne11))
    have f76 := f64.other W67 (Or.inr (slot_ne (Or.inl (wq hw 54 rfl)) (Or.inl (wq hw 56 rfl)) (by decide) (t := (.object cL)) (t' := (.object cL)) (by decide) (by decide)))
    have f77 : Fld Z h67 a1 cL "next" dL (.ref x2) := f58.same W67
    have Kp67 := Kp54.wr W67 (Or.inl om0)
    have Z78 := Nat.le_trans Z65 (Nat.le_of_eq W67.size.symm)
    have N79 := Fr.snoc X67 N66 Ge2
    refine Gb st67 ?_
    refine Gb (fun _ => XS.aload X67.here hx rfl (hb hby d4_22) rfl rfl) ?_
    refine Gb (fun _ => getFR X67 hx hZ hown (wq hw 53 rfl) e67 f71 (g := (mkF m 24 (sh11 a0 a1 q2 x2) [(.ref x2)])) rfl rfl (hb hby d4_24)) ?_
    refine Gb (fun _ => XS.aloadN X67.here hx rfl (hb hby d4_27) rfl rfl) ?_
    obtain ⟨T81, h81, X81, e81, W81, st81⟩ := putFR X67 hx hZ hown (wq hw 55 rfl) e67 f73 f72 (wq hw 56 rfl) (wq hw 14 rfl) (ty := (.object cL)) (by decide) rfl rfl (g := (mkF m 28 (sh11 a0 a1 q2 x2) [(.ref a1), (.ref z2)])) rfl rfl (hb hby d4_28)
    have f82 := f68.wr W81
    have f83 := f69.other W81 (Or.inl Ne12)
    have f84 := f70.wr W81
    have f85 := f71.other W81 (Or.inl Ne12)
    have f86 := f72.wr W81
    have f87 := f74.other W81 (Or.inl Ne12)
    have f88 := f75.other W81 (Or.inr (slot_ne (Or.inl (wq hw 54 rfl)) (Or.inl (wq hw 56 rfl)) (by decide) (t := (.object cL)) (t' := (.object cL)) (by decide) (by decide)))
    have f89 := f76.other W81 (Or.inl Ne11)
    have f90 := f77.other W81 (Or.inl Ne11)
    have f91 : Fld Z h81 z2 cL "next" dL (.ref a1) := f73.same W81
    have Kp81 := Kp67.wr W81 (Or.inl om1)
    have Z92 := Nat.le_trans Z78 (Nat.le_of_eq W81.size.symm)
    have N93 := Fr.snoc X81 N79 Ge6
    refine Gb st81 ?_
    refine Gb (fun _ => XS.aload X81.here hx rfl (hb hby d4_31) rfl rfl) ?_
    refine Gb (fun _ => XS.aloadN X81.here hx rfl (hb hby d4_33) rfl rfl) ?_
    obtain ⟨T94, h94, X94, e94, W94, st94⟩ := putFR X81 hx hZ hown (wq hw 53 rfl) e81 f85 f82 (wq hw 51 rfl) (wq hw 39 rfl) (ty := (.object cL)) (by decide) rfl rfl (g := (mkF m 34 (sh11 a0 a1 q2 x2) [(.ref a1), (.ref x2)])) rfl rfl (hb hby d4_34)
    have f95 := f82.wr W94
    have f96 := f83.other W94 (Or.inr (slot_ne (Or.inr (wq hw 47 rfl)) (Or.inl (wq hw 51 rfl)) (by decide) (t := .long) (t' := (.object cL)) (by decide) (by decide)))
    have f97 := f84.wr W94
    have f98 := f86.wr W94
    have f99 := f87.other W94 (Or.inr (slot_ne (Or.inl (wq hw 49 rfl)) (Or.inl (wq hw 51 rfl)) (by decide) (t := (.object cL)) (t' := (.object cL)) (by decide) (by decide)))
    have f100 := f88.other W94 (Or.inl (Ne.symm Ne12))
    have f101 := f89.other W94 (Or.inl Ne10)
    have f102 := f90.other W94 (Or.inl Ne10)
    have f103 := f91.other W94 (Or.inl (Ne.symm Ne12))
    have f104 : Fld Z h94 x2 cL "prev" dL (.ref a1) := f85.same W94
    have Kp94 := Kp81.wr W94 (Or.inl om2)
    have Z105 := Nat.le_trans Z92 (Nat.le_of_eq W94.size.symm)
    have N106 := Fr.snoc X94 N93 Ge4
    refine Gb st94 ?_
    obtain ⟨fs, hr, hrun, hended, hW, hsame⟩ := X94.leave (v := none) (fun _ => rfl)
    refine Goes.mk _ _ ?_ ⟨hrun, hended, _, _, rfl, ?_, ⟨_, rfl⟩, hW, hsame.mono (by decide) (by decide)⟩
    · exact X94.returnOut hx Bd.returns (hb hby d4_37) hr
    · show QFile2 Z a0 a1 q2 ar kA x1 x2 t1 t2 nl pl z1 z2 w1 w2 nx1 nx2 pz1 pz2 h0 n0 _ T94.heap _
      rw [e94]
      exact (Or.inl ⟨hd2, rfl, N106, Kp94, f102, f101, f103, f100, f99, f104, f96⟩)
  · have Kt108 : Keep h0 h0 [ar, a0, a1] := Keep.refl _ _
    have ne109 : a0 ≠ b5 := Nat.ne_of_lt (Nat.lt_of_lt_of_le F0.lt sz15)
    have ne110 : ar ≠ b5 := Nat.ne_of_lt (Nat.lt_of_lt_of_le F3.lt sz15)
    have ne111 : a1 ≠ b5 := Nat.ne_of_lt (Nat.lt_of_lt_of_le F9.lt sz15)
    have ge112 : n0 ≤ b5 := Nat.le_trans Z0 sz15
    have sz113 : h0.size ≤ b5 := Nat.le_trans Kt108.1 sz15
    have KK17 := K17
    have f114 := F0.keep KK17
    have f115 := F9.keep KK17
    have f116 := F10.keep KK17 (ninS Ne5 (ninS Ne6 nin0))
    have f117 := F11.keep KK17 (ninS Ne5 (ninS Ne6 nin0))
    have KpK17 := Kt108.trans K17 (allS (Or.inl om1) (allS (Or.inl om0) all0))
    have Z118 := Nat.le_trans Z0 K17.1
    have N119 := hF1 Nq16
    refine Gb st1 ?_
    show Goes p.tables e below _ (T1.setTop (mkF m 5 (sh10 a0 a1 q2) [(.ref b5)]))
    refine Gb (fun _ => XS.astore X1.here hx rfl (hb hby d4_5) rfl rfl (l' := (sh11 a0 a1 q2 b5)) rfl) ?_
    refine Gb (fun _ => XS.aloadN X1.here hx rfl (hb hby d4_7) rfl rfl) ?_
    refine Gb (fun _ => XS.aload X1.here hx rfl (hb hby d4_8) rfl rfl) ?_
    refine Gb (fun _ => getFR X1 hx hZ hown (wq hw 53 rfl) rfl f14 (g := (mkF m 10 (sh11 a0 a1 q2 b5) [(.ref b5), (.ref a1)])) rfl rfl (hb hby d4_10)) ?_
    obtain ⟨T121, h121, X121, e121, W121, st121⟩ := putFR X1 hx hZ hown (wq hw 53 rfl) rfl f117 f115 (wq hw 54 rfl) (wq hw 14 rfl) (ty := (.object cL)) (by decide) rfl rfl (g := (mkF m 13 (sh11 a0 a1 q2 b5) [(.ref b5), (.ref a1)])) rfl rfl (hb hby d4_13)
    have f122 := f114.wr W121
    have f123 := f115.wr W121
    have f124 := f116.other W121 (Or.inr (slot_ne (Or.inl (wq hw 56 rfl)) (Or.inl (wq hw 54 rfl)) (by decide) (t := (.object cL)) (t' := (.object cL)) (by decide) (by decide)))
    have f125 := f8.other W121 (Or.inl (Ne.symm Ne5))
    have f126 := f9.other W121 (Or.inl (Ne.symm Ne5))
    have f127 := f10.other W121 (Ne.symm Ne6)
    have f128 := f11.wr W121
    have f129 := f12.other W121 (Or.inl (Ne.symm ne111))
    have f130 := f13.other W121 (Or.inl (Ne.symm ne111))
    have f131 := f14.other W121 (Or.inl (Ne.symm ne111))
    have f132 : Fld Z h121 a1 cL "prev" dL (.ref b5) := f117.same W121
    have Kp121 := KpK17.wr W121 (Or.inl om2)
    have Z133 := Nat.le_trans Z118 (Nat.le_of_eq W121.size.symm)
    have N134 := Fr.snoc X121 N119 Ge2
    refine Gb st121 ?_
    refine Gb (fun _ => XS.aloadN X121.here hx rfl (hb hby d4_16) rfl rfl) ?_
    refine Gb (fun _ => XS.aload X121.here hx rfl (hb hby d4_17) rfl rfl) ?_
    obtain ⟨T135, h135, X135, e135, W135, st135⟩ := putFR X121 hx hZ hown (wq hw 55 rfl) e121 f124 f123 (wq hw 56 rfl) (wq hw 14 rfl) (ty := (.object cL)) (by decide) rfl rfl (g := (mkF m 19 (sh11 a0 a1 q2 b5) [(.ref b5), (.ref a1)])) rfl rfl (hb hby d4_19)
    have f136 := f122.wr W135
    have f137 := f123.wr W135
    have f138 := f125.other W135 (Or.inl (Ne.symm Ne5))
    have f139 := f126.other W135 (Or.inl (Ne.symm Ne5))
    have f140 := f127.other W135 (Ne.symm Ne6)
    have f141 := f128.wr W135
    have f142 := f129.other W135 (Or.inl (Ne.symm ne111))
    have f143 := f130.other W135 (Or.inl (Ne.symm ne111))
    have f144 := f131.other W135 (Or.inl (Ne.symm ne111))
    have f145 := f132.other W135 (Or.inr (slot_ne (Or.inl (wq hw 54 rfl)) (Or.inl (wq hw 56 rfl)) (by decide) (t := (.object cL)) (t' := (.object cL)) (by decide) (by decide)))
    have f146 : Fld Z h135 a1 cL "next" dL (.ref b5) := f124.same W135
    have Kp135 := Kp121.wr W135 (Or.inl om2)
    have Z147 := Nat.le_trans Z133 (Nat.le_of_eq W135.size.symm)
    have N148 := Fr.snoc X135 N134 Ge2
    refine Gb st135 ?_
    refine Gb (fun _ => XS.aload X135.here hx rfl (hb hby d4_22) rfl rfl) ?_
    refine Gb (fun _ => getFR X135 hx hZ hown (wq hw 53 rfl) e135 f144 (g := (mkF m 24 (sh11 a0 a1 q2 b5) [(.ref b5)])) rfl rfl (hb hby d4_24)) ?_
    refine Gb (fun _ => XS.aloadN X135.here hx rfl (hb hby d4_27) rfl rfl) ?_
    obtain ⟨T150, h150, X150, e150, W150, st150⟩ := putFR X135 hx hZ hown (wq hw 55 rfl) e135 f143 f141 (wq hw 49 rfl) (wq hw 39 rfl) (ty := (.object cL)) (by decide) rfl rfl (g := (mkF m 28 (sh11 a0 a1 q2 b5) [(.ref a1), (.ref b5)])) rfl rfl (hb hby d4_28)
    have f151 := f136.wr W150
    have f152 := f137.wr W150
    have f153 := f138.other W150 (Or.inl ne109)
    have f154 := f139.other W150 (Or.inl ne109)
    have f155 := f140.other W150 ne110
    have f156 := f141.wr W150
    have f157 := f142.other W150 (Or.inr (slot_ne (Or.inr (wq hw 47 rfl)) (Or.inl (wq hw 49 rfl)) (by decide) (t := .long) (t' := (.object cL)) (by decide) (by decide)))
    have f158 := f144.other W150 (Or.inr (slot_ne (Or.inl (wq hw 51 rfl)) (Or.inl (wq hw 49 rfl)) (by decide) (t := (.object cL)) (t' := (.object cL)) (by decide) (by decide)))
    have f159 := f145.other W150 (Or.inl ne111)
    have f160 := f146.other W150 (Or.inl ne111)
    have f161 : Fld Z h150 b5 cL "next" dL (.ref a1) := f143.same W150
    have Kp150 := Kp135.wr W150 (Or.inr sz113)
    have Z162 := Nat.le_trans Z147 (Nat.le_of_eq W150.size.symm)
    have N163 := Fr.snoc X150 N148 ge112
    refine Gb st150 ?_
    refine Gb (fun _ => XS.aload X150.here hx rfl (hb hby d4_31) rfl rfl) ?_
    refine Gb (fun _ => XS.aloadN X150.here hx rfl (hb hby d4_33) rfl rfl) ?_
    obtain ⟨T164, h164, X164, e164, W164, st164⟩ := putFR X150 hx hZ hown (wq hw 53 rfl) e150 f158 f156 (wq hw 51 rfl) (wq hw 39 rfl) (ty := (.object cL)) (by decide) rfl rfl (g := (mkF m 34 (sh11 a0 a1 q2 b5) [(.ref a1), (.ref b5)])) rfl rfl (hb hby d4_34)
    have f165 := f151.wr W164
    have f166 := f152.wr W164
    have f167 := f153.other W164 (Or.inl ne109)
    have f168 := f154.other W164 (Or.inl ne109)
    have f169 := f155.other W164 ne110
    have f170 := f156.wr W164
    have f171 := f157.other W164 (Or.inr (slot_ne (Or.inr (wq hw 47 rfl)) (Or.inl (wq hw 51 rfl)) (by decide) (t := .long) (t' := (.object cL)) (by decide) (by decide)))
    have f172 := f159.other W164 (Or.inl ne111)
    have f173 := f160.other W164 (Or.inl ne111)
    have f174 := f161.other W164 (Or.inr (slot_ne (Or.inl (wq hw 49 rfl)) (Or.inl (wq hw 51 rfl)) (by decide) (t := (.object cL)) (t' := (.object cL)) (by decide) (by decide)))
    have f175 : Fld Z h164 b5 cL "prev" dL (.ref a1) := f158.same W164
    have Kp164 := Kp150.wr W164 (Or.inr sz113)
    have Z176 := Nat.le_trans Z162 (Nat.le_of_eq W164.size.symm)
    have N177 := Fr.snoc X164 N163 ge112
    refine Gb st164 ?_
    obtain ⟨fs, hr, hrun, hended, hW, hsame⟩ := X164.leave (v := none) (fun _ => rfl)
    refine Goes.mk _ _ ?_ ⟨hrun, hended, _, _, rfl, ?_, ⟨_, rfl⟩, hW, hsame.mono (by decide) (by decide)⟩
    · exact X164.returnOut hx Bd.returns (hb hby d4_37) hr
    · show QFile2 Z a0 a1 q2 ar kA x1 x2 t1 t2 nl pl z1 z2 w1 w2 nx1 nx2 pz1 pz2 h0 n0 _ T164.heap _
      rw [e164]
      exact (Or.inr (Or.inl ⟨b5, hd6, hd7, rfl, N177, Kp164, sz113, f167, f168, f169, f170, f171, f174, f175, f173, f172⟩))
  · have Kt179 : Keep h0 h0 [a1, z1, x1] := Keep.refl _ _
    have N180 := hF1 Nq21
    refine Gb st1 ?_
    show Goes p.tables e below _ (T1.setTop (mkF m 5 (sh10 a0 a1 q2) [(.ref x1)]))
    refine Gb (fun _ => XS.astore X1.here hx rfl (hb hby d4_5) rfl rfl (l' := (sh11 a0 a1 q2 x1)) rfl) ?_
    refine Gb (fun _ => XS.aloadN X1.here hx rfl (hb hby d4_7) rfl rfl) ?_
    refine Gb (fun _ => XS.aload X1.here hx rfl (hb hby d4_8) rfl rfl) ?_
    refine Gb (fun _ => getFR X1 hx hZ hown (wq hw 53 rfl) K22 F12 (g := (mkF m 10 (sh11 a0 a1 q2 x1) [(.ref x1), (.ref a1)])) rfl rfl (hb hby d4_10)) ?_
    obtain ⟨T182, h182, X182, e182, W182, st182⟩ := putFR X1 hx hZ hown (wq hw 53 rfl) K22 F11 F9 (wq hw 54 rfl) (wq hw 14 rfl) (ty := (.object cL)) (by decide) rfl rfl (g := (mkF m 13 (sh11 a0 a1 q2 x1) [(.ref z1), (.ref a1)])) rfl rfl (hb hby d4_13)
    have f183 := F5.wr W182
    have f184 := F6.other W182 (Or.inl (Ne.symm Ne7))
    have f185 := F9.wr W182
    have f186 := F10.other W182 (Or.inr (slot_ne (Or.inl (wq hw 56 rfl)) (Or.inl (wq hw 54 rfl)) (by decide) (t := (.object cL)) (t' := (.object cL)) (by decide) (by decide)))
    have f187 := F12.other W182 (Or.inl (Ne.symm Ne7))
    have f188 := F13.wr W182
    have f189 := F14.other W182 (Or.inl (Ne.symm Ne8))
    have f190 := F15.other W182 (Or.inl (Ne.symm Ne7))
    have f191 := F16.other W182 (Or.inl (Ne.symm Ne8))
    have f192 : Fld Z h182 a1 cL "prev" dL (.ref z1) := F11.same W182
    have Kp182 := Kt179.wr W182 (Or.inl om0)
    have Z193 := Nat.le_trans Z0 (Nat.le_of_eq W182.size.symm)
    have N194 := Fr.snoc X182 N180 Ge2
    refine Gb st182 ?_
    refine Gb (fun _ => XS.aloadN X182.here hx rfl (hb hby d4_16) rfl rfl) ?_
    refine Gb (fun _ => XS.aload X182.here hx rfl (hb hby d4_17) rfl rfl) ?_
    obtain ⟨T195, h195, X195, e195, W195, st195⟩ := putFR X182 hx hZ hown (wq hw 55 rfl) e182 f186 f185 (wq hw 56 rfl) (wq hw 14 rfl) (ty := (.object cL)) (by decide) rfl rfl (g := (mkF m 19 (sh11 a0 a1 q2 x1) [(.ref x1), (.ref a1)])) rfl rfl (hb hby d4_19)
    have f196 := f183.wr W195
    have f197 := f184.other W195 (Or.inl (Ne.symm Ne7))
    have f198 := f185.wr W195
    have f199 := f187.other W195 (Or.inl (Ne.symm Ne7))
    have f200 := f188.wr W195
    have f201 := f189.other W195 (Or.inl (Ne.symm Ne8))
    have f202 := f190.other W195 (Or.inl (Ne.symm Ne7))
    have f203 := f191.other W195 (Or.inl (Ne.symm Ne8))
    have f204 := f192.other W195 (Or.inr (slot_ne (Or.inl (wq hw 54 rfl)) (Or.inl (wq hw 56 rfl)) (by decide) (t := (.object cL)) (t' := (.object cL)) (by decide) (by decide)))
    have f205 : Fld Z h195 a1 cL "next" dL (.ref x1) := f186.same W195
    have Kp195 := Kp182.wr W195 (Or.inl om0)
    have Z206 := Nat.le_trans Z193 (Nat.le_of_eq W195.size.symm)
    have N207 := Fr.snoc X195 N194 Ge2
    refine Gb st195 ?_
    refine Gb (fun _ => XS.aload X195.here hx rfl (hb hby d4_22) rfl rfl) ?_
    refine Gb (fun _ => getFR X195 hx hZ hown (wq hw 53 rfl) e195 f199 (g := (mkF m 24 (sh11 a0 a1 q2 x1) [(.ref x1)])) rfl rfl (hb hby d4_24)) ?_
    refine Gb (fun _ => XS.aloadN X195.here hx rfl (hb hby d4_27) rfl rfl) ?_
    obtain ⟨T209, h209, X209, e209, W209, st209⟩ := putFR X195 hx hZ hown (wq hw 55 rfl) e195 f201 f200 (wq hw 56 rfl) (wq hw 14 rfl) (ty := (.object cL)) (by decide) rfl rfl (g := (mkF m 28 (sh11 a0 a1 q2 x1) [(.ref a1), (.ref z1)])) rfl rfl (hb hby d4_28)
    have f210 := f196.wr W209
    have f211 := f197.other W209 (Or.inl Ne9)
    have f212 := f198.wr W209
    have f213 := f199.other W209 (Or.inl Ne9)
    have f214 := f200.wr W209
    have f215 := f202.other W209 (Or.inl Ne9)
    have f216 := f203.other W209 (Or.inr (slot_ne (Or.inl (wq hw 54 rfl)) (Or.inl (wq hw 56 rfl)) (by decide) (t := (.object cL)) (t' := (.object cL)) (by decide) (by decide)))
    have f217 := f204.other W209 (Or.inl Ne8)
    have f218 := f205.other W209 (Or.inl Ne8)
    have f219 : Fld Z h209 z1 cL "next" dL (.ref a1) := f201.same W209
    have Kp209 := Kp195.wr W209 (Or.inl om1)
    have Z220 := Nat.le_trans Z206 (Nat.le_of_eq W209.size.symm)
    have N221 := Fr.snoc X209 N207 Ge5
    refine Gb st209 ?_
    refine Gb (fun _ => XS.aload X209.here hx rfl (hb hby d4_31) rfl rfl) ?_
    refine Gb (fun _ => XS.aloadN X209.here hx rfl (hb hby d4_33) rfl rfl) ?_
    obtain ⟨T222, h222, X222, e222, W222, st222⟩ := putFR X209 hx hZ hown (wq hw 53 rfl) e209 f213 f210 (wq hw 51 rfl) (wq hw 39 rfl) (ty := (.object cL)) (by decide) rfl rfl (g := (mkF m 34 (sh11 a0 a1 q2 x1) [(.ref a1), (.ref x1)])) rfl rfl (hb hby d4_34)
    have f223 := f210.wr W222
    have f224 := f211.other W222 (Or.inr (slot_ne (Or.inr (wq hw 47 rfl)) (Or.inl (wq hw 51 rfl)) (by decide) (t := .long) (t' := (.object cL)) (by decide) (by decide)))
    have f225 := f212.wr W222
    have f226 := f214.wr W222
    have f227 := f215.other W222 (Or.inr (slot_ne (Or.inl (wq hw 49 rfl)) (Or.inl (wq hw 51 rfl)) (by decide) (t := (.object cL)) (t' := (.object cL)) (by decide) (by decide)))
    have f228 := f216.other W222 (Or.inl (Ne.symm Ne9))
    have f229 := f217.other W222 (Or.inl Ne7)
    have f230 := f218.other W222 (Or.inl Ne7)
    have f231 := f219.other W222 (Or.inl (Ne.symm Ne9))
    have f232 : Fld Z h222 x1 cL "prev" dL (.ref a1) := f213.same W222
    have Kp222 := Kp209.wr W222 (Or.inl om2)
    have Z233 := Nat.le_trans Z220 (Nat.le_of_eq W222.size.symm)
    have N234 := Fr.snoc X222 N221 Ge3
    refine Gb st222 ?_
    obtain ⟨fs, hr, hrun, hended, hW, hsame⟩ := X222.leave (v := none) (fun _ => rfl)
    refine Goes.mk _ _ ?_ ⟨hrun, hended, _, _, rfl, ?_, ⟨_, rfl⟩, hW, hsame.mono (by decide) (by decide)⟩
    · exact X222.returnOut hx Bd.returns (hb hby d4_37) hr
    · show QFile2 Z a0 a1 q2 ar kA x1 x2 t1 t2 nl pl z1 z2 w1 w2 nx1 nx2 pz1 pz2 h0 n0 _ T222.heap _
      rw [e222]
      exact (Or.inr (Or.inr (Or.inl ⟨hd18, hd19, hd20, rfl, N234, Kp222, f230, f229, f231, f228, f227, f232, f224⟩)))
  · have Kt236 : Keep h0 h0 [ar, a0, a1] := Keep.refl _ _
    have ne237 : a0 ≠ b23 := Nat.ne_of_lt (Nat.lt_of_lt_of_le F0.lt sz34)
    have ne238 : ar ≠ b23 := Nat.ne_of_lt (Nat.lt_of_lt_of_le F3.lt sz34)
    have ne239 : a1 ≠ b23 := Nat.ne_of_lt (Nat.lt_of_lt_of_le F9.lt sz34)
    have ge240 : n0 ≤ b23 := Nat.le_trans Z0 sz34
    have sz241 : h0.size ≤ b23 := Nat.le_trans Kt236.1 sz34
    have KK36 := K36
    have f242 := F0.keep KK36
    have f243 := F9.keep KK36
    have f244 := F10.keep KK36 (ninS Ne5 (ninS Ne6 nin0))
    have f245 := F11.keep KK36 (ninS Ne5 (ninS Ne6 nin0))
    have KpK36 := Kt236.trans K36 (allS (Or.inl om1) (allS (Or.inl om0) all0))
    have Z246 := Nat.le_trans Z0 K36.1
    have N247 := hF1 Nq35
    refine Gb st1 ?_
    show Goes p.tables e below _ (T1.setTop (mkF m 5 (sh10 a0 a1 q2) [(.ref b23)]))
    refine Gb (fun _ => XS.astore X1.here hx rfl (hb hby d4_5) rfl rfl (l' := (sh11 a0 a1 q2 b23)) rfl) ?_
    refine Gb (fun _ => XS.aloadN X1.here hx rfl (hb hby d4_7) rfl rfl) ?_
    refine Gb (fun _ => XS.aload X1.here hx rfl (hb hby d4_8) rfl rfl) ?_
    refine Gb (fun _ => getFR X1 hx hZ hown (wq hw 53 rfl) rfl f33 (g := (mkF m 10 (sh11 a0 a1 q2 b23) [(.ref b23), (.ref a1)])) rfl rfl (hb hby d4_10)) ?_
    obtain ⟨T249, h249, X249, e249, W249, st249⟩ := putFR X1 hx hZ hown (wq hw 53 rfl) rfl f245 f243 (wq hw 54 rfl) (wq hw 14 rfl) (ty := (.object cL)) (by decide) rfl rfl (g := (mkF m 13 (sh11 a0 a1 q2 b23) [(.ref b23), (.ref a1)])) rfl rfl (hb hby d4_13)
    have f250 := f242.wr W249
    have f251 := f243.wr W249
    have f252 := f244.other W249 (Or.inr (slot_ne (Or.inl (wq hw 56 rfl)) (Or.inl (wq hw 54 rfl)) (by decide) (t := (.object cL)) (t' := (.object cL)) (by decide) (by decide)))
    have f253 := f27.other W249 (Or.inl (Ne.symm Ne5))
    have f254 := f28.other W249 (Or.inl (Ne.symm Ne5))
    have f255 := f29.other W249 (Ne.symm Ne6)
    have f256 := f30.wr W249
    have f257 := f31.other W249 (Or.inl (Ne.symm ne239))
    have f258 := f32.other W249 (Or.inl (Ne.symm ne239))
    have f259 := f33.other W249 (Or.inl (Ne.symm ne239))
    have f260 : Fld Z h249 a1 cL "prev" dL (.ref b23) := f245.same W249
    have Kp249 := KpK36.wr W249 (Or.inl om2)
    have Z261 := Nat.le_trans Z246 (Nat.le_of_eq W249.size.symm)
    have N262 := Fr.snoc X249 N247 Ge2
    refine Gb st249 ?_
    refine Gb (fun _ => XS.aloadN X249.here hx rfl (hb hby d4_16) rfl rfl) ?_
    refine Gb (fun _ => XS.aload X249.here hx rfl (hb hby d4_17) rfl rfl) ?_
    obtain ⟨T263, h263, X263, e263, W263, st263⟩ := putFR X249 hx hZ hown (wq hw 55 rfl) e249 f252 f251 (wq hw 56 rfl) (wq hw 14 rfl) (ty := (.object cL)) (by decide) rfl rfl (g := (mkF m 19 (sh11 a0 a1 q2 b23) [(.ref b23), (.ref a1)])) rfl rfl (hb hby d4_19)
    have f264 := f250.wr W263
    have f265 := f251.wr W263
    have f266 := f253.other W263 (Or.inl (Ne.symm Ne5))
    have f267 := f254.other W263 (Or.inl (Ne.symm Ne5))
    have f268 := f255.other W263 (Ne.symm Ne6)
    have f269 := f256.wr W263
    have f270 := f257.other W263 (Or.inl (Ne.symm ne239))
    have f271 := f258.other W263 (Or.inl (Ne.symm ne239))
    have f272 := f259.other W263 (Or.inl (Ne.symm ne239))
    have f273 := f260.other W263 (Or.inr (slot_ne (Or.inl (wq hw 54 rfl)) (Or.inl (wq hw 56 rfl)) (by decide) (t := (.object cL)) (t' := (.object cL)) (by decide) (by decide)))
    have f274 : Fld Z h263 a1 cL "next" dL (.ref b23) := f252.same W263
    have Kp263 := Kp249.wr W263 (Or.inl om2)
    have Z275 := Nat.le_trans Z261 (Nat.le_of_eq W263.size.symm)
    have N276 := Fr.snoc X263 N262 Ge2
    refine Gb st263 ?_
    refine Gb (fun _ => XS.aload X263.here hx rfl (hb hby d4_22) rfl rfl) ?_
    refine Gb (fun _ => getFR X263 hx hZ hown (wq hw 53 rfl) e263 f272 (g := (mkF m 24 (sh11 a0 a1 q2 b23) [(.ref b23)])) rfl rfl (hb hby d4_24)) ?_
    refine Gb (fun _ => XS.aloadN X263.here hx rfl (hb hby d4_27) rfl rfl) ?_
    obtain ⟨T278, h278, X278, e278, W278, st278⟩ := putFR X263 hx hZ hown (wq hw 55 rfl) e263 f271 f269 (wq hw 49 rfl) (wq hw 39 rfl) (ty := (.object cL)) (by decide) rfl rfl (g := (mkF m 28 (sh11 a0 a1 q2 b23) [(.ref a1), (.ref b23)])) rfl rfl (hb hby d4_28)
    have f279 := f264.wr W278
    have f280 := f265.wr W278
    have f281 := f266.other W278 (Or.inl ne237)
    have f282 := f267.other W278 (Or.inl ne237)
    have f283 := f268.other W278 ne238
    have f284 := f269.wr W278
    have f285 := f270.other W278 (Or.inr (slot_ne (Or.inr (wq hw 47 rfl)) (Or.inl (wq hw 49 rfl)) (by decide) (t := .long) (t' := (.object cL)) (by decide) (by decide)))
    have f286 := f272.other W278 (Or.inr (slot_ne (Or.inl (wq hw 51 rfl)) (Or.inl (wq hw 49 rfl)) (by decide) (t := (.object cL)) (t' := (.object cL)) (by decide) (by decide)))
    have f287 := f273.other W278 (Or.inl ne239)
    have f288 := f274.other W278 (Or.inl ne239)
    have f289 : Fld Z h278 b23 cL "next" dL (.ref a1) := f271.same W278
    have Kp278 := Kp263.wr W278 (Or.inr sz241)
    have Z290 := Nat.le_trans Z275 (Nat.le_of_eq W278.size.symm)
    have N291 := Fr.snoc X278 N276 ge240
    refine Gb st278 ?_
    refine Gb (fun _ => XS.aload X278.here hx rfl (hb hby d4_31) rfl rfl) ?_
    refine Gb (fun _ => XS.aloadN X278.here hx rfl (hb hby d4_33) rfl rfl) ?_
    obtain ⟨T292, h292, X292, e292, W292, st292⟩ := putFR X278 hx hZ hown (wq hw 53 rfl) e278 f286 f284 (wq hw 51 rfl) (wq hw 39 rfl) (ty := (.object cL)) (by decide) rfl rfl (g := (mkF m 34 (sh11 a0 a1 q2 b23) [(.ref a1), (.ref b23)])) rfl rfl (hb hby d4_34)
    have f293 := f279.wr W292
    have f294 := f280.wr W292
    have f295 := f281.other W292 (Or.inl ne237)
    have f296 := f282.other W292 (Or.inl ne237)
    have f297 := f283.other W292 ne238
    have f298 := f284.wr W292
    have f299 := f285.other W292 (Or.inr (slot_ne (Or.inr (wq hw 47 rfl)) (Or.inl (wq hw 51 rfl)) (by decide) (t := .long) (t' := (.object cL)) (by decide) (by decide)))
    have f300 := f287.other W292 (Or.inl ne239)
    have f301 := f288.other W292 (Or.inl ne239)
    have f302 := f289.other W292 (Or.inr (slot_ne (Or.inl (wq hw 49 rfl)) (Or.inl (wq hw 51 rfl)) (by decide) (t := (.object cL)) (t' := (.object cL)) (by decide) (by decide)))
    have f303 : Fld Z h292 b23 cL "prev" dL (.ref a1) := f286.same W292
    have Kp292 := Kp278.wr W292 (Or.inr sz241)
    have Z304 := Nat.le_trans Z290 (Nat.le_of_eq W292.size.symm)
    have N305 := Fr.snoc X292 N291 ge240
    refine Gb st292 ?_
    obtain ⟨fs, hr, hrun, hended, hW, hsame⟩ := X292.leave (v := none) (fun _ => rfl)
    refine Goes.mk _ _ ?_ ⟨hrun, hended, _, _, rfl, ?_, ⟨_, rfl⟩, hW, hsame.mono (by decide) (by decide)⟩
    · exact X292.returnOut hx Bd.returns (hb hby d4_37) hr
    · show QFile2 Z a0 a1 q2 ar kA x1 x2 t1 t2 nl pl z1 z2 w1 w2 nx1 nx2 pz1 pz2 h0 n0 _ T292.heap _
      rw [e292]
      exact (Or.inr (Or.inr (Or.inr (Or.inl ⟨b23, hd24, hd25, hd26, rfl, N305, Kp292, sz241, f295, f296, f297, f298, f299, f302, f303, f301, f300⟩))))
  · have Kt307 : Keep h0 h0 [ar, a0, a1] := Keep.refl _ _
    have ne308 : a0 ≠ b37 := Nat.ne_of_lt (Nat.lt_of_lt_of_le F0.lt sz47)
    have ne309 : ar ≠ b37 := Nat.ne_of_lt (Nat.lt_of_lt_of_le F3.lt sz47)
    have ne310 : a1 ≠ b37 := Nat.ne_of_lt (Nat.lt_of_lt_of_le F9.lt sz47)
    have ge311 : n0 ≤ b37 := Nat.le_trans Z0 sz47
    have sz312 : h0.size ≤ b37 := Nat.le_trans Kt307.1 sz47
    have KK49 := K49
    have f313 := F0.keep KK49
    have f314 := F9.keep KK49
    have f315 := F10.keep KK49 (ninS Ne5 (ninS Ne6 nin0))
    have f316 := F11.keep KK49 (ninS Ne5 (ninS Ne6 nin0))
    have KpK49 := Kt307.trans K49 (allS (Or.inl om1) (allS (Or.inl om0) all0))
    have Z317 := Nat.le_trans Z0 K49.1
    have N318 := hF1 Nq48
    refine Gb st1 ?_
    show Goes p.tables e below _ (T1.setTop (mkF m 5 (sh10 a0 a1 q2) [(.ref b37)]))
    refine Gb (fun _ => XS.astore X1.here hx rfl (hb hby d4_5) rfl rfl (l' := (sh11 a0 a1 q2 b37)) rfl) ?_
    refine Gb (fun _ => XS.aloadN X1.here hx rfl (hb hby d4_7) rfl rfl) ?_
    refine Gb (fun _ => XS.aload X1.here hx rfl (hb hby d4_8) rfl rfl) ?_
    refine Gb (fun _ => getFR X1 hx hZ hown (wq hw 53 rfl) rfl f46 (g := (mkF m 10 (sh11 a0 a1 q2 b37) [(.ref b37), (.ref a1)])) rfl rfl (hb hby d4_10)) ?_
    obtain ⟨T320, h320, X320, e320, W320, st320⟩ := putFR X1 hx hZ hown (wq hw 53 rfl) rfl f316 f314 (wq hw 54 rfl) (wq hw 14 rfl) (ty := (.object cL)) (by decide) rfl rfl (g := (mkF m 13 (sh11 a0 a1 q2 b37) [(.ref b37), (.ref a1)])) rfl rfl (hb hby d4_13)
    have f321 := f313.wr W320
    have f322 := f314.wr W320
    have f323 := f315.other W320 (Or.inr (slot_ne (Or.inl (wq hw 56 rfl)) (Or.inl (wq hw 54 rfl)) (by decide) (t := (.object cL)) (t' := (.object cL)) (by decide) (by decide)))
    have f324 := f40.other W320 (Or.inl (Ne.symm Ne5))
    have f325 := f41.other W320 (Or.inl (Ne.symm Ne5))
    have f326 := f42.other W320 (Ne.symm Ne6)
    have f327 := f43.wr W320
    have f328 := f44.other W320 (Or.inl (Ne.symm ne310))
    have f329 := f45.other W320 (Or.inl (Ne.symm ne310))
    have f330 := f46.other W320 (Or.inl (Ne.symm ne310))
    have f331 : Fld Z h320 a1 cL "prev" dL (.ref b37) := f316.same W320
    have Kp320 := KpK49.wr W320 (Or.inl om2)
    have Z332 := Nat.le_trans Z317 (Nat.le_of_eq W320.size.symm)
    have N333 := Fr.snoc X320 N318 Ge2
    refine Gb st320 ?_
    refine Gb (fun _ => XS.aloadN X320.here hx rfl (hb hby d4_16) rfl rfl) ?_
    refine Gb (fun _ => XS.aload X320.here hx rfl (hb hby d4_17) rfl rfl) ?_
    obtain ⟨T334, h334, X334, e334, W334, st334⟩ := putFR X320 hx hZ hown (wq hw 55 rfl) e320 f323 f322 (wq hw 56 rfl) (wq hw 14 rfl) (ty := (.object cL)) (by decide) rfl rfl (g := (mkF m 19 (sh11 a0 a1 q2 b37) [(.ref b37), (.ref a1)])) rfl rfl (hb hby d4_19)
    have f335 := f321.wr W334
    have f336 := f322.wr W334
    have f337 := f324.other W334 (Or.inl (Ne.symm Ne5))
    have f338 := f325.other W334 (Or.inl (Ne.symm Ne5))
    have f339 := f326.other W334 (Ne.symm Ne6)
    have f340 := f327.wr W334
    have f341 := f328.other W334 (Or.inl (Ne.symm ne310))
    have f342 := f329.other W334 (Or.inl (Ne.symm ne310))
    have f343 := f330.other W334 (Or.inl (Ne.symm ne310))
    have f344 := f331.other W334 (Or.inr (slot_ne (Or.inl (wq hw 54 rfl)) (Or.inl (wq hw 56 rfl)) (by decide) (t := (.object cL)) (t' := (.object cL)) (by decide) (by decide)))
    have f345 : Fld Z h334 a1 cL "next" dL (.ref b37) := f323.same W334
    have Kp334 := Kp320.wr W334 (Or.inl om2)
    have Z346 := Nat.le_trans Z332 (Nat.le_of_eq W334.size.symm)
    have N347 := Fr.snoc X334 N333 Ge2
    refine Gb st334 ?_
    refine Gb (fun _ => XS.aload X334.here hx rfl (hb hby d4_22) rfl rfl) ?_
    refine Gb (fun _ => getFR X334 hx hZ hown (wq hw 53 rfl) e334 f343 (g := (mkF m 24 (sh11 a0 a1 q2 b37) [(.ref b37)])) rfl rfl (hb hby d4_24)) ?_
    refine Gb (fun _ => XS.aloadN X334.here hx rfl (hb hby d4_27) rfl rfl) ?_
    obtain ⟨T349, h349, X349, e349, W349, st349⟩ := putFR X334 hx hZ hown (wq hw 55 rfl) e334 f342 f340 (wq hw 49 rfl) (wq hw 39 rfl) (ty := (.object cL)) (by decide) rfl rfl (g := (mkF m 28 (sh11 a0 a1 q2 b37) [(.ref a1), (.ref b37)])) rfl rfl (hb hby d4_28)
    have f350 := f335.wr W349
    have f351 := f336.wr W349
    have f352 := f337.other W349 (Or.inl ne308)
    have f353 := f338.other W349 (Or.inl ne308)
    have f354 := f339.other W349 ne309
    have f355 := f340.wr W349
    have f356 := f341.other W349 (Or.inr (slot_ne (Or.inr (wq hw 47 rfl)) (Or.inl (wq hw 49 rfl)) (by decide) (t := .long) (t' := (.object cL)) (by decide) (by decide)))
    have f357 := f343.other W349 (Or.inr (slot_ne (Or.inl (wq hw 51 rfl)) (Or.inl (wq hw 49 rfl)) (by decide) (t := (.object cL)) (t' := (.object cL)) (by decide) (by decide)))
    have f358 := f344.other W349 (Or.inl ne310)
    have f359 := f345.other W349 (Or.inl ne310)
    have f360 : Fld Z h349 b37 cL "next" dL (.ref a1) := f342.same W349
    have Kp349 := Kp334.wr W349 (Or.inr sz312)
    have Z361 := Nat.le_trans Z346 (Nat.le_of_eq W349.size.symm)
    have N362 := Fr.snoc X349 N347 ge311
    refine Gb st349 ?_
    refine Gb (fun _ => XS.aload X349.here hx rfl (hb hby d4_31) rfl rfl) ?_
    refine Gb (fun _ => XS.aloadN X349.here hx rfl (hb hby d4_33) rfl rfl) ?_
    obtain ⟨T363, h363, X363, e363, W363, st363⟩ := putFR X349 hx hZ hown (wq hw 53 rfl) e349 f357 f355 (wq hw 51 rfl) (wq hw 39 rfl) (ty := (.object cL)) (by decide) rfl rfl (g := (mkF m 34 (sh11 a0 a1 q2 b37) [(.ref a1), (.ref b37)])) rfl rfl (hb hby d4_34)
    have f364 := f350.wr W363
    have f365 := f351.wr W363
    have f366 := f352.other W363 (Or.inl ne308)
    have f367 := f353.other W363 (Or.inl ne308)
    have f368 := f354.other W363 ne309
    have f369 := f355.wr W363
    have f370 := f356.other W363 (Or.inr (slot_ne (Or.inr (wq hw 47 rfl)) (Or.inl (wq hw 51 rfl)) (by decide) (t := .long) (t' := (.object cL)) (by decide) (by decide)))
    have f371 := f358.other W363 (Or.inl ne310)
    have f372 := f359.other W363 (Or.inl ne310)
    have f373 := f360.other W363 (Or.inr (slot_ne (Or.inl (wq hw 49 rfl)) (Or.inl (wq hw 51 rfl)) (by decide) (t := (.object cL)) (t' := (.object cL)) (by decide) (by decide)))
    have f374 : Fld Z h363 b37 cL "prev" dL (.ref a1) := f357.same W363
    have Kp363 := Kp349.wr W363 (Or.inr sz312)
    have Z375 := Nat.le_trans Z361 (Nat.le_of_eq W363.size.symm)
    have N376 := Fr.snoc X363 N362 ge311
    refine Gb st363 ?_
    obtain ⟨fs, hr, hrun, hended, hW, hsame⟩ := X363.leave (v := none) (fun _ => rfl)
    refine Goes.mk _ _ ?_ ⟨hrun, hended, _, _, rfl, ?_, ⟨_, rfl⟩, hW, hsame.mono (by decide) (by decide)⟩
    · exact X363.returnOut hx Bd.returns (hb hby d4_37) hr
    · show QFile2 Z a0 a1 q2 ar kA x1 x2 t1 t2 nl pl z1 z2 w1 w2 nx1 nx2 pz1 pz2 h0 n0 _ T363.heap _
      rw [e363]
      exact (Or.inr (Or.inr (Or.inr (Or.inr ⟨b37, hd38, hd39, rfl, N376, Kp363, sz312, f366, f367, f368, f369, f370, f373, f374, f372, f371⟩))))
def QFile3 (Z : State) (a0 : Addr) (a1 : Addr) (q2 : Int64) (ar : Addr) (kA : ClassId) (x1 : Addr) (x2 : Addr) (x3 : Addr) (t1 : Int64) (t2 : Int64) (t3 : Int64) (nl : Value) (pl : Value) (z1 : Addr) (z2 : Addr) (z3 : Addr) (w1 : Value) (w2 : Value) (w3 : Value) (nx1 : Value) (nx2 : Value) (nx3 : Value) (pz1 : Value) (pz2 : Value) (pz3 : Value) (h0 : Heap) (n0 : Nat) (v : Option Value) (h : Heap) (L : List Loc) : Prop := (t3 = q2 ∧ v = none ∧ Fr n0 L ∧ Keep h0 h [a1, z3, x3] ∧ Fld Z h a1 cL "next" dL (.ref x3) ∧ Fld Z h a1 cL "prev" dL (.ref z3) ∧ Fld Z h z3 cL "next" dL (.ref a1) ∧ Fld Z h z3 cL "prev" dL pz3 ∧ Fld Z h x3 cL "next" dL nx3 ∧ Fld Z h x3 cL "prev" dL (.ref a1) ∧ Fld Z h x3 cH "tick" "J" (.long t3)) ∨ (∃ b5 : Addr, ¬ (t3 = q2) ∧ fDue3 q2 t1 t2 t3 = (0 : Int32) ∧ v = none ∧ Fr n0 L ∧ Keep h0 h [ar, a0, a1] ∧ h0.size ≤ b5 ∧ Fld Z h a0 cD "heads" dA (.ref ar) ∧ Fld Z h a0 cD "count" "I" (.int (4 : Int32)) ∧ Arv Z h ar kA (.object cH) (4 : Int32) [(.ref b5), (.ref x1), (.ref x2), (.ref x3)] .null ∧ Exa Z h b5 cH ∧ Fld Z h b5 cH "tick" "J" (.long q2) ∧ Fld Z h b5 cL "next" dL (.ref a1) ∧ Fld Z h b5 cL "prev" dL (.ref a1) ∧ Fld Z h a1 cL "next" dL (.ref b5) ∧ Fld Z h a1 cL "prev" dL (.ref b5)) ∨ (¬ (t3 = q2) ∧ fDue3 q2 t1 t2 t3 = (1 : Int32) ∧ t1 = q2 ∧ v = none ∧ Fr n0 L ∧ Keep h0 h [a1, z1, x1] ∧ Fld Z h a1 cL "next" dL (.ref x1) ∧ Fld Z h a1 cL "prev" dL (.ref z1) ∧ Fld Z h z1 cL "next" dL (.ref a1) ∧ Fld Z h z1 cL "prev" dL pz1 ∧ Fld Z h x1 cL "next" dL nx1 ∧ Fld Z h x1 cL "prev" dL (.ref a1) ∧ Fld Z h x1 cH "tick" "J" (.long t1)) ∨ (∃ b23 : Addr, ¬ (t3 = q2) ∧ fDue3 q2 t1 t2 t3 = (1 : Int32) ∧ ¬ (t1 = q2) ∧ v = none ∧ Fr n0 L ∧ Keep h0 h [ar, a0, a1] ∧ h0.size ≤ b23 ∧ Fld Z h a0 cD "heads" dA (.ref ar) ∧ Fld Z h a0 cD "count" "I" (.int (4 : Int32)) ∧ Arv Z h ar kA (.object cH) (4 : Int32) [(.ref x1), (.ref b23), (.ref x2), (.ref x3)] .null ∧ Exa Z h b23 cH ∧ Fld Z h b23 cH "tick" "J" (.long q2) ∧ Fld Z h b23 cL "next" dL (.ref a1) ∧ Fld Z h b23 cL "prev" dL (.ref a1) ∧ Fld Z h a1 cL "next" dL (.ref b23) ∧ Fld Z h a1 cL "prev" dL (.ref b23)) ∨ (¬ (t3 = q2) ∧ fDue3 q2 t1 t2 t3 = (2 : Int32) ∧ t2 = q2 ∧ v = none ∧ Fr n0 L ∧ Keep h0 h [a1, z2, x2] ∧ Fld Z h a1 cL "next" dL (.ref x2) ∧ Fld Z h a1 cL "prev" dL (.ref z2) ∧ Fld Z h z2 cL "next" dL (.ref a1) ∧ Fld Z h z2 cL "prev" dL pz2 ∧ Fld Z h x2 cL "next" dL nx2 ∧ Fld Z h x2 cL "prev" dL (.ref a1) ∧ Fld Z h x2 cH "tick" "J" (.long t2)) ∨ (∃ b42 : Addr, ¬ (t3 = q2) ∧ fDue3 q2 t1 t2 t3 = (2 : Int32) ∧ ¬ (t2 = q2) ∧ v = none ∧ Fr n0 L ∧ Keep h0 h [ar, a0, a1] ∧ h0.size ≤ b42 ∧ Fld Z h a0 cD "heads" dA (.ref ar) ∧ Fld Z h a0 cD "count" "I" (.int (4 : Int32)) ∧ Arv Z h ar kA (.object cH) (4 : Int32) [(.ref x1), (.ref x2), (.ref b42), (.ref x3)] .null ∧ Exa Z h b42 cH ∧ Fld Z h b42 cH "tick" "J" (.long q2) ∧ Fld Z h b42 cL "next" dL (.ref a1) ∧ Fld Z h b42 cL "prev" dL (.ref a1) ∧ Fld Z h a1 cL "next" dL (.ref b42) ∧ Fld Z h a1 cL "prev" dL (.ref b42)) ∨ (∃ b56 : Addr, ¬ (t3 = q2) ∧ fDue3 q2 t1 t2 t3 = (3 : Int32) ∧ v = none ∧ Fr n0 L ∧ Keep h0 h [ar, a0, a1] ∧ h0.size ≤ b56 ∧ Fld Z h a0 cD "heads" dA (.ref ar) ∧ Fld Z h a0 cD "count" "I" (.int (4 : Int32)) ∧ Arv Z h ar kA (.object cH) (4 : Int32) [(.ref x1), (.ref x2), (.ref x3), (.ref b56)] .null ∧ Exa Z h b56 cH ∧ Fld Z h b56 cH "tick" "J" (.long q2) ∧ Fld Z h b56 cL "next" dL (.ref a1) ∧ Fld Z h b56 cL "prev" dL (.ref a1) ∧ Fld Z h a1 cL "next" dL (.ref b56) ∧ Fld Z h a1 cL "prev" dL (.ref b56))
theorem efFile3 (m : MethodId) (x0 : Addr) (x1 : Addr) (x2 : Int64) : entryFrame m #[(.ref x0), (.ref x1), (.long x2)] 5 = mkF m 0 #[.val (.ref x0), .val (.ref x1), .val (.long x2), .second, .unset] [] := by first | (simp [entryFrame, mkF, argsToLocals, Value.category]; done) | rfl
set_option maxRecDepth 65536 in
set_option maxHeartbeats 40000000 in
theorem rmFile3 (l : Launch) (Z : State) (az : Array Value) (hw : ∀ d ∈ tables_1, d.before az Z = true) (ws : List Jvm.Cond) (a0 : Addr) (a1 : Addr) (q2 : Int64) (ar : Addr) (kA : ClassId) (x1 : Addr) (x2 : Addr) (x3 : Addr) (t1 : Int64) (t2 : Int64) (t3 : Int64) (nl : Value) (pl : Value) (z1 : Addr) (z2 : Addr) (z3 : Addr) (w1 : Value) (w2 : Value) (w3 : Value) (nx1 : Value) (nx2 : Value) (nx3 : Value) (pz1 : Value) (pz2 : Value) (pz3 : Value) (h0 : Heap) (n0 : Nat) (Z0 : n0 ≤ h0.size) (F0 : Exa Z h0 a0 cD) (F1 : Fld Z h0 a0 cD "heads" dA (.ref ar)) (F2 : Fld Z h0 a0 cD "count" "I" (.int (3 : Int32))) (F3 : Arv Z h0 ar kA (.object cH) (4 : Int32) [(.ref x1), (.ref x2), (.ref x3), .null] .null) (F4 : Ovr Z kA cH) (F5 : Exa Z h0 x1 cH) (F6 : Fld Z h0 x1 cH "tick" "J" (.long t1)) (F7 : Exa Z h0 x2 cH) (F8 : Fld Z h0 x2 cH "tick" "J" (.long t2)) (F9 : Exa Z h0 x3 cH) (F10 : Fld Z h0 x3 cH "tick" "J" (.long t3)) (F11 : Exa Z h0 a1 cL) (F12 : Fld Z h0 a1 cL "next" dL nl) (F13 : Fld Z h0 a1 cL "prev" dL pl) (F14 : Fld Z h0 x1 cL "prev" dL (.ref z1)) (F15 : Exa Z h0 z1 cL) (F16 : Fld Z h0 z1 cL "next" dL w1) (F17 : Fld Z h0 x1 cL "next" dL nx1) (F18 : Fld Z h0 z1 cL "prev" dL pz1) (F19 : Fld Z h0 x2 cL "prev" dL (.ref z2)) (F20 : Exa Z h0 z2 cL) (F21 : Fld Z h0 z2 cL "next" dL w2) (F22 : Fld Z h0 x2 cL "next" dL nx2) (F23 : Fld Z h0 z2 cL "prev" dL pz2) (F24 : Fld Z h0 x3 cL "prev" dL (.ref z3)) (F25 : Exa Z h0 z3 cL) (F26 : Fld Z h0 z3 cL "next" dL w3) (F27 : Fld Z h0 x3 cL "next" dL nx3) (F28 : Fld Z h0 z3 cL "prev" dL pz3) (Ne0 : a0 ≠ ar) (Ne1 : x1 ≠ a0) (Ne2 : x2 ≠ a0) (Ne3 : x3 ≠ a0) (Ne4 : x1 ≠ ar) (Ne5 : x2 ≠ ar) (Ne6 : x3 ≠ ar) (Ne7 : a1 ≠ a0) (Ne8 : a1 ≠ ar) (Ne9 : a1 ≠ x1) (Ne10 : a1 ≠ z1) (Ne11 : x1 ≠ z1) (Ne12 : a1 ≠ x2) (Ne13 : a1 ≠ z2) (Ne14 : x2 ≠ z2) (Ne15 : a1 ≠ x3) (Ne16 : a1 ≠ z3) (Ne17 : x3 ≠ z3) (Ge0 : n0 ≤ a0) (Ge1 : n0 ≤ ar) (Ge2 : n0 ≤ a1) (Ge3 : n0 ≤ x1) (Ge4 : n0 ≤ x2) (Ge5 : n0 ≤ x3) (Ge6 : n0 ≤ z1) (Ge7 : n0 ≤ z2) (Ge8 : n0 ≤ z3) :
    MetFree l y2 (head1 (Jvm.Cond.code y2 prog_4_method_5_code 5 none :: ws) ({ frames := 4, cells := 1, slots := 3, locals := 55 } : Room)) (fun a U => a = #[(.ref a0), (.ref a1), (.long q2)] ∧ Z.Warmed39 U.vm ∧ U.heap = h0) (fun _ _ _ _ _ => True) (fun _ U o U' => ∃ v L, o = .returned v ∧ QFile3 Z a0 a1 q2 ar kA x1 x2 x3 t1 t2 t3 nl pl z1 z2 z3 w1 w2 w3 nx1 nx2 nx3 pz1 pz2 pz3 h0 n0 v U'.heap L ∧ FrameEnd U o U' L ({ frames := 4, cells := 1, slots := 3, locals := 55 } : Room).cells ({ frames := 4, cells := 1, slots := 3, locals := 55 } : Room).slots) := by
  refine MetFree.of_bodySF (plainFor_of_name own_pn_com_example_admit_one_admitone_engine_DueOrder) hisR ?_
  intro p e s m args below meth c s₁ Bd hml0 hP hK
  obtain ⟨rfl, hZ, hh⟩ := hP
  have hx := Bd.exec
  have hby := Bd.bytes
  have hml : c.maxLocals = 5 := hml0
  have hown : s.vm.findClass cD = some m.cls := findClass_of_methodNamed Bd.named
  have hnm := (name_of_methodNamed Bd.named Bd.method).1
  have X0 : Stand p l e ({ frames := 4, cells := 1, slots := 3, locals := 55 } : Room) s m #[(.ref a0), (.ref a1), (.long q2)] below meth c s₁ [] 0 0 := Stand.of_body Bd
  have e0 : s₁.heap = h0 := by rw [← hh, Bd.state]; rfl
  have N0 := Fr.nil n0
  have Kp0 : Keep h0 h0 [] := Keep.refl _ _
  refine Goes.start ?_
  refine Gb (B := s₁.setTop (mkF m 0 #[.val (.ref a0), .val (.ref a1), .val (.long q2), .second, .unset] [])) (fun t k => castTop (efFile3 m a0 a1 q2) k) ?_
  refine Gb (fun _ => XS.aloadN X0.here hx rfl (hb hby d4_0) rfl rfl) ?_
  refine Gb (fun _ => XS.lloadN X0.here hx rfl (hb hby d4_1) rfl) ?_
  obtain ⟨_, T1, L1, Lc1, X1, hF1, hQ1, st1⟩ := own_cp X0 hx hZ hown (wq hw 25 rfl) (wq hw 27 rfl) (wq hw 1 rfl) (wq hw 26 rfl) (wq hw 2 rfl) (wq hw 28 rfl) (rmHeadOf3 l Z az hw [] a0 q2 ar kA x1 x2 x3 t1 t2 t3 h0 n0 Z0 F0 F1 F2 F3 F4 F5 F6 F7 F8 F9 F10 Ne0 Ne1 Ne2 Ne3 Ne4 Ne5 Ne6 Ge0 Ge1) (W := 0) (g := (mkF m 2 (sh10 a0 a1 q2) [(.long q2), (.ref a0)])) rfl (by rw [hml]; rfl) F0 (argsL := [(.long q2)]) (rest := []) rfl (lenOf own_pd3 rfl) rfl (hb hby d4_2) e0 N0 (c' := 1) (s' := 3)
  rcases hQ1 with ⟨hd2, rfl, Nq3, K4⟩ | ⟨b5, hd6, hd7, rfl, Nq16, K17, sz15, f8, f9, f10, f11, f12, f13, f14⟩ | ⟨hd18, hd19, hd20, rfl, Nq21, K22⟩ | ⟨b23, hd24, hd25, hd26, rfl, Nq35, K36, sz34, f27, f28, f29, f30, f31, f32, f33⟩ | ⟨hd37, hd38, hd39, rfl, Nq40, K41⟩ | ⟨b42, hd43, hd44, hd45, rfl, Nq54, K55, sz53, f46, f47, f48, f49, f50, f51, f52⟩ | ⟨b56, hd57, hd58, rfl, Nq67, K68, sz66, f59, f60, f61, f62, f63, f64, f65⟩
  · have Kt70 : Keep h0 h0 [a1, z3, x3] := Keep.refl _ _
    have N71 := hF1 Nq3
    refine Gb st1 ?_
    show Goes p.tables e below _ (T1.setTop (mkF m 5 (sh10 a0 a1 q2) [(.ref x3)]))
    refine Gb (fun _ => XS.astore X1.here hx rfl (hb hby d4_5) rfl rfl (l' := (sh11 a0 a1 q2 x3)) rfl) ?_
    refine Gb (fun _ => XS.aloadN X1.here hx rfl (hb hby d4_7) rfl rfl) ?_
    refine Gb (fun _ => XS.aload X1.here hx rfl (hb hby d4_8) rfl rfl) ?_
    refine Gb (fun _ => getFR X1 hx hZ hown (wq hw 53 rfl) K4 F24 (g := (mkF m 10 (sh11 a0 a1 q2 x3) [(.ref x3), (.ref a1)])) rfl rfl (hb hby d4_10)) ?_
    obtain ⟨T73, h73, X73, e73, W73, st73⟩ := putFR X1 hx hZ hown (wq hw 53 rfl) K4 F13 F11 (wq hw 54 rfl) (wq hw 14 rfl) (ty := (.object cL)) (by decide) rfl rfl (g := (mkF m 13 (sh11 a0 a1 q2 x3) [(.ref z3), (.ref a1)])) rfl rfl (hb hby d4_13)
    have f74 := F9.wr W73
    have f75 := F10.other W73 (Or.inl (Ne.symm Ne15))
    have f76 := F11.wr W73
    have f77 := F12.other W73 (Or.inr (slot_ne (Or.inl (wq hw 56 rfl)) (Or.inl (wq hw 54 rfl)) (by decide) (t := (.object cL)) (t' := (.object cL)) (by decide) (by decide)))
    have f78 := F24.other W73 (Or.inl (Ne.symm Ne15))
    have f79 := F25.wr W73
    have f80 := F26.other W73 (Or.inl (Ne.symm Ne16))
    have f81 := F27.other W73 (Or.inl (Ne.symm Ne15))
    have f82 := F28.other W73 (Or.inl (Ne.symm Ne16))
    have f83 : Fld Z h73 a1 cL "prev" dL (.ref z3) := F13.same W73
    have Kp73 := Kt70.wr W73 (Or.inl om0)
    have Z84 := Nat.le_trans Z0 (Nat.le_of_eq W73.size.symm)
    have N85 := Fr.snoc X73 N71 Ge2
    refine Gb st73 ?_
    refine Gb (fun _ => XS.aloadN X73.here hx rfl (hb hby d4_16) rfl rfl) ?_
    refine Gb (fun _ => XS.aload X73.here hx rfl (hb hby d4_17) rfl rfl) ?_
    obtain ⟨T86, h86, X86, e86, W86, st86⟩ := putFR X73 hx hZ hown (wq hw 55 rfl) e73 f77 f76 (wq hw 56 rfl) (wq hw 14 rfl) (ty := (.object cL)) (by decide) rfl rfl (g := (mkF m 19 (sh11 a0 a1 q2 x3) [(.ref x3), (.ref a1)])) rfl rfl (hb hby d4_19)
    have f87 := f74.wr W86
    have f88 := f75.other W86 (Or.inl (Ne.symm Ne15))
    have f89 := f76.wr W86
    have f90 := f78.other W86 (Or.inl (Ne.symm Ne15))
    have f91 := f79.wr W86
    have f92 := f80.other W86 (Or.inl (Ne.symm Ne16))
    have f93 := f81.other W86 (Or.inl (Ne.symm Ne15))
    have f94 := f82.other W86 (Or.inl (Ne.symm Ne16))
    have f95 := f83.other W86 (Or.inr (slot_ne (Or.inl (wq hw 54 rfl)) (Or.inl (wq hw 56 rfl)) (by decide) (t := (.object cL)) (t' := (.object cL)) (by decide) (by decide)))
    have f96 : Fld Z h86 a1 cL "next" dL (.ref x3) := f77.same W86
    have Kp86 := Kp73.wr W86 (Or.inl om0)
    have Z97 := Nat.le_trans Z84 (Nat.le_of_eq W86.size.symm)
    have N98 := Fr.snoc X86 N85 Ge2
    refine Gb st86 ?_
    refine Gb (fun _ => XS.aload X86.here hx rfl (hb hby d4_22) rfl rfl) ?_
    refine Gb (fun _ => getFR X86 hx hZ hown (wq hw 53 rfl) e86 f90 (g := (mkF m 24 (sh11 a0 a1 q2 x3) [(.ref x3)])) rfl rfl (hb hby d4_24)) ?_
    refine Gb (fun _ => XS.aloadN X86.here hx rfl (hb hby d4_27) rfl rfl) ?_
    obtain ⟨T100, h100, X100, e100, W100, st100⟩ := putFR X86 hx hZ hown (wq hw 55 rfl) e86 f92 f91 (wq hw 56 rfl) (wq hw 14 rfl) (ty := (.object cL)) (by decide) rfl rfl (g := (mkF m 28 (sh11 a0 a1 q2 x3) [(.ref a1), (.ref z3)])) rfl rfl (hb hby d4_28)
    have f101 := f87.wr W100
    have f102 := f88.other W100 (Or.inl Ne17)
    have f103 := f89.wr W100
    have f104 := f90.other W100 (Or.inl Ne17)
    have f105 := f91.wr W100
    have f106 := f93.other W100 (Or.inl Ne17)
    have f107 := f94.other W100 (Or.inr (slot_ne (Or.inl (wq hw 54 rfl)) (Or.inl (wq hw 56 rfl)) (by decide) (t := (.object cL)) (t' := (.object cL)) (by decide) (by decide)))
    have f108 := f95.other W100 (Or.inl Ne16)
    have f109 := f96.other W100 (Or.inl Ne16)
    have f110 : Fld Z h100 z3 cL "next" dL (.ref a1) := f92.same W100
    have Kp100 := Kp86.wr W100 (Or.inl om1)
    have Z111 := Nat.le_trans Z97 (Nat.le_of_eq W100.size.symm)
    have N112 := Fr.snoc X100 N98 Ge8
    refine Gb st100 ?_
    refine Gb (fun _ => XS.aload X100.here hx rfl (hb hby d4_31) rfl rfl) ?_
    refine Gb (fun _ => XS.aloadN X100.here hx rfl (hb hby d4_33) rfl rfl) ?_
    obtain ⟨T113, h113, X113, e113, W113, st113⟩ := putFR X100 hx hZ hown (wq hw 53 rfl) e100 f104 f101 (wq hw 51 rfl) (wq hw 39 rfl) (ty := (.object cL)) (by decide) rfl rfl (g := (mkF m 34 (sh11 a0 a1 q2 x3) [(.ref a1), (.ref x3)])) rfl rfl (hb hby d4_34)
    have f114 := f101.wr W113
    have f115 := f102.other W113 (Or.inr (slot_ne (Or.inr (wq hw 47 rfl)) (Or.inl (wq hw 51 rfl)) (by decide) (t := .long) (t' := (.object cL)) (by decide) (by decide)))
    have f116 := f103.wr W113
    have f117 := f105.wr W113
    have f118 := f106.other W113 (Or.inr (slot_ne (Or.inl (wq hw 49 rfl)) (Or.inl (wq hw 51 rfl)) (by decide) (t := (.object cL)) (t' := (.object cL)) (by decide) (by decide)))
    have f119 := f107.other W113 (Or.inl (Ne.symm Ne17))
    have f120 := f108.other W113 (Or.inl Ne15)
    have f121 := f109.other W113 (Or.inl Ne15)
    have f122 := f110.other W113 (Or.inl (Ne.symm Ne17))
    have f123 : Fld Z h113 x3 cL "prev" dL (.ref a1) := f104.same W113
    have Kp113 := Kp100.wr W113 (Or.inl om2)
    have Z124 := Nat.le_trans Z111 (Nat.le_of_eq W113.size.symm)
    have N125 := Fr.snoc X113 N112 Ge5
    refine Gb st113 ?_
    obtain ⟨fs, hr, hrun, hended, hW, hsame⟩ := X113.leave (v := none) (fun _ => rfl)
    refine Goes.mk _ _ ?_ ⟨hrun, hended, _, _, rfl, ?_, ⟨_, rfl⟩, hW, hsame.mono (by decide) (by decide)⟩
    · exact X113.returnOut hx Bd.returns (hb hby d4_37) hr
    · show QFile3 Z a0 a1 q2 ar kA x1 x2 x3 t1 t2 t3 nl pl z1 z2 z3 w1 w2 w3 nx1 nx2 nx3 pz1 pz2 pz3 h0 n0 _ T113.heap _
      rw [e113]
      exact (Or.inl ⟨hd2, rfl, N125, Kp113, f121, f120, f122, f119, f118, f123, f115⟩)
  · have Kt127 : Keep h0 h0 [ar, a0, a1] := Keep.refl _ _
    have ne128 : a0 ≠ b5 := Nat.ne_of_lt (Nat.lt_of_lt_of_le F0.lt sz15)
    have ne129 : ar ≠ b5 := Nat.ne_of_lt (Nat.lt_of_lt_of_le F3.lt sz15)
    have ne130 : a1 ≠ b5 := Nat.ne_of_lt (Nat.lt_of_lt_of_le F11.lt sz15)
    have ge131 : n0 ≤ b5 := Nat.le_trans Z0 sz15
    have sz132 : h0.size ≤ b5 := Nat.le_trans Kt127.1 sz15
    have KK17 := K17
    have f133 := F0.keep KK17
    have f134 := F11.keep KK17
    have f135 := F12.keep KK17 (ninS Ne7 (ninS Ne8 nin0))
    have f136 := F13.keep KK17 (ninS Ne7 (ninS Ne8 nin0))
    have KpK17 := Kt127.trans K17 (allS (Or.inl om1) (allS (Or.inl om0) all0))
    have Z137 := Nat.le_trans Z0 K17.1
    have N138 := hF1 Nq16
    refine Gb st1 ?_
    show Goes p.tables e below _ (T1.setTop (mkF m 5 (sh10 a0 a1 q2) [(.ref b5)]))
    refine Gb (fun _ => XS.astore X1.here hx rfl (hb hby d4_5) rfl rfl (l' := (sh11 a0 a1 q2 b5)) rfl) ?_
    refine Gb (fun _ => XS.aloadN X1.here hx rfl (hb hby d4_7) rfl rfl) ?_
    refine Gb (fun _ => XS.aload X1.here hx rfl (hb hby d4_8) rfl rfl) ?_
    refine Gb (fun _ => getFR X1 hx hZ hown (wq hw 53 rfl) rfl f14 (g := (mkF m 10 (sh11 a0 a1 q2 b5) [(.ref b5), (.ref a1)])) rfl rfl (hb hby d4_10)) ?_
    obtain ⟨T140, h140, X140, e140, W140, st140⟩ := putFR X1 hx hZ hown (wq hw 53 rfl) rfl f136 f134 (wq hw 54 rfl) (wq hw 14 rfl) (ty := (.object cL)) (by decide) rfl rfl (g := (mkF m 13 (sh11 a0 a1 q2 b5) [(.ref b5), (.ref a1)])) rfl rfl (hb hby d4_13)
    have f141 := f133.wr W140
    have f142 := f134.wr W140
    have f143 := f135.other W140 (Or.inr (slot_ne (Or.inl (wq hw 56 rfl)) (Or.inl (wq hw 54 rfl)) (by decide) (t := (.object cL)) (t' := (.object cL)) (by decide) (by decide)))
    have f144 := f8.other W140 (Or.inl (Ne.symm Ne7))
    have f145 := f9.other W140 (Or.inl (Ne.symm Ne7))
    have f146 := f10.other W140 (Ne.symm Ne8)
    have f147 := f11.wr W140
    have f148 := f12.other W140 (Or.inl (Ne.symm ne130))
    have f149 := f13.other W140 (Or.inl (Ne.symm ne130))
    have f150 := f14.other W140 (Or.inl (Ne.symm ne130))
    have f151 : Fld Z h140 a1 cL "prev" dL (.ref b5) := f136.same W140
    have Kp140 := KpK17.wr W140 (Or.inl om2)
    have Z152 := Nat.le_trans Z137 (Nat.le_of_eq W140.size.symm)
    have N153 := Fr.snoc X140 N138 Ge2
    refine Gb st140 ?_
    refine Gb (fun _ => XS.aloadN X140.here hx rfl (hb hby d4_16) rfl rfl) ?_
    refine Gb (fun _ => XS.aload X140.here hx rfl (hb hby d4_17) rfl rfl) ?_
    obtain ⟨T154, h154, X154, e154, W154, st154⟩ := putFR X140 hx hZ hown (wq hw 55 rfl) e140 f143 f142 (wq hw 56 rfl) (wq hw 14 rfl) (ty := (.object cL)) (by decide) rfl rfl (g := (mkF m 19 (sh11 a0 a1 q2 b5) [(.ref b5), (.ref a1)])) rfl rfl (hb hby d4_19)
    have f155 := f141.wr W154
    have f156 := f142.wr W154
    have f157 := f144.other W154 (Or.inl (Ne.symm Ne7))
    have f158 := f145.other W154 (Or.inl (Ne.symm Ne7))
    have f159 := f146.other W154 (Ne.symm Ne8)
    have f160 := f147.wr W154
    have f161 := f148.other W154 (Or.inl (Ne.symm ne130))
    have f162 := f149.other W154 (Or.inl (Ne.symm ne130))
    have f163 := f150.other W154 (Or.inl (Ne.symm ne130))
    have f164 := f151.other W154 (Or.inr (slot_ne (Or.inl (wq hw 54 rfl)) (Or.inl (wq hw 56 rfl)) (by decide) (t := (.object cL)) (t' := (.object cL)) (by decide) (by decide)))
    have f165 : Fld Z h154 a1 cL "next" dL (.ref b5) := f143.same W154
    have Kp154 := Kp140.wr W154 (Or.inl om2)
    have Z166 := Nat.le_trans Z152 (Nat.le_of_eq W154.size.symm)
    have N167 := Fr.snoc X154 N153 Ge2
    refine Gb st154 ?_
    refine Gb (fun _ => XS.aload X154.here hx rfl (hb hby d4_22) rfl rfl) ?_
    refine Gb (fun _ => getFR X154 hx hZ hown (wq hw 53 rfl) e154 f163 (g := (mkF m 24 (sh11 a0 a1 q2 b5) [(.ref b5)])) rfl rfl (hb hby d4_24)) ?_
    refine Gb (fun _ => XS.aloadN X154.here hx rfl (hb hby d4_27) rfl rfl) ?_
    obtain ⟨T169, h169, X169, e169, W169, st169⟩ := putFR X154 hx hZ hown (wq hw 55 rfl) e154 f162 f160 (wq hw 49 rfl) (wq hw 39 rfl) (ty := (.object cL)) (by decide) rfl rfl (g := (mkF m 28 (sh11 a0 a1 q2 b5) [(.ref a1), (.ref b5)])) rfl rfl (hb hby d4_28)
    have f170 := f155.wr W169
    have f171 := f156.wr W169
    have f172 := f157.other W169 (Or.inl ne128)
    have f173 := f158.other W169 (Or.inl ne128)
    have f174 := f159.other W169 ne129
    have f175 := f160.wr W169
    have f176 := f161.other W169 (Or.inr (slot_ne (Or.inr (wq hw 47 rfl)) (Or.inl (wq hw 49 rfl)) (by decide) (t := .long) (t' := (.object cL)) (by decide) (by decide)))
    have f177 := f163.other W169 (Or.inr (slot_ne (Or.inl (wq hw 51 rfl)) (Or.inl (wq hw 49 rfl)) (by decide) (t := (.object cL)) (t' := (.object cL)) (by decide) (by decide)))
    have f178 := f164.other W169 (Or.inl ne130)
    have f179 := f165.other W169 (Or.inl ne130)
    have f180 : Fld Z h169 b5 cL "next" dL (.ref a1) := f162.same W169
    have Kp169 := Kp154.wr W169 (Or.inr sz132)
    have Z181 := Nat.le_trans Z166 (Nat.le_of_eq W169.size.symm)
    have N182 := Fr.snoc X169 N167 ge131
    refine Gb st169 ?_
    refine Gb (fun _ => XS.aload X169.here hx rfl (hb hby d4_31) rfl rfl) ?_
    refine Gb (fun _ => XS.aloadN X169.here hx rfl (hb hby d4_33) rfl rfl) ?_
    obtain ⟨T183, h183, X183, e183, W183, st183⟩ := putFR X169 hx hZ hown (wq hw 53 rfl) e169 f177 f175 (wq hw 51 rfl) (wq hw 39 rfl) (ty := (.object cL)) (by decide) rfl rfl (g := (mkF m 34 (sh11 a0 a1 q2 b5) [(.ref a1), (.ref b5)])) rfl rfl (hb hby d4_34)
    have f184 := f170.wr W183
    have f185 := f171.wr W183
    have f186 := f172.other W183 (Or.inl ne128)
    have f187 := f173.other W183 (Or.inl ne128)
    have f188 := f174.other W183 ne129
    have f189 := f175.wr W183
    have f190 := f176.other W183 (Or.inr (slot_ne (Or.inr (wq hw 47 rfl)) (Or.inl (wq hw 51 rfl)) (by decide) (t := .long) (t' := (.object cL)) (by decide) (by decide)))
    have f191 := f178.other W183 (Or.inl ne130)
    have f192 := f179.other W183 (Or.inl ne130)
    have f193 := f180.other W183 (Or.inr (slot_ne (Or.inl (wq hw 49 rfl)) (Or.inl (wq hw 51 rfl)) (by decide) (t := (.object cL)) (t' := (.object cL)) (by decide) (by decide)))
    have f194 : Fld Z h183 b5 cL "prev" dL (.ref a1) := f177.same W183
    have Kp183 := Kp169.wr W183 (Or.inr sz132)
    have Z195 := Nat.le_trans Z181 (Nat.le_of_eq W183.size.symm)
    have N196 := Fr.snoc X183 N182 ge131
    refine Gb st183 ?_
    obtain ⟨fs, hr, hrun, hended, hW, hsame⟩ := X183.leave (v := none) (fun _ => rfl)
    refine Goes.mk _ _ ?_ ⟨hrun, hended, _, _, rfl, ?_, ⟨_, rfl⟩, hW, hsame.mono (by decide) (by decide)⟩
    · exact X183.returnOut hx Bd.returns (hb hby d4_37) hr
    · show QFile3 Z a0 a1 q2 ar kA x1 x2 x3 t1 t2 t3 nl pl z1 z2 z3 w1 w2 w3 nx1 nx2 nx3 pz1 pz2 pz3 h0 n0 _ T183.heap _
      rw [e183]
      exact (Or.inr (Or.inl ⟨b5, hd6, hd7, rfl, N196, Kp183, sz132, f186, f187, f188, f189, f190, f193, f194, f192, f191⟩))
  · have Kt198 : Keep h0 h0 [a1, z1, x1] := Keep.refl _ _
    have N199 := hF1 Nq21
    refine Gb st1 ?_
    show Goes p.tables e below _ (T1.setTop (mkF m 5 (sh10 a0 a1 q2) [(.ref x1)]))
    refine Gb (fun _ => XS.astore X1.here hx rfl (hb hby d4_5) rfl rfl (l' := (sh11 a0 a1 q2 x1)) rfl) ?_
    refine Gb (fun _ => XS.aloadN X1.here hx rfl (hb hby d4_7) rfl rfl) ?_
    refine Gb (fun _ => XS.aload X1.here hx rfl (hb hby d4_8) rfl rfl) ?_
    refine Gb (fun _ => getFR X1 hx hZ hown (wq hw 53 rfl) K22 F14 (g := (mkF m 10 (sh11 a0 a1 q2 x1) [(.ref x1), (.ref a1)])) rfl rfl (hb hby d4_10)) ?_
    obtain ⟨T201, h201, X201, e201, W201, st201⟩ := putFR X1 hx hZ hown (wq hw 53 rfl) K22 F13 F11 (wq hw 54 rfl) (wq hw 14 rfl) (ty := (.object cL)) (by decide) rfl rfl (g := (mkF m 13 (sh11 a0 a1 q2 x1) [(.ref z1), (.ref a1)])) rfl rfl (hb hby d4_13)
    have f202 := F5.wr W201
    have f203 := F6.other W201 (Or.inl (Ne.symm Ne9))
    have f204 := F11.wr W201
    have f205 := F12.other W201 (Or.inr (slot_ne (Or.inl (wq hw 56 rfl)) (Or.inl (wq hw 54 rfl)) (by decide) (t := (.object cL)) (t' := (.object cL)) (by decide) (by decide)))
    have f206 := F14.other W201 (Or.inl (Ne.symm Ne9))
    have f207 := F15.wr W201
    have f208 := F16.other W201 (Or.inl (Ne.symm Ne10))
    have f209 := F17.other W201 (Or.inl (Ne.symm Ne9))
    have f210 := F18.other W201 (Or.inl (Ne.symm Ne10))
    have f211 : Fld Z h201 a1 cL "prev" dL (.ref z1) := F13.same W201
    have Kp201 := Kt198.wr W201 (Or.inl om0)
    have Z212 := Nat.le_trans Z0 (Nat.le_of_eq W201.size.symm)
    have N213 := Fr.snoc X201 N199 Ge2
    refine Gb st201 ?_
    refine Gb (fun _ => XS.aloadN X201.here hx rfl (hb hby d4_16) rfl rfl) ?_
    refine Gb (fun _ => XS.aload X201.here hx rfl (hb hby d4_17) rfl rfl) ?_
    obtain ⟨T214, h214, X214, e214, W214, st214⟩ := putFR X201 hx hZ hown (wq hw 55 rfl) e201 f205 f204 (wq hw 56 rfl) (wq hw 14 rfl) (ty := (.object cL)) (by decide) rfl rfl (g := (mkF m 19 (sh11 a0 a1 q2 x1) [(.ref x1), (.ref a1)])) rfl rfl (hb hby d4_19)
    have f215 := f202.wr W214
    have f216 := f203.other W214 (Or.inl (Ne.symm Ne9))
    have f217 := f204.wr W214
    have f218 := f206.other W214 (Or.inl (Ne.symm Ne9))
    have f219 := f207.wr W214
    have f220 := f208.other W214 (Or.inl (Ne.symm Ne10))
    have f221 := f209.other W214 (Or.inl (Ne.symm Ne9))
    have f222 := f210.other W214 (Or.inl (Ne.symm Ne10))
    have f223 := f211.other W214 (Or.inr (slot_ne (Or.inl (wq hw 54 rfl)) (Or.inl (wq hw 56 rfl)) (by decide) (t := (.object cL)) (t' := (.object cL)) (by decide) (by decide)))
    have f224 : Fld Z h214 a1 cL "next" dL (.ref x1) := f205.same W214
    have Kp214 := Kp201.wr W214 (Or.inl om0)
    have Z225 := Nat.le_trans Z212 (Nat.le_of_eq W214.size.symm)
    have N226 := Fr.snoc X214 N213 Ge2
    refine Gb st214 ?_
    refine Gb (fun _ => XS.aload X214.here hx rfl (hb hby d4_22) rfl rfl) ?_
    refine Gb (fun _ => getFR X214 hx hZ hown (wq hw 53 rfl) e214 f218 (g := (mkF m 24 (sh11 a0 a1 q2 x1) [(.ref x1)])) rfl rfl (hb hby d4_24)) ?_
    refine Gb (fun _ => XS.aloadN X214.here hx rfl (hb hby d4_27) rfl rfl) ?_
    obtain ⟨T228, h228, X228, e228, W228, st228⟩ := putFR X214 hx hZ hown (wq hw 55 rfl) e214 f220 f219 (wq hw 56 rfl) (wq hw 14 rfl) (ty := (.object cL)) (by decide) rfl rfl (g := (mkF m 28 (sh11 a0 a1 q2 x1) [(.ref a1), (.ref z1)])) rfl rfl (hb hby d4_28)
    have f229 := f215.wr W228
    have f230 := f216.other W228 (Or.inl Ne11)
    have f231 := f217.wr W228
    have f232 := f218.other W228 (Or.inl Ne11)
    have f233 := f219.wr W228
    have f234 := f221.other W228 (Or.inl Ne11)
    have f235 := f222.other W228 (Or.inr (slot_ne (Or.inl (wq hw 54 rfl)) (Or.inl (wq hw 56 rfl)) (by decide) (t := (.object cL)) (t' := (.object cL)) (by decide) (by decide)))
    have f236 := f223.other W228 (Or.inl Ne10)
    have f237 := f224.other W228 (Or.inl Ne10)
    have f238 : Fld Z h228 z1 cL "next" dL (.ref a1) := f220.same W228
    have Kp228 := Kp214.wr W228 (Or.inl om1)
    have Z239 := Nat.le_trans Z225 (Nat.le_of_eq W228.size.symm)
    have N240 := Fr.snoc X228 N226 Ge6
    refine Gb st228 ?_
    refine Gb (fun _ => XS.aload X228.here hx rfl (hb hby d4_31) rfl rfl) ?_
    refine Gb (fun _ => XS.aloadN X228.here hx rfl (hb hby d4_33) rfl rfl) ?_
    obtain ⟨T241, h241, X241, e241, W241, st241⟩ := putFR X228 hx hZ hown (wq hw 53 rfl) e228 f232 f229 (wq hw 51 rfl) (wq hw 39 rfl) (ty := (.object cL)) (by decide) rfl rfl (g := (mkF m 34 (sh11 a0 a1 q2 x1) [(.ref a1), (.ref x1)])) rfl rfl (hb hby d4_34)
    have f242 := f229.wr W241
    have f243 := f230.other W241 (Or.inr (slot_ne (Or.inr (wq hw 47 rfl)) (Or.inl (wq hw 51 rfl)) (by decide) (t := .long) (t' := (.object cL)) (by decide) (by decide)))
    have f244 := f231.wr W241
    have f245 := f233.wr W241
    have f246 := f234.other W241 (Or.inr (slot_ne (Or.inl (wq hw 49 rfl)) (Or.inl (wq hw 51 rfl)) (by decide) (t := (.object cL)) (t' := (.object cL)) (by decide) (by decide)))
    have f247 := f235.other W241 (Or.inl (Ne.symm Ne11))
    have f248 := f236.other W241 (Or.inl Ne9)
    have f249 := f237.other W241 (Or.inl Ne9)
    have f250 := f238.other W241 (Or.inl (Ne.symm Ne11))
    have f251 : Fld Z h241 x1 cL "prev" dL (.ref a1) := f232.same W241
    have Kp241 := Kp228.wr W241 (Or.inl om2)
    have Z252 := Nat.le_trans Z239 (Nat.le_of_eq W241.size.symm)
    have N253 := Fr.snoc X241 N240 Ge3
    refine Gb st241 ?_
    obtain ⟨fs, hr, hrun, hended, hW, hsame⟩ := X241.leave (v := none) (fun _ => rfl)
    refine Goes.mk _ _ ?_ ⟨hrun, hended, _, _, rfl, ?_, ⟨_, rfl⟩, hW, hsame.mono (by decide) (by decide)⟩
    · exact X241.returnOut hx Bd.returns (hb hby d4_37) hr
    · show QFile3 Z a0 a1 q2 ar kA x1 x2 x3 t1 t2 t3 nl pl z1 z2 z3 w1 w2 w3 nx1 nx2 nx3 pz1 pz2 pz3 h0 n0 _ T241.heap _
      rw [e241]
      exact (Or.inr (Or.inr (Or.inl ⟨hd18, hd19, hd20, rfl, N253, Kp241, f249, f248, f250, f247, f246, f251, f243⟩)))
  · have Kt255 : Keep h0 h0 [ar, a0, a1] := Keep.refl _ _
    have ne256 : a0 ≠ b23 := Nat.ne_of_lt (Nat.lt_of_lt_of_le F0.lt sz34)
    have ne257 : ar ≠ b23 := Nat.ne_of_lt (Nat.lt_of_lt_of_le F3.lt sz34)
    have ne258 : a1 ≠ b23 := Nat.ne_of_lt (Nat.lt_of_lt_of_le F11.lt sz34)
    have ge259 : n0 ≤ b23 := Nat.le_trans Z0 sz34
    have sz260 : h0.size ≤ b23 := Nat.le_trans Kt255.1 sz34
    have KK36 := K36
    have f261 := F0.keep KK36
    have f262 := F11.keep KK36
    have f263 := F12.keep KK36 (ninS Ne7 (ninS Ne8 nin0))
    have f264 := F13.keep KK36 (ninS Ne7 (ninS Ne8 nin0))
    have KpK36 := Kt255.trans K36 (allS (Or.inl om1) (allS (Or.inl om0) all0))
    have Z265 := Nat.le_trans Z0 K36.1
    have N266 := hF1 Nq35
    refine Gb st1 ?_
    show Goes p.tables e below _ (T1.setTop (mkF m 5 (sh10 a0 a1 q2) [(.ref b23)]))
    refine Gb (fun _ => XS.astore X1.here hx rfl (hb hby d4_5) rfl rfl (l' := (sh11 a0 a1 q2 b23)) rfl) ?_
    refine Gb (fun _ => XS.aloadN X1.here hx rfl (hb hby d4_7) rfl rfl) ?_
    refine Gb (fun _ => XS.aload X1.here hx rfl (hb hby d4_8) rfl rfl) ?_
    refine Gb (fun _ => getFR X1 hx hZ hown (wq hw 53 rfl) rfl f33 (g := (mkF m 10 (sh11 a0 a1 q2 b23) [(.ref b23), (.ref a1)])) rfl rfl (hb hby d4_10)) ?_
    obtain ⟨T268, h268, X268, e268, W268, st268⟩ := putFR X1 hx hZ hown (wq hw 53 rfl) rfl f264 f262 (wq hw 54 rfl) (wq hw 14 rfl) (ty := (.object cL)) (by decide) rfl rfl (g := (mkF m 13 (sh11 a0 a1 q2 b23) [(.ref b23), (.ref a1)])) rfl rfl (hb hby d4_13)
    have f269 := f261.wr W268
    have f270 := f262.wr W268
    have f271 := f263.other W268 (Or.inr (slot_ne (Or.inl (wq hw 56 rfl)) (Or.inl (wq hw 54 rfl)) (by decide) (t := (.object cL)) (t' := (.object cL)) (by decide) (by decide)))
    have f272 := f27.other W268 (Or.inl (Ne.symm Ne7))
    have f273 := f28.other W268 (Or.inl (Ne.symm Ne7))
    have f274 := f29.other W268 (Ne.symm Ne8)
    have f275 := f30.wr W268
    have f276 := f31.other W268 (Or.inl (Ne.symm ne258))
    have f277 := f32.other W268 (Or.inl (Ne.symm ne258))
    have f278 := f33.other W268 (Or.inl (Ne.symm ne258))
    have f279 : Fld Z h268 a1 cL "prev" dL (.ref b23) := f264.same W268
    have Kp268 := KpK36.wr W268 (Or.inl om2)
    have Z280 := Nat.le_trans Z265 (Nat.le_of_eq W268.size.symm)
    have N281 := Fr.snoc X268 N266 Ge2
    refine Gb st268 ?_
    refine Gb (fun _ => XS.aloadN X268.here hx rfl (hb hby d4_16) rfl rfl) ?_
    refine Gb (fun _ => XS.aload X268.here hx rfl (hb hby d4_17) rfl rfl) ?_
    obtain ⟨T282, h282, X282, e282, W282, st282⟩ := putFR X268 hx hZ hown (wq hw 55 rfl) e268 f271 f270 (wq hw 56 rfl) (wq hw 14 rfl) (ty := (.object cL)) (by decide) rfl rfl (g := (mkF m 19 (sh11 a0 a1 q2 b23) [(.ref b23), (.ref a1)])) rfl rfl (hb hby d4_19)
    have f283 := f269.wr W282
    have f284 := f270.wr W282
    have f285 := f272.other W282 (Or.inl (Ne.symm Ne7))
    have f286 := f273.other W282 (Or.inl (Ne.symm Ne7))
    have f287 := f274.other W282 (Ne.symm Ne8)
    have f288 := f275.wr W282
    have f289 := f276.other W282 (Or.inl (Ne.symm ne258))
    have f290 := f277.other W282 (Or.inl (Ne.symm ne258))
    have f291 := f278.other W282 (Or.inl (Ne.symm ne258))
    have f292 := f279.other W282 (Or.inr (slot_ne (Or.inl (wq hw 54 rfl)) (Or.inl (wq hw 56 rfl)) (by decide) (t := (.object cL)) (t' := (.object cL)) (by decide) (by decide)))
    have f293 : Fld Z h282 a1 cL "next" dL (.ref b23) := f271.same W282
    have Kp282 := Kp268.wr W282 (Or.inl om2)
    have Z294 := Nat.le_trans Z280 (Nat.le_of_eq W282.size.symm)
    have N295 := Fr.snoc X282 N281 Ge2
    refine Gb st282 ?_
    refine Gb (fun _ => XS.aload X282.here hx rfl (hb hby d4_22) rfl rfl) ?_
    refine Gb (fun _ => getFR X282 hx hZ hown (wq hw 53 rfl) e282 f291 (g := (mkF m 24 (sh11 a0 a1 q2 b23) [(.ref b23)])) rfl rfl (hb hby d4_24)) ?_
    refine Gb (fun _ => XS.aloadN X282.here hx rfl (hb hby d4_27) rfl rfl) ?_
    obtain ⟨T297, h297, X297, e297, W297, st297⟩ := putFR X282 hx hZ hown (wq hw 55 rfl) e282 f290 f288 (wq hw 49 rfl) (wq hw 39 rfl) (ty := (.object cL)) (by decide) rfl rfl (g := (mkF m 28 (sh11 a0 a1 q2 b23) [(.ref a1), (.ref b23)])) rfl rfl (hb hby d4_28)
    have f298 := f283.wr W297
    have f299 := f284.wr W297
    have f300 := f285.other W297 (Or.inl ne256)
    have f301 := f286.other W297 (Or.inl ne256)
    have f302 := f287.other W297 ne257
    have f303 := f288.wr W297
    have f304 := f289.other W297 (Or.inr (slot_ne (Or.inr (wq hw 47 rfl)) (Or.inl (wq hw 49 rfl)) (by decide) (t := .long) (t' := (.object cL)) (by decide) (by decide)))
    have f305 := f291.other W297 (Or.inr (slot_ne (Or.inl (wq hw 51 rfl)) (Or.inl (wq hw 49 rfl)) (by decide) (t := (.object cL)) (t' := (.object cL)) (by decide) (by decide)))
    have f306 := f292.other W297 (Or.inl ne258)
    have f307 := f293.other W297 (Or.inl ne258)
    have f308 : Fld Z h297 b23 cL "next" dL (.ref a1) := f290.same W297
    have Kp297 := Kp282.wr W297 (Or.inr sz260)
    have Z309 := Nat.le_trans Z294 (Nat.le_of_eq W297.size.symm)
    have N310 := Fr.snoc X297 N295 ge259
    refine Gb st297 ?_
    refine Gb (fun _ => XS.aload X297.here hx rfl (hb hby d4_31) rfl rfl) ?_
    refine Gb (fun _ => XS.aloadN X297.here hx rfl (hb hby d4_33) rfl rfl) ?_
    obtain ⟨T311, h311, X311, e311, W311, st311⟩ := putFR X297 hx hZ hown (wq hw 53 rfl) e297 f305 f303 (wq hw 51 rfl) (wq hw 39 rfl) (ty := (.object cL)) (by decide) rfl rfl (g := (mkF m 34 (sh11 a0 a1 q2 b23) [(.ref a1), (.ref b23)])) rfl rfl (hb hby d4_34)
    have f312 := f298.wr W311
    have f313 := f299.wr W311
    have f314 := f300.other W311 (Or.inl ne256)
    have f315 := f301.other W311 (Or.inl ne256)
    have f316 := f302.other W311 ne257
    have f317 := f303.wr W311
    have f318 := f304.other W311 (Or.inr (slot_ne (Or.inr (wq hw 47 rfl)) (Or.inl (wq hw 51 rfl)) (by decide) (t := .long) (t' := (.object cL)) (by decide) (by decide)))
    have f319 := f306.other W311 (Or.inl ne258)
    have f320 := f307.other W311 (Or.inl ne258)
    have f321 := f308.other W311 (Or.inr (slot_ne (Or.inl (wq hw 49 rfl)) (Or.inl (wq hw 51 rfl)) (by decide) (t := (.object cL)) (t' := (.object cL)) (by decide) (by decide)))
    have f322 : Fld Z h311 b23 cL "prev" dL (.ref a1) := f305.same W311
    have Kp311 := Kp297.wr W311 (Or.inr sz260)
    have Z323 := Nat.le_trans Z309 (Nat.le_of_eq W311.size.symm)
    have N324 := Fr.snoc X311 N310 ge259
    refine Gb st311 ?_
    obtain ⟨fs, hr, hrun, hended, hW, hsame⟩ := X311.leave (v := none) (fun _ => rfl)
    refine Goes.mk _ _ ?_ ⟨hrun, hended, _, _, rfl, ?_, ⟨_, rfl⟩, hW, hsame.mono (by decide) (by decide)⟩
    · exact X311.returnOut hx Bd.returns (hb hby d4_37) hr
    · show QFile3 Z a0 a1 q2 ar kA x1 x2 x3 t1 t2 t3 nl pl z1 z2 z3 w1 w2 w3 nx1 nx2 nx3 pz1 pz2 pz3 h0 n0 _ T311.heap _
      rw [e311]
      exact (Or.inr (Or.inr (Or.inr (Or.inl ⟨b23, hd24, hd25, hd26, rfl, N324, Kp311, sz260, f314, f315, f316, f317, f318, f321, f322, f320, f319⟩))))
  · have Kt326 : Keep h0 h0 [a1, z2, x2] := Keep.refl _ _
    have N327 := hF1 Nq40
    refine Gb st1 ?_
    show Goes p.tables e below _ (T1.setTop (mkF m 5 (sh10 a0 a1 q2) [(.ref x2)]))
    refine Gb (fun _ => XS.astore X1.here hx rfl (hb hby d4_5) rfl rfl (l' := (sh11 a0 a1 q2 x2)) rfl) ?_
    refine Gb (fun _ => XS.aloadN X1.here hx rfl (hb hby d4_7) rfl rfl) ?_
    refine Gb (fun _ => XS.aload X1.here hx rfl (hb hby d4_8) rfl rfl) ?_
    refine Gb (fun _ => getFR X1 hx hZ hown (wq hw 53 rfl) K41 F19 (g := (mkF m 10 (sh11 a0 a1 q2 x2) [(.ref x2), (.ref a1)])) rfl rfl (hb hby d4_10)) ?_
    obtain ⟨T329, h329, X329, e329, W329, st329⟩ := putFR X1 hx hZ hown (wq hw 53 rfl) K41 F13 F11 (wq hw 54 rfl) (wq hw 14 rfl) (ty := (.object cL)) (by decide) rfl rfl (g := (mkF m 13 (sh11 a0 a1 q2 x2) [(.ref z2), (.ref a1)])) rfl rfl (hb hby d4_13)
    have f330 := F7.wr W329
    have f331 := F8.other W329 (Or.inl (Ne.symm Ne12))
    have f332 := F11.wr W329
    have f333 := F12.other W329 (Or.inr (slot_ne (Or.inl (wq hw 56 rfl)) (Or.inl (wq hw 54 rfl)) (by decide) (t := (.object cL)) (t' := (.object cL)) (by decide) (by decide)))
    have f334 := F19.other W329 (Or.inl (Ne.symm Ne12))
    have f335 := F20.wr W329
    have f336 := F21.other W329 (Or.inl (Ne.symm Ne13))
    have f337 := F22.other W329 (Or.inl (Ne.symm Ne12))
    have f338 := F23.other W329 (Or.inl (Ne.symm Ne13))
    have f339 : Fld Z h329 a1 cL "prev" dL (.ref z2) := F13.same W329
    have Kp329 := Kt326.wr W329 (Or.inl om0)
    have Z340 := Nat.le_trans Z0 (Nat.le_of_eq W329.size.symm)
    have N341 := Fr.snoc X329 N327 Ge2
    refine Gb st329 ?_
    refine Gb (fun _ => XS.aloadN X329.here hx rfl (hb hby d4_16) rfl rfl) ?_
    refine Gb (fun _ => XS.aload X329.here hx rfl (hb hby d4_17) rfl rfl) ?_
    obtain ⟨T342, h342, X342, e342, W342, st342⟩ := putFR X329 hx hZ hown (wq hw 55 rfl) e329 f333 f332 (wq hw 56 rfl) (wq hw 14 rfl) (ty := (.object cL)) (by decide) rfl rfl (g := (mkF m 19 (sh11 a0 a1 q2 x2) [(.ref x2), (.ref a1)])) rfl rfl (hb hby d4_19)
    have f343 := f330.wr W342
    have f344 := f331.other W342 (Or.inl (Ne.symm Ne12))
    have f345 := f332.wr W342
    have f346 := f334.other W342 (Or.inl (Ne.symm Ne12))
    have f347 := f335.wr W342
    have f348 := f336.other W342 (Or.inl (Ne.symm Ne13))
    have f349 := f337.other W342 (Or.inl (Ne.symm Ne12))
    have f350 := f338.other W342 (Or.inl (Ne.symm Ne13))
    have f351 := f339.other W342 (Or.inr (slot_ne (Or.inl (wq hw 54 rfl)) (Or.inl (wq hw 56 rfl)) (by decide) (t := (.object cL)) (t' := (.object cL)) (by decide) (by decide)))
    have f352 : Fld Z h342 a1 cL "next" dL (.ref x2) := f333.same W342
    have Kp342 := Kp329.wr W342 (Or.inl om0)
    have Z353 := Nat.le_trans Z340 (Nat.le_of_eq W342.size.symm)
    have N354 := Fr.snoc X342 N341 Ge2
    refine Gb st342 ?_
    refine Gb (fun _ => XS.aload X342.here hx rfl (hb hby d4_22) rfl rfl) ?_
    refine Gb (fun _ => getFR X342 hx hZ hown (wq hw 53 rfl) e342 f346 (g := (mkF m 24 (sh11 a0 a1 q2 x2) [(.ref x2)])) rfl rfl (hb hby d4_24)) ?_
    refine Gb (fun _ => XS.aloadN X342.here hx rfl (hb hby d4_27) rfl rfl) ?_
    obtain ⟨T356, h356, X356, e356, W356, st356⟩ := putFR X342 hx hZ hown (wq hw 55 rfl) e342 f348 f347 (wq hw 56 rfl) (wq hw 14 rfl) (ty := (.object cL)) (by decide) rfl rfl (g := (mkF m 28 (sh11 a0 a1 q2 x2) [(.ref a1), (.ref z2)])) rfl rfl (hb hby d4_28)
    have f357 := f343.wr W356
    have f358 := f344.other W356 (Or.inl Ne14)
    have f359 := f345.wr W356
    have f360 := f346.other W356 (Or.inl Ne14)
    have f361 := f347.wr W356
    have f362 := f349.other W356 (Or.inl Ne14)
    have f363 := f350.other W356 (Or.inr (slot_ne (Or.inl (wq hw 54 rfl)) (Or.inl (wq hw 56 rfl)) (by decide) (t := (.object cL)) (t' := (.object cL)) (by decide) (by decide)))
    have f364 := f351.other W356 (Or.inl Ne13)
    have f365 := f352.other W356 (Or.inl Ne13)
    have f366 : Fld Z h356 z2 cL "next" dL (.ref a1) := f348.same W356
    have Kp356 := Kp342.wr W356 (Or.inl om1)
    have Z367 := Nat.le_trans Z353 (Nat.le_of_eq W356.size.symm)
    have N368 := Fr.snoc X356 N354 Ge7
    refine Gb st356 ?_
    refine Gb (fun _ => XS.aload X356.here hx rfl (hb hby d4_31) rfl rfl) ?_
    refine Gb (fun _ => XS.aloadN X356.here hx rfl (hb hby d4_33) rfl rfl) ?_
    obtain ⟨T369, h369, X369, e369, W369, st369⟩ := putFR X356 hx hZ hown (wq hw 53 rfl) e356 f360 f357 (wq hw 51 rfl) (wq hw 39 rfl) (ty := (.object cL)) (by decide) rfl rfl (g := (mkF m 34 (sh11 a0 a1 q2 x2) [(.ref a1), (.ref x2)])) rfl rfl (hb hby d4_34)
    have f370 := f357.wr W369
    have f371 := f358.other W369 (Or.inr (slot_ne (Or.inr (wq hw 47 rfl)) (Or.inl (wq hw 51 rfl)) (by decide) (t := .long) (t' := (.object cL)) (by decide) (by decide)))
    have f372 := f359.wr W369
    have f373 := f361.wr W369
    have f374 := f362.other W369 (Or.inr (slot_ne (Or.inl (wq hw 49 rfl)) (Or.inl (wq hw 51 rfl)) (by decide) (t := (.object cL)) (t' := (.object cL)) (by decide) (by decide)))
    have f375 := f363.other W369 (Or.inl (Ne.symm Ne14))
    have f376 := f364.other W369 (Or.inl Ne12)
    have f377 := f365.other W369 (Or.inl Ne12)
    have f378 := f366.other W369 (Or.inl (Ne.symm Ne14))
    have f379 : Fld Z h369 x2 cL "prev" dL (.ref a1) := f360.same W369
    have Kp369 := Kp356.wr W369 (Or.inl om2)
    have Z380 := Nat.le_trans Z367 (Nat.le_of_eq W369.size.symm)
    have N381 := Fr.snoc X369 N368 Ge4
    refine Gb st369 ?_
    obtain ⟨fs, hr, hrun, hended, hW, hsame⟩ := X369.leave (v := none) (fun _ => rfl)
    refine Goes.mk _ _ ?_ ⟨hrun, hended, _, _, rfl, ?_, ⟨_, rfl⟩, hW, hsame.mono (by decide) (by decide)⟩
    · exact X369.returnOut hx Bd.returns (hb hby d4_37) hr
    · show QFile3 Z a0 a1 q2 ar kA x1 x2 x3 t1 t2 t3 nl pl z1 z2 z3 w1 w2 w3 nx1 nx2 nx3 pz1 pz2 pz3 h0 n0 _ T369.heap _
      rw [e369]
      exact (Or.inr (Or.inr (Or.inr (Or.inr (Or.inl ⟨hd37, hd38, hd39, rfl, N381, Kp369, f377, f376, f378, f375, f374, f379, f371⟩)))))
  · have Kt383 : Keep h0 h0 [ar, a0, a1] := Keep.refl _ _
    have ne384 : a0 ≠ b42 := Nat.ne_of_lt (Nat.lt_of_lt_of_le F0.lt sz53)
    have ne385 : ar ≠ b42 := Nat.ne_of_lt (Nat.lt_of_lt_of_le F3.lt sz53)
    have ne386 : a1 ≠ b42 := Nat.ne_of_lt (Nat.lt_of_lt_of_le F11.lt sz53)
    have ge387 : n0 ≤ b42 := Nat.le_trans Z0 sz53
    have sz388 : h0.size ≤ b42 := Nat.le_trans Kt383.1 sz53
    have KK55 := K55
    have f389 := F0.keep KK55
    have f390 := F11.keep KK55
    have f391 := F12.keep KK55 (ninS Ne7 (ninS Ne8 nin0))
    have f392 := F13.keep KK55 (ninS Ne7 (ninS Ne8 nin0))
    have KpK55 := Kt383.trans K55 (allS (Or.inl om1) (allS (Or.inl om0) all0))
    have Z393 := Nat.le_trans Z0 K55.1
    have N394 := hF1 Nq54
    refine Gb st1 ?_
    show Goes p.tables e below _ (T1.setTop (mkF m 5 (sh10 a0 a1 q2) [(.ref b42)]))
    refine Gb (fun _ => XS.astore X1.here hx rfl (hb hby d4_5) rfl rfl (l' := (sh11 a0 a1 q2 b42)) rfl) ?_
    refine Gb (fun _ => XS.aloadN X1.here hx rfl (hb hby d4_7) rfl rfl) ?_
    refine Gb (fun _ => XS.aload X1.here hx rfl (hb hby d4_8) rfl rfl) ?_
    refine Gb (fun _ => getFR X1 hx hZ hown (wq hw 53 rfl) rfl f52 (g := (mkF m 10 (sh11 a0 a1 q2 b42) [(.ref b42), (.ref a1)])) rfl rfl (hb hby d4_10)) ?_
    obtain ⟨T396, h396, X396, e396, W396, st396⟩ := putFR X1 hx hZ hown (wq hw 53 rfl) rfl f392 f390 (wq hw 54 rfl) (wq hw 14 rfl) (ty := (.object cL)) (by decide) rfl rfl (g := (mkF m 13 (sh11 a0 a1 q2 b42) [(.ref b42), (.ref a1)])) rfl rfl (hb hby d4_13)
    have f397 := f389.wr W396
    have f398 := f390.wr W396
    have f399 := f391.other W396 (Or.inr (slot_ne (Or.inl (wq hw 56 rfl)) (Or.inl (wq hw 54 rfl)) (by decide) (t := (.object cL)) (t' := (.object cL)) (by decide) (by decide)))
    have f400 := f46.other W396 (Or.inl (Ne.symm Ne7))
    have f401 := f47.other W396 (Or.inl (Ne.symm Ne7))
    have f402 := f48.other W396 (Ne.symm Ne8)
    have f403 := f49.wr W396
    have f404 := f50.other W396 (Or.inl (Ne.symm ne386))
    have f405 := f51.other W396 (Or.inl (Ne.symm ne386))
    have f406 := f52.other W396 (Or.inl (Ne.symm ne386))
    have f407 : Fld Z h396 a1 cL "prev" dL (.ref b42) := f392.same W396
    have Kp396 := KpK55.wr W396 (Or.inl om2)
    have Z408 := Nat.le_trans Z393 (Nat.le_of_eq W396.size.symm)
    have N409 := Fr.snoc X396 N394 Ge2
    refine Gb st396 ?_
    refine Gb (fun _ => XS.aloadN X396.here hx rfl (hb hby d4_16) rfl rfl) ?_
    refine Gb (fun _ => XS.aload X396.here hx rfl (hb hby d4_17) rfl rfl) ?_
    obtain ⟨T410, h410, X410, e410, W410, st410⟩ := putFR X396 hx hZ hown (wq hw 55 rfl) e396 f399 f398 (wq hw 56 rfl) (wq hw 14 rfl) (ty := (.object cL)) (by decide) rfl rfl (g := (mkF m 19 (sh11 a0 a1 q2 b42) [(.ref b42), (.ref a1)])) rfl rfl (hb hby d4_19)
    have f411 := f397.wr W410
    have f412 := f398.wr W410
    have f413 := f400.other W410 (Or.inl (Ne.symm Ne7))
    have f414 := f401.other W410 (Or.inl (Ne.symm Ne7))
    have f415 := f402.other W410 (Ne.symm Ne8)
    have f416 := f403.wr W410
    have f417 := f404.other W410 (Or.inl (Ne.symm ne386))
    have f418 := f405.other W410 (Or.inl (Ne.symm ne386))
    have f419 := f406.other W410 (Or.inl (Ne.symm ne386))
    have f420 := f407.other W410 (Or.inr (slot_ne (Or.inl (wq hw 54 rfl)) (Or.inl (wq hw 56 rfl)) (by decide) (t := (.object cL)) (t' := (.object cL)) (by decide) (by decide)))
    have f421 : Fld Z h410 a1 cL "next" dL (.ref b42) := f399.same W410
    have Kp410 := Kp396.wr W410 (Or.inl om2)
    have Z422 := Nat.le_trans Z408 (Nat.le_of_eq W410.size.symm)
    have N423 := Fr.snoc X410 N409 Ge2
    refine Gb st410 ?_
    refine Gb (fun _ => XS.aload X410.here hx rfl (hb hby d4_22) rfl rfl) ?_
    refine Gb (fun _ => getFR X410 hx hZ hown (wq hw 53 rfl) e410 f419 (g := (mkF m 24 (sh11 a0 a1 q2 b42) [(.ref b42)])) rfl rfl (hb hby d4_24)) ?_
    refine Gb (fun _ => XS.aloadN X410.here hx rfl (hb hby d4_27) rfl rfl) ?_
    obtain ⟨T425, h425, X425, e425, W425, st425⟩ := putFR X410 hx hZ hown (wq hw 55 rfl) e410 f418 f416 (wq hw 49 rfl) (wq hw 39 rfl) (ty := (.object cL)) (by decide) rfl rfl (g := (mkF m 28 (sh11 a0 a1 q2 b42) [(.ref a1), (.ref b42)])) rfl rfl (hb hby d4_28)
    have f426 := f411.wr W425
    have f427 := f412.wr W425
    have f428 := f413.other W425 (Or.inl ne384)
    have f429 := f414.other W425 (Or.inl ne384)
    have f430 := f415.other W425 ne385
    have f431 := f416.wr W425
    have f432 := f417.other W425 (Or.inr (slot_ne (Or.inr (wq hw 47 rfl)) (Or.inl (wq hw 49 rfl)) (by decide) (t := .long) (t' := (.object cL)) (by decide) (by decide)))
    have f433 := f419.other W425 (Or.inr (slot_ne (Or.inl (wq hw 51 rfl)) (Or.inl (wq hw 49 rfl)) (by decide) (t := (.object cL)) (t' := (.object cL)) (by decide) (by decide)))
    have f434 := f420.other W425 (Or.inl ne386)
    have f435 := f421.other W425 (Or.inl ne386)
    have f436 : Fld Z h425 b42 cL "next" dL (.ref a1) := f418.same W425
    have Kp425 := Kp410.wr W425 (Or.inr sz388)
    have Z437 := Nat.le_trans Z422 (Nat.le_of_eq W425.size.symm)
    have N438 := Fr.snoc X425 N423 ge387
    refine Gb st425 ?_
    refine Gb (fun _ => XS.aload X425.here hx rfl (hb hby d4_31) rfl rfl) ?_
    refine Gb (fun _ => XS.aloadN X425.here hx rfl (hb hby d4_33) rfl rfl) ?_
    obtain ⟨T439, h439, X439, e439, W439, st439⟩ := putFR X425 hx hZ hown (wq hw 53 rfl) e425 f433 f431 (wq hw 51 rfl) (wq hw 39 rfl) (ty := (.object cL)) (by decide) rfl rfl (g := (mkF m 34 (sh11 a0 a1 q2 b42) [(.ref a1), (.ref b42)])) rfl rfl (hb hby d4_34)
    have f440 := f426.wr W439
    have f441 := f427.wr W439
    have f442 := f428.other W439 (Or.inl ne384)
    have f443 := f429.other W439 (Or.inl ne384)
    have f444 := f430.other W439 ne385
    have f445 := f431.wr W439
    have f446 := f432.other W439 (Or.inr (slot_ne (Or.inr (wq hw 47 rfl)) (Or.inl (wq hw 51 rfl)) (by decide) (t := .long) (t' := (.object cL)) (by decide) (by decide)))
    have f447 := f434.other W439 (Or.inl ne386)
    have f448 := f435.other W439 (Or.inl ne386)
    have f449 := f436.other W439 (Or.inr (slot_ne (Or.inl (wq hw 49 rfl)) (Or.inl (wq hw 51 rfl)) (by decide) (t := (.object cL)) (t' := (.object cL)) (by decide) (by decide)))
    have f450 : Fld Z h439 b42 cL "prev" dL (.ref a1) := f433.same W439
    have Kp439 := Kp425.wr W439 (Or.inr sz388)
    have Z451 := Nat.le_trans Z437 (Nat.le_of_eq W439.size.symm)
    have N452 := Fr.snoc X439 N438 ge387
    refine Gb st439 ?_
    obtain ⟨fs, hr, hrun, hended, hW, hsame⟩ := X439.leave (v := none) (fun _ => rfl)
    refine Goes.mk _ _ ?_ ⟨hrun, hended, _, _, rfl, ?_, ⟨_, rfl⟩, hW, hsame.mono (by decide) (by decide)⟩
    · exact X439.returnOut hx Bd.returns (hb hby d4_37) hr
    · show QFile3 Z a0 a1 q2 ar kA x1 x2 x3 t1 t2 t3 nl pl z1 z2 z3 w1 w2 w3 nx1 nx2 nx3 pz1 pz2 pz3 h0 n0 _ T439.heap _
      rw [e439]
      exact (Or.inr (Or.inr (Or.inr (Or.inr (Or.inr (Or.inl ⟨b42, hd43, hd44, hd45, rfl, N452, Kp439, sz388, f442, f443, f444, f445, f446, f449, f450, f448, f447⟩))))))
  · have Kt454 : Keep h0 h0 [ar, a0, a1] := Keep.refl _ _
    have ne455 : a0 ≠ b56 := Nat.ne_of_lt (Nat.lt_of_lt_of_le F0.lt sz66)
    have ne456 : ar ≠ b56 := Nat.ne_of_lt (Nat.lt_of_lt_of_le F3.lt sz66)
    have ne457 : a1 ≠ b56 := Nat.ne_of_lt (Nat.lt_of_lt_of_le F11.lt sz66)
    have ge458 : n0 ≤ b56 := Nat.le_trans Z0 sz66
    have sz459 : h0.size ≤ b56 := Nat.le_trans Kt454.1 sz66
    have KK68 := K68
    have f460 := F0.keep KK68
    have f461 := F11.keep KK68
    have f462 := F12.keep KK68 (ninS Ne7 (ninS Ne8 nin0))
    have f463 := F13.keep KK68 (ninS Ne7 (ninS Ne8 nin0))
    have KpK68 := Kt454.trans K68 (allS (Or.inl om1) (allS (Or.inl om0) all0))
    have Z464 := Nat.le_trans Z0 K68.1
    have N465 := hF1 Nq67
    refine Gb st1 ?_
    show Goes p.tables e below _ (T1.setTop (mkF m 5 (sh10 a0 a1 q2) [(.ref b56)]))
    refine Gb (fun _ => XS.astore X1.here hx rfl (hb hby d4_5) rfl rfl (l' := (sh11 a0 a1 q2 b56)) rfl) ?_
    refine Gb (fun _ => XS.aloadN X1.here hx rfl (hb hby d4_7) rfl rfl) ?_
    refine Gb (fun _ => XS.aload X1.here hx rfl (hb hby d4_8) rfl rfl) ?_
    refine Gb (fun _ => getFR X1 hx hZ hown (wq hw 53 rfl) rfl f65 (g := (mkF m 10 (sh11 a0 a1 q2 b56) [(.ref b56), (.ref a1)])) rfl rfl (hb hby d4_10)) ?_
    obtain ⟨T467, h467, X467, e467, W467, st467⟩ := putFR X1 hx hZ hown (wq hw 53 rfl) rfl f463 f461 (wq hw 54 rfl) (wq hw 14 rfl) (ty := (.object cL)) (by decide) rfl rfl (g := (mkF m 13 (sh11 a0 a1 q2 b56) [(.ref b56), (.ref a1)])) rfl rfl (hb hby d4_13)
    have f468 := f460.wr W467
    have f469 := f461.wr W467
    have f470 := f462.other W467 (Or.inr (slot_ne (Or.inl (wq hw 56 rfl)) (Or.inl (wq hw 54 rfl)) (by decide) (t := (.object cL)) (t' := (.object cL)) (by decide) (by decide)))
    have f471 := f59.other W467 (Or.inl (Ne.symm Ne7))
    have f472 := f60.other W467 (Or.inl (Ne.symm Ne7))
    have f473 := f61.other W467 (Ne.symm Ne8)
    have f474 := f62.wr W467
    have f475 := f63.other W467 (Or.inl (Ne.symm ne457))
    have f476 := f64.other W467 (Or.inl (Ne.symm ne457))
    have f477 := f65.other W467 (Or.inl (Ne.symm ne457))
    have f478 : Fld Z h467 a1 cL "prev" dL (.ref b56) := f463.same W467
    have Kp467 := KpK68.wr W467 (Or.inl om2)
    have Z479 := Nat.le_trans Z464 (Nat.le_of_eq W467.size.symm)
    have N480 := Fr.snoc X467 N465 Ge2
    refine Gb st467 ?_
    refine Gb (fun _ => XS.aloadN X467.here hx rfl (hb hby d4_16) rfl rfl) ?_
    refine Gb (fun _ => XS.aload X467.here hx rfl (hb hby d4_17) rfl rfl) ?_
    obtain ⟨T481, h481, X481, e481, W481, st481⟩ := putFR X467 hx hZ hown (wq hw 55 rfl) e467 f470 f469 (wq hw 56 rfl) (wq hw 14 rfl) (ty := (.object cL)) (by decide) rfl rfl (g := (mkF m 19 (sh11 a0 a1 q2 b56) [(.ref b56), (.ref a1)])) rfl rfl (hb hby d4_19)
    have f482 := f468.wr W481
    have f483 := f469.wr W481
    have f484 := f471.other W481 (Or.inl (Ne.symm Ne7))
    have f485 := f472.other W481 (Or.inl (Ne.symm Ne7))
    have f486 := f473.other W481 (Ne.symm Ne8)
    have f487 := f474.wr W481
    have f488 := f475.other W481 (Or.inl (Ne.symm ne457))
    have f489 := f476.other W481 (Or.inl (Ne.symm ne457))
    have f490 := f477.other W481 (Or.inl (Ne.symm ne457))
    have f491 := f478.other W481 (Or.inr (slot_ne (Or.inl (wq hw 54 rfl)) (Or.inl (wq hw 56 rfl)) (by decide) (t := (.object cL)) (t' := (.object cL)) (by decide) (by decide)))
    have f492 : Fld Z h481 a1 cL "next" dL (.ref b56) := f470.same W481
    have Kp481 := Kp467.wr W481 (Or.inl om2)
    have Z493 := Nat.le_trans Z479 (Nat.le_of_eq W481.size.symm)
    have N494 := Fr.snoc X481 N480 Ge2
    refine Gb st481 ?_
    refine Gb (fun _ => XS.aload X481.here hx rfl (hb hby d4_22) rfl rfl) ?_
    refine Gb (fun _ => getFR X481 hx hZ hown (wq hw 53 rfl) e481 f490 (g := (mkF m 24 (sh11 a0 a1 q2 b56) [(.ref b56)])) rfl rfl (hb hby d4_24)) ?_
    refine Gb (fun _ => XS.aloadN X481.here hx rfl (hb hby d4_27) rfl rfl) ?_
    obtain ⟨T496, h496, X496, e496, W496, st496⟩ := putFR X481 hx hZ hown (wq hw 55 rfl) e481 f489 f487 (wq hw 49 rfl) (wq hw 39 rfl) (ty := (.object cL)) (by decide) rfl rfl (g := (mkF m 28 (sh11 a0 a1 q2 b56) [(.ref a1), (.ref b56)])) rfl rfl (hb hby d4_28)
    have f497 := f482.wr W496
    have f498 := f483.wr W496
    have f499 := f484.other W496 (Or.inl ne455)
    have f500 := f485.other W496 (Or.inl ne455)
    have f501 := f486.other W496 ne456
    have f502 := f487.wr W496
    have f503 := f488.other W496 (Or.inr (slot_ne (Or.inr (wq hw 47 rfl)) (Or.inl (wq hw 49 rfl)) (by decide) (t := .long) (t' := (.object cL)) (by decide) (by decide)))
    have f504 := f490.other W496 (Or.inr (slot_ne (Or.inl (wq hw 51 rfl)) (Or.inl (wq hw 49 rfl)) (by decide) (t := (.object cL)) (t' := (.object cL)) (by decide) (by decide)))
    have f505 := f491.other W496 (Or.inl ne457)
    have f506 := f492.other W496 (Or.inl ne457)
    have f507 : Fld Z h496 b56 cL "next" dL (.ref a1) := f489.same W496
    have Kp496 := Kp481.wr W496 (Or.inr sz459)
    have Z508 := Nat.le_trans Z493 (Nat.le_of_eq W496.size.symm)
    have N509 := Fr.snoc X496 N494 ge458
    refine Gb st496 ?_
    refine Gb (fun _ => XS.aload X496.here hx rfl (hb hby d4_31) rfl rfl) ?_
    refine Gb (fun _ => XS.aloadN X496.here hx rfl (hb hby d4_33) rfl rfl) ?_
    obtain ⟨T510, h510, X510, e510, W510, st510⟩ := putFR X496 hx hZ hown (wq hw 53 rfl) e496 f504 f502 (wq hw 51 rfl) (wq hw 39 rfl) (ty := (.object cL)) (by decide) rfl rfl (g := (mkF m 34 (sh11 a0 a1 q2 b56) [(.ref a1), (.ref b56)])) rfl rfl (hb hby d4_34)
    have f511 := f497.wr W510
    have f512 := f498.wr W510
    have f513 := f499.other W510 (Or.inl ne455)
    have f514 := f500.other W510 (Or.inl ne455)
    have f515 := f501.other W510 ne456
    have f516 := f502.wr W510
    have f517 := f503.other W510 (Or.inr (slot_ne (Or.inr (wq hw 47 rfl)) (Or.inl (wq hw 51 rfl)) (by decide) (t := .long) (t' := (.object cL)) (by decide) (by decide)))
    have f518 := f505.other W510 (Or.inl ne457)
    have f519 := f506.other W510 (Or.inl ne457)
    have f520 := f507.other W510 (Or.inr (slot_ne (Or.inl (wq hw 49 rfl)) (Or.inl (wq hw 51 rfl)) (by decide) (t := (.object cL)) (t' := (.object cL)) (by decide) (by decide)))
    have f521 : Fld Z h510 b56 cL "prev" dL (.ref a1) := f504.same W510
    have Kp510 := Kp496.wr W510 (Or.inr sz459)
    have Z522 := Nat.le_trans Z508 (Nat.le_of_eq W510.size.symm)
    have N523 := Fr.snoc X510 N509 ge458
    refine Gb st510 ?_
    obtain ⟨fs, hr, hrun, hended, hW, hsame⟩ := X510.leave (v := none) (fun _ => rfl)
    refine Goes.mk _ _ ?_ ⟨hrun, hended, _, _, rfl, ?_, ⟨_, rfl⟩, hW, hsame.mono (by decide) (by decide)⟩
    · exact X510.returnOut hx Bd.returns (hb hby d4_37) hr
    · show QFile3 Z a0 a1 q2 ar kA x1 x2 x3 t1 t2 t3 nl pl z1 z2 z3 w1 w2 w3 nx1 nx2 nx3 pz1 pz2 pz3 h0 n0 _ T510.heap _
      rw [e510]
      exact (Or.inr (Or.inr (Or.inr (Or.inr (Or.inr (Or.inr ⟨b56, hd57, hd58, rfl, N523, Kp510, sz459, f513, f514, f515, f516, f517, f520, f521, f519, f518⟩))))))
theorem d11_0 : decode prog_4_method_6_code 0 = .ok (.aload_n 1, 1) := by decide +kernel
theorem d11_1 : decode prog_4_method_6_code 1 = .ok (.getfield 37, 3) := by decide +kernel
theorem d11_4 : decode prog_4_method_6_code 4 = .ok (.astore_n 2, 1) := by decide +kernel
theorem d11_5 : decode prog_4_method_6_code 5 = .ok (.aload_n 2, 1) := by decide +kernel
theorem d11_6 : decode prog_4_method_6_code 6 = .ok (.aload_n 1, 1) := by decide +kernel
theorem d11_7 : decode prog_4_method_6_code 7 = .ok (.getfield 27, 3) := by decide +kernel
theorem d11_10 : decode prog_4_method_6_code 10 = .ok (.putfield 27, 3) := by decide +kernel
theorem d11_13 : decode prog_4_method_6_code 13 = .ok (.aload_n 1, 1) := by decide +kernel
theorem d11_14 : decode prog_4_method_6_code 14 = .ok (.getfield 27, 3) := by decide +kernel
theorem d11_17 : decode prog_4_method_6_code 17 = .ok (.aload_n 2, 1) := by decide +kernel
theorem d11_18 : decode prog_4_method_6_code 18 = .ok (.putfield 37, 3) := by decide +kernel
theorem d11_21 : decode prog_4_method_6_code 21 = .ok (.aload_n 1, 1) := by decide +kernel
theorem d11_22 : decode prog_4_method_6_code 22 = .ok (.aconst_null, 1) := by decide +kernel
theorem d11_23 : decode prog_4_method_6_code 23 = .ok (.putfield 27, 3) := by decide +kernel
theorem d11_26 : decode prog_4_method_6_code 26 = .ok (.aload_n 1, 1) := by decide +kernel
theorem d11_27 : decode prog_4_method_6_code 27 = .ok (.aconst_null, 1) := by decide +kernel
theorem d11_28 : decode prog_4_method_6_code 28 = .ok (.putfield 37, 3) := by decide +kernel
theorem d11_31 : decode prog_4_method_6_code 31 = .ok (.aload_n 2, 1) := by decide +kernel
theorem d11_32 : decode prog_4_method_6_code 32 = .ok (.getfield 27, 3) := by decide +kernel
theorem d11_35 : decode prog_4_method_6_code 35 = .ok (.aload_n 2, 1) := by decide +kernel
theorem d11_36 : decode prog_4_method_6_code 36 = .ok (.if_acmp .ne 11, 3) := by decide +kernel
theorem d11_47 : decode prog_4_method_6_code 47 = .ok (.return_, 1) := by decide +kernel
def QRemLL (Z : State) (a0 : Addr) (a1 : Addr) (u : Addr) (w : Addr) (nu : Value) (pu : Value) (nw : Value) (pw : Value) (h0 : Heap) (n0 : Nat) (v : Option Value) (h : Heap) (L : List Loc) : Prop := v = none ∧ Fr n0 L ∧ Keep h0 h [u, w, a1] ∧ Fld Z h a1 cL "next" dL .null ∧ Fld Z h a1 cL "prev" dL .null ∧ Fld Z h u cL "next" dL (.ref w) ∧ Fld Z h u cL "prev" dL pu ∧ Fld Z h w cL "next" dL nw ∧ Fld Z h w cL "prev" dL (.ref u)
theorem efRemLL (m : MethodId) (x0 : Addr) (x1 : Addr) : entryFrame m #[(.ref x0), (.ref x1)] 3 = mkF m 0 #[.val (.ref x0), .val (.ref x1), .unset] [] := by first | (simp [entryFrame, mkF, argsToLocals, Value.category]; done) | rfl
set_option maxRecDepth 65536 in
set_option maxHeartbeats 40000000 in
theorem rmRemLL (l : Launch) (Z : State) (az : Array Value) (hw : ∀ d ∈ tables_1, d.before az Z = true) (ws : List Jvm.Cond) (a0 : Addr) (a1 : Addr) (u : Addr) (w : Addr) (nu : Value) (pu : Value) (nw : Value) (pw : Value) (h0 : Heap) (n0 : Nat) (Z0 : n0 ≤ h0.size) (F0 : Exa Z h0 a1 cL) (F1 : Fld Z h0 a1 cL "prev" dL (.ref u)) (F2 : Fld Z h0 a1 cL "next" dL (.ref w)) (F3 : Exa Z h0 u cL) (F4 : Fld Z h0 u cL "next" dL nu) (F5 : Fld Z h0 u cL "prev" dL pu) (F6 : Exa Z h0 w cL) (F7 : Fld Z h0 w cL "next" dL nw) (F8 : Fld Z h0 w cL "prev" dL pw) (Ne0 : a1 ≠ u) (Ne1 : a1 ≠ w) (Ne2 : u ≠ w) (Ge0 : n0 ≤ a1) (Ge1 : n0 ≤ u) (Ge2 : n0 ≤ w) :
    MetFree l y8 (head1 (Jvm.Cond.code y8 prog_4_method_6_code 3 none :: ws) ({ frames := 2, cells := 0, slots := 0, locals := 32 } : Room)) (fun a U => a = #[(.ref a0), (.ref a1)] ∧ Z.Warmed39 U.vm ∧ U.heap = h0) (fun _ _ _ _ _ => True) (fun _ U o U' => ∃ v L, o = .returned v ∧ QRemLL Z a0 a1 u w nu pu nw pw h0 n0 v U'.heap L ∧ FrameEnd U o U' L ({ frames := 2, cells := 0, slots := 0, locals := 32 } : Room).cells ({ frames := 2, cells := 0, slots := 0, locals := 32 } : Room).slots) := by
  refine MetFree.of_bodySF (plainFor_of_name own_pn_com_example_admit_one_admitone_engine_DueOrder) hisR ?_
  intro p e s m args below meth c s₁ Bd hml0 hP hK
  obtain ⟨rfl, hZ, hh⟩ := hP
  have hx := Bd.exec
  have hby := Bd.bytes
  have hml : c.maxLocals = 3 := hml0
  have hown : s.vm.findClass cD = some m.cls := findClass_of_methodNamed Bd.named
  have hnm := (name_of_methodNamed Bd.named Bd.method).1
  have X0 : Stand p l e ({ frames := 2, cells := 0, slots := 0, locals := 32 } : Room) s m #[(.ref a0), (.ref a1)] below meth c s₁ [] 0 0 := Stand.of_body Bd
  have e0 : s₁.heap = h0 := by rw [← hh, Bd.state]; rfl
  have N0 := Fr.nil n0
  have Kp0 : Keep h0 h0 [u, w, a1] := Keep.refl _ _
  refine Goes.start ?_
  refine Gb (B := s₁.setTop (mkF m 0 #[.val (.ref a0), .val (.ref a1), .unset] [])) (fun t k => castTop (efRemLL m a0 a1) k) ?_
  refine Gb (fun _ => XS.aloadN X0.here hx rfl (hb hby d11_0) rfl rfl) ?_
  refine Gb (fun _ => getFR X0 hx hZ hown (wq hw 53 rfl) e0 F1 (g := (mkF m 1 (sh8 a0 a1) [(.ref a1)])) rfl rfl (hb hby d11_1)) ?_
  refine Gb (fun _ => XS.astoreN X0.here hx rfl (hb hby d11_4) rfl rfl (l' := (sh12 a0 a1 u)) rfl) ?_
  refine Gb (fun _ => XS.aloadN X0.here hx rfl (hb hby d11_5) rfl rfl) ?_
  refine Gb (fun _ => XS.aloadN X0.here hx rfl (hb hby d11_6) rfl rfl) ?_
  refine Gb (fun _ => getFR X0 hx hZ hown (wq hw 55 rfl) e0 F2 (g := (mkF m 7 (sh12 a0 a1 u) [(.ref a1), (.ref u)])) rfl rfl (hb hby d11_7)) ?_
  obtain ⟨T3, h3, X3, e3, W3, st3⟩ := putFR X0 hx hZ hown (wq hw 55 rfl) e0 F4 F3 (wq hw 56 rfl) (wq hw 14 rfl) (ty := (.object cL)) (by decide) rfl rfl (g := (mkF m 10 (sh12 a0 a1 u) [(.ref w), (.ref u)])) rfl rfl (hb hby d11_10)
  have f4 := F0.wr W3
  have f5 := F1.other W3 (Or.inl Ne0)
  have f6 := F2.other W3 (Or.inl Ne0)
  have f7 := F3.wr W3
  have f8 := F5.other W3 (Or.inr (slot_ne (Or.inl (wq hw 54 rfl)) (Or.inl (wq hw 56 rfl)) (by decide) (t := (.object cL)) (t' := (.object cL)) (by decide) (by decide)))
  have f9 := F6.wr W3
  have f10 := F7.other W3 (Or.inl (Ne.symm Ne2))
  have f11 := F8.other W3 (Or.inl (Ne.symm Ne2))
  have f12 : Fld Z h3 u cL "next" dL (.ref w) := F4.same W3
  have Kp3 : Keep h0 h3 [u, w, a1] := Kp0.wr W3 (Or.inl om0)
  have Z13 := Nat.le_trans Z0 (Nat.le_of_eq W3.size.symm)
  have N14 := Fr.snoc X3 N0 Ge1
  refine Gb st3 ?_
  refine Gb (fun _ => XS.aloadN X3.here hx rfl (hb hby d11_13) rfl rfl) ?_
  refine Gb (fun _ => getFR X3 hx hZ hown (wq hw 55 rfl) e3 f6 (g := (mkF m 14 (sh12 a0 a1 u) [(.ref a1)])) rfl rfl (hb hby d11_14)) ?_
  refine Gb (fun _ => XS.aloadN X3.here hx rfl (hb hby d11_17) rfl rfl) ?_
  obtain ⟨T16, h16, X16, e16, W16, st16⟩ := putFR X3 hx hZ hown (wq hw 53 rfl) e3 f11 f9 (wq hw 54 rfl) (wq hw 14 rfl) (ty := (.object cL)) (by decide) rfl rfl (g := (mkF m 18 (sh12 a0 a1 u) [(.ref u), (.ref w)])) rfl rfl (hb hby d11_18)
  have f17 := f4.wr W16
  have f18 := f5.other W16 (Or.inl Ne1)
  have f19 := f6.other W16 (Or.inl Ne1)
  have f20 := f7.wr W16
  have f21 := f8.other W16 (Or.inl Ne2)
  have f22 := f9.wr W16
  have f23 := f10.other W16 (Or.inr (slot_ne (Or.inl (wq hw 56 rfl)) (Or.inl (wq hw 54 rfl)) (by decide) (t := (.object cL)) (t' := (.object cL)) (by decide) (by decide)))
  have f24 := f12.other W16 (Or.inl Ne2)
  have f25 : Fld Z h16 w cL "prev" dL (.ref u) := f11.same W16
  have Kp16 : Keep h0 h16 [u, w, a1] := Kp3.wr W16 (Or.inl om1)
  have Z26 := Nat.le_trans Z13 (Nat.le_of_eq W16.size.symm)
  have N27 := Fr.snoc X16 N14 Ge2
  refine Gb st16 ?_
  refine Gb (fun _ => XS.aloadN X16.here hx rfl (hb hby d11_21) rfl rfl) ?_
  refine Gb (fun _ => XS.aconstNull X16.here hx rfl (hb hby d11_22)) ?_
  obtain ⟨T28, h28, X28, e28, W28, st28⟩ := putFR X16 hx hZ hown (wq hw 55 rfl) e16 f19 f17 (wq hw 56 rfl) (wq hw 14 rfl) (ty := (.object cL)) (by decide) rfl rfl (g := (mkF m 23 (sh12 a0 a1 u) [.null, (.ref a1)])) rfl rfl (hb hby d11_23)
  have f29 := f17.wr W28
  have f30 := f18.other W28 (Or.inr (slot_ne (Or.inl (wq hw 54 rfl)) (Or.inl (wq hw 56 rfl)) (by decide) (t := (.object cL)) (t' := (.object cL)) (by decide) (by decide)))
  have f31 := f20.wr W28
  have f32 := f21.other W28 (Or.inl (Ne.symm Ne0))
  have f33 := f22.wr W28
  have f34 := f23.other W28 (Or.inl (Ne.symm Ne1))
  have f35 := f24.other W28 (Or.inl (Ne.symm Ne0))
  have f36 := f25.other W28 (Or.inl (Ne.symm Ne1))
  have f37 : Fld Z h28 a1 cL "next" dL .null := f19.same W28
  have Kp28 : Keep h0 h28 [u, w, a1] := Kp16.wr W28 (Or.inl om2)
  have Z38 := Nat.le_trans Z26 (Nat.le_of_eq W28.size.symm)
  have N39 := Fr.snoc X28 N27 Ge0
  refine Gb st28 ?_
  refine Gb (fun _ => XS.aloadN X28.here hx rfl (hb hby d11_26) rfl rfl) ?_
  refine Gb (fun _ => XS.aconstNull X28.here hx rfl (hb hby d11_27)) ?_
  obtain ⟨T40, h40, X40, e40, W40, st40⟩ := putFR X28 hx hZ hown (wq hw 53 rfl) e28 f30 f29 (wq hw 54 rfl) (wq hw 14 rfl) (ty := (.object cL)) (by decide) rfl rfl (g := (mkF m 28 (sh12 a0 a1 u) [.null, (.ref a1)])) rfl rfl (hb hby d11_28)
  have f41 := f29.wr W40
  have f42 := f31.wr W40
  have f43 := f32.other W40 (Or.inl (Ne.symm Ne0))
  have f44 := f33.wr W40
  have f45 := f34.other W40 (Or.inl (Ne.symm Ne1))
  have f46 := f35.other W40 (Or.inl (Ne.symm Ne0))
  have f47 := f36.other W40 (Or.inl (Ne.symm Ne1))
  have f48 := f37.other W40 (Or.inr (slot_ne (Or.inl (wq hw 56 rfl)) (Or.inl (wq hw 54 rfl)) (by decide) (t := (.object cL)) (t' := (.object cL)) (by decide) (by decide)))
  have f49 : Fld Z h40 a1 cL "prev" dL .null := f30.same W40
  have Kp40 : Keep h0 h40 [u, w, a1] := Kp28.wr W40 (Or.inl om2)
  have Z50 := Nat.le_trans Z38 (Nat.le_of_eq W40.size.symm)
  have N51 := Fr.snoc X40 N39 Ge0
  refine Gb st40 ?_
  refine Gb (fun _ => XS.aloadN X40.here hx rfl (hb hby d11_31) rfl rfl) ?_
  refine Gb (fun _ => getFR X40 hx hZ hown (wq hw 55 rfl) e40 f46 (g := (mkF m 32 (sh12 a0 a1 u) [(.ref u)])) rfl rfl (hb hby d11_32)) ?_
  refine Gb (fun _ => XS.aloadN X40.here hx rfl (hb hby d11_35) rfl rfl) ?_
  refine Gb (fun _ => Jvm.RoadKit.acmp (g := (mkF m 36 (sh12 a0 a1 u) [(.ref u), (.ref w)])) X40 hx rfl rfl rfl (pc0 := 36) (pc' := 47) (same := false) rfl (hb hby d11_36) rfl (decide_eq_false fun q => (Ne.symm Ne2) (Value.ref.inj q)) (by decide) (by decide)) ?_
  obtain ⟨fs, hr, hrun, hended, hW, hsame⟩ := X40.leave (v := none) (fun _ => rfl)
  refine Goes.mk _ _ ?_ ⟨hrun, hended, _, _, rfl, ?_, ⟨_, rfl⟩, hW, hsame.mono (by decide) (by decide)⟩
  · exact X40.returnOut hx Bd.returns (hb hby d11_47) hr
  · show QRemLL Z a0 a1 u w nu pu nw pw h0 n0 _ T40.heap _
    rw [e40]
    exact ⟨rfl, N51, Kp40, f48, f49, f46, f43, f45, f47⟩
def QRemLH (Z : State) (a0 : Addr) (a1 : Addr) (u : Addr) (w : Addr) (nu : Value) (pu : Value) (nw : Value) (pw : Value) (tw : Int64) (h0 : Heap) (n0 : Nat) (v : Option Value) (h : Heap) (L : List Loc) : Prop := v = none ∧ Fr n0 L ∧ Keep h0 h [u, w, a1] ∧ Fld Z h a1 cL "next" dL .null ∧ Fld Z h a1 cL "prev" dL .null ∧ Fld Z h u cL "next" dL (.ref w) ∧ Fld Z h u cL "prev" dL pu ∧ Fld Z h w cL "next" dL nw ∧ Fld Z h w cL "prev" dL (.ref u) ∧ Fld Z h w cH "tick" "J" (.long tw)
theorem efRemLH (m : MethodId) (x0 : Addr) (x1 : Addr) : entryFrame m #[(.ref x0), (.ref x1)] 3 = mkF m 0 #[.val (.ref x0), .val (.ref x1), .unset] [] := by first | (simp [entryFrame, mkF, argsToLocals, Value.category]; done) | rfl
set_option maxRecDepth 65536 in
set_option maxHeartbeats 40000000 in
theorem rmRemLH (l : Launch) (Z : State) (az : Array Value) (hw : ∀ d ∈ tables_1, d.before az Z = true) (ws : List Jvm.Cond) (a0 : Addr) (a1 : Addr) (u : Addr) (w : Addr) (nu : Value) (pu : Value) (nw : Value) (pw : Value) (tw : Int64) (h0 : Heap) (n0 : Nat) (Z0 : n0 ≤ h0.size) (F0 : Exa Z h0 a1 cL) (F1 : Fld Z h0 a1 cL "prev" dL (.ref u)) (F2 : Fld Z h0 a1 cL "next" dL (.ref w)) (F3 : Exa Z h0 u cL) (F4 : Fld Z h0 u cL "next" dL nu) (F5 : Fld Z h0 u cL "prev" dL pu) (F6 : Exa Z h0 w cH) (F7 : Fld Z h0 w cL "next" dL nw) (F8 : Fld Z h0 w cL "prev" dL pw) (F9 : Fld Z h0 w cH "tick" "J" (.long tw)) (Ne0 : a1 ≠ u) (Ne1 : a1 ≠ w) (Ne2 : u ≠ w) (Ge0 : n0 ≤ a1) (Ge1 : n0 ≤ u) (Ge2 : n0 ≤ w) :
    MetFree l y8 (head1 (Jvm.Cond.code y8 prog_4_method_6_code 3 none :: ws) ({ frames := 2, cells := 0, slots := 0, locals := 32 } : Room)) (fun a U => a = #[(.ref a0), (.ref a1)] ∧ Z.Warmed39 U.vm ∧ U.heap = h0) (fun _ _ _ _ _ => True) (fun _ U o U' => ∃ v L, o = .returned v ∧ QRemLH Z a0 a1 u w nu pu nw pw tw h0 n0 v U'.heap L ∧ FrameEnd U o U' L ({ frames := 2, cells := 0, slots := 0, locals := 32 } : Room).cells ({ frames := 2, cells := 0, slots := 0, locals := 32 } : Room).slots) := by
  refine MetFree.of_bodySF (plainFor_of_name own_pn_com_example_admit_one_admitone_engine_DueOrder) hisR ?_
  intro p e s m args below meth c s₁ Bd hml0 hP hK
  obtain ⟨rfl, hZ, hh⟩ := hP
  have hx := Bd.exec
  have hby := Bd.bytes
  have hml : c.maxLocals = 3 := hml0
  have hown : s.vm.findClass cD = some m.cls := findClass_of_methodNamed Bd.named
  have hnm := (name_of_methodNamed Bd.named Bd.method).1
  have X0 : Stand p l e ({ frames := 2, cells := 0, slots := 0, locals := 32 } : Room) s m #[(.ref a0), (.ref a1)] below meth c s₁ [] 0 0 := Stand.of_body Bd
  have e0 : s₁.heap = h0 := by rw [← hh, Bd.state]; rfl
  have N0 := Fr.nil n0
  have Kp0 : Keep h0 h0 [u, w, a1] := Keep.refl _ _
  refine Goes.start ?_
  refine Gb (B := s₁.setTop (mkF m 0 #[.val (.ref a0), .val (.ref a1), .unset] [])) (fun t k => castTop (efRemLH m a0 a1) k) ?_
  refine Gb (fun _ => XS.aloadN X0.here hx rfl (hb hby d11_0) rfl rfl) ?_
  refine Gb (fun _ => getFR X0 hx hZ hown (wq hw 53 rfl) e0 F1 (g := (mkF m 1 (sh8 a0 a1) [(.ref a1)])) rfl rfl (hb hby d11_1)) ?_
  refine Gb (fun _ => XS.astoreN X0.here hx rfl (hb hby d11_4) rfl rfl (l' := (sh12 a0 a1 u)) rfl) ?_
  refine Gb (fun _ => XS.aloadN X0.here hx rfl (hb hby d11_5) rfl rfl) ?_
  refine Gb (fun _ => XS.aloadN X0.here hx rfl (hb hby d11_6) rfl rfl) ?_
  refine Gb (fun _ => getFR X0 hx hZ hown (wq hw 55 rfl) e0 F2 (g := (mkF m 7 (sh12 a0 a1 u) [(.ref a1), (.ref u)])) rfl rfl (hb hby d11_7)) ?_
  obtain ⟨T3, h3, X3, e3, W3, st3⟩ := putFR X0 hx hZ hown (wq hw 55 rfl) e0 F4 F3 (wq hw 56 rfl) (wq hw 14 rfl) (ty := (.object cL)) (by decide) rfl rfl (g := (mkF m 10 (sh12 a0 a1 u) [(.ref w), (.ref u)])) rfl rfl (hb hby d11_10)
  have f4 := F0.wr W3
  have f5 := F1.other W3 (Or.inl Ne0)
  have f6 := F2.other W3 (Or.inl Ne0)
  have f7 := F3.wr W3
  have f8 := F5.other W3 (Or.inr (slot_ne (Or.inl (wq hw 54 rfl)) (Or.inl (wq hw 56 rfl)) (by decide) (t := (.object cL)) (t' := (.object cL)) (by decide) (by decide)))
  have f9 := F6.wr W3
  have f10 := F7.other W3 (Or.inl (Ne.symm Ne2))
  have f11 := F8.other W3 (Or.inl (Ne.symm Ne2))
  have f12 := F9.other W3 (Or.inl (Ne.symm Ne2))
  have f13 : Fld Z h3 u cL "next" dL (.ref w) := F4.same W3
  have Kp3 : Keep h0 h3 [u, w, a1] := Kp0.wr W3 (Or.inl om0)
  have Z14 := Nat.le_trans Z0 (Nat.le_of_eq W3.size.symm)
  have N15 := Fr.snoc X3 N0 Ge1
  refine Gb st3 ?_
  refine Gb (fun _ => XS.aloadN X3.here hx rfl (hb hby d11_13) rfl rfl) ?_
  refine Gb (fun _ => getFR X3 hx hZ hown (wq hw 55 rfl) e3 f6 (g := (mkF m 14 (sh12 a0 a1 u) [(.ref a1)])) rfl rfl (hb hby d11_14)) ?_
  refine Gb (fun _ => XS.aloadN X3.here hx rfl (hb hby d11_17) rfl rfl) ?_
  obtain ⟨T17, h17, X17, e17, W17, st17⟩ := putFR X3 hx hZ hown (wq hw 53 rfl) e3 f11 f9 (wq hw 51 rfl) (wq hw 39 rfl) (ty := (.object cL)) (by decide) rfl rfl (g := (mkF m 18 (sh12 a0 a1 u) [(.ref u), (.ref w)])) rfl rfl (hb hby d11_18)
  have f18 := f4.wr W17
  have f19 := f5.other W17 (Or.inl Ne1)
  have f20 := f6.other W17 (Or.inl Ne1)
  have f21 := f7.wr W17
  have f22 := f8.other W17 (Or.inl Ne2)
  have f23 := f9.wr W17
  have f24 := f10.other W17 (Or.inr (slot_ne (Or.inl (wq hw 49 rfl)) (Or.inl (wq hw 51 rfl)) (by decide) (t := (.object cL)) (t' := (.object cL)) (by decide) (by decide)))
  have f25 := f12.other W17 (Or.inr (slot_ne (Or.inr (wq hw 47 rfl)) (Or.inl (wq hw 51 rfl)) (by decide) (t := .long) (t' := (.object cL)) (by decide) (by decide)))
  have f26 := f13.other W17 (Or.inl Ne2)
  have f27 : Fld Z h17 w cL "prev" dL (.ref u) := f11.same W17
  have Kp17 : Keep h0 h17 [u, w, a1] := Kp3.wr W17 (Or.inl om1)
  have Z28 := Nat.le_trans Z14 (Nat.le_of_eq W17.size.symm)
  have N29 := Fr.snoc X17 N15 Ge2
  refine Gb st17 ?_
  refine Gb (fun _ => XS.aloadN X17.here hx rfl (hb hby d11_21) rfl rfl) ?_
  refine Gb (fun _ => XS.aconstNull X17.here hx rfl (hb hby d11_22)) ?_
  obtain ⟨T30, h30, X30, e30, W30, st30⟩ := putFR X17 hx hZ hown (wq hw 55 rfl) e17 f20 f18 (wq hw 56 rfl) (wq hw 14 rfl) (ty := (.object cL)) (by decide) rfl rfl (g := (mkF m 23 (sh12 a0 a1 u) [.null, (.ref a1)])) rfl rfl (hb hby d11_23)
  have f31 := f18.wr W30
  have f32 := f19.other W30 (Or.inr (slot_ne (Or.inl (wq hw 54 rfl)) (Or.inl (wq hw 56 rfl)) (by decide) (t := (.object cL)) (t' := (.object cL)) (by decide) (by decide)))
  have f33 := f21.wr W30
  have f34 := f22.other W30 (Or.inl (Ne.symm Ne0))
  have f35 := f23.wr W30
  have f36 := f24.other W30 (Or.inl (Ne.symm Ne1))
  have f37 := f25.other W30 (Or.inl (Ne.symm Ne1))
  have f38 := f26.other W30 (Or.inl (Ne.symm Ne0))
  have f39 := f27.other W30 (Or.inl (Ne.symm Ne1))
  have f40 : Fld Z h30 a1 cL "next" dL .null := f20.same W30
  have Kp30 : Keep h0 h30 [u, w, a1] := Kp17.wr W30 (Or.inl om2)
  have Z41 := Nat.le_trans Z28 (Nat.le_of_eq W30.size.symm)
  have N42 := Fr.snoc X30 N29 Ge0
  refine Gb st30 ?_
  refine Gb (fun _ => XS.aloadN X30.here hx rfl (hb hby d11_26) rfl rfl) ?_
  refine Gb (fun _ => XS.aconstNull X30.here hx rfl (hb hby d11_27)) ?_
  obtain ⟨T43, h43, X43, e43, W43, st43⟩ := putFR X30 hx hZ hown (wq hw 53 rfl) e30 f32 f31 (wq hw 54 rfl) (wq hw 14 rfl) (ty := (.object cL)) (by decide) rfl rfl (g := (mkF m 28 (sh12 a0 a1 u) [.null, (.ref a1)])) rfl rfl (hb hby d11_28)
  have f44 := f31.wr W43
  have f45 := f33.wr W43
  have f46 := f34.other W43 (Or.inl (Ne.symm Ne0))
  have f47 := f35.wr W43
  have f48 := f36.other W43 (Or.inl (Ne.symm Ne1))
  have f49 := f37.other W43 (Or.inl (Ne.symm Ne1))
  have f50 := f38.other W43 (Or.inl (Ne.symm Ne0))
  have f51 := f39.other W43 (Or.inl (Ne.symm Ne1))
  have f52 := f40.other W43 (Or.inr (slot_ne (Or.inl (wq hw 56 rfl)) (Or.inl (wq hw 54 rfl)) (by decide) (t := (.object cL)) (t' := (.object cL)) (by decide) (by decide)))
  have f53 : Fld Z h43 a1 cL "prev" dL .null := f32.same W43
  have Kp43 : Keep h0 h43 [u, w, a1] := Kp30.wr W43 (Or.inl om2)
  have Z54 := Nat.le_trans Z41 (Nat.le_of_eq W43.size.symm)
  have N55 := Fr.snoc X43 N42 Ge0
  refine Gb st43 ?_
  refine Gb (fun _ => XS.aloadN X43.here hx rfl (hb hby d11_31) rfl rfl) ?_
  refine Gb (fun _ => getFR X43 hx hZ hown (wq hw 55 rfl) e43 f50 (g := (mkF m 32 (sh12 a0 a1 u) [(.ref u)])) rfl rfl (hb hby d11_32)) ?_
  refine Gb (fun _ => XS.aloadN X43.here hx rfl (hb hby d11_35) rfl rfl) ?_
  refine Gb (fun _ => Jvm.RoadKit.acmp (g := (mkF m 36 (sh12 a0 a1 u) [(.ref u), (.ref w)])) X43 hx rfl rfl rfl (pc0 := 36) (pc' := 47) (same := false) rfl (hb hby d11_36) rfl (decide_eq_false fun q => (Ne.symm Ne2) (Value.ref.inj q)) (by decide) (by decide)) ?_
  obtain ⟨fs, hr, hrun, hended, hW, hsame⟩ := X43.leave (v := none) (fun _ => rfl)
  refine Goes.mk _ _ ?_ ⟨hrun, hended, _, _, rfl, ?_, ⟨_, rfl⟩, hW, hsame.mono (by decide) (by decide)⟩
  · exact X43.returnOut hx Bd.returns (hb hby d11_47) hr
  · show QRemLH Z a0 a1 u w nu pu nw pw tw h0 n0 _ T43.heap _
    rw [e43]
    exact ⟨rfl, N55, Kp43, f52, f53, f50, f46, f48, f51, f49⟩
def QRemHL (Z : State) (a0 : Addr) (a1 : Addr) (u : Addr) (w : Addr) (nu : Value) (pu : Value) (nw : Value) (pw : Value) (tu : Int64) (h0 : Heap) (n0 : Nat) (v : Option Value) (h : Heap) (L : List Loc) : Prop := v = none ∧ Fr n0 L ∧ Keep h0 h [u, w, a1] ∧ Fld Z h a1 cL "next" dL .null ∧ Fld Z h a1 cL "prev" dL .null ∧ Fld Z h u cL "next" dL (.ref w) ∧ Fld Z h u cL "prev" dL pu ∧ Fld Z h w cL "next" dL nw ∧ Fld Z h w cL "prev" dL (.ref u) ∧ Fld Z h u cH "tick" "J" (.long tu)
theorem efRemHL (m : MethodId) (x0 : Addr) (x1 : Addr) : entryFrame m #[(.ref x0), (.ref x1)] 3 = mkF m 0 #[.val (.ref x0), .val (.ref x1), .unset] [] := by first | (simp [entryFrame, mkF, argsToLocals, Value.category]; done) | rfl
set_option maxRecDepth 65536 in
set_option maxHeartbeats 40000000 in
theorem rmRemHL (l : Launch) (Z : State) (az : Array Value) (hw : ∀ d ∈ tables_1, d.before az Z = true) (ws : List Jvm.Cond) (a0 : Addr) (a1 : Addr) (u : Addr) (w : Addr) (nu : Value) (pu : Value) (nw : Value) (pw : Value) (tu : Int64) (h0 : Heap) (n0 : Nat) (Z0 : n0 ≤ h0.size) (F0 : Exa Z h0 a1 cL) (F1 : Fld Z h0 a1 cL "prev" dL (.ref u)) (F2 : Fld Z h0 a1 cL "next" dL (.ref w)) (F3 : Exa Z h0 u cH) (F4 : Fld Z h0 u cL "next" dL nu) (F5 : Fld Z h0 u cL "prev" dL pu) (F6 : Exa Z h0 w cL) (F7 : Fld Z h0 w cL "next" dL nw) (F8 : Fld Z h0 w cL "prev" dL pw) (F9 : Fld Z h0 u cH "tick" "J" (.long tu)) (Ne0 : a1 ≠ u) (Ne1 : a1 ≠ w) (Ne2 : u ≠ w) (Ge0 : n0 ≤ a1) (Ge1 : n0 ≤ u) (Ge2 : n0 ≤ w) :
    MetFree l y8 (head1 (Jvm.Cond.code y8 prog_4_method_6_code 3 none :: ws) ({ frames := 2, cells := 0, slots := 0, locals := 32 } : Room)) (fun a U => a = #[(.ref a0), (.ref a1)] ∧ Z.Warmed39 U.vm ∧ U.heap = h0) (fun _ _ _ _ _ => True) (fun _ U o U' => ∃ v L, o = .returned v ∧ QRemHL Z a0 a1 u w nu pu nw pw tu h0 n0 v U'.heap L ∧ FrameEnd U o U' L ({ frames := 2, cells := 0, slots := 0, locals := 32 } : Room).cells ({ frames := 2, cells := 0, slots := 0, locals := 32 } : Room).slots) := by
  refine MetFree.of_bodySF (plainFor_of_name own_pn_com_example_admit_one_admitone_engine_DueOrder) hisR ?_
  intro p e s m args below meth c s₁ Bd hml0 hP hK
  obtain ⟨rfl, hZ, hh⟩ := hP
  have hx := Bd.exec
  have hby := Bd.bytes
  have hml : c.maxLocals = 3 := hml0
  have hown : s.vm.findClass cD = some m.cls := findClass_of_methodNamed Bd.named
  have hnm := (name_of_methodNamed Bd.named Bd.method).1
  have X0 : Stand p l e ({ frames := 2, cells := 0, slots := 0, locals := 32 } : Room) s m #[(.ref a0), (.ref a1)] below meth c s₁ [] 0 0 := Stand.of_body Bd
  have e0 : s₁.heap = h0 := by rw [← hh, Bd.state]; rfl
  have N0 := Fr.nil n0
  have Kp0 : Keep h0 h0 [u, w, a1] := Keep.refl _ _
  refine Goes.start ?_
  refine Gb (B := s₁.setTop (mkF m 0 #[.val (.ref a0), .val (.ref a1), .unset] [])) (fun t k => castTop (efRemHL m a0 a1) k) ?_
  refine Gb (fun _ => XS.aloadN X0.here hx rfl (hb hby d11_0) rfl rfl) ?_
  refine Gb (fun _ => getFR X0 hx hZ hown (wq hw 53 rfl) e0 F1 (g := (mkF m 1 (sh8 a0 a1) [(.ref a1)])) rfl rfl (hb hby d11_1)) ?_
  refine Gb (fun _ => XS.astoreN X0.here hx rfl (hb hby d11_4) rfl rfl (l' := (sh12 a0 a1 u)) rfl) ?_
  refine Gb (fun _ => XS.aloadN X0.here hx rfl (hb hby d11_5) rfl rfl) ?_
  refine Gb (fun _ => XS.aloadN X0.here hx rfl (hb hby d11_6) rfl rfl) ?_
  refine Gb (fun _ => getFR X0 hx hZ hown (wq hw 55 rfl) e0 F2 (g := (mkF m 7 (sh12 a0 a1 u) [(.ref a1), (.ref u)])) rfl rfl (hb hby d11_7)) ?_
  obtain ⟨T3, h3, X3, e3, W3, st3⟩ := putFR X0 hx hZ hown (wq hw 55 rfl) e0 F4 F3 (wq hw 49 rfl) (wq hw 39 rfl) (ty := (.object cL)) (by decide) rfl rfl (g := (mkF m 10 (sh12 a0 a1 u) [(.ref w), (.ref u)])) rfl rfl (hb hby d11_10)
  have f4 := F0.wr W3
  have f5 := F1.other W3 (Or.inl Ne0)
  have f6 := F2.other W3 (Or.inl Ne0)
  have f7 := F3.wr W3
  have f8 := F5.other W3 (Or.inr (slot_ne (Or.inl (wq hw 51 rfl)) (Or.inl (wq hw 49 rfl)) (by decide) (t := (.object cL)) (t' := (.object cL)) (by decide) (by decide)))
  have f9 := F6.wr W3
  have f10 := F7.other W3 (Or.inl (Ne.symm Ne2))
  have f11 := F8.other W3 (Or.inl (Ne.symm Ne2))
  have f12 := F9.other W3 (Or.inr (slot_ne (Or.inr (wq hw 47 rfl)) (Or.inl (wq hw 49 rfl)) (by decide) (t := .long) (t' := (.object cL)) (by decide) (by decide)))
  have f13 : Fld Z h3 u cL "next" dL (.ref w) := F4.same W3
  have Kp3 : Keep h0 h3 [u, w, a1] := Kp0.wr W3 (Or.inl om0)
  have Z14 := Nat.le_trans Z0 (Nat.le_of_eq W3.size.symm)
  have N15 := Fr.snoc X3 N0 Ge1
  refine Gb st3 ?_
  refine Gb (fun _ => XS.aloadN X3.here hx rfl (hb hby d11_13) rfl rfl) ?_
  refine Gb (fun _ => getFR X3 hx hZ hown (wq hw 55 rfl) e3 f6 (g := (mkF m 14 (sh12 a0 a1 u) [(.ref a1)])) rfl rfl (hb hby d11_14)) ?_
  refine Gb (fun _ => XS.aloadN X3.here hx rfl (hb hby d11_17) rfl rfl) ?_
  obtain ⟨T17, h17, X17, e17, W17, st17⟩ := putFR X3 hx hZ hown (wq hw 53 rfl) e3 f11 f9 (wq hw 54 rfl) (wq hw 14 rfl) (ty := (.object cL)) (by decide) rfl rfl (g := (mkF m 18 (sh12 a0 a1 u) [(.ref u), (.ref w)])) rfl rfl (hb hby d11_18)
  have f18 := f4.wr W17
  have f19 := f5.other W17 (Or.inl Ne1)
  have f20 := f6.other W17 (Or.inl Ne1)
  have f21 := f7.wr W17
  have f22 := f8.other W17 (Or.inl Ne2)
  have f23 := f9.wr W17
  have f24 := f10.other W17 (Or.inr (slot_ne (Or.inl (wq hw 56 rfl)) (Or.inl (wq hw 54 rfl)) (by decide) (t := (.object cL)) (t' := (.object cL)) (by decide) (by decide)))
  have f25 := f12.other W17 (Or.inl Ne2)
  have f26 := f13.other W17 (Or.inl Ne2)
  have f27 : Fld Z h17 w cL "prev" dL (.ref u) := f11.same W17
  have Kp17 : Keep h0 h17 [u, w, a1] := Kp3.wr W17 (Or.inl om1)
  have Z28 := Nat.le_trans Z14 (Nat.le_of_eq W17.size.symm)
  have N29 := Fr.snoc X17 N15 Ge2
  refine Gb st17 ?_
  refine Gb (fun _ => XS.aloadN X17.here hx rfl (hb hby d11_21) rfl rfl) ?_
  refine Gb (fun _ => XS.aconstNull X17.here hx rfl (hb hby d11_22)) ?_
  obtain ⟨T30, h30, X30, e30, W30, st30⟩ := putFR X17 hx hZ hown (wq hw 55 rfl) e17 f20 f18 (wq hw 56 rfl) (wq hw 14 rfl) (ty := (.object cL)) (by decide) rfl rfl (g := (mkF m 23 (sh12 a0 a1 u) [.null, (.ref a1)])) rfl rfl (hb hby d11_23)
  have f31 := f18.wr W30
  have f32 := f19.other W30 (Or.inr (slot_ne (Or.inl (wq hw 54 rfl)) (Or.inl (wq hw 56 rfl)) (by decide) (t := (.object cL)) (t' := (.object cL)) (by decide) (by decide)))
  have f33 := f21.wr W30
  have f34 := f22.other W30 (Or.inl (Ne.symm Ne0))
  have f35 := f23.wr W30
  have f36 := f24.other W30 (Or.inl (Ne.symm Ne1))
  have f37 := f25.other W30 (Or.inl (Ne.symm Ne0))
  have f38 := f26.other W30 (Or.inl (Ne.symm Ne0))
  have f39 := f27.other W30 (Or.inl (Ne.symm Ne1))
  have f40 : Fld Z h30 a1 cL "next" dL .null := f20.same W30
  have Kp30 : Keep h0 h30 [u, w, a1] := Kp17.wr W30 (Or.inl om2)
  have Z41 := Nat.le_trans Z28 (Nat.le_of_eq W30.size.symm)
  have N42 := Fr.snoc X30 N29 Ge0
  refine Gb st30 ?_
  refine Gb (fun _ => XS.aloadN X30.here hx rfl (hb hby d11_26) rfl rfl) ?_
  refine Gb (fun _ => XS.aconstNull X30.here hx rfl (hb hby d11_27)) ?_
  obtain ⟨T43, h43, X43, e43, W43, st43⟩ := putFR X30 hx hZ hown (wq hw 53 rfl) e30 f32 f31 (wq hw 54 rfl) (wq hw 14 rfl) (ty := (.object cL)) (by decide) rfl rfl (g := (mkF m 28 (sh12 a0 a1 u) [.null, (.ref a1)])) rfl rfl (hb hby d11_28)
  have f44 := f31.wr W43
  have f45 := f33.wr W43
  have f46 := f34.other W43 (Or.inl (Ne.symm Ne0))
  have f47 := f35.wr W43
  have f48 := f36.other W43 (Or.inl (Ne.symm Ne1))
  have f49 := f37.other W43 (Or.inl (Ne.symm Ne0))
  have f50 := f38.other W43 (Or.inl (Ne.symm Ne0))
  have f51 := f39.other W43 (Or.inl (Ne.symm Ne1))
  have f52 := f40.other W43 (Or.inr (slot_ne (Or.inl (wq hw 56 rfl)) (Or.inl (wq hw 54 rfl)) (by decide) (t := (.object cL)) (t' := (.object cL)) (by decide) (by decide)))
  have f53 : Fld Z h43 a1 cL "prev" dL .null := f32.same W43
  have Kp43 : Keep h0 h43 [u, w, a1] := Kp30.wr W43 (Or.inl om2)
  have Z54 := Nat.le_trans Z41 (Nat.le_of_eq W43.size.symm)
  have N55 := Fr.snoc X43 N42 Ge0
  refine Gb st43 ?_
  refine Gb (fun _ => XS.aloadN X43.here hx rfl (hb hby d11_31) rfl rfl) ?_
  refine Gb (fun _ => getFR X43 hx hZ hown (wq hw 55 rfl) e43 f50 (g := (mkF m 32 (sh12 a0 a1 u) [(.ref u)])) rfl rfl (hb hby d11_32)) ?_
  refine Gb (fun _ => XS.aloadN X43.here hx rfl (hb hby d11_35) rfl rfl) ?_
  refine Gb (fun _ => Jvm.RoadKit.acmp (g := (mkF m 36 (sh12 a0 a1 u) [(.ref u), (.ref w)])) X43 hx rfl rfl rfl (pc0 := 36) (pc' := 47) (same := false) rfl (hb hby d11_36) rfl (decide_eq_false fun q => (Ne.symm Ne2) (Value.ref.inj q)) (by decide) (by decide)) ?_
  obtain ⟨fs, hr, hrun, hended, hW, hsame⟩ := X43.leave (v := none) (fun _ => rfl)
  refine Goes.mk _ _ ?_ ⟨hrun, hended, _, _, rfl, ?_, ⟨_, rfl⟩, hW, hsame.mono (by decide) (by decide)⟩
  · exact X43.returnOut hx Bd.returns (hb hby d11_47) hr
  · show QRemHL Z a0 a1 u w nu pu nw pw tu h0 n0 _ T43.heap _
    rw [e43]
    exact ⟨rfl, N55, Kp43, f52, f53, f50, f46, f48, f51, f49⟩
def QRemHH (Z : State) (a0 : Addr) (a1 : Addr) (u : Addr) (w : Addr) (nu : Value) (pu : Value) (nw : Value) (pw : Value) (tu : Int64) (tw : Int64) (h0 : Heap) (n0 : Nat) (v : Option Value) (h : Heap) (L : List Loc) : Prop := v = none ∧ Fr n0 L ∧ Keep h0 h [u, w, a1] ∧ Fld Z h a1 cL "next" dL .null ∧ Fld Z h a1 cL "prev" dL .null ∧ Fld Z h u cL "next" dL (.ref w) ∧ Fld Z h u cL "prev" dL pu ∧ Fld Z h w cL "next" dL nw ∧ Fld Z h w cL "prev" dL (.ref u) ∧ Fld Z h u cH "tick" "J" (.long tu) ∧ Fld Z h w cH "tick" "J" (.long tw)
theorem efRemHH (m : MethodId) (x0 : Addr) (x1 : Addr) : entryFrame m #[(.ref x0), (.ref x1)] 3 = mkF m 0 #[.val (.ref x0), .val (.ref x1), .unset] [] := by first | (simp [entryFrame, mkF, argsToLocals, Value.category]; done) | rfl
set_option maxRecDepth 65536 in
set_option maxHeartbeats 40000000 in
theorem rmRemHH (l : Launch) (Z : State) (az : Array Value) (hw : ∀ d ∈ tables_1, d.before az Z = true) (ws : List Jvm.Cond) (a0 : Addr) (a1 : Addr) (u : Addr) (w : Addr) (nu : Value) (pu : Value) (nw : Value) (pw : Value) (tu : Int64) (tw : Int64) (h0 : Heap) (n0 : Nat) (Z0 : n0 ≤ h0.size) (F0 : Exa Z h0 a1 cL) (F1 : Fld Z h0 a1 cL "prev" dL (.ref u)) (F2 : Fld Z h0 a1 cL "next" dL (.ref w)) (F3 : Exa Z h0 u cH) (F4 : Fld Z h0 u cL "next" dL nu) (F5 : Fld Z h0 u cL "prev" dL pu) (F6 : Exa Z h0 w cH) (F7 : Fld Z h0 w cL "next" dL nw) (F8 : Fld Z h0 w cL "prev" dL pw) (F9 : Fld Z h0 u cH "tick" "J" (.long tu)) (F10 : Fld Z h0 w cH "tick" "J" (.long tw)) (Ne0 : a1 ≠ u) (Ne1 : a1 ≠ w) (Ne2 : u ≠ w) (Ge0 : n0 ≤ a1) (Ge1 : n0 ≤ u) (Ge2 : n0 ≤ w) :
    MetFree l y8 (head1 (Jvm.Cond.code y8 prog_4_method_6_code 3 none :: ws) ({ frames := 2, cells := 0, slots := 0, locals := 32 } : Room)) (fun a U => a = #[(.ref a0), (.ref a1)] ∧ Z.Warmed39 U.vm ∧ U.heap = h0) (fun _ _ _ _ _ => True) (fun _ U o U' => ∃ v L, o = .returned v ∧ QRemHH Z a0 a1 u w nu pu nw pw tu tw h0 n0 v U'.heap L ∧ FrameEnd U o U' L ({ frames := 2, cells := 0, slots := 0, locals := 32 } : Room).cells ({ frames := 2, cells := 0, slots := 0, locals := 32 } : Room).slots) := by
  refine MetFree.of_bodySF (plainFor_of_name own_pn_com_example_admit_one_admitone_engine_DueOrder) hisR ?_
  intro p e s m args below meth c s₁ Bd hml0 hP hK
  obtain ⟨rfl, hZ, hh⟩ := hP
  have hx := Bd.exec
  have hby := Bd.bytes
  have hml : c.maxLocals = 3 := hml0
  have hown : s.vm.findClass cD = some m.cls := findClass_of_methodNamed Bd.named
  have hnm := (name_of_methodNamed Bd.named Bd.method).1
  have X0 : Stand p l e ({ frames := 2, cells := 0, slots := 0, locals := 32 } : Room) s m #[(.ref a0), (.ref a1)] below meth c s₁ [] 0 0 := Stand.of_body Bd
  have e0 : s₁.heap = h0 := by rw [← hh, Bd.state]; rfl
  have N0 := Fr.nil n0
  have Kp0 : Keep h0 h0 [u, w, a1] := Keep.refl _ _
  refine Goes.start ?_
  refine Gb (B := s₁.setTop (mkF m 0 #[.val (.ref a0), .val (.ref a1), .unset] [])) (fun t k => castTop (efRemHH m a0 a1) k) ?_
  refine Gb (fun _ => XS.aloadN X0.here hx rfl (hb hby d11_0) rfl rfl) ?_
  refine Gb (fun _ => getFR X0 hx hZ hown (wq hw 53 rfl) e0 F1 (g := (mkF m 1 (sh8 a0 a1) [(.ref a1)])) rfl rfl (hb hby d11_1)) ?_
  refine Gb (fun _ => XS.astoreN X0.here hx rfl (hb hby d11_4) rfl rfl (l' := (sh12 a0 a1 u)) rfl) ?_
  refine Gb (fun _ => XS.aloadN X0.here hx rfl (hb hby d11_5) rfl rfl) ?_
  refine Gb (fun _ => XS.aloadN X0.here hx rfl (hb hby d11_6) rfl rfl) ?_
  refine Gb (fun _ => getFR X0 hx hZ hown (wq hw 55 rfl) e0 F2 (g := (mkF m 7 (sh12 a0 a1 u) [(.ref a1), (.ref u)])) rfl rfl (hb hby d11_7)) ?_
  obtain ⟨T3, h3, X3, e3, W3, st3⟩ := putFR X0 hx hZ hown (wq hw 55 rfl) e0 F4 F3 (wq hw 49 rfl) (wq hw 39 rfl) (ty := (.object cL)) (by decide) rfl rfl (g := (mkF m 10 (sh12 a0 a1 u) [(.ref w), (.ref u)])) rfl rfl (hb hby d11_10)
  have f4 := F0.wr W3
  have f5 := F1.other W3 (Or.inl Ne0)
  have f6 := F2.other W3 (Or.inl Ne0)
  have f7 := F3.wr W3
  have f8 := F5.other W3 (Or.inr (slot_ne (Or.inl (wq hw 51 rfl)) (Or.inl (wq hw 49 rfl)) (by decide) (t := (.object cL)) (t' := (.object cL)) (by decide) (by decide)))
  have f9 := F6.wr W3
  have f10 := F7.other W3 (Or.inl (Ne.symm Ne2))
  have f11 := F8.other W3 (Or.inl (Ne.symm Ne2))
  have f12 := F9.other W3 (Or.inr (slot_ne (Or.inr (wq hw 47 rfl)) (Or.inl (wq hw 49 rfl)) (by decide) (t := .long) (t' := (.object cL)) (by decide) (by decide)))
  have f13 := F10.other W3 (Or.inl (Ne.symm Ne2))
  have f14 : Fld Z h3 u cL "next" dL (.ref w) := F4.same W3
  have Kp3 : Keep h0 h3 [u, w, a1] := Kp0.wr W3 (Or.inl om0)
  have Z15 := Nat.le_trans Z0 (Nat.le_of_eq W3.size.symm)
  have N16 := Fr.snoc X3 N0 Ge1
  refine Gb st3 ?_
  refine Gb (fun _ => XS.aloadN X3.here hx rfl (hb hby d11_13) rfl rfl) ?_
  refine Gb (fun _ => getFR X3 hx hZ hown (wq hw 55 rfl) e3 f6 (g := (mkF m 14 (sh12 a0 a1 u) [(.ref a1)])) rfl rfl (hb hby d11_14)) ?_
  refine Gb (fun _ => XS.aloadN X3.here hx rfl (hb hby d11_17) rfl rfl) ?_
  obtain ⟨T18, h18, X18, e18, W18, st18⟩ := putFR X3 hx hZ hown (wq hw 53 rfl) e3 f11 f9 (wq hw 51 rfl) (wq hw 39 rfl) (ty := (.object cL)) (by decide) rfl rfl (g := (mkF m 18 (sh12 a0 a1 u) [(.ref u), (.ref w)])) rfl rfl (hb hby d11_18)
  have f19 := f4.wr W18
  have f20 := f5.other W18 (Or.inl Ne1)
  have f21 := f6.other W18 (Or.inl Ne1)
  have f22 := f7.wr W18
  have f23 := f8.other W18 (Or.inl Ne2)
  have f24 := f9.wr W18
  have f25 := f10.other W18 (Or.inr (slot_ne (Or.inl (wq hw 49 rfl)) (Or.inl (wq hw 51 rfl)) (by decide) (t := (.object cL)) (t' := (.object cL)) (by decide) (by decide)))
  have f26 := f12.other W18 (Or.inl Ne2)
  have f27 := f13.other W18 (Or.inr (slot_ne (Or.inr (wq hw 47 rfl)) (Or.inl (wq hw 51 rfl)) (by decide) (t := .long) (t' := (.object cL)) (by decide) (by decide)))
  have f28 := f14.other W18 (Or.inl Ne2)
  have f29 : Fld Z h18 w cL "prev" dL (.ref u) := f11.same W18
  have Kp18 : Keep h0 h18 [u, w, a1] := Kp3.wr W18 (Or.inl om1)
  have Z30 := Nat.le_trans Z15 (Nat.le_of_eq W18.size.symm)
  have N31 := Fr.snoc X18 N16 Ge2
  refine Gb st18 ?_
  refine Gb (fun _ => XS.aloadN X18.here hx rfl (hb hby d11_21) rfl rfl) ?_
  refine Gb (fun _ => XS.aconstNull X18.here hx rfl (hb hby d11_22)) ?_
  obtain ⟨T32, h32, X32, e32, W32, st32⟩ := putFR X18 hx hZ hown (wq hw 55 rfl) e18 f21 f19 (wq hw 56 rfl) (wq hw 14 rfl) (ty := (.object cL)) (by decide) rfl rfl (g := (mkF m 23 (sh12 a0 a1 u) [.null, (.ref a1)])) rfl rfl (hb hby d11_23)
  have f33 := f19.wr W32
  have f34 := f20.other W32 (Or.inr (slot_ne (Or.inl (wq hw 54 rfl)) (Or.inl (wq hw 56 rfl)) (by decide) (t := (.object cL)) (t' := (.object cL)) (by decide) (by decide)))
  have f35 := f22.wr W32
  have f36 := f23.other W32 (Or.inl (Ne.symm Ne0))
  have f37 := f24.wr W32
  have f38 := f25.other W32 (Or.inl (Ne.symm Ne1))
  have f39 := f26.other W32 (Or.inl (Ne.symm Ne0))
  have f40 := f27.other W32 (Or.inl (Ne.symm Ne1))
  have f41 := f28.other W32 (Or.inl (Ne.symm Ne0))
  have f42 := f29.other W32 (Or.inl (Ne.symm Ne1))
  have f43 : Fld Z h32 a1 cL "next" dL .null := f21.same W32
  have Kp32 : Keep h0 h32 [u, w, a1] := Kp18.wr W32 (Or.inl om2)
  have Z44 := Nat.le_trans Z30 (Nat.le_of_eq W32.size.symm)
  have N45 := Fr.snoc X32 N31 Ge0
  refine Gb st32 ?_
  refine Gb (fun _ => XS.aloadN X32.here hx rfl (hb hby d11_26) rfl rfl) ?_
  refine Gb (fun _ => XS.aconstNull X32.here hx rfl (hb hby d11_27)) ?_
  obtain ⟨T46, h46, X46, e46, W46, st46⟩ := putFR X32 hx hZ hown (wq hw 53 rfl) e32 f34 f33 (wq hw 54 rfl) (wq hw 14 rfl) (ty := (.object cL)) (by decide) rfl rfl (g := (mkF m 28 (sh12 a0 a1 u) [.null, (.ref a1)])) rfl rfl (hb hby d11_28)
  have f47 := f33.wr W46
  have f48 := f35.wr W46
  have f49 := f36.other W46 (Or.inl (Ne.symm Ne0))
  have f50 := f37.wr W46
  have f51 := f38.other W46 (Or.inl (Ne.symm Ne1))
  have f52 := f39.other W46 (Or.inl (Ne.symm Ne0))
  have f53 := f40.other W46 (Or.inl (Ne.symm Ne1))
  have f54 := f41.other W46 (Or.inl (Ne.symm Ne0))
  have f55 := f42.other W46 (Or.inl (Ne.symm Ne1))
  have f56 := f43.other W46 (Or.inr (slot_ne (Or.inl (wq hw 56 rfl)) (Or.inl (wq hw 54 rfl)) (by decide) (t := (.object cL)) (t' := (.object cL)) (by decide) (by decide)))
  have f57 : Fld Z h46 a1 cL "prev" dL .null := f34.same W46
  have Kp46 : Keep h0 h46 [u, w, a1] := Kp32.wr W46 (Or.inl om2)
  have Z58 := Nat.le_trans Z44 (Nat.le_of_eq W46.size.symm)
  have N59 := Fr.snoc X46 N45 Ge0
  refine Gb st46 ?_
  refine Gb (fun _ => XS.aloadN X46.here hx rfl (hb hby d11_31) rfl rfl) ?_
  refine Gb (fun _ => getFR X46 hx hZ hown (wq hw 55 rfl) e46 f54 (g := (mkF m 32 (sh12 a0 a1 u) [(.ref u)])) rfl rfl (hb hby d11_32)) ?_
  refine Gb (fun _ => XS.aloadN X46.here hx rfl (hb hby d11_35) rfl rfl) ?_
  refine Gb (fun _ => Jvm.RoadKit.acmp (g := (mkF m 36 (sh12 a0 a1 u) [(.ref u), (.ref w)])) X46 hx rfl rfl rfl (pc0 := 36) (pc' := 47) (same := false) rfl (hb hby d11_36) rfl (decide_eq_false fun q => (Ne.symm Ne2) (Value.ref.inj q)) (by decide) (by decide)) ?_
  obtain ⟨fs, hr, hrun, hended, hW, hsame⟩ := X46.leave (v := none) (fun _ => rfl)
  refine Goes.mk _ _ ?_ ⟨hrun, hended, _, _, rfl, ?_, ⟨_, rfl⟩, hW, hsame.mono (by decide) (by decide)⟩
  · exact X46.returnOut hx Bd.returns (hb hby d11_47) hr
  · show QRemHH Z a0 a1 u w nu pu nw pw tu tw h0 n0 _ T46.heap _
    rw [e46]
    exact ⟨rfl, N59, Kp46, f56, f57, f54, f49, f51, f55, f52, f53⟩
theorem d11_39 : decode prog_4_method_6_code 39 = .ok (.aload_n 0, 1) := by decide +kernel
theorem d11_40 : decode prog_4_method_6_code 40 = .ok (.aload_n 2, 1) := by decide +kernel
theorem d11_41 : decode prog_4_method_6_code 41 = .ok (.checkcast 9, 3) := by decide +kernel
theorem d11_44 : decode prog_4_method_6_code 44 = .ok (.invokevirtual 40, 3) := by decide +kernel
theorem own_pd4 : parseMethodDescriptor "(Lcom/example/admit_one/admitone/engine/DueOrder$Head;)V" = some ⟨[(.object cH)], none⟩ := by decide +kernel
def QRemL1_1 (Z : State) (a0 : Addr) (a1 : Addr) (ar : Addr) (kA : ClassId) (x1 : Addr) (t1 : Int64) (nu : Value) (pu : Value) (h0 : Heap) (n0 : Nat) (v : Option Value) (h : Heap) (L : List Loc) : Prop := v = none ∧ Fr n0 L ∧ Keep h0 h [x1, a1, a0, ar] ∧ Fld Z h a0 cD "heads" dA (.ref ar) ∧ Fld Z h a0 cD "count" "I" (.int (0 : Int32)) ∧ Arv Z h ar kA (.object cH) (4 : Int32) [.null, .null, .null, .null] .null ∧ Fld Z h a1 cL "next" dL .null ∧ Fld Z h a1 cL "prev" dL .null
theorem efRemL1_1 (m : MethodId) (x0 : Addr) (x1 : Addr) : entryFrame m #[(.ref x0), (.ref x1)] 3 = mkF m 0 #[.val (.ref x0), .val (.ref x1), .unset] [] := by first | (simp [entryFrame, mkF, argsToLocals, Value.category]; done) | rfl
set_option maxRecDepth 65536 in
set_option maxHeartbeats 40000000 in
theorem rmRemL1_1 (l : Launch) (Z : State) (az : Array Value) (hw : ∀ d ∈ tables_1, d.before az Z = true) (ws : List Jvm.Cond) (a0 : Addr) (a1 : Addr) (ar : Addr) (kA : ClassId) (x1 : Addr) (t1 : Int64) (nu : Value) (pu : Value) (h0 : Heap) (n0 : Nat) (Z0 : n0 ≤ h0.size) (F0 : Exa Z h0 a0 cD) (F1 : Fld Z h0 a0 cD "heads" dA (.ref ar)) (F2 : Fld Z h0 a0 cD "count" "I" (.int (1 : Int32))) (F3 : Arv Z h0 ar kA (.object cH) (4 : Int32) [(.ref x1), .null, .null, .null] .null) (F4 : Ovr Z kA cH) (F5 : Exa Z h0 x1 cH) (F6 : Fld Z h0 x1 cH "tick" "J" (.long t1)) (F7 : Exa Z h0 a1 cL) (F8 : Fld Z h0 a1 cL "prev" dL (.ref x1)) (F9 : Fld Z h0 a1 cL "next" dL (.ref x1)) (F10 : Fld Z h0 x1 cL "next" dL nu) (F11 : Fld Z h0 x1 cL "prev" dL pu) (Ne0 : a0 ≠ ar) (Ne1 : x1 ≠ a0) (Ne2 : x1 ≠ ar) (Ne3 : a1 ≠ a0) (Ne4 : a1 ≠ ar) (Ne5 : a1 ≠ x1) (Ge0 : n0 ≤ a0) (Ge1 : n0 ≤ ar) (Ge2 : n0 ≤ a1) (Ge3 : n0 ≤ x1) (HD : fDue1 t1 t1 = (1 : Int32)) :
    MetFree l y8 (head1 (Jvm.Cond.code y8 prog_4_method_6_code 3 none :: ws) ({ frames := 2, cells := 0, slots := 0, locals := 32 } : Room)) (fun a U => a = #[(.ref a0), (.ref a1)] ∧ Z.Warmed39 U.vm ∧ U.heap = h0) (fun _ _ _ _ _ => True) (fun _ U o U' => ∃ v L, o = .returned v ∧ QRemL1_1 Z a0 a1 ar kA x1 t1 nu pu h0 n0 v U'.heap L ∧ FrameEnd U o U' L ({ frames := 2, cells := 0, slots := 0, locals := 32 } : Room).cells ({ frames := 2, cells := 0, slots := 0, locals := 32 } : Room).slots) := by
  refine MetFree.of_bodySF (plainFor_of_name own_pn_com_example_admit_one_admitone_engine_DueOrder) hisR ?_
  intro p e s m args below meth c s₁ Bd hml0 hP hK
  obtain ⟨rfl, hZ, hh⟩ := hP
  have hx := Bd.exec
  have hby := Bd.bytes
  have hml : c.maxLocals = 3 := hml0
  have hown : s.vm.findClass cD = some m.cls := findClass_of_methodNamed Bd.named
  have hnm := (name_of_methodNamed Bd.named Bd.method).1
  have X0 : Stand p l e ({ frames := 2, cells := 0, slots := 0, locals := 32 } : Room) s m #[(.ref a0), (.ref a1)] below meth c s₁ [] 0 0 := Stand.of_body Bd
  have e0 : s₁.heap = h0 := by rw [← hh, Bd.state]; rfl
  have N0 := Fr.nil n0
  have Kp0 : Keep h0 h0 [x1, a1, a0, ar] := Keep.refl _ _
  refine Goes.start ?_
  refine Gb (B := s₁.setTop (mkF m 0 #[.val (.ref a0), .val (.ref a1), .unset] [])) (fun t k => castTop (efRemL1_1 m a0 a1) k) ?_
  refine Gb (fun _ => XS.aloadN X0.here hx rfl (hb hby d11_0) rfl rfl) ?_
  refine Gb (fun _ => getFR X0 hx hZ hown (wq hw 53 rfl) e0 F8 (g := (mkF m 1 (sh8 a0 a1) [(.ref a1)])) rfl rfl (hb hby d11_1)) ?_
  refine Gb (fun _ => XS.astoreN X0.here hx rfl (hb hby d11_4) rfl rfl (l' := (sh12 a0 a1 x1)) rfl) ?_
  refine Gb (fun _ => XS.aloadN X0.here hx rfl (hb hby d11_5) rfl rfl) ?_
  refine Gb (fun _ => XS.aloadN X0.here hx rfl (hb hby d11_6) rfl rfl) ?_
  refine Gb (fun _ => getFR X0 hx hZ hown (wq hw 55 rfl) e0 F9 (g := (mkF m 7 (sh12 a0 a1 x1) [(.ref a1), (.ref x1)])) rfl rfl (hb hby d11_7)) ?_
  obtain ⟨T3, h3, X3, e3, W3, st3⟩ := putFR X0 hx hZ hown (wq hw 55 rfl) e0 F10 F5 (wq hw 49 rfl) (wq hw 39 rfl) (ty := (.object cL)) (by decide) rfl rfl (g := (mkF m 10 (sh12 a0 a1 x1) [(.ref x1), (.ref x1)])) rfl rfl (hb hby d11_10)
  have f4 := F0.wr W3
  have f5 := F1.other W3 (Or.inl (Ne.symm Ne1))
  have f6 := F2.other W3 (Or.inl (Ne.symm Ne1))
  have f7 := F3.other W3 (Ne.symm Ne2)
  have f8 := F5.wr W3
  have f9 := F6.other W3 (Or.inr (slot_ne (Or.inr (wq hw 47 rfl)) (Or.inl (wq hw 49 rfl)) (by decide) (t := .long) (t' := (.object cL)) (by decide) (by decide)))
  have f10 := F7.wr W3
  have f11 := F8.other W3 (Or.inl Ne5)
  have f12 := F9.other W3 (Or.inl Ne5)
  have f13 := F11.other W3 (Or.inr (slot_ne (Or.inl (wq hw 51 rfl)) (Or.inl (wq hw 49 rfl)) (by decide) (t := (.object cL)) (t' := (.object cL)) (by decide) (by decide)))
  have f14 : Fld Z h3 x1 cL "next" dL (.ref x1) := F10.same W3
  have Kp3 : Keep h0 h3 [x1, a1, a0, ar] := Kp0.wr W3 (Or.inl om0)
  have Z15 := Nat.le_trans Z0 (Nat.le_of_eq W3.size.symm)
  have N16 := Fr.snoc X3 N0 Ge3
  refine Gb st3 ?_
  refine Gb (fun _ => XS.aloadN X3.here hx rfl (hb hby d11_13) rfl rfl) ?_
  refine Gb (fun _ => getFR X3 hx hZ hown (wq hw 55 rfl) e3 f12 (g := (mkF m 14 (sh12 a0 a1 x1) [(.ref a1)])) rfl rfl (hb hby d11_14)) ?_
  refine Gb (fun _ => XS.aloadN X3.here hx rfl (hb hby d11_17) rfl rfl) ?_
  obtain ⟨T18, h18, X18, e18, W18, st18⟩ := putFR X3 hx hZ hown (wq hw 53 rfl) e3 f13 f8 (wq hw 51 rfl) (wq hw 39 rfl) (ty := (.object cL)) (by decide) rfl rfl (g := (mkF m 18 (sh12 a0 a1 x1) [(.ref x1), (.ref x1)])) rfl rfl (hb hby d11_18)
  have f19 := f4.wr W18
  have f20 := f5.other W18 (Or.inl (Ne.symm Ne1))
  have f21 := f6.other W18 (Or.inl (Ne.symm Ne1))
  have f22 := f7.other W18 (Ne.symm Ne2)
  have f23 := f8.wr W18
  have f24 := f9.other W18 (Or.inr (slot_ne (Or.inr (wq hw 47 rfl)) (Or.inl (wq hw 51 rfl)) (by decide) (t := .long) (t' := (.object cL)) (by decide) (by decide)))
  have f25 := f10.wr W18
  have f26 := f11.other W18 (Or.inl Ne5)
  have f27 := f12.other W18 (Or.inl Ne5)
  have f28 := f14.other W18 (Or.inr (slot_ne (Or.inl (wq hw 49 rfl)) (Or.inl (wq hw 51 rfl)) (by decide) (t := (.object cL)) (t' := (.object cL)) (by decide) (by decide)))
  have f29 : Fld Z h18 x1 cL "prev" dL (.ref x1) := f13.same W18
  have Kp18 : Keep h0 h18 [x1, a1, a0, ar] := Kp3.wr W18 (Or.inl om0)
  have Z30 := Nat.le_trans Z15 (Nat.le_of_eq W18.size.symm)
  have N31 := Fr.snoc X18 N16 Ge3
  refine Gb st18 ?_
  refine Gb (fun _ => XS.aloadN X18.here hx rfl (hb hby d11_21) rfl rfl) ?_
  refine Gb (fun _ => XS.aconstNull X18.here hx rfl (hb hby d11_22)) ?_
  obtain ⟨T32, h32, X32, e32, W32, st32⟩ := putFR X18 hx hZ hown (wq hw 55 rfl) e18 f27 f25 (wq hw 56 rfl) (wq hw 14 rfl) (ty := (.object cL)) (by decide) rfl rfl (g := (mkF m 23 (sh12 a0 a1 x1) [.null, (.ref a1)])) rfl rfl (hb hby d11_23)
  have f33 := f19.wr W32
  have f34 := f20.other W32 (Or.inl (Ne.symm Ne3))
  have f35 := f21.other W32 (Or.inl (Ne.symm Ne3))
  have f36 := f22.other W32 (Ne.symm Ne4)
  have f37 := f23.wr W32
  have f38 := f24.other W32 (Or.inl (Ne.symm Ne5))
  have f39 := f25.wr W32
  have f40 := f26.other W32 (Or.inr (slot_ne (Or.inl (wq hw 54 rfl)) (Or.inl (wq hw 56 rfl)) (by decide) (t := (.object cL)) (t' := (.object cL)) (by decide) (by decide)))
  have f41 := f28.other W32 (Or.inl (Ne.symm Ne5))
  have f42 := f29.other W32 (Or.inl (Ne.symm Ne5))
  have f43 : Fld Z h32 a1 cL "next" dL .null := f27.same W32
  have Kp32 : Keep h0 h32 [x1, a1, a0, ar] := Kp18.wr W32 (Or.inl om1)
  have Z44 := Nat.le_trans Z30 (Nat.le_of_eq W32.size.symm)
  have N45 := Fr.snoc X32 N31 Ge2
  refine Gb st32 ?_
  refine Gb (fun _ => XS.aloadN X32.here hx rfl (hb hby d11_26) rfl rfl) ?_
  refine Gb (fun _ => XS.aconstNull X32.here hx rfl (hb hby d11_27)) ?_
  obtain ⟨T46, h46, X46, e46, W46, st46⟩ := putFR X32 hx hZ hown (wq hw 53 rfl) e32 f40 f39 (wq hw 54 rfl) (wq hw 14 rfl) (ty := (.object cL)) (by decide) rfl rfl (g := (mkF m 28 (sh12 a0 a1 x1) [.null, (.ref a1)])) rfl rfl (hb hby d11_28)
  have f47 := f33.wr W46
  have f48 := f34.other W46 (Or.inl (Ne.symm Ne3))
  have f49 := f35.other W46 (Or.inl (Ne.symm Ne3))
  have f50 := f36.other W46 (Ne.symm Ne4)
  have f51 := f37.wr W46
  have f52 := f38.other W46 (Or.inl (Ne.symm Ne5))
  have f53 := f39.wr W46
  have f54 := f41.other W46 (Or.inl (Ne.symm Ne5))
  have f55 := f42.other W46 (Or.inl (Ne.symm Ne5))
  have f56 := f43.other W46 (Or.inr (slot_ne (Or.inl (wq hw 56 rfl)) (Or.inl (wq hw 54 rfl)) (by decide) (t := (.object cL)) (t' := (.object cL)) (by decide) (by decide)))
  have f57 : Fld Z h46 a1 cL "prev" dL .null := f40.same W46
  have Kp46 : Keep h0 h46 [x1, a1, a0, ar] := Kp32.wr W46 (Or.inl om1)
  have Z58 := Nat.le_trans Z44 (Nat.le_of_eq W46.size.symm)
  have N59 := Fr.snoc X46 N45 Ge2
  refine Gb st46 ?_
  refine Gb (fun _ => XS.aloadN X46.here hx rfl (hb hby d11_31) rfl rfl) ?_
  refine Gb (B := T46.setTop (mkF m 41 (sh12 a0 a1 x1) [(.ref x1), (.ref a0)])) (fun t k => ?_) ?_
  · refine getFR X46 hx hZ hown (wq hw 55 rfl) e46 f54 (g := (mkF m 32 (sh12 a0 a1 x1) [(.ref x1)])) rfl rfl (hb hby d11_32) ?_
    refine XS.aloadN X46.here hx rfl (hb hby d11_35) rfl rfl ?_
    refine Jvm.RoadKit.acmp (g := (mkF m 36 (sh12 a0 a1 x1) [(.ref x1), (.ref x1)])) X46 hx rfl rfl rfl (pc0 := 36) (pc' := 39) (same := true) rfl (hb hby d11_36) rfl (decide_eq_true rfl) (by decide) (by decide) ?_
    refine XS.aloadN X46.here hx rfl (hb hby d11_39) rfl rfl ?_
    refine XS.aloadN X46.here hx rfl (hb hby d11_40) rfl rfl ?_
    exact k
  obtain ⟨T61, X61, e61, st61⟩ := castY X46 hx hZ hown (wq hw 9 rfl) e46 (Ins.self f51) (g := (mkF m 41 (sh12 a0 a1 x1) [(.ref x1), (.ref a0)])) rfl rfl (hb hby d11_41)
  refine Gb st61 ?_
  obtain ⟨_, T62, L62, Lc62, X62, hF62, hQ62, st62⟩ := own_cp X61 hx hZ hown (wq hw 77 rfl) (wq hw 79 rfl) (wq hw 1 rfl) (wq hw 78 rfl) (wq hw 2 rfl) (wq hw 80 rfl) (rmDrop1_1 l Z az hw [] a0 x1 ar kA t1 h46 n0 Z58 f47 f48 f49 f50 F4 f51 f52 Ne0 Ne1 Ne2 Ge0 Ge1 HD) (W := 0) (g := (mkF m 44 (sh12 a0 a1 x1) [(.ref x1), (.ref a0)])) rfl (by rw [hml]; rfl) f47 (argsL := [(.ref x1)]) (rest := []) rfl (lenOf own_pd4 rfl) rfl (hb hby d11_44) e61 N59 (c' := 0) (s' := 0)
  obtain ⟨rfl, N62q, K62, f63, f64, f65⟩ := hQ62
  have f66 := f47.keep K62
  have f67 := f51.keep K62
  have f68 := f52.keep K62 (ninS Ne2 (ninS Ne1 nin0))
  have f69 := f53.keep K62
  have f70 := f54.keep K62 (ninS Ne2 (ninS Ne1 nin0))
  have f71 := f55.keep K62 (ninS Ne2 (ninS Ne1 nin0))
  have f72 := f56.keep K62 (ninS Ne4 (ninS Ne3 nin0))
  have f73 := f57.keep K62 (ninS Ne4 (ninS Ne3 nin0))
  have Kp62 : Keep h0 T62.heap [x1, a1, a0, ar] := Kp46.trans K62 (allS (Or.inl om3) (allS (Or.inl om2) all0))
  have Z74 := Nat.le_trans Z58 K62.1
  have N75 := hF62 N62q
  refine Gb st62 ?_
  obtain ⟨fs, hr, hrun, hended, hW, hsame⟩ := X62.leave (v := none) (fun _ => rfl)
  refine Goes.mk _ _ ?_ ⟨hrun, hended, _, _, rfl, ?_, ⟨_, rfl⟩, hW, hsame.mono (by decide) (by decide)⟩
  · exact X62.returnOut hx Bd.returns (hb hby d11_47) hr
  · show QRemL1_1 Z a0 a1 ar kA x1 t1 nu pu h0 n0 _ T62.heap _
    exact ⟨rfl, N75, Kp62, f63, f64, f65, f72, f73⟩
def QRemL2_1 (Z : State) (a0 : Addr) (a1 : Addr) (ar : Addr) (kA : ClassId) (x1 : Addr) (x2 : Addr) (t1 : Int64) (t2 : Int64) (nu : Value) (pu : Value) (h0 : Heap) (n0 : Nat) (v : Option Value) (h : Heap) (L : List Loc) : Prop := v = none ∧ Fr n0 L ∧ Keep h0 h [x1, a1, a0, ar] ∧ Fld Z h a0 cD "heads" dA (.ref ar) ∧ Fld Z h a0 cD "count" "I" (.int (1 : Int32)) ∧ Arv Z h ar kA (.object cH) (4 : Int32) [(.ref x2), .null, .null, .null] .null ∧ Fld Z h a1 cL "next" dL .null ∧ Fld Z h a1 cL "prev" dL .null
theorem efRemL2_1 (m : MethodId) (x0 : Addr) (x1 : Addr) : entryFrame m #[(.ref x0), (.ref x1)] 3 = mkF m 0 #[.val (.ref x0), .val (.ref x1), .unset] [] := by first | (simp [entryFrame, mkF, argsToLocals, Value.category]; done) | rfl
set_option maxRecDepth 65536 in
set_option maxHeartbeats 40000000 in
theorem rmRemL2_1 (l : Launch) (Z : State) (az : Array Value) (hw : ∀ d ∈ tables_1, d.before az Z = true) (ws : List Jvm.Cond) (a0 : Addr) (a1 : Addr) (ar : Addr) (kA : ClassId) (x1 : Addr) (x2 : Addr) (t1 : Int64) (t2 : Int64) (nu : Value) (pu : Value) (h0 : Heap) (n0 : Nat) (Z0 : n0 ≤ h0.size) (F0 : Exa Z h0 a0 cD) (F1 : Fld Z h0 a0 cD "heads" dA (.ref ar)) (F2 : Fld Z h0 a0 cD "count" "I" (.int (2 : Int32))) (F3 : Arv Z h0 ar kA (.object cH) (4 : Int32) [(.ref x1), (.ref x2), .null, .null] .null) (F4 : Ovr Z kA cH) (F5 : Exa Z h0 x1 cH) (F6 : Fld Z h0 x1 cH "tick" "J" (.long t1)) (F7 : Exa Z h0 x2 cH) (F8 : Fld Z h0 x2 cH "tick" "J" (.long t2)) (F9 : Exa Z h0 a1 cL) (F10 : Fld Z h0 a1 cL "prev" dL (.ref x1)) (F11 : Fld Z h0 a1 cL "next" dL (.ref x1)) (F12 : Fld Z h0 x1 cL "next" dL nu) (F13 : Fld Z h0 x1 cL "prev" dL pu) (Ne0 : a0 ≠ ar) (Ne1 : x1 ≠ a0) (Ne2 : x2 ≠ a0) (Ne3 : x1 ≠ ar) (Ne4 : x2 ≠ ar) (Ne5 : a1 ≠ a0) (Ne6 : a1 ≠ ar) (Ne7 : a1 ≠ x1) (Ne8 : a1 ≠ x2) (Ne9 : x1 ≠ x2) (Ge0 : n0 ≤ a0) (Ge1 : n0 ≤ ar) (Ge2 : n0 ≤ a1) (Ge3 : n0 ≤ x1) (HD : fDue2 t1 t1 t2 = (1 : Int32)) :
    MetFree l y8 (head1 (Jvm.Cond.code y8 prog_4_method_6_code 3 none :: ws) ({ frames := 2, cells := 0, slots := 0, locals := 32 } : Room)) (fun a U => a = #[(.ref a0), (.ref a1)] ∧ Z.Warmed39 U.vm ∧ U.heap = h0) (fun _ _ _ _ _ => True) (fun _ U o U' => ∃ v L, o = .returned v ∧ QRemL2_1 Z a0 a1 ar kA x1 x2 t1 t2 nu pu h0 n0 v U'.heap L ∧ FrameEnd U o U' L ({ frames := 2, cells := 0, slots := 0, locals := 32 } : Room).cells ({ frames := 2, cells := 0, slots := 0, locals := 32 } : Room).slots) := by
  refine MetFree.of_bodySF (plainFor_of_name own_pn_com_example_admit_one_admitone_engine_DueOrder) hisR ?_
  intro p e s m args below meth c s₁ Bd hml0 hP hK
  obtain ⟨rfl, hZ, hh⟩ := hP
  have hx := Bd.exec
  have hby := Bd.bytes
  have hml : c.maxLocals = 3 := hml0
  have hown : s.vm.findClass cD = some m.cls := findClass_of_methodNamed Bd.named
  have hnm := (name_of_methodNamed Bd.named Bd.method).1
  have X0 : Stand p l e ({ frames := 2, cells := 0, slots := 0, locals := 32 } : Room) s m #[(.ref a0), (.ref a1)] below meth c s₁ [] 0 0 := Stand.of_body Bd
  have e0 : s₁.heap = h0 := by rw [← hh, Bd.state]; rfl
  have N0 := Fr.nil n0
  have Kp0 : Keep h0 h0 [x1, a1, a0, ar] := Keep.refl _ _
  refine Goes.start ?_
  refine Gb (B := s₁.setTop (mkF m 0 #[.val (.ref a0), .val (.ref a1), .unset] [])) (fun t k => castTop (efRemL2_1 m a0 a1) k) ?_
  refine Gb (fun _ => XS.aloadN X0.here hx rfl (hb hby d11_0) rfl rfl) ?_
  refine Gb (fun _ => getFR X0 hx hZ hown (wq hw 53 rfl) e0 F10 (g := (mkF m 1 (sh8 a0 a1) [(.ref a1)])) rfl rfl (hb hby d11_1)) ?_
  refine Gb (fun _ => XS.astoreN X0.here hx rfl (hb hby d11_4) rfl rfl (l' := (sh12 a0 a1 x1)) rfl) ?_
  refine Gb (fun _ => XS.aloadN X0.here hx rfl (hb hby d11_5) rfl rfl) ?_
  refine Gb (fun _ => XS.aloadN X0.here hx rfl (hb hby d11_6) rfl rfl) ?_
  refine Gb (fun _ => getFR X0 hx hZ hown (wq hw 55 rfl) e0 F11 (g := (mkF m 7 (sh12 a0 a1 x1) [(.ref a1), (.ref x1)])) rfl rfl (hb hby d11_7)) ?_
  obtain ⟨T3, h3, X3, e3, W3, st3⟩ := putFR X0 hx hZ hown (wq hw 55 rfl) e0 F12 F5 (wq hw 49 rfl) (wq hw 39 rfl) (ty := (.object cL)) (by decide) rfl rfl (g := (mkF m 10 (sh12 a0 a1 x1) [(.ref x1), (.ref x1)])) rfl rfl (hb hby d11_10)
  have f4 := F0.wr W3
  have f5 := F1.other W3 (Or.inl (Ne.symm Ne1))
  have f6 := F2.other W3 (Or.inl (Ne.symm Ne1))
  have f7 := F3.other W3 (Ne.symm Ne3)
  have f8 := F5.wr W3
  have f9 := F6.other W3 (Or.inr (slot_ne (Or.inr (wq hw 47 rfl)) (Or.inl (wq hw 49 rfl)) (by decide) (t := .long) (t' := (.object cL)) (by decide) (by decide)))
  have f10 := F7.wr W3
  have f11 := F8.other W3 (Or.inl (Ne.symm Ne9))
  have f12 := F9.wr W3
  have f13 := F10.other W3 (Or.inl Ne7)
  have f14 := F11.other W3 (Or.inl Ne7)
  have f15 := F13.other W3 (Or.inr (slot_ne (Or.inl (wq hw 51 rfl)) (Or.inl (wq hw 49 rfl)) (by decide) (t := (.object cL)) (t' := (.object cL)) (by decide) (by decide)))
  have f16 : Fld Z h3 x1 cL "next" dL (.ref x1) := F12.same W3
  have Kp3 : Keep h0 h3 [x1, a1, a0, ar] := Kp0.wr W3 (Or.inl om0)
  have Z17 := Nat.le_trans Z0 (Nat.le_of_eq W3.size.symm)
  have N18 := Fr.snoc X3 N0 Ge3
  refine Gb st3 ?_
  refine Gb (fun _ => XS.aloadN X3.here hx rfl (hb hby d11_13) rfl rfl) ?_
  refine Gb (fun _ => getFR X3 hx hZ hown (wq hw 55 rfl) e3 f14 (g := (mkF m 14 (sh12 a0 a1 x1) [(.ref a1)])) rfl rfl (hb hby d11_14)) ?_
  refine Gb (fun _ => XS.aloadN X3.here hx rfl (hb hby d11_17) rfl rfl) ?_
  obtain ⟨T20, h20, X20, e20, W20, st20⟩ := putFR X3 hx hZ hown (wq hw 53 rfl) e3 f15 f8 (wq hw 51 rfl) (wq hw 39 rfl) (ty := (.object cL)) (by decide) rfl rfl (g := (mkF m 18 (sh12 a0 a1 x1) [(.ref x1), (.ref x1)])) rfl rfl (hb hby d11_18)
  have f21 := f4.wr W20
  have f22 := f5.other W20 (Or.inl (Ne.symm Ne1))
  have f23 := f6.other W20 (Or.inl (Ne.symm Ne1))
  have f24 := f7.other W20 (Ne.symm Ne3)
  have f25 := f8.wr W20
  have f26 := f9.other W20 (Or.inr (slot_ne (Or.inr (wq hw 47 rfl)) (Or.inl (wq hw 51 rfl)) (by decide) (t := .long) (t' := (.object cL)) (by decide) (by decide)))
  have f27 := f10.wr W20
  have f28 := f11.other W20 (Or.inl (Ne.symm Ne9))
  have f29 := f12.wr W20
  have f30 := f13.other W20 (Or.inl Ne7)
  have f31 := f14.other W20 (Or.inl Ne7)
  have f32 := f16.other W20 (Or.inr (slot_ne (Or.inl (wq hw 49 rfl)) (Or.inl (wq hw 51 rfl)) (by decide) (t := (.object cL)) (t' := (.object cL)) (by decide) (by decide)))
  have f33 : Fld Z h20 x1 cL "prev" dL (.ref x1) := f15.same W20
  have Kp20 : Keep h0 h20 [x1, a1, a0, ar] := Kp3.wr W20 (Or.inl om0)
  have Z34 := Nat.le_trans Z17 (Nat.le_of_eq W20.size.symm)
  have N35 := Fr.snoc X20 N18 Ge3
  refine Gb st20 ?_
  refine Gb (fun _ => XS.aloadN X20.here hx rfl (hb hby d11_21) rfl rfl) ?_
  refine Gb (fun _ => XS.aconstNull X20.here hx rfl (hb hby d11_22)) ?_
  obtain ⟨T36, h36, X36, e36, W36, st36⟩ := putFR X20 hx hZ hown (wq hw 55 rfl) e20 f31 f29 (wq hw 56 rfl) (wq hw 14 rfl) (ty := (.object cL)) (by decide) rfl rfl (g := (mkF m 23 (sh12 a0 a1 x1) [.null, (.ref a1)])) rfl rfl (hb hby d11_23)
  have f37 := f21.wr W36
  have f38 := f22.other W36 (Or.inl (Ne.symm Ne5))
  have f39 := f23.other W36 (Or.inl (Ne.symm Ne5))
  have f40 := f24.other W36 (Ne.symm Ne6)
  have f41 := f25.wr W36
  have f42 := f26.other W36 (Or.inl (Ne.symm Ne7))
  have f43 := f27.wr W36
  have f44 := f28.other W36 (Or.inl (Ne.symm Ne8))
  have f45 := f29.wr W36
  have f46 := f30.other W36 (Or.inr (slot_ne (Or.inl (wq hw 54 rfl)) (Or.inl (wq hw 56 rfl)) (by decide) (t := (.object cL)) (t' := (.object cL)) (by decide) (by decide)))
  have f47 := f32.other W36 (Or.inl (Ne.symm Ne7))
  have f48 := f33.other W36 (Or.inl (Ne.symm Ne7))
  have f49 : Fld Z h36 a1 cL "next" dL .null := f31.same W36
  have Kp36 : Keep h0 h36 [x1, a1, a0, ar] := Kp20.wr W36 (Or.inl om1)
  have Z50 := Nat.le_trans Z34 (Nat.le_of_eq W36.size.symm)
  have N51 := Fr.snoc X36 N35 Ge2
  refine Gb st36 ?_
  refine Gb (fun _ => XS.aloadN X36.here hx rfl (hb hby d11_26) rfl rfl) ?_
  refine Gb (fun _ => XS.aconstNull X36.here hx rfl (hb hby d11_27)) ?_
  obtain ⟨T52, h52, X52, e52, W52, st52⟩ := putFR X36 hx hZ hown (wq hw 53 rfl) e36 f46 f45 (wq hw 54 rfl) (wq hw 14 rfl) (ty := (.object cL)) (by decide) rfl rfl (g := (mkF m 28 (sh12 a0 a1 x1) [.null, (.ref a1)])) rfl rfl (hb hby d11_28)
  have f53 := f37.wr W52
  have f54 := f38.other W52 (Or.inl (Ne.symm Ne5))
  have f55 := f39.other W52 (Or.inl (Ne.symm Ne5))
  have f56 := f40.other W52 (Ne.symm Ne6)
  have f57 := f41.wr W52
  have f58 := f42.other W52 (Or.inl (Ne.symm Ne7))
  have f59 := f43.wr W52
  have f60 := f44.other W52 (Or.inl (Ne.symm Ne8))
  have f61 := f45.wr W52
  have f62 := f47.other W52 (Or.inl (Ne.symm Ne7))
  have f63 := f48.other W52 (Or.inl (Ne.symm Ne7))
  have f64 := f49.other W52 (Or.inr (slot_ne (Or.inl (wq hw 56 rfl)) (Or.inl (wq hw 54 rfl)) (by decide) (t := (.object cL)) (t' := (.object cL)) (by decide) (by decide)))
  have f65 : Fld Z h52 a1 cL "prev" dL .null := f46.same W52
  have Kp52 : Keep h0 h52 [x1, a1, a0, ar] := Kp36.wr W52 (Or.inl om1)
  have Z66 := Nat.le_trans Z50 (Nat.le_of_eq W52.size.symm)
  have N67 := Fr.snoc X52 N51 Ge2
  refine Gb st52 ?_
  refine Gb (fun _ => XS.aloadN X52.here hx rfl (hb hby d11_31) rfl rfl) ?_
  refine Gb (B := T52.setTop (mkF m 41 (sh12 a0 a1 x1) [(.ref x1), (.ref a0)])) (fun t k => ?_) ?_
  · refine getFR X52 hx hZ hown (wq hw 55 rfl) e52 f62 (g := (mkF m 32 (sh12 a0 a1 x1) [(.ref x1)])) rfl rfl (hb hby d11_32) ?_
    refine XS.aloadN X52.here hx rfl (hb hby d11_35) rfl rfl ?_
    refine Jvm.RoadKit.acmp (g := (mkF m 36 (sh12 a0 a1 x1) [(.ref x1), (.ref x1)])) X52 hx rfl rfl rfl (pc0 := 36) (pc' := 39) (same := true) rfl (hb hby d11_36) rfl (decide_eq_true rfl) (by decide) (by decide) ?_
    refine XS.aloadN X52.here hx rfl (hb hby d11_39) rfl rfl ?_
    refine XS.aloadN X52.here hx rfl (hb hby d11_40) rfl rfl ?_
    exact k
  obtain ⟨T69, X69, e69, st69⟩ := castY X52 hx hZ hown (wq hw 9 rfl) e52 (Ins.self f57) (g := (mkF m 41 (sh12 a0 a1 x1) [(.ref x1), (.ref a0)])) rfl rfl (hb hby d11_41)
  refine Gb st69 ?_
  obtain ⟨_, T70, L70, Lc70, X70, hF70, hQ70, st70⟩ := own_cp X69 hx hZ hown (wq hw 77 rfl) (wq hw 79 rfl) (wq hw 1 rfl) (wq hw 78 rfl) (wq hw 2 rfl) (wq hw 80 rfl) (rmDrop2_1 l Z az hw [] a0 x1 ar kA x2 t1 t2 h52 n0 Z66 f53 f54 f55 f56 F4 f57 f58 f59 f60 Ne0 Ne1 Ne2 Ne3 Ne4 Ge0 Ge1 HD) (W := 0) (g := (mkF m 44 (sh12 a0 a1 x1) [(.ref x1), (.ref a0)])) rfl (by rw [hml]; rfl) f53 (argsL := [(.ref x1)]) (rest := []) rfl (lenOf own_pd4 rfl) rfl (hb hby d11_44) e69 N67 (c' := 0) (s' := 0)
  obtain ⟨rfl, N70q, K70, f71, f72, f73⟩ := hQ70
  have f74 := f53.keep K70
  have f75 := f57.keep K70
  have f76 := f58.keep K70 (ninS Ne3 (ninS Ne1 nin0))
  have f77 := f59.keep K70
  have f78 := f60.keep K70 (ninS Ne4 (ninS Ne2 nin0))
  have f79 := f61.keep K70
  have f80 := f62.keep K70 (ninS Ne3 (ninS Ne1 nin0))
  have f81 := f63.keep K70 (ninS Ne3 (ninS Ne1 nin0))
  have f82 := f64.keep K70 (ninS Ne6 (ninS Ne5 nin0))
  have f83 := f65.keep K70 (ninS Ne6 (ninS Ne5 nin0))
  have Kp70 : Keep h0 T70.heap [x1, a1, a0, ar] := Kp52.trans K70 (allS (Or.inl om3) (allS (Or.inl om2) all0))
  have Z84 := Nat.le_trans Z66 K70.1
  have N85 := hF70 N70q
  refine Gb st70 ?_
  obtain ⟨fs, hr, hrun, hended, hW, hsame⟩ := X70.leave (v := none) (fun _ => rfl)
  refine Goes.mk _ _ ?_ ⟨hrun, hended, _, _, rfl, ?_, ⟨_, rfl⟩, hW, hsame.mono (by decide) (by decide)⟩
  · exact X70.returnOut hx Bd.returns (hb hby d11_47) hr
  · show QRemL2_1 Z a0 a1 ar kA x1 x2 t1 t2 nu pu h0 n0 _ T70.heap _
    exact ⟨rfl, N85, Kp70, f71, f72, f73, f82, f83⟩
def QRemL2_2 (Z : State) (a0 : Addr) (a1 : Addr) (ar : Addr) (kA : ClassId) (x1 : Addr) (x2 : Addr) (t1 : Int64) (t2 : Int64) (nu : Value) (pu : Value) (h0 : Heap) (n0 : Nat) (v : Option Value) (h : Heap) (L : List Loc) : Prop := v = none ∧ Fr n0 L ∧ Keep h0 h [x2, a1, a0, ar] ∧ Fld Z h a0 cD "heads" dA (.ref ar) ∧ Fld Z h a0 cD "count" "I" (.int (1 : Int32)) ∧ Arv Z h ar kA (.object cH) (4 : Int32) [(.ref x1), .null, .null, .null] .null ∧ Fld Z h a1 cL "next" dL .null ∧ Fld Z h a1 cL "prev" dL .null
theorem efRemL2_2 (m : MethodId) (x0 : Addr) (x1 : Addr) : entryFrame m #[(.ref x0), (.ref x1)] 3 = mkF m 0 #[.val (.ref x0), .val (.ref x1), .unset] [] := by first | (simp [entryFrame, mkF, argsToLocals, Value.category]; done) | rfl
set_option maxRecDepth 65536 in
set_option maxHeartbeats 40000000 in
theorem rmRemL2_2 (l : Launch) (Z : State) (az : Array Value) (hw : ∀ d ∈ tables_1, d.before az Z = true) (ws : List Jvm.Cond) (a0 : Addr) (a1 : Addr) (ar : Addr) (kA : ClassId) (x1 : Addr) (x2 : Addr) (t1 : Int64) (t2 : Int64) (nu : Value) (pu : Value) (h0 : Heap) (n0 : Nat) (Z0 : n0 ≤ h0.size) (F0 : Exa Z h0 a0 cD) (F1 : Fld Z h0 a0 cD "heads" dA (.ref ar)) (F2 : Fld Z h0 a0 cD "count" "I" (.int (2 : Int32))) (F3 : Arv Z h0 ar kA (.object cH) (4 : Int32) [(.ref x1), (.ref x2), .null, .null] .null) (F4 : Ovr Z kA cH) (F5 : Exa Z h0 x1 cH) (F6 : Fld Z h0 x1 cH "tick" "J" (.long t1)) (F7 : Exa Z h0 x2 cH) (F8 : Fld Z h0 x2 cH "tick" "J" (.long t2)) (F9 : Exa Z h0 a1 cL) (F10 : Fld Z h0 a1 cL "prev" dL (.ref x2)) (F11 : Fld Z h0 a1 cL "next" dL (.ref x2)) (F12 : Fld Z h0 x2 cL "next" dL nu) (F13 : Fld Z h0 x2 cL "prev" dL pu) (Ne0 : a0 ≠ ar) (Ne1 : x1 ≠ a0) (Ne2 : x2 ≠ a0) (Ne3 : x1 ≠ ar) (Ne4 : x2 ≠ ar) (Ne5 : a1 ≠ a0) (Ne6 : a1 ≠ ar) (Ne7 : a1 ≠ x1) (Ne8 : a1 ≠ x2) (Ne9 : x2 ≠ x1) (Ge0 : n0 ≤ a0) (Ge1 : n0 ≤ ar) (Ge2 : n0 ≤ a1) (Ge3 : n0 ≤ x2) (HD : fDue2 t2 t1 t2 = (2 : Int32)) :
    MetFree l y8 (head1 (Jvm.Cond.code y8 prog_4_method_6_code 3 none :: ws) ({ frames := 2, cells := 0, slots := 0, locals := 32 } : Room)) (fun a U => a = #[(.ref a0), (.ref a1)] ∧ Z.Warmed39 U.vm ∧ U.heap = h0) (fun _ _ _ _ _ => True) (fun _ U o U' => ∃ v L, o = .returned v ∧ QRemL2_2 Z a0 a1 ar kA x1 x2 t1 t2 nu pu h0 n0 v U'.heap L ∧ FrameEnd U o U' L ({ frames := 2, cells := 0, slots := 0, locals := 32 } : Room).cells ({ frames := 2, cells := 0, slots := 0, locals := 32 } : Room).slots) := by
  refine MetFree.of_bodySF (plainFor_of_name own_pn_com_example_admit_one_admitone_engine_DueOrder) hisR ?_
  intro p e s m args below meth c s₁ Bd hml0 hP hK
  obtain ⟨rfl, hZ, hh⟩ := hP
  have hx := Bd.exec
  have hby := Bd.bytes
  have hml : c.maxLocals = 3 := hml0
  have hown : s.vm.findClass cD = some m.cls := findClass_of_methodNamed Bd.named
  have hnm := (name_of_methodNamed Bd.named Bd.method).1
  have X0 : Stand p l e ({ frames := 2, cells := 0, slots := 0, locals := 32 } : Room) s m #[(.ref a0), (.ref a1)] below meth c s₁ [] 0 0 := Stand.of_body Bd
  have e0 : s₁.heap = h0 := by rw [← hh, Bd.state]; rfl
  have N0 := Fr.nil n0
  have Kp0 : Keep h0 h0 [x2, a1, a0, ar] := Keep.refl _ _
  refine Goes.start ?_
  refine Gb (B := s₁.setTop (mkF m 0 #[.val (.ref a0), .val (.ref a1), .unset] [])) (fun t k => castTop (efRemL2_2 m a0 a1) k) ?_
  refine Gb (fun _ => XS.aloadN X0.here hx rfl (hb hby d11_0) rfl rfl) ?_
  refine Gb (fun _ => getFR X0 hx hZ hown (wq hw 53 rfl) e0 F10 (g := (mkF m 1 (sh8 a0 a1) [(.ref a1)])) rfl rfl (hb hby d11_1)) ?_
  refine Gb (fun _ => XS.astoreN X0.here hx rfl (hb hby d11_4) rfl rfl (l' := (sh12 a0 a1 x2)) rfl) ?_
  refine Gb (fun _ => XS.aloadN X0.here hx rfl (hb hby d11_5) rfl rfl) ?_
  refine Gb (fun _ => XS.aloadN X0.here hx rfl (hb hby d11_6) rfl rfl) ?_
  refine Gb (fun _ => getFR X0 hx hZ hown (wq hw 55 rfl) e0 F11 (g := (mkF m 7 (sh12 a0 a1 x2) [(.ref a1), (.ref x2)])) rfl rfl (hb hby d11_7)) ?_
  obtain ⟨T3, h3, X3, e3, W3, st3⟩ := putFR X0 hx hZ hown (wq hw 55 rfl) e0 F12 F7 (wq hw 49 rfl) (wq hw 39 rfl) (ty := (.object cL)) (by decide) rfl rfl (g := (mkF m 10 (sh12 a0 a1 x2) [(.ref x2), (.ref x2)])) rfl rfl (hb hby d11_10)
  have f4 := F0.wr W3
  have f5 := F1.other W3 (Or.inl (Ne.symm Ne2))
  have f6 := F2.other W3 (Or.inl (Ne.symm Ne2))
  have f7 := F3.other W3 (Ne.symm Ne4)
  have f8 := F5.wr W3
  have f9 := F6.other W3 (Or.inl (Ne.symm Ne9))
  have f10 := F7.wr W3
  have f11 := F8.other W3 (Or.inr (slot_ne (Or.inr (wq hw 47 rfl)) (Or.inl (wq hw 49 rfl)) (by decide) (t := .long) (t' := (.object cL)) (by decide) (by decide)))
  have f12 := F9.wr W3
  have f13 := F10.other W3 (Or.inl Ne8)
  have f14 := F11.other W3 (Or.inl Ne8)
  have f15 := F13.other W3 (Or.inr (slot_ne (Or.inl (wq hw 51 rfl)) (Or.inl (wq hw 49 rfl)) (by decide) (t := (.object cL)) (t' := (.object cL)) (by decide) (by decide)))
  have f16 : Fld Z h3 x2 cL "next" dL (.ref x2) := F12.same W3
  have Kp3 : Keep h0 h3 [x2, a1, a0, ar] := Kp0.wr W3 (Or.inl om0)
  have Z17 := Nat.le_trans Z0 (Nat.le_of_eq W3.size.symm)
  have N18 := Fr.snoc X3 N0 Ge3
  refine Gb st3 ?_
  refine Gb (fun _ => XS.aloadN X3.here hx rfl (hb hby d11_13) rfl rfl) ?_
  refine Gb (fun _ => getFR X3 hx hZ hown (wq hw 55 rfl) e3 f14 (g := (mkF m 14 (sh12 a0 a1 x2) [(.ref a1)])) rfl rfl (hb hby d11_14)) ?_
  refine Gb (fun _ => XS.aloadN X3.here hx rfl (hb hby d11_17) rfl rfl) ?_
  obtain ⟨T20, h20, X20, e20, W20, st20⟩ := putFR X3 hx hZ hown (wq hw 53 rfl) e3 f15 f10 (wq hw 51 rfl) (wq hw 39 rfl) (ty := (.object cL)) (by decide) rfl rfl (g := (mkF m 18 (sh12 a0 a1 x2) [(.ref x2), (.ref x2)])) rfl rfl (hb hby d11_18)
  have f21 := f4.wr W20
  have f22 := f5.other W20 (Or.inl (Ne.symm Ne2))
  have f23 := f6.other W20 (Or.inl (Ne.symm Ne2))
  have f24 := f7.other W20 (Ne.symm Ne4)
  have f25 := f8.wr W20
  have f26 := f9.other W20 (Or.inl (Ne.symm Ne9))
  have f27 := f10.wr W20
  have f28 := f11.other W20 (Or.inr (slot_ne (Or.inr (wq hw 47 rfl)) (Or.inl (wq hw 51 rfl)) (by decide) (t := .long) (t' := (.object cL)) (by decide) (by decide)))
  have f29 := f12.wr W20
  have f30 := f13.other W20 (Or.inl Ne8)
  have f31 := f14.other W20 (Or.inl Ne8)
  have f32 := f16.other W20 (Or.inr (slot_ne (Or.inl (wq hw 49 rfl)) (Or.inl (wq hw 51 rfl)) (by decide) (t := (.object cL)) (t' := (.object cL)) (by decide) (by decide)))
  have f33 : Fld Z h20 x2 cL "prev" dL (.ref x2) := f15.same W20
  have Kp20 : Keep h0 h20 [x2, a1, a0, ar] := Kp3.wr W20 (Or.inl om0)
  have Z34 := Nat.le_trans Z17 (Nat.le_of_eq W20.size.symm)
  have N35 := Fr.snoc X20 N18 Ge3
  refine Gb st20 ?_
  refine Gb (fun _ => XS.aloadN X20.here hx rfl (hb hby d11_21) rfl rfl) ?_
  refine Gb (fun _ => XS.aconstNull X20.here hx rfl (hb hby d11_22)) ?_
  obtain ⟨T36, h36, X36, e36, W36, st36⟩ := putFR X20 hx hZ hown (wq hw 55 rfl) e20 f31 f29 (wq hw 56 rfl) (wq hw 14 rfl) (ty := (.object cL)) (by decide) rfl rfl (g := (mkF m 23 (sh12 a0 a1 x2) [.null, (.ref a1)])) rfl rfl (hb hby d11_23)
  have f37 := f21.wr W36
  have f38 := f22.other W36 (Or.inl (Ne.symm Ne5))
  have f39 := f23.other W36 (Or.inl (Ne.symm Ne5))
  have f40 := f24.other W36 (Ne.symm Ne6)
  have f41 := f25.wr W36
  have f42 := f26.other W36 (Or.inl (Ne.symm Ne7))
  have f43 := f27.wr W36
  have f44 := f28.other W36 (Or.inl (Ne.symm Ne8))
  have f45 := f29.wr W36
  have f46 := f30.other W36 (Or.inr (slot_ne (Or.inl (wq hw 54 rfl)) (Or.inl (wq hw 56 rfl)) (by decide) (t := (.object cL)) (t' := (.object cL)) (by decide) (by decide)))
  have f47 := f32.other W36 (Or.inl (Ne.symm Ne8))
  have f48 := f33.other W36 (Or.inl (Ne.symm Ne8))
  have f49 : Fld Z h36 a1 cL "next" dL .null := f31.same W36
  have Kp36 : Keep h0 h36 [x2, a1, a0, ar] := Kp20.wr W36 (Or.inl om1)
  have Z50 := Nat.le_trans Z34 (Nat.le_of_eq W36.size.symm)
  have N51 := Fr.snoc X36 N35 Ge2
  refine Gb st36 ?_
  refine Gb (fun _ => XS.aloadN X36.here hx rfl (hb hby d11_26) rfl rfl) ?_
  refine Gb (fun _ => XS.aconstNull X36.here hx rfl (hb hby d11_27)) ?_
  obtain ⟨T52, h52, X52, e52, W52, st52⟩ := putFR X36 hx hZ hown (wq hw 53 rfl) e36 f46 f45 (wq hw 54 rfl) (wq hw 14 rfl) (ty := (.object cL)) (by decide) rfl rfl (g := (mkF m 28 (sh12 a0 a1 x2) [.null, (.ref a1)])) rfl rfl (hb hby d11_28)
  have f53 := f37.wr W52
  have f54 := f38.other W52 (Or.inl (Ne.symm Ne5))
  have f55 := f39.other W52 (Or.inl (Ne.symm Ne5))
  have f56 := f40.other W52 (Ne.symm Ne6)
  have f57 := f41.wr W52
  have f58 := f42.other W52 (Or.inl (Ne.symm Ne7))
  have f59 := f43.wr W52
  have f60 := f44.other W52 (Or.inl (Ne.symm Ne8))
  have f61 := f45.wr W52
  have f62 := f47.other W52 (Or.inl (Ne.symm Ne8))
  have f63 := f48.other W52 (Or.inl (Ne.symm Ne8))
  have f64 := f49.other W52 (Or.inr (slot_ne (Or.inl (wq hw 56 rfl)) (Or.inl (wq hw 54 rfl)) (by decide) (t := (.object cL)) (t' := (.object cL)) (by decide) (by decide)))
  have f65 : Fld Z h52 a1 cL "prev" dL .null := f46.same W52
  have Kp52 : Keep h0 h52 [x2, a1, a0, ar] := Kp36.wr W52 (Or.inl om1)
  have Z66 := Nat.le_trans Z50 (Nat.le_of_eq W52.size.symm)
  have N67 := Fr.snoc X52 N51 Ge2
  refine Gb st52 ?_
  refine Gb (fun _ => XS.aloadN X52.here hx rfl (hb hby d11_31) rfl rfl) ?_
  refine Gb (B := T52.setTop (mkF m 41 (sh12 a0 a1 x2) [(.ref x2), (.ref a0)])) (fun t k => ?_) ?_
  · refine getFR X52 hx hZ hown (wq hw 55 rfl) e52 f62 (g := (mkF m 32 (sh12 a0 a1 x2) [(.ref x2)])) rfl rfl (hb hby d11_32) ?_
    refine XS.aloadN X52.here hx rfl (hb hby d11_35) rfl rfl ?_
    refine Jvm.RoadKit.acmp (g := (mkF m 36 (sh12 a0 a1 x2) [(.ref x2), (.ref x2)])) X52 hx rfl rfl rfl (pc0 := 36) (pc' := 39) (same := true) rfl (hb hby d11_36) rfl (decide_eq_true rfl) (by decide) (by decide) ?_
    refine XS.aloadN X52.here hx rfl (hb hby d11_39) rfl rfl ?_
    refine XS.aloadN X52.here hx rfl (hb hby d11_40) rfl rfl ?_
    exact k
  obtain ⟨T69, X69, e69, st69⟩ := castY X52 hx hZ hown (wq hw 9 rfl) e52 (Ins.self f59) (g := (mkF m 41 (sh12 a0 a1 x2) [(.ref x2), (.ref a0)])) rfl rfl (hb hby d11_41)
  refine Gb st69 ?_
  obtain ⟨_, T70, L70, Lc70, X70, hF70, hQ70, st70⟩ := own_cp X69 hx hZ hown (wq hw 77 rfl) (wq hw 79 rfl) (wq hw 1 rfl) (wq hw 78 rfl) (wq hw 2 rfl) (wq hw 80 rfl) (rmDrop2_2 l Z az hw [] a0 x2 ar kA x1 t1 t2 h52 n0 Z66 f53 f54 f55 f56 F4 f57 f58 f59 f60 Ne0 Ne1 Ne2 Ne3 Ne4 Ge0 Ge1 HD) (W := 0) (g := (mkF m 44 (sh12 a0 a1 x2) [(.ref x2), (.ref a0)])) rfl (by rw [hml]; rfl) f53 (argsL := [(.ref x2)]) (rest := []) rfl (lenOf own_pd4 rfl) rfl (hb hby d11_44) e69 N67 (c' := 0) (s' := 0)
  obtain ⟨rfl, N70q, K70, f71, f72, f73⟩ := hQ70
  have f74 := f53.keep K70
  have f75 := f57.keep K70
  have f76 := f58.keep K70 (ninS Ne3 (ninS Ne1 nin0))
  have f77 := f59.keep K70
  have f78 := f60.keep K70 (ninS Ne4 (ninS Ne2 nin0))
  have f79 := f61.keep K70
  have f80 := f62.keep K70 (ninS Ne4 (ninS Ne2 nin0))
  have f81 := f63.keep K70 (ninS Ne4 (ninS Ne2 nin0))
  have f82 := f64.keep K70 (ninS Ne6 (ninS Ne5 nin0))
  have f83 := f65.keep K70 (ninS Ne6 (ninS Ne5 nin0))
  have Kp70 : Keep h0 T70.heap [x2, a1, a0, ar] := Kp52.trans K70 (allS (Or.inl om3) (allS (Or.inl om2) all0))
  have Z84 := Nat.le_trans Z66 K70.1
  have N85 := hF70 N70q
  refine Gb st70 ?_
  obtain ⟨fs, hr, hrun, hended, hW, hsame⟩ := X70.leave (v := none) (fun _ => rfl)
  refine Goes.mk _ _ ?_ ⟨hrun, hended, _, _, rfl, ?_, ⟨_, rfl⟩, hW, hsame.mono (by decide) (by decide)⟩
  · exact X70.returnOut hx Bd.returns (hb hby d11_47) hr
  · show QRemL2_2 Z a0 a1 ar kA x1 x2 t1 t2 nu pu h0 n0 _ T70.heap _
    exact ⟨rfl, N85, Kp70, f71, f72, f73, f82, f83⟩
def QRemL3_1 (Z : State) (a0 : Addr) (a1 : Addr) (ar : Addr) (kA : ClassId) (x1 : Addr) (x2 : Addr) (x3 : Addr) (t1 : Int64) (t2 : Int64) (t3 : Int64) (nu : Value) (pu : Value) (h0 : Heap) (n0 : Nat) (v : Option Value) (h : Heap) (L : List Loc) : Prop := v = none ∧ Fr n0 L ∧ Keep h0 h [x1, a1, a0, ar] ∧ Fld Z h a0 cD "heads" dA (.ref ar) ∧ Fld Z h a0 cD "count" "I" (.int (2 : Int32)) ∧ Arv Z h ar kA (.object cH) (4 : Int32) [(.ref x2), (.ref x3), .null, .null] .null ∧ Fld Z h a1 cL "next" dL .null ∧ Fld Z h a1 cL "prev" dL .null
theorem efRemL3_1 (m : MethodId) (x0 : Addr) (x1 : Addr) : entryFrame m #[(.ref x0), (.ref x1)] 3 = mkF m 0 #[.val (.ref x0), .val (.ref x1), .unset] [] := by first | (simp [entryFrame, mkF, argsToLocals, Value.category]; done) | rfl
set_option maxRecDepth 65536 in
set_option maxHeartbeats 40000000 in
theorem rmRemL3_1 (l : Launch) (Z : State) (az : Array Value) (hw : ∀ d ∈ tables_1, d.before az Z = true) (ws : List Jvm.Cond) (a0 : Addr) (a1 : Addr) (ar : Addr) (kA : ClassId) (x1 : Addr) (x2 : Addr) (x3 : Addr) (t1 : Int64) (t2 : Int64) (t3 : Int64) (nu : Value) (pu : Value) (h0 : Heap) (n0 : Nat) (Z0 : n0 ≤ h0.size) (F0 : Exa Z h0 a0 cD) (F1 : Fld Z h0 a0 cD "heads" dA (.ref ar)) (F2 : Fld Z h0 a0 cD "count" "I" (.int (3 : Int32))) (F3 : Arv Z h0 ar kA (.object cH) (4 : Int32) [(.ref x1), (.ref x2), (.ref x3), .null] .null) (F4 : Ovr Z kA cH) (F5 : Exa Z h0 x1 cH) (F6 : Fld Z h0 x1 cH "tick" "J" (.long t1)) (F7 : Exa Z h0 x2 cH) (F8 : Fld Z h0 x2 cH "tick" "J" (.long t2)) (F9 : Exa Z h0 x3 cH) (F10 : Fld Z h0 x3 cH "tick" "J" (.long t3)) (F11 : Exa Z h0 a1 cL) (F12 : Fld Z h0 a1 cL "prev" dL (.ref x1)) (F13 : Fld Z h0 a1 cL "next" dL (.ref x1)) (F14 : Fld Z h0 x1 cL "next" dL nu) (F15 : Fld Z h0 x1 cL "prev" dL pu) (Ne0 : a0 ≠ ar) (Ne1 : x1 ≠ a0) (Ne2 : x2 ≠ a0) (Ne3 : x3 ≠ a0) (Ne4 : x1 ≠ ar) (Ne5 : x2 ≠ ar) (Ne6 : x3 ≠ ar) (Ne7 : a1 ≠ a0) (Ne8 : a1 ≠ ar) (Ne9 : a1 ≠ x1) (Ne10 : a1 ≠ x2) (Ne11 : a1 ≠ x3) (Ne12 : x1 ≠ x2) (Ne13 : x1 ≠ x3) (Ge0 : n0 ≤ a0) (Ge1 : n0 ≤ ar) (Ge2 : n0 ≤ a1) (Ge3 : n0 ≤ x1) (HD : fDue3 t1 t1 t2 t3 = (1 : Int32)) :
    MetFree l y8 (head1 (Jvm.Cond.code y8 prog_4_method_6_code 3 none :: ws) ({ frames := 2, cells := 0, slots := 0, locals := 32 } : Room)) (fun a U => a = #[(.ref a0), (.ref a1)] ∧ Z.Warmed39 U.vm ∧ U.heap = h0) (fun _ _ _ _ _ => True) (fun _ U o U' => ∃ v L, o = .returned v ∧ QRemL3_1 Z a0 a1 ar kA x1 x2 x3 t1 t2 t3 nu pu h0 n0 v U'.heap L ∧ FrameEnd U o U' L ({ frames := 2, cells := 0, slots := 0, locals := 32 } : Room).cells ({ frames := 2, cells := 0, slots := 0, locals := 32 } : Room).slots) := by
  refine MetFree.of_bodySF (plainFor_of_name own_pn_com_example_admit_one_admitone_engine_DueOrder) hisR ?_
  intro p e s m args below meth c s₁ Bd hml0 hP hK
  obtain ⟨rfl, hZ, hh⟩ := hP
  have hx := Bd.exec
  have hby := Bd.bytes
  have hml : c.maxLocals = 3 := hml0
  have hown : s.vm.findClass cD = some m.cls := findClass_of_methodNamed Bd.named
  have hnm := (name_of_methodNamed Bd.named Bd.method).1
  have X0 : Stand p l e ({ frames := 2, cells := 0, slots := 0, locals := 32 } : Room) s m #[(.ref a0), (.ref a1)] below meth c s₁ [] 0 0 := Stand.of_body Bd
  have e0 : s₁.heap = h0 := by rw [← hh, Bd.state]; rfl
  have N0 := Fr.nil n0
  have Kp0 : Keep h0 h0 [x1, a1, a0, ar] := Keep.refl _ _
  refine Goes.start ?_
  refine Gb (B := s₁.setTop (mkF m 0 #[.val (.ref a0), .val (.ref a1), .unset] [])) (fun t k => castTop (efRemL3_1 m a0 a1) k) ?_
  refine Gb (fun _ => XS.aloadN X0.here hx rfl (hb hby d11_0) rfl rfl) ?_
  refine Gb (fun _ => getFR X0 hx hZ hown (wq hw 53 rfl) e0 F12 (g := (mkF m 1 (sh8 a0 a1) [(.ref a1)])) rfl rfl (hb hby d11_1)) ?_
  refine Gb (fun _ => XS.astoreN X0.here hx rfl (hb hby d11_4) rfl rfl (l' := (sh12 a0 a1 x1)) rfl) ?_
  refine Gb (fun _ => XS.aloadN X0.here hx rfl (hb hby d11_5) rfl rfl) ?_
  refine Gb (fun _ => XS.aloadN X0.here hx rfl (hb hby d11_6) rfl rfl) ?_
  refine Gb (fun _ => getFR X0 hx hZ hown (wq hw 55 rfl) e0 F13 (g := (mkF m 7 (sh12 a0 a1 x1) [(.ref a1), (.ref x1)])) rfl rfl (hb hby d11_7)) ?_
  obtain ⟨T3, h3, X3, e3, W3, st3⟩ := putFR X0 hx hZ hown (wq hw 55 rfl) e0 F14 F5 (wq hw 49 rfl) (wq hw 39 rfl) (ty := (.object cL)) (by decide) rfl rfl (g := (mkF m 10 (sh12 a0 a1 x1) [(.ref x1), (.ref x1)])) rfl rfl (hb hby d11_10)
  have f4 := F0.wr W3
  have f5 := F1.other W3 (Or.inl (Ne.symm Ne1))
  have f6 := F2.other W3 (Or.inl (Ne.symm Ne1))
  have f7 := F3.other W3 (Ne.symm Ne4)
  have f8 := F5.wr W3
  have f9 := F6.other W3 (Or.inr (slot_ne (Or.inr (wq hw 47 rfl)) (Or.inl (wq hw 49 rfl)) (by decide) (t := .long) (t' := (.object cL)) (by decide) (by decide)))
  have f10 := F7.wr W3
  have f11 := F8.other W3 (Or.inl (Ne.symm Ne12))
  have f12 := F9.wr W3
  have f13 := F10.other W3 (Or.inl (Ne.symm Ne13))
  have f14 := F11.wr W3
  have f15 := F12.other W3 (Or.inl Ne9)
  have f16 := F13.other W3 (Or.inl Ne9)
  have f17 := F15.other W3 (Or.inr (slot_ne (Or.inl (wq hw 51 rfl)) (Or.inl (wq hw 49 rfl)) (by decide) (t := (.object cL)) (t' := (.object cL)) (by decide) (by decide)))
  have f18 : Fld Z h3 x1 cL "next" dL (.ref x1) := F14.same W3
  have Kp3 : Keep h0 h3 [x1, a1, a0, ar] := Kp0.wr W3 (Or.inl om0)
  have Z19 := Nat.le_trans Z0 (Nat.le_of_eq W3.size.symm)
  have N20 := Fr.snoc X3 N0 Ge3
  refine Gb st3 ?_
  refine Gb (fun _ => XS.aloadN X3.here hx rfl (hb hby d11_13) rfl rfl) ?_
  refine Gb (fun _ => getFR X3 hx hZ hown (wq hw 55 rfl) e3 f16 (g := (mkF m 14 (sh12 a0 a1 x1) [(.ref a1)])) rfl rfl (hb hby d11_14)) ?_
  refine Gb (fun _ => XS.aloadN X3.here hx rfl (hb hby d11_17) rfl rfl) ?_
  obtain ⟨T22, h22, X22, e22, W22, st22⟩ := putFR X3 hx hZ hown (wq hw 53 rfl) e3 f17 f8 (wq hw 51 rfl) (wq hw 39 rfl) (ty := (.object cL)) (by decide) rfl rfl (g := (mkF m 18 (sh12 a0 a1 x1) [(.ref x1), (.ref x1)])) rfl rfl (hb hby d11_18)
  have f23 := f4.wr W22
  have f24 := f5.other W22 (Or.inl (Ne.symm Ne1))
  have f25 := f6.other W22 (Or.inl (Ne.symm Ne1))
  have f26 := f7.other W22 (Ne.symm Ne4)
  have f27 := f8.wr W22
  have f28 := f9.other W22 (Or.inr (slot_ne (Or.inr (wq hw 47 rfl)) (Or.inl (wq hw 51 rfl)) (by decide) (t := .long) (t' := (.object cL)) (by decide) (by decide)))
  have f29 := f10.wr W22
  have f30 := f11.other W22 (Or.inl (Ne.symm Ne12))
  have f31 := f12.wr W22
  have f32 := f13.other W22 (Or.inl (Ne.symm Ne13))
  have f33 := f14.wr W22
  have f34 := f15.other W22 (Or.inl Ne9)
  have f35 := f16.other W22 (Or.inl Ne9)
  have f36 := f18.other W22 (Or.inr (slot_ne (Or.inl (wq hw 49 rfl)) (Or.inl (wq hw 51 rfl)) (by decide) (t := (.object cL)) (t' := (.object cL)) (by decide) (by decide)))
  have f37 : Fld Z h22 x1 cL "prev" dL (.ref x1) := f17.same W22
  have Kp22 : Keep h0 h22 [x1, a1, a0, ar] := Kp3.wr W22 (Or.inl om0)
  have Z38 := Nat.le_trans Z19 (Nat.le_of_eq W22.size.symm)
  have N39 := Fr.snoc X22 N20 Ge3
  refine Gb st22 ?_
  refine Gb (fun _ => XS.aloadN X22.here hx rfl (hb hby d11_21) rfl rfl) ?_
  refine Gb (fun _ => XS.aconstNull X22.here hx rfl (hb hby d11_22)) ?_
  obtain ⟨T40, h40, X40, e40, W40, st40⟩ := putFR X22 hx hZ hown (wq hw 55 rfl) e22 f35 f33 (wq hw 56 rfl) (wq hw 14 rfl) (ty := (.object cL)) (by decide) rfl rfl (g := (mkF m 23 (sh12 a0 a1 x1) [.null, (.ref a1)])) rfl rfl (hb hby d11_23)
  have f41 := f23.wr W40
  have f42 := f24.other W40 (Or.inl (Ne.symm Ne7))
  have f43 := f25.other W40 (Or.inl (Ne.symm Ne7))
  have f44 := f26.other W40 (Ne.symm Ne8)
  have f45 := f27.wr W40
  have f46 := f28.other W40 (Or.inl (Ne.symm Ne9))
  have f47 := f29.wr W40
  have f48 := f30.other W40 (Or.inl (Ne.symm Ne10))
  have f49 := f31.wr W40
  have f50 := f32.other W40 (Or.inl (Ne.symm Ne11))
  have f51 := f33.wr W40
  have f52 := f34.other W40 (Or.inr (slot_ne (Or.inl (wq hw 54 rfl)) (Or.inl (wq hw 56 rfl)) (by decide) (t := (.object cL)) (t' := (.object cL)) (by decide) (by decide)))
  have f53 := f36.other W40 (Or.inl (Ne.symm Ne9))
  have f54 := f37.other W40 (Or.inl (Ne.symm Ne9))
  have f55 : Fld Z h40 a1 cL "next" dL .null := f35.same W40
  have Kp40 : Keep h0 h40 [x1, a1, a0, ar] := Kp22.wr W40 (Or.inl om1)
  have Z56 := Nat.le_trans Z38 (Nat.le_of_eq W40.size.symm)
  have N57 := Fr.snoc X40 N39 Ge2
  refine Gb st40 ?_
  refine Gb (fun _ => XS.aloadN X40.here hx rfl (hb hby d11_26) rfl rfl) ?_
  refine Gb (fun _ => XS.aconstNull X40.here hx rfl (hb hby d11_27)) ?_
  obtain ⟨T58, h58, X58, e58, W58, st58⟩ := putFR X40 hx hZ hown (wq hw 53 rfl) e40 f52 f51 (wq hw 54 rfl) (wq hw 14 rfl) (ty := (.object cL)) (by decide) rfl rfl (g := (mkF m 28 (sh12 a0 a1 x1) [.null, (.ref a1)])) rfl rfl (hb hby d11_28)
  have f59 := f41.wr W58
  have f60 := f42.other W58 (Or.inl (Ne.symm Ne7))
  have f61 := f43.other W58 (Or.inl (Ne.symm Ne7))
  have f62 := f44.other W58 (Ne.symm Ne8)
  have f63 := f45.wr W58
  have f64 := f46.other W58 (Or.inl (Ne.symm Ne9))
  have f65 := f47.wr W58
  have f66 := f48.other W58 (Or.inl (Ne.symm Ne10))
  have f67 := f49.wr W58
  have f68 := f50.other W58 (Or.inl (Ne.symm Ne11))
  have f69 := f51.wr W58
  have f70 := f53.other W58 (Or.inl (Ne.symm Ne9))
  have f71 := f54.other W58 (Or.inl (Ne.symm Ne9))
  have f72 := f55.other W58 (Or.inr (slot_ne (Or.inl (wq hw 56 rfl)) (Or.inl (wq hw 54 rfl)) (by decide) (t := (.object cL)) (t' := (.object cL)) (by decide) (by decide)))
  have f73 : Fld Z h58 a1 cL "prev" dL .null := f52.same W58
  have Kp58 : Keep h0 h58 [x1, a1, a0, ar] := Kp40.wr W58 (Or.inl om1)
  have Z74 := Nat.le_trans Z56 (Nat.le_of_eq W58.size.symm)
  have N75 := Fr.snoc X58 N57 Ge2
  refine Gb st58 ?_
  refine Gb (fun _ => XS.aloadN X58.here hx rfl (hb hby d11_31) rfl rfl) ?_
  refine Gb (B := T58.setTop (mkF m 41 (sh12 a0 a1 x1) [(.ref x1), (.ref a0)])) (fun t k => ?_) ?_
  · refine getFR X58 hx hZ hown (wq hw 55 rfl) e58 f70 (g := (mkF m 32 (sh12 a0 a1 x1) [(.ref x1)])) rfl rfl (hb hby d11_32) ?_
    refine XS.aloadN X58.here hx rfl (hb hby d11_35) rfl rfl ?_
    refine Jvm.RoadKit.acmp (g := (mkF m 36 (sh12 a0 a1 x1) [(.ref x1), (.ref x1)])) X58 hx rfl rfl rfl (pc0 := 36) (pc' := 39) (same := true) rfl (hb hby d11_36) rfl (decide_eq_true rfl) (by decide) (by decide) ?_
    refine XS.aloadN X58.here hx rfl (hb hby d11_39) rfl rfl ?_
    refine XS.aloadN X58.here hx rfl (hb hby d11_40) rfl rfl ?_
    exact k
  obtain ⟨T77, X77, e77, st77⟩ := castY X58 hx hZ hown (wq hw 9 rfl) e58 (Ins.self f63) (g := (mkF m 41 (sh12 a0 a1 x1) [(.ref x1), (.ref a0)])) rfl rfl (hb hby d11_41)
  refine Gb st77 ?_
  obtain ⟨_, T78, L78, Lc78, X78, hF78, hQ78, st78⟩ := own_cp X77 hx hZ hown (wq hw 77 rfl) (wq hw 79 rfl) (wq hw 1 rfl) (wq hw 78 rfl) (wq hw 2 rfl) (wq hw 80 rfl) (rmDrop3_1 l Z az hw [] a0 x1 ar kA x2 x3 t1 t2 t3 h58 n0 Z74 f59 f60 f61 f62 F4 f63 f64 f65 f66 f67 f68 Ne0 Ne1 Ne2 Ne3 Ne4 Ne5 Ne6 Ge0 Ge1 HD) (W := 0) (g := (mkF m 44 (sh12 a0 a1 x1) [(.ref x1), (.ref a0)])) rfl (by rw [hml]; rfl) f59 (argsL := [(.ref x1)]) (rest := []) rfl (lenOf own_pd4 rfl) rfl (hb hby d11_44) e77 N75 (c' := 0) (s' := 0)
  obtain ⟨rfl, N78q, K78, f79, f80, f81⟩ := hQ78
  have f82 := f59.keep K78
  have f83 := f63.keep K78
  have f84 := f64.keep K78 (ninS Ne4 (ninS Ne1 nin0))
  have f85 := f65.keep K78
  have f86 := f66.keep K78 (ninS Ne5 (ninS Ne2 nin0))
  have f87 := f67.keep K78
  have f88 := f68.keep K78 (ninS Ne6 (ninS Ne3 nin0))
  have f89 := f69.keep K78
  have f90 := f70.keep K78 (ninS Ne4 (ninS Ne1 nin0))
  have f91 := f71.keep K78 (ninS Ne4 (ninS Ne1 nin0))
  have f92 := f72.keep K78 (ninS Ne8 (ninS Ne7 nin0))
  have f93 := f73.keep K78 (ninS Ne8 (ninS Ne7 nin0))
  have Kp78 : Keep h0 T78.heap [x1, a1, a0, ar] := Kp58.trans K78 (allS (Or.inl om3) (allS (Or.inl om2) all0))
  have Z94 := Nat.le_trans Z74 K78.1
  have N95 := hF78 N78q
  refine Gb st78 ?_
  obtain ⟨fs, hr, hrun, hended, hW, hsame⟩ := X78.leave (v := none) (fun _ => rfl)
  refine Goes.mk _ _ ?_ ⟨hrun, hended, _, _, rfl, ?_, ⟨_, rfl⟩, hW, hsame.mono (by decide) (by decide)⟩
  · exact X78.returnOut hx Bd.returns (hb hby d11_47) hr
  · show QRemL3_1 Z a0 a1 ar kA x1 x2 x3 t1 t2 t3 nu pu h0 n0 _ T78.heap _
    exact ⟨rfl, N95, Kp78, f79, f80, f81, f92, f93⟩
def QRemL3_2 (Z : State) (a0 : Addr) (a1 : Addr) (ar : Addr) (kA : ClassId) (x1 : Addr) (x2 : Addr) (x3 : Addr) (t1 : Int64) (t2 : Int64) (t3 : Int64) (nu : Value) (pu : Value) (h0 : Heap) (n0 : Nat) (v : Option Value) (h : Heap) (L : List Loc) : Prop := v = none ∧ Fr n0 L ∧ Keep h0 h [x2, a1, a0, ar] ∧ Fld Z h a0 cD "heads" dA (.ref ar) ∧ Fld Z h a0 cD "count" "I" (.int (2 : Int32)) ∧ Arv Z h ar kA (.object cH) (4 : Int32) [(.ref x1), (.ref x3), .null, .null] .null ∧ Fld Z h a1 cL "next" dL .null ∧ Fld Z h a1 cL "prev" dL .null
theorem efRemL3_2 (m : MethodId) (x0 : Addr) (x1 : Addr) : entryFrame m #[(.ref x0), (.ref x1)] 3 = mkF m 0 #[.val (.ref x0), .val (.ref x1), .unset] [] := by first | (simp [entryFrame, mkF, argsToLocals, Value.category]; done) | rfl
set_option maxRecDepth 65536 in
set_option maxHeartbeats 40000000 in
theorem rmRemL3_2 (l : Launch) (Z : State) (az : Array Value) (hw : ∀ d ∈ tables_1, d.before az Z = true) (ws : List Jvm.Cond) (a0 : Addr) (a1 : Addr) (ar : Addr) (kA : ClassId) (x1 : Addr) (x2 : Addr) (x3 : Addr) (t1 : Int64) (t2 : Int64) (t3 : Int64) (nu : Value) (pu : Value) (h0 : Heap) (n0 : Nat) (Z0 : n0 ≤ h0.size) (F0 : Exa Z h0 a0 cD) (F1 : Fld Z h0 a0 cD "heads" dA (.ref ar)) (F2 : Fld Z h0 a0 cD "count" "I" (.int (3 : Int32))) (F3 : Arv Z h0 ar kA (.object cH) (4 : Int32) [(.ref x1), (.ref x2), (.ref x3), .null] .null) (F4 : Ovr Z kA cH) (F5 : Exa Z h0 x1 cH) (F6 : Fld Z h0 x1 cH "tick" "J" (.long t1)) (F7 : Exa Z h0 x2 cH) (F8 : Fld Z h0 x2 cH "tick" "J" (.long t2)) (F9 : Exa Z h0 x3 cH) (F10 : Fld Z h0 x3 cH "tick" "J" (.long t3)) (F11 : Exa Z h0 a1 cL) (F12 : Fld Z h0 a1 cL "prev" dL (.ref x2)) (F13 : Fld Z h0 a1 cL "next" dL (.ref x2)) (F14 : Fld Z h0 x2 cL "next" dL nu) (F15 : Fld Z h0 x2 cL "prev" dL pu) (Ne0 : a0 ≠ ar) (Ne1 : x1 ≠ a0) (Ne2 : x2 ≠ a0) (Ne3 : x3 ≠ a0) (Ne4 : x1 ≠ ar) (Ne5 : x2 ≠ ar) (Ne6 : x3 ≠ ar) (Ne7 : a1 ≠ a0) (Ne8 : a1 ≠ ar) (Ne9 : a1 ≠ x1) (Ne10 : a1 ≠ x2) (Ne11 : a1 ≠ x3) (Ne12 : x2 ≠ x1) (Ne13 : x2 ≠ x3) (Ge0 : n0 ≤ a0) (Ge1 : n0 ≤ ar) (Ge2 : n0 ≤ a1) (Ge3 : n0 ≤ x2) (HD : fDue3 t2 t1 t2 t3 = (2 : Int32)) :
    MetFree l y8 (head1 (Jvm.Cond.code y8 prog_4_method_6_code 3 none :: ws) ({ frames := 2, cells := 0, slots := 0, locals := 32 } : Room)) (fun a U => a = #[(.ref a0), (.ref a1)] ∧ Z.Warmed39 U.vm ∧ U.heap = h0) (fun _ _ _ _ _ => True) (fun _ U o U' => ∃ v L, o = .returned v ∧ QRemL3_2 Z a0 a1 ar kA x1 x2 x3 t1 t2 t3 nu pu h0 n0 v U'.heap L ∧ FrameEnd U o U' L ({ frames := 2, cells := 0, slots := 0, locals := 32 } : Room).cells ({ frames := 2, cells := 0, slots := 0, locals := 32 } : Room).slots) := by
  refine MetFree.of_bodySF (plainFor_of_name own_pn_com_example_admit_one_admitone_engine_DueOrder) hisR ?_
  intro p e s m args below meth c s₁ Bd hml0 hP hK
  obtain ⟨rfl, hZ, hh⟩ := hP
  have hx := Bd.exec
  have hby := Bd.bytes
  have hml : c.maxLocals = 3 := hml0
  have hown : s.vm.findClass cD = some m.cls := findClass_of_methodNamed Bd.named
  have hnm := (name_of_methodNamed Bd.named Bd.method).1
  have X0 : Stand p l e ({ frames := 2, cells := 0, slots := 0, locals := 32 } : Room) s m #[(.ref a0), (.ref a1)] below meth c s₁ [] 0 0 := Stand.of_body Bd
  have e0 : s₁.heap = h0 := by rw [← hh, Bd.state]; rfl
  have N0 := Fr.nil n0
  have Kp0 : Keep h0 h0 [x2, a1, a0, ar] := Keep.refl _ _
  refine Goes.start ?_
  refine Gb (B := s₁.setTop (mkF m 0 #[.val (.ref a0), .val (.ref a1), .unset] [])) (fun t k => castTop (efRemL3_2 m a0 a1) k) ?_
  refine Gb (fun _ => XS.aloadN X0.here hx rfl (hb hby d11_0) rfl rfl) ?_
  refine Gb (fun _ => getFR X0 hx hZ hown (wq hw 53 rfl) e0 F12 (g := (mkF m 1 (sh8 a0 a1) [(.ref a1)])) rfl rfl (hb hby d11_1)) ?_
  refine Gb (fun _ => XS.astoreN X0.here hx rfl (hb hby d11_4) rfl rfl (l' := (sh12 a0 a1 x2)) rfl) ?_
  refine Gb (fun _ => XS.aloadN X0.here hx rfl (hb hby d11_5) rfl rfl) ?_
  refine Gb (fun _ => XS.aloadN X0.here hx rfl (hb hby d11_6) rfl rfl) ?_
  refine Gb (fun _ => getFR X0 hx hZ hown (wq hw 55 rfl) e0 F13 (g := (mkF m 7 (sh12 a0 a1 x2) [(.ref a1), (.ref x2)])) rfl rfl (hb hby d11_7)) ?_
  obtain ⟨T3, h3, X3, e3, W3, st3⟩ := putFR X0 hx hZ hown (wq hw 55 rfl) e0 F14 F7 (wq hw 49 rfl) (wq hw 39 rfl) (ty := (.object cL)) (by decide) rfl rfl (g := (mkF m 10 (sh12 a0 a1 x2) [(.ref x2), (.ref x2)])) rfl rfl (hb hby d11_10)
  have f4 := F0.wr W3
  have f5 := F1.other W3 (Or.inl (Ne.symm Ne2))
  have f6 := F2.other W3 (Or.inl (Ne.symm Ne2))
  have f7 := F3.other W3 (Ne.symm Ne5)
  have f8 := F5.wr W3
  have f9 := F6.other W3 (Or.inl (Ne.symm Ne12))
  have f10 := F7.wr W3
  have f11 := F8.other W3 (Or.inr (slot_ne (Or.inr (wq hw 47 rfl)) (Or.inl (wq hw 49 rfl)) (by decide) (t := .long) (t' := (.object cL)) (by decide) (by decide)))
  have f12 := F9.wr W3
  have f13 := F10.other W3 (Or.inl (Ne.symm Ne13))
  have f14 := F11.wr W3
  have f15 := F12.other W3 (Or.inl Ne10)
  have f16 := F13.other W3 (Or.inl Ne10)
  have f17 := F15.other W3 (Or.inr (slot_ne (Or.inl (wq hw 51 rfl)) (Or.inl (wq hw 49 rfl)) (by decide) (t := (.object cL)) (t' := (.object cL)) (by decide) (by decide)))
  have f18 : Fld Z h3 x2 cL "next" dL (.ref x2) := F14.same W3
  have Kp3 : Keep h0 h3 [x2, a1, a0, ar] := Kp0.wr W3 (Or.inl om0)
  have Z19 := Nat.le_trans Z0 (Nat.le_of_eq W3.size.symm)
  have N20 := Fr.snoc X3 N0 Ge3
  refine Gb st3 ?_
  refine Gb (fun _ => XS.aloadN X3.here hx rfl (hb hby d11_13) rfl rfl) ?_
  refine Gb (fun _ => getFR X3 hx hZ hown (wq hw 55 rfl) e3 f16 (g := (mkF m 14 (sh12 a0 a1 x2) [(.ref a1)])) rfl rfl (hb hby d11_14)) ?_
  refine Gb (fun _ => XS.aloadN X3.here hx rfl (hb hby d11_17) rfl rfl) ?_
  obtain ⟨T22, h22, X22, e22, W22, st22⟩ := putFR X3 hx hZ hown (wq hw 53 rfl) e3 f17 f10 (wq hw 51 rfl) (wq hw 39 rfl) (ty := (.object cL)) (by decide) rfl rfl (g := (mkF m 18 (sh12 a0 a1 x2) [(.ref x2), (.ref x2)])) rfl rfl (hb hby d11_18)
  have f23 := f4.wr W22
  have f24 := f5.other W22 (Or.inl (Ne.symm Ne2))
  have f25 := f6.other W22 (Or.inl (Ne.symm Ne2))
  have f26 := f7.other W22 (Ne.symm Ne5)
  have f27 := f8.wr W22
  have f28 := f9.other W22 (Or.inl (Ne.symm Ne12))
  have f29 := f10.wr W22
  have f30 := f11.other W22 (Or.inr (slot_ne (Or.inr (wq hw 47 rfl)) (Or.inl (wq hw 51 rfl)) (by decide) (t := .long) (t' := (.object cL)) (by decide) (by decide)))
  have f31 := f12.wr W22
  have f32 := f13.other W22 (Or.inl (Ne.symm Ne13))
  have f33 := f14.wr W22
  have f34 := f15.other W22 (Or.inl Ne10)
  have f35 := f16.other W22 (Or.inl Ne10)
  have f36 := f18.other W22 (Or.inr (slot_ne (Or.inl (wq hw 49 rfl)) (Or.inl (wq hw 51 rfl)) (by decide) (t := (.object cL)) (t' := (.object cL)) (by decide) (by decide)))
  have f37 : Fld Z h22 x2 cL "prev" dL (.ref x2) := f17.same W22
  have Kp22 : Keep h0 h22 [x2, a1, a0, ar] := Kp3.wr W22 (Or.inl om0)
  have Z38 := Nat.le_trans Z19 (Nat.le_of_eq W22.size.symm)
  have N39 := Fr.snoc X22 N20 Ge3
  refine Gb st22 ?_
  refine Gb (fun _ => XS.aloadN X22.here hx rfl (hb hby d11_21) rfl rfl) ?_
  refine Gb (fun _ => XS.aconstNull X22.here hx rfl (hb hby d11_22)) ?_
  obtain ⟨T40, h40, X40, e40, W40, st40⟩ := putFR X22 hx hZ hown (wq hw 55 rfl) e22 f35 f33 (wq hw 56 rfl) (wq hw 14 rfl) (ty := (.object cL)) (by decide) rfl rfl (g := (mkF m 23 (sh12 a0 a1 x2) [.null, (.ref a1)])) rfl rfl (hb hby d11_23)
  have f41 := f23.wr W40
  have f42 := f24.other W40 (Or.inl (Ne.symm Ne7))
  have f43 := f25.other W40 (Or.inl (Ne.symm Ne7))
  have f44 := f26.other W40 (Ne.symm Ne8)
  have f45 := f27.wr W40
  have f46 := f28.other W40 (Or.inl (Ne.symm Ne9))
  have f47 := f29.wr W40
  have f48 := f30.other W40 (Or.inl (Ne.symm Ne10))
  have f49 := f31.wr W40
  have f50 := f32.other W40 (Or.inl (Ne.symm Ne11))
  have f51 := f33.wr W40
  have f52 := f34.other W40 (Or.inr (slot_ne (Or.inl (wq hw 54 rfl)) (Or.inl (wq hw 56 rfl)) (by decide) (t := (.object cL)) (t' := (.object cL)) (by decide) (by decide)))
  have f53 := f36.other W40 (Or.inl (Ne.symm Ne10))
  have f54 := f37.other W40 (Or.inl (Ne.symm Ne10))
  have f55 : Fld Z h40 a1 cL "next" dL .null := f35.same W40
  have Kp40 : Keep h0 h40 [x2, a1, a0, ar] := Kp22.wr W40 (Or.inl om1)
  have Z56 := Nat.le_trans Z38 (Nat.le_of_eq W40.size.symm)
  have N57 := Fr.snoc X40 N39 Ge2
  refine Gb st40 ?_
  refine Gb (fun _ => XS.aloadN X40.here hx rfl (hb hby d11_26) rfl rfl) ?_
  refine Gb (fun _ => XS.aconstNull X40.here hx rfl (hb hby d11_27)) ?_
  obtain ⟨T58, h58, X58, e58, W58, st58⟩ := putFR X40 hx hZ hown (wq hw 53 rfl) e40 f52 f51 (wq hw 54 rfl) (wq hw 14 rfl) (ty := (.object cL)) (by decide) rfl rfl (g := (mkF m 28 (sh12 a0 a1 x2) [.null, (.ref a1)])) rfl rfl (hb hby d11_28)
  have f59 := f41.wr W58
  have f60 := f42.other W58 (Or.inl (Ne.symm Ne7))
  have f61 := f43.other W58 (Or.inl (Ne.symm Ne7))
  have f62 := f44.other W58 (Ne.symm Ne8)
  have f63 := f45.wr W58
  have f64 := f46.other W58 (Or.inl (Ne.symm Ne9))
  have f65 := f47.wr W58
  have f66 := f48.other W58 (Or.inl (Ne.symm Ne10))
  have f67 := f49.wr W58
  have f68 := f50.other W58 (Or.inl (Ne.symm Ne11))
  have f69 := f51.wr W58
  have f70 := f53.other W58 (Or.inl (Ne.symm Ne10))
  have f71 := f54.other W58 (Or.inl (Ne.symm Ne10))
  have f72 := f55.other W58 (Or.inr (slot_ne (Or.inl (wq hw 56 rfl)) (Or.inl (wq hw 54 rfl)) (by decide) (t := (.object cL)) (t' := (.object cL)) (by decide) (by decide)))
  have f73 : Fld Z h58 a1 cL "prev" dL .null := f52.same W58
  have Kp58 : Keep h0 h58 [x2, a1, a0, ar] := Kp40.wr W58 (Or.inl om1)
  have Z74 := Nat.le_trans Z56 (Nat.le_of_eq W58.size.symm)
  have N75 := Fr.snoc X58 N57 Ge2
  refine Gb st58 ?_
  refine Gb (fun _ => XS.aloadN X58.here hx rfl (hb hby d11_31) rfl rfl) ?_
  refine Gb (B := T58.setTop (mkF m 41 (sh12 a0 a1 x2) [(.ref x2), (.ref a0)])) (fun t k => ?_) ?_
  · refine getFR X58 hx hZ hown (wq hw 55 rfl) e58 f70 (g := (mkF m 32 (sh12 a0 a1 x2) [(.ref x2)])) rfl rfl (hb hby d11_32) ?_
    refine XS.aloadN X58.here hx rfl (hb hby d11_35) rfl rfl ?_
    refine Jvm.RoadKit.acmp (g := (mkF m 36 (sh12 a0 a1 x2) [(.ref x2), (.ref x2)])) X58 hx rfl rfl rfl (pc0 := 36) (pc' := 39) (same := true) rfl (hb hby d11_36) rfl (decide_eq_true rfl) (by decide) (by decide) ?_
    refine XS.aloadN X58.here hx rfl (hb hby d11_39) rfl rfl ?_
    refine XS.aloadN X58.here hx rfl (hb hby d11_40) rfl rfl ?_
    exact k
  obtain ⟨T77, X77, e77, st77⟩ := castY X58 hx hZ hown (wq hw 9 rfl) e58 (Ins.self f65) (g := (mkF m 41 (sh12 a0 a1 x2) [(.ref x2), (.ref a0)])) rfl rfl (hb hby d11_41)
  refine Gb st77 ?_
  obtain ⟨_, T78, L78, Lc78, X78, hF78, hQ78, st78⟩ := own_cp X77 hx hZ hown (wq hw 77 rfl) (wq hw 79 rfl) (wq hw 1 rfl) (wq hw 78 rfl) (wq hw 2 rfl) (wq hw 80 rfl) (rmDrop3_2 l Z az hw [] a0 x2 ar kA x1 x3 t1 t2 t3 h58 n0 Z74 f59 f60 f61 f62 F4 f63 f64 f65 f66 f67 f68 Ne0 Ne1 Ne2 Ne3 Ne4 Ne5 Ne6 Ge0 Ge1 HD) (W := 0) (g := (mkF m 44 (sh12 a0 a1 x2) [(.ref x2), (.ref a0)])) rfl (by rw [hml]; rfl) f59 (argsL := [(.ref x2)]) (rest := []) rfl (lenOf own_pd4 rfl) rfl (hb hby d11_44) e77 N75 (c' := 0) (s' := 0)
  obtain ⟨rfl, N78q, K78, f79, f80, f81⟩ := hQ78
  have f82 := f59.keep K78
  have f83 := f63.keep K78
  have f84 := f64.keep K78 (ninS Ne4 (ninS Ne1 nin0))
  have f85 := f65.keep K78
  have f86 := f66.keep K78 (ninS Ne5 (ninS Ne2 nin0))
  have f87 := f67.keep K78
  have f88 := f68.keep K78 (ninS Ne6 (ninS Ne3 nin0))
  have f89 := f69.keep K78
  have f90 := f70.keep K78 (ninS Ne5 (ninS Ne2 nin0))
  have f91 := f71.keep K78 (ninS Ne5 (ninS Ne2 nin0))
  have f92 := f72.keep K78 (ninS Ne8 (ninS Ne7 nin0))
  have f93 := f73.keep K78 (ninS Ne8 (ninS Ne7 nin0))
  have Kp78 : Keep h0 T78.heap [x2, a1, a0, ar] := Kp58.trans K78 (allS (Or.inl om3) (allS (Or.inl om2) all0))
  have Z94 := Nat.le_trans Z74 K78.1
  have N95 := hF78 N78q
  refine Gb st78 ?_
  obtain ⟨fs, hr, hrun, hended, hW, hsame⟩ := X78.leave (v := none) (fun _ => rfl)
  refine Goes.mk _ _ ?_ ⟨hrun, hended, _, _, rfl, ?_, ⟨_, rfl⟩, hW, hsame.mono (by decide) (by decide)⟩
  · exact X78.returnOut hx Bd.returns (hb hby d11_47) hr
  · show QRemL3_2 Z a0 a1 ar kA x1 x2 x3 t1 t2 t3 nu pu h0 n0 _ T78.heap _
    exact ⟨rfl, N95, Kp78, f79, f80, f81, f92, f93⟩
def QRemL3_3 (Z : State) (a0 : Addr) (a1 : Addr) (ar : Addr) (kA : ClassId) (x1 : Addr) (x2 : Addr) (x3 : Addr) (t1 : Int64) (t2 : Int64) (t3 : Int64) (nu : Value) (pu : Value) (h0 : Heap) (n0 : Nat) (v : Option Value) (h : Heap) (L : List Loc) : Prop := v = none ∧ Fr n0 L ∧ Keep h0 h [x3, a1, a0, ar] ∧ Fld Z h a0 cD "heads" dA (.ref ar) ∧ Fld Z h a0 cD "count" "I" (.int (2 : Int32)) ∧ Arv Z h ar kA (.object cH) (4 : Int32) [(.ref x1), (.ref x2), .null, .null] .null ∧ Fld Z h a1 cL "next" dL .null ∧ Fld Z h a1 cL "prev" dL .null
theorem efRemL3_3 (m : MethodId) (x0 : Addr) (x1 : Addr) : entryFrame m #[(.ref x0), (.ref x1)] 3 = mkF m 0 #[.val (.ref x0), .val (.ref x1), .unset] [] := by first | (simp [entryFrame, mkF, argsToLocals, Value.category]; done) | rfl
set_option maxRecDepth 65536 in
set_option maxHeartbeats 40000000 in
theorem rmRemL3_3 (l : Launch) (Z : State) (az : Array Value) (hw : ∀ d ∈ tables_1, d.before az Z = true) (ws : List Jvm.Cond) (a0 : Addr) (a1 : Addr) (ar : Addr) (kA : ClassId) (x1 : Addr) (x2 : Addr) (x3 : Addr) (t1 : Int64) (t2 : Int64) (t3 : Int64) (nu : Value) (pu : Value) (h0 : Heap) (n0 : Nat) (Z0 : n0 ≤ h0.size) (F0 : Exa Z h0 a0 cD) (F1 : Fld Z h0 a0 cD "heads" dA (.ref ar)) (F2 : Fld Z h0 a0 cD "count" "I" (.int (3 : Int32))) (F3 : Arv Z h0 ar kA (.object cH) (4 : Int32) [(.ref x1), (.ref x2), (.ref x3), .null] .null) (F4 : Ovr Z kA cH) (F5 : Exa Z h0 x1 cH) (F6 : Fld Z h0 x1 cH "tick" "J" (.long t1)) (F7 : Exa Z h0 x2 cH) (F8 : Fld Z h0 x2 cH "tick" "J" (.long t2)) (F9 : Exa Z h0 x3 cH) (F10 : Fld Z h0 x3 cH "tick" "J" (.long t3)) (F11 : Exa Z h0 a1 cL) (F12 : Fld Z h0 a1 cL "prev" dL (.ref x3)) (F13 : Fld Z h0 a1 cL "next" dL (.ref x3)) (F14 : Fld Z h0 x3 cL "next" dL nu) (F15 : Fld Z h0 x3 cL "prev" dL pu) (Ne0 : a0 ≠ ar) (Ne1 : x1 ≠ a0) (Ne2 : x2 ≠ a0) (Ne3 : x3 ≠ a0) (Ne4 : x1 ≠ ar) (Ne5 : x2 ≠ ar) (Ne6 : x3 ≠ ar) (Ne7 : a1 ≠ a0) (Ne8 : a1 ≠ ar) (Ne9 : a1 ≠ x1) (Ne10 : a1 ≠ x2) (Ne11 : a1 ≠ x3) (Ne12 : x3 ≠ x1) (Ne13 : x3 ≠ x2) (Ge0 : n0 ≤ a0) (Ge1 : n0 ≤ ar) (Ge2 : n0 ≤ a1) (Ge3 : n0 ≤ x3) (HD : fDue3 t3 t1 t2 t3 = (3 : Int32)) :
    MetFree l y8 (head1 (Jvm.Cond.code y8 prog_4_method_6_code 3 none :: ws) ({ frames := 2, cells := 0, slots := 0, locals := 32 } : Room)) (fun a U => a = #[(.ref a0), (.ref a1)] ∧ Z.Warmed39 U.vm ∧ U.heap = h0) (fun _ _ _ _ _ => True) (fun _ U o U' => ∃ v L, o = .returned v ∧ QRemL3_3 Z a0 a1 ar kA x1 x2 x3 t1 t2 t3 nu pu h0 n0 v U'.heap L ∧ FrameEnd U o U' L ({ frames := 2, cells := 0, slots := 0, locals := 32 } : Room).cells ({ frames := 2, cells := 0, slots := 0, locals := 32 } : Room).slots) := by
  refine MetFree.of_bodySF (plainFor_of_name own_pn_com_example_admit_one_admitone_engine_DueOrder) hisR ?_
  intro p e s m args below meth c s₁ Bd hml0 hP hK
  obtain ⟨rfl, hZ, hh⟩ := hP
  have hx := Bd.exec
  have hby := Bd.bytes
  have hml : c.maxLocals = 3 := hml0
  have hown : s.vm.findClass cD = some m.cls := findClass_of_methodNamed Bd.named
  have hnm := (name_of_methodNamed Bd.named Bd.method).1
  have X0 : Stand p l e ({ frames := 2, cells := 0, slots := 0, locals := 32 } : Room) s m #[(.ref a0), (.ref a1)] below meth c s₁ [] 0 0 := Stand.of_body Bd
  have e0 : s₁.heap = h0 := by rw [← hh, Bd.state]; rfl
  have N0 := Fr.nil n0
  have Kp0 : Keep h0 h0 [x3, a1, a0, ar] := Keep.refl _ _
  refine Goes.start ?_
  refine Gb (B := s₁.setTop (mkF m 0 #[.val (.ref a0), .val (.ref a1), .unset] [])) (fun t k => castTop (efRemL3_3 m a0 a1) k) ?_
  refine Gb (fun _ => XS.aloadN X0.here hx rfl (hb hby d11_0) rfl rfl) ?_
  refine Gb (fun _ => getFR X0 hx hZ hown (wq hw 53 rfl) e0 F12 (g := (mkF m 1 (sh8 a0 a1) [(.ref a1)])) rfl rfl (hb hby d11_1)) ?_
  refine Gb (fun _ => XS.astoreN X0.here hx rfl (hb hby d11_4) rfl rfl (l' := (sh12 a0 a1 x3)) rfl) ?_
  refine Gb (fun _ => XS.aloadN X0.here hx rfl (hb hby d11_5) rfl rfl) ?_
  refine Gb (fun _ => XS.aloadN X0.here hx rfl (hb hby d11_6) rfl rfl) ?_
  refine Gb (fun _ => getFR X0 hx hZ hown (wq hw 55 rfl) e0 F13 (g := (mkF m 7 (sh12 a0 a1 x3) [(.ref a1), (.ref x3)])) rfl rfl (hb hby d11_7)) ?_
  obtain ⟨T3, h3, X3, e3, W3, st3⟩ := putFR X0 hx hZ hown (wq hw 55 rfl) e0 F14 F9 (wq hw 49 rfl) (wq hw 39 rfl) (ty := (.object cL)) (by decide) rfl rfl (g := (mkF m 10 (sh12 a0 a1 x3) [(.ref x3), (.ref x3)])) rfl rfl (hb hby d11_10)
  have f4 := F0.wr W3
  have f5 := F1.other W3 (Or.inl (Ne.symm Ne3))
  have f6 := F2.other W3 (Or.inl (Ne.symm Ne3))
  have f7 := F3.other W3 (Ne.symm Ne6)
  have f8 := F5.wr W3
  have f9 := F6.other W3 (Or.inl (Ne.symm Ne12))
  have f10 := F7.wr W3
  have f11 := F8.other W3 (Or.inl (Ne.symm Ne13))
  have f12 := F9.wr W3
  have f13 := F10.other W3 (Or.inr (slot_ne (Or.inr (wq hw 47 rfl)) (Or.inl (wq hw 49 rfl)) (by decide) (t := .long) (t' := (.object cL)) (by decide) (by decide)))
  have f14 := F11.wr W3
  have f15 := F12.other W3 (Or.inl Ne11)
  have f16 := F13.other W3 (Or.inl Ne11)
  have f17 := F15.other W3 (Or.inr (slot_ne (Or.inl (wq hw 51 rfl)) (Or.inl (wq hw 49 rfl)) (by decide) (t := (.object cL)) (t' := (.object cL)) (by decide) (by decide)))
  have f18 : Fld Z h3 x3 cL "next" dL (.ref x3) := F14.same W3
  have Kp3 : Keep h0 h3 [x3, a1, a0, ar] := Kp0.wr W3 (Or.inl om0)
  have Z19 := Nat.le_trans Z0 (Nat.le_of_eq W3.size.symm)
  have N20 := Fr.snoc X3 N0 Ge3
  refine Gb st3 ?_
  refine Gb (fun _ => XS.aloadN X3.here hx rfl (hb hby d11_13) rfl rfl) ?_
  refine Gb (fun _ => getFR X3 hx hZ hown (wq hw 55 rfl) e3 f16 (g := (mkF m 14 (sh12 a0 a1 x3) [(.ref a1)])) rfl rfl (hb hby d11_14)) ?_
  refine Gb (fun _ => XS.aloadN X3.here hx rfl (hb hby d11_17) rfl rfl) ?_
  obtain ⟨T22, h22, X22, e22, W22, st22⟩ := putFR X3 hx hZ hown (wq hw 53 rfl) e3 f17 f12 (wq hw 51 rfl) (wq hw 39 rfl) (ty := (.object cL)) (by decide) rfl rfl (g := (mkF m 18 (sh12 a0 a1 x3) [(.ref x3), (.ref x3)])) rfl rfl (hb hby d11_18)
  have f23 := f4.wr W22
  have f24 := f5.other W22 (Or.inl (Ne.symm Ne3))
  have f25 := f6.other W22 (Or.inl (Ne.symm Ne3))
  have f26 := f7.other W22 (Ne.symm Ne6)
  have f27 := f8.wr W22
  have f28 := f9.other W22 (Or.inl (Ne.symm Ne12))
  have f29 := f10.wr W22
  have f30 := f11.other W22 (Or.inl (Ne.symm Ne13))
  have f31 := f12.wr W22
  have f32 := f13.other W22 (Or.inr (slot_ne (Or.inr (wq hw 47 rfl)) (Or.inl (wq hw 51 rfl)) (by decide) (t := .long) (t' := (.object cL)) (by decide) (by decide)))
  have f33 := f14.wr W22
  have f34 := f15.other W22 (Or.inl Ne11)
  have f35 := f16.other W22 (Or.inl Ne11)
  have f36 := f18.other W22 (Or.inr (slot_ne (Or.inl (wq hw 49 rfl)) (Or.inl (wq hw 51 rfl)) (by decide) (t := (.object cL)) (t' := (.object cL)) (by decide) (by decide)))
  have f37 : Fld Z h22 x3 cL "prev" dL (.ref x3) := f17.same W22
  have Kp22 : Keep h0 h22 [x3, a1, a0, ar] := Kp3.wr W22 (Or.inl om0)
  have Z38 := Nat.le_trans Z19 (Nat.le_of_eq W22.size.symm)
  have N39 := Fr.snoc X22 N20 Ge3
  refine Gb st22 ?_
  refine Gb (fun _ => XS.aloadN X22.here hx rfl (hb hby d11_21) rfl rfl) ?_
  refine Gb (fun _ => XS.aconstNull X22.here hx rfl (hb hby d11_22)) ?_
  obtain ⟨T40, h40, X40, e40, W40, st40⟩ := putFR X22 hx hZ hown (wq hw 55 rfl) e22 f35 f33 (wq hw 56 rfl) (wq hw 14 rfl) (ty := (.object cL)) (by decide) rfl rfl (g := (mkF m 23 (sh12 a0 a1 x3) [.null, (.ref a1)])) rfl rfl (hb hby d11_23)
  have f41 := f23.wr W40
  have f42 := f24.other W40 (Or.inl (Ne.symm Ne7))
  have f43 := f25.other W40 (Or.inl (Ne.symm Ne7))
  have f44 := f26.other W40 (Ne.symm Ne8)
  have f45 := f27.wr W40
  have f46 := f28.other W40 (Or.inl (Ne.symm Ne9))
  have f47 := f29.wr W40
  have f48 := f30.other W40 (Or.inl (Ne.symm Ne10))
  have f49 := f31.wr W40
  have f50 := f32.other W40 (Or.inl (Ne.symm Ne11))
  have f51 := f33.wr W40
  have f52 := f34.other W40 (Or.inr (slot_ne (Or.inl (wq hw 54 rfl)) (Or.inl (wq hw 56 rfl)) (by decide) (t := (.object cL)) (t' := (.object cL)) (by decide) (by decide)))
  have f53 := f36.other W40 (Or.inl (Ne.symm Ne11))
  have f54 := f37.other W40 (Or.inl (Ne.symm Ne11))
  have f55 : Fld Z h40 a1 cL "next" dL .null := f35.same W40
  have Kp40 : Keep h0 h40 [x3, a1, a0, ar] := Kp22.wr W40 (Or.inl om1)
  have Z56 := Nat.le_trans Z38 (Nat.le_of_eq W40.size.symm)
  have N57 := Fr.snoc X40 N39 Ge2
  refine Gb st40 ?_
  refine Gb (fun _ => XS.aloadN X40.here hx rfl (hb hby d11_26) rfl rfl) ?_
  refine Gb (fun _ => XS.aconstNull X40.here hx rfl (hb hby d11_27)) ?_
  obtain ⟨T58, h58, X58, e58, W58, st58⟩ := putFR X40 hx hZ hown (wq hw 53 rfl) e40 f52 f51 (wq hw 54 rfl) (wq hw 14 rfl) (ty := (.object cL)) (by decide) rfl rfl (g := (mkF m 28 (sh12 a0 a1 x3) [.null, (.ref a1)])) rfl rfl (hb hby d11_28)
  have f59 := f41.wr W58
  have f60 := f42.other W58 (Or.inl (Ne.symm Ne7))
  have f61 := f43.other W58 (Or.inl (Ne.symm Ne7))
  have f62 := f44.other W58 (Ne.symm Ne8)
  have f63 := f45.wr W58
  have f64 := f46.other W58 (Or.inl (Ne.symm Ne9))
  have f65 := f47.wr W58
  have f66 := f48.other W58 (Or.inl (Ne.symm Ne10))
  have f67 := f49.wr W58
  have f68 := f50.other W58 (Or.inl (Ne.symm Ne11))
  have f69 := f51.wr W58
  have f70 := f53.other W58 (Or.inl (Ne.symm Ne11))
  have f71 := f54.other W58 (Or.inl (Ne.symm Ne11))
  have f72 := f55.other W58 (Or.inr (slot_ne (Or.inl (wq hw 56 rfl)) (Or.inl (wq hw 54 rfl)) (by decide) (t := (.object cL)) (t' := (.object cL)) (by decide) (by decide)))
  have f73 : Fld Z h58 a1 cL "prev" dL .null := f52.same W58
  have Kp58 : Keep h0 h58 [x3, a1, a0, ar] := Kp40.wr W58 (Or.inl om1)
  have Z74 := Nat.le_trans Z56 (Nat.le_of_eq W58.size.symm)
  have N75 := Fr.snoc X58 N57 Ge2
  refine Gb st58 ?_
  refine Gb (fun _ => XS.aloadN X58.here hx rfl (hb hby d11_31) rfl rfl) ?_
  refine Gb (B := T58.setTop (mkF m 41 (sh12 a0 a1 x3) [(.ref x3), (.ref a0)])) (fun t k => ?_) ?_
  · refine getFR X58 hx hZ hown (wq hw 55 rfl) e58 f70 (g := (mkF m 32 (sh12 a0 a1 x3) [(.ref x3)])) rfl rfl (hb hby d11_32) ?_
    refine XS.aloadN X58.here hx rfl (hb hby d11_35) rfl rfl ?_
    refine Jvm.RoadKit.acmp (g := (mkF m 36 (sh12 a0 a1 x3) [(.ref x3), (.ref x3)])) X58 hx rfl rfl rfl (pc0 := 36) (pc' := 39) (same := true) rfl (hb hby d11_36) rfl (decide_eq_true rfl) (by decide) (by decide) ?_
    refine XS.aloadN X58.here hx rfl (hb hby d11_39) rfl rfl ?_
    refine XS.aloadN X58.here hx rfl (hb hby d11_40) rfl rfl ?_
    exact k
  obtain ⟨T77, X77, e77, st77⟩ := castY X58 hx hZ hown (wq hw 9 rfl) e58 (Ins.self f67) (g := (mkF m 41 (sh12 a0 a1 x3) [(.ref x3), (.ref a0)])) rfl rfl (hb hby d11_41)
  refine Gb st77 ?_
  obtain ⟨_, T78, L78, Lc78, X78, hF78, hQ78, st78⟩ := own_cp X77 hx hZ hown (wq hw 77 rfl) (wq hw 79 rfl) (wq hw 1 rfl) (wq hw 78 rfl) (wq hw 2 rfl) (wq hw 80 rfl) (rmDrop3_3 l Z az hw [] a0 x3 ar kA x1 x2 t1 t2 t3 h58 n0 Z74 f59 f60 f61 f62 F4 f63 f64 f65 f66 f67 f68 Ne0 Ne1 Ne2 Ne3 Ne4 Ne5 Ne6 Ge0 Ge1 HD) (W := 0) (g := (mkF m 44 (sh12 a0 a1 x3) [(.ref x3), (.ref a0)])) rfl (by rw [hml]; rfl) f59 (argsL := [(.ref x3)]) (rest := []) rfl (lenOf own_pd4 rfl) rfl (hb hby d11_44) e77 N75 (c' := 0) (s' := 0)
  obtain ⟨rfl, N78q, K78, f79, f80, f81⟩ := hQ78
  have f82 := f59.keep K78
  have f83 := f63.keep K78
  have f84 := f64.keep K78 (ninS Ne4 (ninS Ne1 nin0))
  have f85 := f65.keep K78
  have f86 := f66.keep K78 (ninS Ne5 (ninS Ne2 nin0))
  have f87 := f67.keep K78
  have f88 := f68.keep K78 (ninS Ne6 (ninS Ne3 nin0))
  have f89 := f69.keep K78
  have f90 := f70.keep K78 (ninS Ne6 (ninS Ne3 nin0))
  have f91 := f71.keep K78 (ninS Ne6 (ninS Ne3 nin0))
  have f92 := f72.keep K78 (ninS Ne8 (ninS Ne7 nin0))
  have f93 := f73.keep K78 (ninS Ne8 (ninS Ne7 nin0))
  have Kp78 : Keep h0 T78.heap [x3, a1, a0, ar] := Kp58.trans K78 (allS (Or.inl om3) (allS (Or.inl om2) all0))
  have Z94 := Nat.le_trans Z74 K78.1
  have N95 := hF78 N78q
  refine Gb st78 ?_
  obtain ⟨fs, hr, hrun, hended, hW, hsame⟩ := X78.leave (v := none) (fun _ => rfl)
  refine Goes.mk _ _ ?_ ⟨hrun, hended, _, _, rfl, ?_, ⟨_, rfl⟩, hW, hsame.mono (by decide) (by decide)⟩
  · exact X78.returnOut hx Bd.returns (hb hby d11_47) hr
  · show QRemL3_3 Z a0 a1 ar kA x1 x2 x3 t1 t2 t3 nu pu h0 n0 _ T78.heap _
    exact ⟨rfl, N95, Kp78, f79, f80, f81, f92, f93⟩
def QRemL4_1 (Z : State) (a0 : Addr) (a1 : Addr) (ar : Addr) (kA : ClassId) (x1 : Addr) (x2 : Addr) (x3 : Addr) (x4 : Addr) (t1 : Int64) (t2 : Int64) (t3 : Int64) (t4 : Int64) (nu : Value) (pu : Value) (h0 : Heap) (n0 : Nat) (v : Option Value) (h : Heap) (L : List Loc) : Prop := v = none ∧ Fr n0 L ∧ Keep h0 h [x1, a1, a0, ar] ∧ Fld Z h a0 cD "heads" dA (.ref ar) ∧ Fld Z h a0 cD "count" "I" (.int (3 : Int32)) ∧ Arv Z h ar kA (.object cH) (4 : Int32) [(.ref x2), (.ref x3), (.ref x4), .null] .null ∧ Fld Z h a1 cL "next" dL .null ∧ Fld Z h a1 cL "prev" dL .null
theorem efRemL4_1 (m : MethodId) (x0 : Addr) (x1 : Addr) : entryFrame m #[(.ref x0), (.ref x1)] 3 = mkF m 0 #[.val (.ref x0), .val (.ref x1), .unset] [] := by first | (simp [entryFrame, mkF, argsToLocals, Value.category]; done) | rfl
set_option maxRecDepth 65536 in
set_option maxHeartbeats 40000000 in
theorem rmRemL4_1 (l : Launch) (Z : State) (az : Array Value) (hw : ∀ d ∈ tables_1, d.before az Z = true) (ws : List Jvm.Cond) (a0 : Addr) (a1 : Addr) (ar : Addr) (kA : ClassId) (x1 : Addr) (x2 : Addr) (x3 : Addr) (x4 : Addr) (t1 : Int64) (t2 : Int64) (t3 : Int64) (t4 : Int64) (nu : Value) (pu : Value) (h0 : Heap) (n0 : Nat) (Z0 : n0 ≤ h0.size) (F0 : Exa Z h0 a0 cD) (F1 : Fld Z h0 a0 cD "heads" dA (.ref ar)) (F2 : Fld Z h0 a0 cD "count" "I" (.int (4 : Int32))) (F3 : Arv Z h0 ar kA (.object cH) (4 : Int32) [(.ref x1), (.ref x2), (.ref x3), (.ref x4)] .null) (F4 : Ovr Z kA cH) (F5 : Exa Z h0 x1 cH) (F6 : Fld Z h0 x1 cH "tick" "J" (.long t1)) (F7 : Exa Z h0 x2 cH) (F8 : Fld Z h0 x2 cH "tick" "J" (.long t2)) (F9 : Exa Z h0 x3 cH) (F10 : Fld Z h0 x3 cH "tick" "J" (.long t3)) (F11 : Exa Z h0 x4 cH) (F12 : Fld Z h0 x4 cH "tick" "J" (.long t4)) (F13 : Exa Z h0 a1 cL) (F14 : Fld Z h0 a1 cL "prev" dL (.ref x1)) (F15 : Fld Z h0 a1 cL "next" dL (.ref x1)) (F16 : Fld Z h0 x1 cL "next" dL nu) (F17 : Fld Z h0 x1 cL "prev" dL pu) (Ne0 : a0 ≠ ar) (Ne1 : x1 ≠ a0) (Ne2 : x2 ≠ a0) (Ne3 : x3 ≠ a0) (Ne4 : x4 ≠ a0) (Ne5 : x1 ≠ ar) (Ne6 : x2 ≠ ar) (Ne7 : x3 ≠ ar) (Ne8 : x4 ≠ ar) (Ne9 : a1 ≠ a0) (Ne10 : a1 ≠ ar) (Ne11 : a1 ≠ x1) (Ne12 : a1 ≠ x2) (Ne13 : a1 ≠ x3) (Ne14 : a1 ≠ x4) (Ne15 : x1 ≠ x2) (Ne16 : x1 ≠ x3) (Ne17 : x1 ≠ x4) (Ge0 : n0 ≤ a0) (Ge1 : n0 ≤ ar) (Ge2 : n0 ≤ a1) (Ge3 : n0 ≤ x1) (HD : fDue4 t1 t1 t2 t3 t4 = (1 : Int32)) :
    MetFree l y8 (head1 (Jvm.Cond.code y8 prog_4_method_6_code 3 none :: ws) ({ frames := 2, cells := 0, slots := 0, locals := 32 } : Room)) (fun a U => a = #[(.ref a0), (.ref a1)] ∧ Z.Warmed39 U.vm ∧ U.heap = h0) (fun _ _ _ _ _ => True) (fun _ U o U' => ∃ v L, o = .returned v ∧ QRemL4_1 Z a0 a1 ar kA x1 x2 x3 x4 t1 t2 t3 t4 nu pu h0 n0 v U'.heap L ∧ FrameEnd U o U' L ({ frames := 2, cells := 0, slots := 0, locals := 32 } : Room).cells ({ frames := 2, cells := 0, slots := 0, locals := 32 } : Room).slots) := by
  refine MetFree.of_bodySF (plainFor_of_name own_pn_com_example_admit_one_admitone_engine_DueOrder) hisR ?_
  intro p e s m args below meth c s₁ Bd hml0 hP hK
  obtain ⟨rfl, hZ, hh⟩ := hP
  have hx := Bd.exec
  have hby := Bd.bytes
  have hml : c.maxLocals = 3 := hml0
  have hown : s.vm.findClass cD = some m.cls := findClass_of_methodNamed Bd.named
  have hnm := (name_of_methodNamed Bd.named Bd.method).1
  have X0 : Stand p l e ({ frames := 2, cells := 0, slots := 0, locals := 32 } : Room) s m #[(.ref a0), (.ref a1)] below meth c s₁ [] 0 0 := Stand.of_body Bd
  have e0 : s₁.heap = h0 := by rw [← hh, Bd.state]; rfl
  have N0 := Fr.nil n0
  have Kp0 : Keep h0 h0 [x1, a1, a0, ar] := Keep.refl _ _
  refine Goes.start ?_
  refine Gb (B := s₁.setTop (mkF m 0 #[.val (.ref a0), .val (.ref a1), .unset] [])) (fun t k => castTop (efRemL4_1 m a0 a1) k) ?_
  refine Gb (fun _ => XS.aloadN X0.here hx rfl (hb hby d11_0) rfl rfl) ?_
  refine Gb (fun _ => getFR X0 hx hZ hown (wq hw 53 rfl) e0 F14 (g := (mkF m 1 (sh8 a0 a1) [(.ref a1)])) rfl rfl (hb hby d11_1)) ?_
  refine Gb (fun _ => XS.astoreN X0.here hx rfl (hb hby d11_4) rfl rfl (l' := (sh12 a0 a1 x1)) rfl) ?_
  refine Gb (fun _ => XS.aloadN X0.here hx rfl (hb hby d11_5) rfl rfl) ?_
  refine Gb (fun _ => XS.aloadN X0.here hx rfl (hb hby d11_6) rfl rfl) ?_
  refine Gb (fun _ => getFR X0 hx hZ hown (wq hw 55 rfl) e0 F15 (g := (mkF m 7 (sh12 a0 a1 x1) [(.ref a1), (.ref x1)])) rfl rfl (hb hby d11_7)) ?_
  obtain ⟨T3, h3, X3, e3, W3, st3⟩ := putFR X0 hx hZ hown (wq hw 55 rfl) e0 F16 F5 (wq hw 49 rfl) (wq hw 39 rfl) (ty := (.object cL)) (by decide) rfl rfl (g := (mkF m 10 (sh12 a0 a1 x1) [(.ref x1), (.ref x1)])) rfl rfl (hb hby d11_10)
  have f4 := F0.wr W3
  have f5 := F1.other W3 (Or.inl (Ne.symm Ne1))
  have f6 := F2.other W3 (Or.inl (Ne.symm Ne1))
  have f7 := F3.other W3 (Ne.symm Ne5)
  have f8 := F5.wr W3
  have f9 := F6.other W3 (Or.inr (slot_ne (Or.inr (wq hw 47 rfl)) (Or.inl (wq hw 49 rfl)) (by decide) (t := .long) (t' := (.object cL)) (by decide) (by decide)))
  have f10 := F7.wr W3
  have f11 := F8.other W3 (Or.inl (Ne.symm Ne15))
  have f12 := F9.wr W3
  have f13 := F10.other W3 (Or.inl (Ne.symm Ne16))
  have f14 := F11.wr W3
  have f15 := F12.other W3 (Or.inl (Ne.symm Ne17))
  have f16 := F13.wr W3
  have f17 := F14.other W3 (Or.inl Ne11)
  have f18 := F15.other W3 (Or.inl Ne11)
  have f19 := F17.other W3 (Or.inr (slot_ne (Or.inl (wq hw 51 rfl)) (Or.inl (wq hw 49 rfl)) (by decide) (t := (.object cL)) (t' := (.object cL)) (by decide) (by decide)))
  have f20 : Fld Z h3 x1 cL "next" dL (.ref x1) := F16.same W3
  have Kp3 : Keep h0 h3 [x1, a1, a0, ar] := Kp0.wr W3 (Or.inl om0)
  have Z21 := Nat.le_trans Z0 (Nat.le_of_eq W3.size.symm)
  have N22 := Fr.snoc X3 N0 Ge3
  refine Gb st3 ?_
  refine Gb (fun _ => XS.aloadN X3.here hx rfl (hb hby d11_13) rfl rfl) ?_
  refine Gb (fun _ => getFR X3 hx hZ hown (wq hw 55 rfl) e3 f18 (g := (mkF m 14 (sh12 a0 a1 x1) [(.ref a1)])) rfl rfl (hb hby d11_14)) ?_
  refine Gb (fun _ => XS.aloadN X3.here hx rfl (hb hby d11_17) rfl rfl) ?_
  obtain ⟨T24, h24, X24, e24, W24, st24⟩ := putFR X3 hx hZ hown (wq hw 53 rfl) e3 f19 f8 (wq hw 51 rfl) (wq hw 39 rfl) (ty := (.object cL)) (by decide) rfl rfl (g := (mkF m 18 (sh12 a0 a1 x1) [(.ref x1), (.ref x1)])) rfl rfl (hb hby d11_18)
  have f25 := f4.wr W24
  have f26 := f5.other W24 (Or.inl (Ne.symm Ne1))
  have f27 := f6.other W24 (Or.inl (Ne.symm Ne1))
  have f28 := f7.other W24 (Ne.symm Ne5)
  have f29 := f8.wr W24
  have f30 := f9.other W24 (Or.inr (slot_ne (Or.inr (wq hw 47 rfl)) (Or.inl (wq hw 51 rfl)) (by decide) (t := .long) (t' := (.object cL)) (by decide) (by decide)))
  have f31 := f10.wr W24
  have f32 := f11.other W24 (Or.inl (Ne.symm Ne15))
  have f33 := f12.wr W24
  have f34 := f13.other W24 (Or.inl (Ne.symm Ne16))
  have f35 := f14.wr W24
  have f36 := f15.other W24 (Or.inl (Ne.symm Ne17))
  have f37 := f16.wr W24
  have f38 := f17.other W24 (Or.inl Ne11)
  have f39 := f18.other W24 (Or.inl Ne11)
  have f40 := f20.other W24 (Or.inr (slot_ne (Or.inl (wq hw 49 rfl)) (Or.inl (wq hw 51 rfl)) (by decide) (t := (.object cL)) (t' := (.object cL)) (by decide) (by decide)))
  have f41 : Fld Z h24 x1 cL "prev" dL (.ref x1) := f19.same W24
  have Kp24 : Keep h0 h24 [x1, a1, a0, ar] := Kp3.wr W24 (Or.inl om0)
  have Z42 := Nat.le_trans Z21 (Nat.le_of_eq W24.size.symm)
  have N43 := Fr.snoc X24 N22 Ge3
  refine Gb st24 ?_
  refine Gb (fun _ => XS.aloadN X24.here hx rfl (hb hby d11_21) rfl rfl) ?_
  refine Gb (fun _ => XS.aconstNull X24.here hx rfl (hb hby d11_22)) ?_
  obtain ⟨T44, h44, X44, e44, W44, st44⟩ := putFR X24 hx hZ hown (wq hw 55 rfl) e24 f39 f37 (wq hw 56 rfl) (wq hw 14 rfl) (ty := (.object cL)) (by decide) rfl rfl (g := (mkF m 23 (sh12 a0 a1 x1) [.null, (.ref a1)])) rfl rfl (hb hby d11_23)
  have f45 := f25.wr W44
  have f46 := f26.other W44 (Or.inl (Ne.symm Ne9))
  have f47 := f27.other W44 (Or.inl (Ne.symm Ne9))
  have f48 := f28.other W44 (Ne.symm Ne10)
  have f49 := f29.wr W44
  have f50 := f30.other W44 (Or.inl (Ne.symm Ne11))
  have f51 := f31.wr W44
  have f52 := f32.other W44 (Or.inl (Ne.symm Ne12))
  have f53 := f33.wr W44
  have f54 := f34.other W44 (Or.inl (Ne.symm Ne13))
  have f55 := f35.wr W44
  have f56 := f36.other W44 (Or.inl (Ne.symm Ne14))
  have f57 := f37.wr W44
  have f58 := f38.other W44 (Or.inr (slot_ne (Or.inl (wq hw 54 rfl)) (Or.inl (wq hw 56 rfl)) (by decide) (t := (.object cL)) (t' := (.object cL)) (by decide) (by decide)))
  have f59 := f40.other W44 (Or.inl (Ne.symm Ne11))
  have f60 := f41.other W44 (Or.inl (Ne.symm Ne11))
  have f61 : Fld Z h44 a1 cL "next" dL .null := f39.same W44
  have Kp44 : Keep h0 h44 [x1, a1, a0, ar] := Kp24.wr W44 (Or.inl om1)
  have Z62 := Nat.le_trans Z42 (Nat.le_of_eq W44.size.symm)
  have N63 := Fr.snoc X44 N43 Ge2
  refine Gb st44 ?_
  refine Gb (fun _ => XS.aloadN X44.here hx rfl (hb hby d11_26) rfl rfl) ?_
  refine Gb (fun _ => XS.aconstNull X44.here hx rfl (hb hby d11_27)) ?_
  obtain ⟨T64, h64, X64, e64, W64, st64⟩ := putFR X44 hx hZ hown (wq hw 53 rfl) e44 f58 f57 (wq hw 54 rfl) (wq hw 14 rfl) (ty := (.object cL)) (by decide) rfl rfl (g := (mkF m 28 (sh12 a0 a1 x1) [.null, (.ref a1)])) rfl rfl (hb hby d11_28)
  have f65 := f45.wr W64
  have f66 := f46.other W64 (Or.inl (Ne.symm Ne9))
  have f67 := f47.other W64 (Or.inl (Ne.symm Ne9))
  have f68 := f48.other W64 (Ne.symm Ne10)
  have f69 := f49.wr W64
  have f70 := f50.other W64 (Or.inl (Ne.symm Ne11))
  have f71 := f51.wr W64
  have f72 := f52.other W64 (Or.inl (Ne.symm Ne12))
  have f73 := f53.wr W64
  have f74 := f54.other W64 (Or.inl (Ne.symm Ne13))
  have f75 := f55.wr W64
  have f76 := f56.other W64 (Or.inl (Ne.symm Ne14))
  have f77 := f57.wr W64
  have f78 := f59.other W64 (Or.inl (Ne.symm Ne11))
  have f79 := f60.other W64 (Or.inl (Ne.symm Ne11))
  have f80 := f61.other W64 (Or.inr (slot_ne (Or.inl (wq hw 56 rfl)) (Or.inl (wq hw 54 rfl)) (by decide) (t := (.object cL)) (t' := (.object cL)) (by decide) (by decide)))
  have f81 : Fld Z h64 a1 cL "prev" dL .null := f58.same W64
  have Kp64 : Keep h0 h64 [x1, a1, a0, ar] := Kp44.wr W64 (Or.inl om1)
  have Z82 := Nat.le_trans Z62 (Nat.le_of_eq W64.size.symm)
  have N83 := Fr.snoc X64 N63 Ge2
  refine Gb st64 ?_
  refine Gb (fun _ => XS.aloadN X64.here hx rfl (hb hby d11_31) rfl rfl) ?_
  refine Gb (B := T64.setTop (mkF m 41 (sh12 a0 a1 x1) [(.ref x1), (.ref a0)])) (fun t k => ?_) ?_
  · refine getFR X64 hx hZ hown (wq hw 55 rfl) e64 f78 (g := (mkF m 32 (sh12 a0 a1 x1) [(.ref x1)])) rfl rfl (hb hby d11_32) ?_
    refine XS.aloadN X64.here hx rfl (hb hby d11_35) rfl rfl ?_
    refine Jvm.RoadKit.acmp (g := (mkF m 36 (sh12 a0 a1 x1) [(.ref x1), (.ref x1)])) X64 hx rfl rfl rfl (pc0 := 36) (pc' := 39) (same := true) rfl (hb hby d11_36) rfl (decide_eq_true rfl) (by decide) (by decide) ?_
    refine XS.aloadN X64.here hx rfl (hb hby d11_39) rfl rfl ?_
    refine XS.aloadN X64.here hx rfl (hb hby d11_40) rfl rfl ?_
    exact k
  obtain ⟨T85, X85, e85, st85⟩ := castY X64 hx hZ hown (wq hw 9 rfl) e64 (Ins.self f69) (g := (mkF m 41 (sh12 a0 a1 x1) [(.ref x1), (.ref a0)])) rfl rfl (hb hby d11_41)
  refine Gb st85 ?_
  obtain ⟨_, T86, L86, Lc86, X86, hF86, hQ86, st86⟩ := own_cp X85 hx hZ hown (wq hw 77 rfl) (wq hw 79 rfl) (wq hw 1 rfl) (wq hw 78 rfl) (wq hw 2 rfl) (wq hw 80 rfl) (rmDrop4_1 l Z az hw [] a0 x1 ar kA x2 x3 x4 t1 t2 t3 t4 h64 n0 Z82 f65 f66 f67 f68 F4 f69 f70 f71 f72 f73 f74 f75 f76 Ne0 Ne1 Ne2 Ne3 Ne4 Ne5 Ne6 Ne7 Ne8 Ge0 Ge1 HD) (W := 0) (g := (mkF m 44 (sh12 a0 a1 x1) [(.ref x1), (.ref a0)])) rfl (by rw [hml]; rfl) f65 (argsL := [(.ref x1)]) (rest := []) rfl (lenOf own_pd4 rfl) rfl (hb hby d11_44) e85 N83 (c' := 0) (s' := 0)
  obtain ⟨rfl, N86q, K86, f87, f88, f89⟩ := hQ86
  have f90 := f65.keep K86
  have f91 := f69.keep K86
  have f92 := f70.keep K86 (ninS Ne5 (ninS Ne1 nin0))
  have f93 := f71.keep K86
  have f94 := f72.keep K86 (ninS Ne6 (ninS Ne2 nin0))
  have f95 := f73.keep K86
  have f96 := f74.keep K86 (ninS Ne7 (ninS Ne3 nin0))
  have f97 := f75.keep K86
  have f98 := f76.keep K86 (ninS Ne8 (ninS Ne4 nin0))
  have f99 := f77.keep K86
  have f100 := f78.keep K86 (ninS Ne5 (ninS Ne1 nin0))
  have f101 := f79.keep K86 (ninS Ne5 (ninS Ne1 nin0))
  have f102 := f80.keep K86 (ninS Ne10 (ninS Ne9 nin0))
  have f103 := f81.keep K86 (ninS Ne10 (ninS Ne9 nin0))
  have Kp86 : Keep h0 T86.heap [x1, a1, a0, ar] := Kp64.trans K86 (allS (Or.inl om3) (allS (Or.inl om2) all0))
  have Z104 := Nat.le_trans Z82 K86.1
  have N105 := hF86 N86q
  refine Gb st86 ?_
  obtain ⟨fs, hr, hrun, hended, hW, hsame⟩ := X86.leave (v := none) (fun _ => rfl)
  refine Goes.mk _ _ ?_ ⟨hrun, hended, _, _, rfl, ?_, ⟨_, rfl⟩, hW, hsame.mono (by decide) (by decide)⟩
  · exact X86.returnOut hx Bd.returns (hb hby d11_47) hr
  · show QRemL4_1 Z a0 a1 ar kA x1 x2 x3 x4 t1 t2 t3 t4 nu pu h0 n0 _ T86.heap _
    exact ⟨rfl, N105, Kp86, f87, f88, f89, f102, f103⟩
def QRemL4_2 (Z : State) (a0 : Addr) (a1 : Addr) (ar : Addr) (kA : ClassId) (x1 : Addr) (x2 : Addr) (x3 : Addr) (x4 : Addr) (t1 : Int64) (t2 : Int64) (t3 : Int64) (t4 : Int64) (nu : Value) (pu : Value) (h0 : Heap) (n0 : Nat) (v : Option Value) (h : Heap) (L : List Loc) : Prop := v = none ∧ Fr n0 L ∧ Keep h0 h [x2, a1, a0, ar] ∧ Fld Z h a0 cD "heads" dA (.ref ar) ∧ Fld Z h a0 cD "count" "I" (.int (3 : Int32)) ∧ Arv Z h ar kA (.object cH) (4 : Int32) [(.ref x1), (.ref x3), (.ref x4), .null] .null ∧ Fld Z h a1 cL "next" dL .null ∧ Fld Z h a1 cL "prev" dL .null
theorem efRemL4_2 (m : MethodId) (x0 : Addr) (x1 : Addr) : entryFrame m #[(.ref x0), (.ref x1)] 3 = mkF m 0 #[.val (.ref x0), .val (.ref x1), .unset] [] := by first | (simp [entryFrame, mkF, argsToLocals, Value.category]; done) | rfl
set_option maxRecDepth 65536 in
set_option maxHeartbeats 40000000 in
theorem rmRemL4_2 (l : Launch) (Z : State) (az : Array Value) (hw : ∀ d ∈ tables_1, d.before az Z = true) (ws : List Jvm.Cond) (a0 : Addr) (a1 : Addr) (ar : Addr) (kA : ClassId) (x1 : Addr) (x2 : Addr) (x3 : Addr) (x4 : Addr) (t1 : Int64) (t2 : Int64) (t3 : Int64) (t4 : Int64) (nu : Value) (pu : Value) (h0 : Heap) (n0 : Nat) (Z0 : n0 ≤ h0.size) (F0 : Exa Z h0 a0 cD) (F1 : Fld Z h0 a0 cD "heads" dA (.ref ar)) (F2 : Fld Z h0 a0 cD "count" "I" (.int (4 : Int32))) (F3 : Arv Z h0 ar kA (.object cH) (4 : Int32) [(.ref x1), (.ref x2), (.ref x3), (.ref x4)] .null) (F4 : Ovr Z kA cH) (F5 : Exa Z h0 x1 cH) (F6 : Fld Z h0 x1 cH "tick" "J" (.long t1)) (F7 : Exa Z h0 x2 cH) (F8 : Fld Z h0 x2 cH "tick" "J" (.long t2)) (F9 : Exa Z h0 x3 cH) (F10 : Fld Z h0 x3 cH "tick" "J" (.long t3)) (F11 : Exa Z h0 x4 cH) (F12 : Fld Z h0 x4 cH "tick" "J" (.long t4)) (F13 : Exa Z h0 a1 cL) (F14 : Fld Z h0 a1 cL "prev" dL (.ref x2)) (F15 : Fld Z h0 a1 cL "next" dL (.ref x2)) (F16 : Fld Z h0 x2 cL "next" dL nu) (F17 : Fld Z h0 x2 cL "prev" dL pu) (Ne0 : a0 ≠ ar) (Ne1 : x1 ≠ a0) (Ne2 : x2 ≠ a0) (Ne3 : x3 ≠ a0) (Ne4 : x4 ≠ a0) (Ne5 : x1 ≠ ar) (Ne6 : x2 ≠ ar) (Ne7 : x3 ≠ ar) (Ne8 : x4 ≠ ar) (Ne9 : a1 ≠ a0) (Ne10 : a1 ≠ ar) (Ne11 : a1 ≠ x1) (Ne12 : a1 ≠ x2) (Ne13 : a1 ≠ x3) (Ne14 : a1 ≠ x4) (Ne15 : x2 ≠ x1) (Ne16 : x2 ≠ x3) (Ne17 : x2 ≠ x4) (Ge0 : n0 ≤ a0) (Ge1 : n0 ≤ ar) (Ge2 : n0 ≤ a1) (Ge3 : n0 ≤ x2) (HD : fDue4 t2 t1 t2 t3 t4 = (2 : Int32)) :
    MetFree l y8 (head1 (Jvm.Cond.code y8 prog_4_method_6_code 3 none :: ws) ({ frames := 2, cells := 0, slots := 0, locals := 32 } : Room)) (fun a U => a = #[(.ref a0), (.ref a1)] ∧ Z.Warmed39 U.vm ∧ U.heap = h0) (fun _ _ _ _ _ => True) (fun _ U o U' => ∃ v L, o = .returned v ∧ QRemL4_2 Z a0 a1 ar kA x1 x2 x3 x4 t1 t2 t3 t4 nu pu h0 n0 v U'.heap L ∧ FrameEnd U o U' L ({ frames := 2, cells := 0, slots := 0, locals := 32 } : Room).cells ({ frames := 2, cells := 0, slots := 0, locals := 32 } : Room).slots) := by
  refine MetFree.of_bodySF (plainFor_of_name own_pn_com_example_admit_one_admitone_engine_DueOrder) hisR ?_
  intro p e s m args below meth c s₁ Bd hml0 hP hK
  obtain ⟨rfl, hZ, hh⟩ := hP
  have hx := Bd.exec
  have hby := Bd.bytes
  have hml : c.maxLocals = 3 := hml0
  have hown : s.vm.findClass cD = some m.cls := findClass_of_methodNamed Bd.named
  have hnm := (name_of_methodNamed Bd.named Bd.method).1
  have X0 : Stand p l e ({ frames := 2, cells := 0, slots := 0, locals := 32 } : Room) s m #[(.ref a0), (.ref a1)] below meth c s₁ [] 0 0 := Stand.of_body Bd
  have e0 : s₁.heap = h0 := by rw [← hh, Bd.state]; rfl
  have N0 := Fr.nil n0
  have Kp0 : Keep h0 h0 [x2, a1, a0, ar] := Keep.refl _ _
  refine Goes.start ?_
  refine Gb (B := s₁.setTop (mkF m 0 #[.val (.ref a0), .val (.ref a1), .unset] [])) (fun t k => castTop (efRemL4_2 m a0 a1) k) ?_
  refine Gb (fun _ => XS.aloadN X0.here hx rfl (hb hby d11_0) rfl rfl) ?_
  refine Gb (fun _ => getFR X0 hx hZ hown (wq hw 53 rfl) e0 F14 (g := (mkF m 1 (sh8 a0 a1) [(.ref a1)])) rfl rfl (hb hby d11_1)) ?_
  refine Gb (fun _ => XS.astoreN X0.here hx rfl (hb hby d11_4) rfl rfl (l' := (sh12 a0 a1 x2)) rfl) ?_
  refine Gb (fun _ => XS.aloadN X0.here hx rfl (hb hby d11_5) rfl rfl) ?_
  refine Gb (fun _ => XS.aloadN X0.here hx rfl (hb hby d11_6) rfl rfl) ?_
  refine Gb (fun _ => getFR X0 hx hZ hown (wq hw 55 rfl) e0 F15 (g := (mkF m 7 (sh12 a0 a1 x2) [(.ref a1), (.ref x2)])) rfl rfl (hb hby d11_7)) ?_
  obtain ⟨T3, h3, X3, e3, W3, st3⟩ := putFR X0 hx hZ hown (wq hw 55 rfl) e0 F16 F7 (wq hw 49 rfl) (wq hw 39 rfl) (ty := (.object cL)) (by decide) rfl rfl (g := (mkF m 10 (sh12 a0 a1 x2) [(.ref x2), (.ref x2)])) rfl rfl (hb hby d11_10)
  have f4 := F0.wr W3
  have f5 := F1.other W3 (Or.inl (Ne.symm Ne2))
  have f6 := F2.other W3 (Or.inl (Ne.symm Ne2))
  have f7 := F3.other W3 (Ne.symm Ne6)
  have f8 := F5.wr W3
  have f9 := F6.other W3 (Or.inl (Ne.symm Ne15))
  have f10 := F7.wr W3
  have f11 := F8.other W3 (Or.inr (slot_ne (Or.inr (wq hw 47 rfl)) (Or.inl (wq hw 49 rfl)) (by decide) (t := .long) (t' := (.object cL)) (by decide) (by decide)))
  have f12 := F9.wr W3
  have f13 := F10.other W3 (Or.inl (Ne.symm Ne16))
  have f14 := F11.wr W3
  have f15 := F12.other W3 (Or.inl (Ne.symm Ne17))
  have f16 := F13.wr W3
  have f17 := F14.other W3 (Or.inl Ne12)
  have f18 := F15.other W3 (Or.inl Ne12)
  have f19 := F17.other W3 (Or.inr (slot_ne (Or.inl (wq hw 51 rfl)) (Or.inl (wq hw 49 rfl)) (by decide) (t := (.object cL)) (t' := (.object cL)) (by decide) (by decide)))
  have f20 : Fld Z h3 x2 cL "next" dL (.ref x2) := F16.same W3
  have Kp3 : Keep h0 h3 [x2, a1, a0, ar] := Kp0.wr W3 (Or.inl om0)
  have Z21 := Nat.le_trans Z0 (Nat.le_of_eq W3.size.symm)
  have N22 := Fr.snoc X3 N0 Ge3
  refine Gb st3 ?_
  refine Gb (fun _ => XS.aloadN X3.here hx rfl (hb hby d11_13) rfl rfl) ?_
  refine Gb (fun _ => getFR X3 hx hZ hown (wq hw 55 rfl) e3 f18 (g := (mkF m 14 (sh12 a0 a1 x2) [(.ref a1)])) rfl rfl (hb hby d11_14)) ?_
  refine Gb (fun _ => XS.aloadN X3.here hx rfl (hb hby d11_17) rfl rfl) ?_
  obtain ⟨T24, h24, X24, e24, W24, st24⟩ := putFR X3 hx hZ hown (wq hw 53 rfl) e3 f19 f10 (wq hw 51 rfl) (wq hw 39 rfl) (ty := (.object cL)) (by decide) rfl rfl (g := (mkF m 18 (sh12 a0 a1 x2) [(.ref x2), (.ref x2)])) rfl rfl (hb hby d11_18)
  have f25 := f4.wr W24
  have f26 := f5.other W24 (Or.inl (Ne.symm Ne2))
  have f27 := f6.other W24 (Or.inl (Ne.symm Ne2))
  have f28 := f7.other W24 (Ne.symm Ne6)
  have f29 := f8.wr W24
  have f30 := f9.other W24 (Or.inl (Ne.symm Ne15))
  have f31 := f10.wr W24
  have f32 := f11.other W24 (Or.inr (slot_ne (Or.inr (wq hw 47 rfl)) (Or.inl (wq hw 51 rfl)) (by decide) (t := .long) (t' := (.object cL)) (by decide) (by decide)))
  have f33 := f12.wr W24
  have f34 := f13.other W24 (Or.inl (Ne.symm Ne16))
  have f35 := f14.wr W24
  have f36 := f15.other W24 (Or.inl (Ne.symm Ne17))
  have f37 := f16.wr W24
  have f38 := f17.other W24 (Or.inl Ne12)
  have f39 := f18.other W24 (Or.inl Ne12)
  have f40 := f20.other W24 (Or.inr (slot_ne (Or.inl (wq hw 49 rfl)) (Or.inl (wq hw 51 rfl)) (by decide) (t := (.object cL)) (t' := (.object cL)) (by decide) (by decide)))
  have f41 : Fld Z h24 x2 cL "prev" dL (.ref x2) := f19.same W24
  have Kp24 : Keep h0 h24 [x2, a1, a0, ar] := Kp3.wr W24 (Or.inl om0)
  have Z42 := Nat.le_trans Z21 (Nat.le_of_eq W24.size.symm)
  have N43 := Fr.snoc X24 N22 Ge3
  refine Gb st24 ?_
  refine Gb (fun _ => XS.aloadN X24.here hx rfl (hb hby d11_21) rfl rfl) ?_
  refine Gb (fun _ => XS.aconstNull X24.here hx rfl (hb hby d11_22)) ?_
  obtain ⟨T44, h44, X44, e44, W44, st44⟩ := putFR X24 hx hZ hown (wq hw 55 rfl) e24 f39 f37 (wq hw 56 rfl) (wq hw 14 rfl) (ty := (.object cL)) (by decide) rfl rfl (g := (mkF m 23 (sh12 a0 a1 x2) [.null, (.ref a1)])) rfl rfl (hb hby d11_23)
  have f45 := f25.wr W44
  have f46 := f26.other W44 (Or.inl (Ne.symm Ne9))
  have f47 := f27.other W44 (Or.inl (Ne.symm Ne9))
  have f48 := f28.other W44 (Ne.symm Ne10)
  have f49 := f29.wr W44
  have f50 := f30.other W44 (Or.inl (Ne.symm Ne11))
  have f51 := f31.wr W44
  have f52 := f32.other W44 (Or.inl (Ne.symm Ne12))
  have f53 := f33.wr W44
  have f54 := f34.other W44 (Or.inl (Ne.symm Ne13))
  have f55 := f35.wr W44
  have f56 := f36.other W44 (Or.inl (Ne.symm Ne14))
  have f57 := f37.wr W44
  have f58 := f38.other W44 (Or.inr (slot_ne (Or.inl (wq hw 54 rfl)) (Or.inl (wq hw 56 rfl)) (by decide) (t := (.object cL)) (t' := (.object cL)) (by decide) (by decide)))
  have f59 := f40.other W44 (Or.inl (Ne.symm Ne12))
  have f60 := f41.other W44 (Or.inl (Ne.symm Ne12))
  have f61 : Fld Z h44 a1 cL "next" dL .null := f39.same W44
  have Kp44 : Keep h0 h44 [x2, a1, a0, ar] := Kp24.wr W44 (Or.inl om1)
  have Z62 := Nat.le_trans Z42 (Nat.le_of_eq W44.size.symm)
  have N63 := Fr.snoc X44 N43 Ge2
  refine Gb st44 ?_
  refine Gb (fun _ => XS.aloadN X44.here hx rfl (hb hby d11_26) rfl rfl) ?_
  refine Gb (fun _ => XS.aconstNull X44.here hx rfl (hb hby d11_27)) ?_
  obtain ⟨T64, h64, X64, e64, W64, st64⟩ := putFR X44 hx hZ hown (wq hw 53 rfl) e44 f58 f57 (wq hw 54 rfl) (wq hw 14 rfl) (ty := (.object cL)) (by decide) rfl rfl (g := (mkF m 28 (sh12 a0 a1 x2) [.null, (.ref a1)])) rfl rfl (hb hby d11_28)
  have f65 := f45.wr W64
  have f66 := f46.other W64 (Or.inl (Ne.symm Ne9))
  have f67 := f47.other W64 (Or.inl (Ne.symm Ne9))
  have f68 := f48.other W64 (Ne.symm Ne10)
  have f69 := f49.wr W64
  have f70 := f50.other W64 (Or.inl (Ne.symm Ne11))
  have f71 := f51.wr W64
  have f72 := f52.other W64 (Or.inl (Ne.symm Ne12))
  have f73 := f53.wr W64
  have f74 := f54.other W64 (Or.inl (Ne.symm Ne13))
  have f75 := f55.wr W64
  have f76 := f56.other W64 (Or.inl (Ne.symm Ne14))
  have f77 := f57.wr W64
  have f78 := f59.other W64 (Or.inl (Ne.symm Ne12))
  have f79 := f60.other W64 (Or.inl (Ne.symm Ne12))
  have f80 := f61.other W64 (Or.inr (slot_ne (Or.inl (wq hw 56 rfl)) (Or.inl (wq hw 54 rfl)) (by decide) (t := (.object cL)) (t' := (.object cL)) (by decide) (by decide)))
  have f81 : Fld Z h64 a1 cL "prev" dL .null := f58.same W64
  have Kp64 : Keep h0 h64 [x2, a1, a0, ar] := Kp44.wr W64 (Or.inl om1)
  have Z82 := Nat.le_trans Z62 (Nat.le_of_eq W64.size.symm)
  have N83 := Fr.snoc X64 N63 Ge2
  refine Gb st64 ?_
  refine Gb (fun _ => XS.aloadN X64.here hx rfl (hb hby d11_31) rfl rfl) ?_
  refine Gb (B := T64.setTop (mkF m 41 (sh12 a0 a1 x2) [(.ref x2), (.ref a0)])) (fun t k => ?_) ?_
  · refine getFR X64 hx hZ hown (wq hw 55 rfl) e64 f78 (g := (mkF m 32 (sh12 a0 a1 x2) [(.ref x2)])) rfl rfl (hb hby d11_32) ?_
    refine XS.aloadN X64.here hx rfl (hb hby d11_35) rfl rfl ?_
    refine Jvm.RoadKit.acmp (g := (mkF m 36 (sh12 a0 a1 x2) [(.ref x2), (.ref x2)])) X64 hx rfl rfl rfl (pc0 := 36) (pc' := 39) (same := true) rfl (hb hby d11_36) rfl (decide_eq_true rfl) (by decide) (by decide) ?_
    refine XS.aloadN X64.here hx rfl (hb hby d11_39) rfl rfl ?_
    refine XS.aloadN X64.here hx rfl (hb hby d11_40) rfl rfl ?_
    exact k
  obtain ⟨T85, X85, e85, st85⟩ := castY X64 hx hZ hown (wq hw 9 rfl) e64 (Ins.self f71) (g := (mkF m 41 (sh12 a0 a1 x2) [(.ref x2), (.ref a0)])) rfl rfl (hb hby d11_41)
  refine Gb st85 ?_
  obtain ⟨_, T86, L86, Lc86, X86, hF86, hQ86, st86⟩ := own_cp X85 hx hZ hown (wq hw 77 rfl) (wq hw 79 rfl) (wq hw 1 rfl) (wq hw 78 rfl) (wq hw 2 rfl) (wq hw 80 rfl) (rmDrop4_2 l Z az hw [] a0 x2 ar kA x1 x3 x4 t1 t2 t3 t4 h64 n0 Z82 f65 f66 f67 f68 F4 f69 f70 f71 f72 f73 f74 f75 f76 Ne0 Ne1 Ne2 Ne3 Ne4 Ne5 Ne6 Ne7 Ne8 Ge0 Ge1 HD) (W := 0) (g := (mkF m 44 (sh12 a0 a1 x2) [(.ref x2), (.ref a0)])) rfl (by rw [hml]; rfl) f65 (argsL := [(.ref x2)]) (rest := []) rfl (lenOf own_pd4 rfl) rfl (hb hby d11_44) e85 N83 (c' := 0) (s' := 0)
  obtain ⟨rfl, N86q, K86, f87, f88, f89⟩ := hQ86
  have f90 := f65.keep K86
  have f91 := f69.keep K86
  have f92 := f70.keep K86 (ninS Ne5 (ninS Ne1 nin0))
  have f93 := f71.keep K86
  have f94 := f72.keep K86 (ninS Ne6 (ninS Ne2 nin0))
  have f95 := f73.keep K86
  have f96 := f74.keep K86 (ninS Ne7 (ninS Ne3 nin0))
  have f97 := f75.keep K86
  have f98 := f76.keep K86 (ninS Ne8 (ninS Ne4 nin0))
  have f99 := f77.keep K86
  have f100 := f78.keep K86 (ninS Ne6 (ninS Ne2 nin0))
  have f101 := f79.keep K86 (ninS Ne6 (ninS Ne2 nin0))
  have f102 := f80.keep K86 (ninS Ne10 (ninS Ne9 nin0))
  have f103 := f81.keep K86 (ninS Ne10 (ninS Ne9 nin0))
  have Kp86 : Keep h0 T86.heap [x2, a1, a0, ar] := Kp64.trans K86 (allS (Or.inl om3) (allS (Or.inl om2) all0))
  have Z104 := Nat.le_trans Z82 K86.1
  have N105 := hF86 N86q
  refine Gb st86 ?_
  obtain ⟨fs, hr, hrun, hended, hW, hsame⟩ := X86.leave (v := none) (fun _ => rfl)
  refine Goes.mk _ _ ?_ ⟨hrun, hended, _, _, rfl, ?_, ⟨_, rfl⟩, hW, hsame.mono (by decide) (by decide)⟩
  · exact X86.returnOut hx Bd.returns (hb hby d11_47) hr
  · show QRemL4_2 Z a0 a1 ar kA x1 x2 x3 x4 t1 t2 t3 t4 nu pu h0 n0 _ T86.heap _
    exact ⟨rfl, N105, Kp86, f87, f88, f89, f102, f103⟩
def QRemL4_3 (Z : State) (a0 : Addr) (a1 : Addr) (ar : Addr) (kA : ClassId) (x1 : Addr) (x2 : Addr) (x3 : Addr) (x4 : Addr) (t1 : Int64) (t2 : Int64) (t3 : Int64) (t4 : Int64) (nu : Value) (pu : Value) (h0 : Heap) (n0 : Nat) (v : Option Value) (h : Heap) (L : List Loc) : Prop := v = none ∧ Fr n0 L ∧ Keep h0 h [x3, a1, a0, ar] ∧ Fld Z h a0 cD "heads" dA (.ref ar) ∧ Fld Z h a0 cD "count" "I" (.int (3 : Int32)) ∧ Arv Z h ar kA (.object cH) (4 : Int32) [(.ref x1), (.ref x2), (.ref x4), .null] .null ∧ Fld Z h a1 cL "next" dL .null ∧ Fld Z h a1 cL "prev" dL .null
theorem efRemL4_3 (m : MethodId) (x0 : Addr) (x1 : Addr) : entryFrame m #[(.ref x0), (.ref x1)] 3 = mkF m 0 #[.val (.ref x0), .val (.ref x1), .unset] [] := by first | (simp [entryFrame, mkF, argsToLocals, Value.category]; done) | rfl
set_option maxRecDepth 65536 in
set_option maxHeartbeats 40000000 in
theorem rmRemL4_3 (l : Launch) (Z : State) (az : Array Value) (hw : ∀ d ∈ tables_1, d.before az Z = true) (ws : List Jvm.Cond) (a0 : Addr) (a1 : Addr) (ar : Addr) (kA : ClassId) (x1 : Addr) (x2 : Addr) (x3 : Addr) (x4 : Addr) (t1 : Int64) (t2 : Int64) (t3 : Int64) (t4 : Int64) (nu : Value) (pu : Value) (h0 : Heap) (n0 : Nat) (Z0 : n0 ≤ h0.size) (F0 : Exa Z h0 a0 cD) (F1 : Fld Z h0 a0 cD "heads" dA (.ref ar)) (F2 : Fld Z h0 a0 cD "count" "I" (.int (4 : Int32))) (F3 : Arv Z h0 ar kA (.object cH) (4 : Int32) [(.ref x1), (.ref x2), (.ref x3), (.ref x4)] .null) (F4 : Ovr Z kA cH) (F5 : Exa Z h0 x1 cH) (F6 : Fld Z h0 x1 cH "tick" "J" (.long t1)) (F7 : Exa Z h0 x2 cH) (F8 : Fld Z h0 x2 cH "tick" "J" (.long t2)) (F9 : Exa Z h0 x3 cH) (F10 : Fld Z h0 x3 cH "tick" "J" (.long t3)) (F11 : Exa Z h0 x4 cH) (F12 : Fld Z h0 x4 cH "tick" "J" (.long t4)) (F13 : Exa Z h0 a1 cL) (F14 : Fld Z h0 a1 cL "prev" dL (.ref x3)) (F15 : Fld Z h0 a1 cL "next" dL (.ref x3)) (F16 : Fld Z h0 x3 cL "next" dL nu) (F17 : Fld Z h0 x3 cL "prev" dL pu) (Ne0 : a0 ≠ ar) (Ne1 : x1 ≠ a0) (Ne2 : x2 ≠ a0) (Ne3 : x3 ≠ a0) (Ne4 : x4 ≠ a0) (Ne5 : x1 ≠ ar) (Ne6 : x2 ≠ ar) (Ne7 : x3 ≠ ar) (Ne8 : x4 ≠ ar) (Ne9 : a1 ≠ a0) (Ne10 : a1 ≠ ar) (Ne11 : a1 ≠ x1) (Ne12 : a1 ≠ x2) (Ne13 : a1 ≠ x3) (Ne14 : a1 ≠ x4) (Ne15 : x3 ≠ x1) (Ne16 : x3 ≠ x2) (Ne17 : x3 ≠ x4) (Ge0 : n0 ≤ a0) (Ge1 : n0 ≤ ar) (Ge2 : n0 ≤ a1) (Ge3 : n0 ≤ x3) (HD : fDue4 t3 t1 t2 t3 t4 = (3 : Int32)) :
    MetFree l y8 (head1 (Jvm.Cond.code y8 prog_4_method_6_code 3 none :: ws) ({ frames := 2, cells := 0, slots := 0, locals := 32 } : Room)) (fun a U => a = #[(.ref a0), (.ref a1)] ∧ Z.Warmed39 U.vm ∧ U.heap = h0) (fun _ _ _ _ _ => True) (fun _ U o U' => ∃ v L, o = .returned v ∧ QRemL4_3 Z a0 a1 ar kA x1 x2 x3 x4 t1 t2 t3 t4 nu pu h0 n0 v U'.heap L ∧ FrameEnd U o U' L ({ frames := 2, cells := 0, slots := 0, locals := 32 } : Room).cells ({ frames := 2, cells := 0, slots := 0, locals := 32 } : Room).slots) := by
  refine MetFree.of_bodySF (plainFor_of_name own_pn_com_example_admit_one_admitone_engine_DueOrder) hisR ?_
  intro p e s m args below meth c s₁ Bd hml0 hP hK
  obtain ⟨rfl, hZ, hh⟩ := hP
  have hx := Bd.exec
  have hby := Bd.bytes
  have hml : c.maxLocals = 3 := hml0
  have hown : s.vm.findClass cD = some m.cls := findClass_of_methodNamed Bd.named
  have hnm := (name_of_methodNamed Bd.named Bd.method).1
  have X0 : Stand p l e ({ frames := 2, cells := 0, slots := 0, locals := 32 } : Room) s m #[(.ref a0), (.ref a1)] below meth c s₁ [] 0 0 := Stand.of_body Bd
  have e0 : s₁.heap = h0 := by rw [← hh, Bd.state]; rfl
  have N0 := Fr.nil n0
  have Kp0 : Keep h0 h0 [x3, a1, a0, ar] := Keep.refl _ _
  refine Goes.start ?_
  refine Gb (B := s₁.setTop (mkF m 0 #[.val (.ref a0), .val (.ref a1), .unset] [])) (fun t k => castTop (efRemL4_3 m a0 a1) k) ?_
  refine Gb (fun _ => XS.aloadN X0.here hx rfl (hb hby d11_0) rfl rfl) ?_
  refine Gb (fun _ => getFR X0 hx hZ hown (wq hw 53 rfl) e0 F14 (g := (mkF m 1 (sh8 a0 a1) [(.ref a1)])) rfl rfl (hb hby d11_1)) ?_
  refine Gb (fun _ => XS.astoreN X0.here hx rfl (hb hby d11_4) rfl rfl (l' := (sh12 a0 a1 x3)) rfl) ?_
  refine Gb (fun _ => XS.aloadN X0.here hx rfl (hb hby d11_5) rfl rfl) ?_
  refine Gb (fun _ => XS.aloadN X0.here hx rfl (hb hby d11_6) rfl rfl) ?_
  refine Gb (fun _ => getFR X0 hx hZ hown (wq hw 55 rfl) e0 F15 (g := (mkF m 7 (sh12 a0 a1 x3) [(.ref a1), (.ref x3)])) rfl rfl (hb hby d11_7)) ?_
  obtain ⟨T3, h3, X3, e3, W3, st3⟩ := putFR X0 hx hZ hown (wq hw 55 rfl) e0 F16 F9 (wq hw 49 rfl) (wq hw 39 rfl) (ty := (.object cL)) (by decide) rfl rfl (g := (mkF m 10 (sh12 a0 a1 x3) [(.ref x3), (.ref x3)])) rfl rfl (hb hby d11_10)
  have f4 := F0.wr W3
  have f5 := F1.other W3 (Or.inl (Ne.symm Ne3))
  have f6 := F2.other W3 (Or.inl (Ne.symm Ne3))
  have f7 := F3.other W3 (Ne.symm Ne7)
  have f8 := F5.wr W3
  have f9 := F6.other W3 (Or.inl (Ne.symm Ne15))
  have f10 := F7.wr W3
  have f11 := F8.other W3 (Or.inl (Ne.symm Ne16))
  have f12 := F9.wr W3
  have f13 := F10.other W3 (Or.inr (slot_ne (Or.inr (wq hw 47 rfl)) (Or.inl (wq hw 49 rfl)) (by decide) (t := .long) (t' := (.object cL)) (by decide) (by decide)))
  have f14 := F11.wr W3
  have f15 := F12.other W3 (Or.inl (Ne.symm Ne17))
  have f16 := F13.wr W3
  have f17 := F14.other W3 (Or.inl Ne13)
  have f18 := F15.other W3 (Or.inl Ne13)
  have f19 := F17.other W3 (Or.inr (slot_ne (Or.inl (wq hw 51 rfl)) (Or.inl (wq hw 49 rfl)) (by decide) (t := (.object cL)) (t' := (.object cL)) (by decide) (by decide)))
  have f20 : Fld Z h3 x3 cL "next" dL (.ref x3) := F16.same W3
  have Kp3 : Keep h0 h3 [x3, a1, a0, ar] := Kp0.wr W3 (Or.inl om0)
  have Z21 := Nat.le_trans Z0 (Nat.le_of_eq W3.size.symm)
  have N22 := Fr.snoc X3 N0 Ge3
  refine Gb st3 ?_
  refine Gb (fun _ => XS.aloadN X3.here hx rfl (hb hby d11_13) rfl rfl) ?_
  refine Gb (fun _ => getFR X3 hx hZ hown (wq hw 55 rfl) e3 f18 (g := (mkF m 14 (sh12 a0 a1 x3) [(.ref a1)])) rfl rfl (hb hby d11_14)) ?_
  refine Gb (fun _ => XS.aloadN X3.here hx rfl (hb hby d11_17) rfl rfl) ?_
  obtain ⟨T24, h24, X24, e24, W24, st24⟩ := putFR X3 hx hZ hown (wq hw 53 rfl) e3 f19 f12 (wq hw 51 rfl) (wq hw 39 rfl) (ty := (.object cL)) (by decide) rfl rfl (g := (mkF m 18 (sh12 a0 a1 x3) [(.ref x3), (.ref x3)])) rfl rfl (hb hby d11_18)
  have f25 := f4.wr W24
  have f26 := f5.other W24 (Or.inl (Ne.symm Ne3))
  have f27 := f6.other W24 (Or.inl (Ne.symm Ne3))
  have f28 := f7.other W24 (Ne.symm Ne7)
  have f29 := f8.wr W24
  have f30 := f9.other W24 (Or.inl (Ne.symm Ne15))
  have f31 := f10.wr W24
  have f32 := f11.other W24 (Or.inl (Ne.symm Ne16))
  have f33 := f12.wr W24
  have f34 := f13.other W24 (Or.inr (slot_ne (Or.inr (wq hw 47 rfl)) (Or.inl (wq hw 51 rfl)) (by decide) (t := .long) (t' := (.object cL)) (by decide) (by decide)))
  have f35 := f14.wr W24
  have f36 := f15.other W24 (Or.inl (Ne.symm Ne17))
  have f37 := f16.wr W24
  have f38 := f17.other W24 (Or.inl Ne13)
  have f39 := f18.other W24 (Or.inl Ne13)
  have f40 := f20.other W24 (Or.inr (slot_ne (Or.inl (wq hw 49 rfl)) (Or.inl (wq hw 51 rfl)) (by decide) (t := (.object cL)) (t' := (.object cL)) (by decide) (by decide)))
  have f41 : Fld Z h24 x3 cL "prev" dL (.ref x3) := f19.same W24
  have Kp24 : Keep h0 h24 [x3, a1, a0, ar] := Kp3.wr W24 (Or.inl om0)
  have Z42 := Nat.le_trans Z21 (Nat.le_of_eq W24.size.symm)
  have N43 := Fr.snoc X24 N22 Ge3
  refine Gb st24 ?_
  refine Gb (fun _ => XS.aloadN X24.here hx rfl (hb hby d11_21) rfl rfl) ?_
  refine Gb (fun _ => XS.aconstNull X24.here hx rfl (hb hby d11_22)) ?_
  obtain ⟨T44, h44, X44, e44, W44, st44⟩ := putFR X24 hx hZ hown (wq hw 55 rfl) e24 f39 f37 (wq hw 56 rfl) (wq hw 14 rfl) (ty := (.object cL)) (by decide) rfl rfl (g := (mkF m 23 (sh12 a0 a1 x3) [.null, (.ref a1)])) rfl rfl (hb hby d11_23)
  have f45 := f25.wr W44
  have f46 := f26.other W44 (Or.inl (Ne.symm Ne9))
  have f47 := f27.other W44 (Or.inl (Ne.symm Ne9))
  have f48 := f28.other W44 (Ne.symm Ne10)
  have f49 := f29.wr W44
  have f50 := f30.other W44 (Or.inl (Ne.symm Ne11))
  have f51 := f31.wr W44
  have f52 := f32.other W44 (Or.inl (Ne.symm Ne12))
  have f53 := f33.wr W44
  have f54 := f34.other W44 (Or.inl (Ne.symm Ne13))
  have f55 := f35.wr W44
  have f56 := f36.other W44 (Or.inl (Ne.symm Ne14))
  have f57 := f37.wr W44
  have f58 := f38.other W44 (Or.inr (slot_ne (Or.inl (wq hw 54 rfl)) (Or.inl (wq hw 56 rfl)) (by decide) (t := (.object cL)) (t' := (.object cL)) (by decide) (by decide)))
  have f59 := f40.other W44 (Or.inl (Ne.symm Ne13))
  have f60 := f41.other W44 (Or.inl (Ne.symm Ne13))
  have f61 : Fld Z h44 a1 cL "next" dL .null := f39.same W44
  have Kp44 : Keep h0 h44 [x3, a1, a0, ar] := Kp24.wr W44 (Or.inl om1)
  have Z62 := Nat.le_trans Z42 (Nat.le_of_eq W44.size.symm)
  have N63 := Fr.snoc X44 N43 Ge2
  refine Gb st44 ?_
  refine Gb (fun _ => XS.aloadN X44.here hx rfl (hb hby d11_26) rfl rfl) ?_
  refine Gb (fun _ => XS.aconstNull X44.here hx rfl (hb hby d11_27)) ?_
  obtain ⟨T64, h64, X64, e64, W64, st64⟩ := putFR X44 hx hZ hown (wq hw 53 rfl) e44 f58 f57 (wq hw 54 rfl) (wq hw 14 rfl) (ty := (.object cL)) (by decide) rfl rfl (g := (mkF m 28 (sh12 a0 a1 x3) [.null, (.ref a1)])) rfl rfl (hb hby d11_28)
  have f65 := f45.wr W64
  have f66 := f46.other W64 (Or.inl (Ne.symm Ne9))
  have f67 := f47.other W64 (Or.inl (Ne.symm Ne9))
  have f68 := f48.other W64 (Ne.symm Ne10)
  have f69 := f49.wr W64
  have f70 := f50.other W64 (Or.inl (Ne.symm Ne11))
  have f71 := f51.wr W64
  have f72 := f52.other W64 (Or.inl (Ne.symm Ne12))
  have f73 := f53.wr W64
  have f74 := f54.other W64 (Or.inl (Ne.symm Ne13))
  have f75 := f55.wr W64
  have f76 := f56.other W64 (Or.inl (Ne.symm Ne14))
  have f77 := f57.wr W64
  have f78 := f59.other W64 (Or.inl (Ne.symm Ne13))
  have f79 := f60.other W64 (Or.inl (Ne.symm Ne13))
  have f80 := f61.other W64 (Or.inr (slot_ne (Or.inl (wq hw 56 rfl)) (Or.inl (wq hw 54 rfl)) (by decide) (t := (.object cL)) (t' := (.object cL)) (by decide) (by decide)))
  have f81 : Fld Z h64 a1 cL "prev" dL .null := f58.same W64
  have Kp64 : Keep h0 h64 [x3, a1, a0, ar] := Kp44.wr W64 (Or.inl om1)
  have Z82 := Nat.le_trans Z62 (Nat.le_of_eq W64.size.symm)
  have N83 := Fr.snoc X64 N63 Ge2
  refine Gb st64 ?_
  refine Gb (fun _ => XS.aloadN X64.here hx rfl (hb hby d11_31) rfl rfl) ?_
  refine Gb (B := T64.setTop (mkF m 41 (sh12 a0 a1 x3) [(.ref x3), (.ref a0)])) (fun t k => ?_) ?_
  · refine getFR X64 hx hZ hown (wq hw 55 rfl) e64 f78 (g := (mkF m 32 (sh12 a0 a1 x3) [(.ref x3)])) rfl rfl (hb hby d11_32) ?_
    refine XS.aloadN X64.here hx rfl (hb hby d11_35) rfl rfl ?_
    refine Jvm.RoadKit.acmp (g := (mkF m 36 (sh12 a0 a1 x3) [(.ref x3), (.ref x3)])) X64 hx rfl rfl rfl (pc0 := 36) (pc' := 39) (same := true) rfl (hb hby d11_36) rfl (decide_eq_true rfl) (by decide) (by decide) ?_
    refine XS.aloadN X64.here hx rfl (hb hby d11_39) rfl rfl ?_
    refine XS.aloadN X64.here hx rfl (hb hby d11_40) rfl rfl ?_
    exact k
  obtain ⟨T85, X85, e85, st85⟩ := castY X64 hx hZ hown (wq hw 9 rfl) e64 (Ins.self f73) (g := (mkF m 41 (sh12 a0 a1 x3) [(.ref x3), (.ref a0)])) rfl rfl (hb hby d11_41)
  refine Gb st85 ?_
  obtain ⟨_, T86, L86, Lc86, X86, hF86, hQ86, st86⟩ := own_cp X85 hx hZ hown (wq hw 77 rfl) (wq hw 79 rfl) (wq hw 1 rfl) (wq hw 78 rfl) (wq hw 2 rfl) (wq hw 80 rfl) (rmDrop4_3 l Z az hw [] a0 x3 ar kA x1 x2 x4 t1 t2 t3 t4 h64 n0 Z82 f65 f66 f67 f68 F4 f69 f70 f71 f72 f73 f74 f75 f76 Ne0 Ne1 Ne2 Ne3 Ne4 Ne5 Ne6 Ne7 Ne8 Ge0 Ge1 HD) (W := 0) (g := (mkF m 44 (sh12 a0 a1 x3) [(.ref x3), (.ref a0)])) rfl (by rw [hml]; rfl) f65 (argsL := [(.ref x3)]) (rest := []) rfl (lenOf own_pd4 rfl) rfl (hb hby d11_44) e85 N83 (c' := 0) (s' := 0)
  obtain ⟨rfl, N86q, K86, f87, f88, f89⟩ := hQ86
  have f90 := f65.keep K86
  have f91 := f69.keep K86
  have f92 := f70.keep K86 (ninS Ne5 (ninS Ne1 nin0))
  have f93 := f71.keep K86
  have f94 := f72.keep K86 (ninS Ne6 (ninS Ne2 nin0))
  have f95 := f73.keep K86
  have f96 := f74.keep K86 (ninS Ne7 (ninS Ne3 nin0))
  have f97 := f75.keep K86
  have f98 := f76.keep K86 (ninS Ne8 (ninS Ne4 nin0))
  have f99 := f77.keep K86
  have f100 := f78.keep K86 (ninS Ne7 (ninS Ne3 nin0))
  have f101 := f79.keep K86 (ninS Ne7 (ninS Ne3 nin0))
  have f102 := f80.keep K86 (ninS Ne10 (ninS Ne9 nin0))
  have f103 := f81.keep K86 (ninS Ne10 (ninS Ne9 nin0))
  have Kp86 : Keep h0 T86.heap [x3, a1, a0, ar] := Kp64.trans K86 (allS (Or.inl om3) (allS (Or.inl om2) all0))
  have Z104 := Nat.le_trans Z82 K86.1
  have N105 := hF86 N86q
  refine Gb st86 ?_
  obtain ⟨fs, hr, hrun, hended, hW, hsame⟩ := X86.leave (v := none) (fun _ => rfl)
  refine Goes.mk _ _ ?_ ⟨hrun, hended, _, _, rfl, ?_, ⟨_, rfl⟩, hW, hsame.mono (by decide) (by decide)⟩
  · exact X86.returnOut hx Bd.returns (hb hby d11_47) hr
  · show QRemL4_3 Z a0 a1 ar kA x1 x2 x3 x4 t1 t2 t3 t4 nu pu h0 n0 _ T86.heap _
    exact ⟨rfl, N105, Kp86, f87, f88, f89, f102, f103⟩
def QRemL4_4 (Z : State) (a0 : Addr) (a1 : Addr) (ar : Addr) (kA : ClassId) (x1 : Addr) (x2 : Addr) (x3 : Addr) (x4 : Addr) (t1 : Int64) (t2 : Int64) (t3 : Int64) (t4 : Int64) (nu : Value) (pu : Value) (h0 : Heap) (n0 : Nat) (v : Option Value) (h : Heap) (L : List Loc) : Prop := v = none ∧ Fr n0 L ∧ Keep h0 h [x4, a1, a0, ar] ∧ Fld Z h a0 cD "heads" dA (.ref ar) ∧ Fld Z h a0 cD "count" "I" (.int (3 : Int32)) ∧ Arv Z h ar kA (.object cH) (4 : Int32) [(.ref x1), (.ref x2), (.ref x3), .null] .null ∧ Fld Z h a1 cL "next" dL .null ∧ Fld Z h a1 cL "prev" dL .null
theorem efRemL4_4 (m : MethodId) (x0 : Addr) (x1 : Addr) : entryFrame m #[(.ref x0), (.ref x1)] 3 = mkF m 0 #[.val (.ref x0), .val (.ref x1), .unset] [] := by first | (simp [entryFrame, mkF, argsToLocals, Value.category]; done) | rfl
set_option maxRecDepth 65536 in
set_option maxHeartbeats 40000000 in
theorem rmRemL4_4 (l : Launch) (Z : State) (az : Array Value) (hw : ∀ d ∈ tables_1, d.before az Z = true) (ws : List Jvm.Cond) (a0 : Addr) (a1 : Addr) (ar : Addr) (kA : ClassId) (x1 : Addr) (x2 : Addr) (x3 : Addr) (x4 : Addr) (t1 : Int64) (t2 : Int64) (t3 : Int64) (t4 : Int64) (nu : Value) (pu : Value) (h0 : Heap) (n0 : Nat) (Z0 : n0 ≤ h0.size) (F0 : Exa Z h0 a0 cD) (F1 : Fld Z h0 a0 cD "heads" dA (.ref ar)) (F2 : Fld Z h0 a0 cD "count" "I" (.int (4 : Int32))) (F3 : Arv Z h0 ar kA (.object cH) (4 : Int32) [(.ref x1), (.ref x2), (.ref x3), (.ref x4)] .null) (F4 : Ovr Z kA cH) (F5 : Exa Z h0 x1 cH) (F6 : Fld Z h0 x1 cH "tick" "J" (.long t1)) (F7 : Exa Z h0 x2 cH) (F8 : Fld Z h0 x2 cH "tick" "J" (.long t2)) (F9 : Exa Z h0 x3 cH) (F10 : Fld Z h0 x3 cH "tick" "J" (.long t3)) (F11 : Exa Z h0 x4 cH) (F12 : Fld Z h0 x4 cH "tick" "J" (.long t4)) (F13 : Exa Z h0 a1 cL) (F14 : Fld Z h0 a1 cL "prev" dL (.ref x4)) (F15 : Fld Z h0 a1 cL "next" dL (.ref x4)) (F16 : Fld Z h0 x4 cL "next" dL nu) (F17 : Fld Z h0 x4 cL "prev" dL pu) (Ne0 : a0 ≠ ar) (Ne1 : x1 ≠ a0) (Ne2 : x2 ≠ a0) (Ne3 : x3 ≠ a0) (Ne4 : x4 ≠ a0) (Ne5 : x1 ≠ ar) (Ne6 : x2 ≠ ar) (Ne7 : x3 ≠ ar) (Ne8 : x4 ≠ ar) (Ne9 : a1 ≠ a0) (Ne10 : a1 ≠ ar) (Ne11 : a1 ≠ x1) (Ne12 : a1 ≠ x2) (Ne13 : a1 ≠ x3) (Ne14 : a1 ≠ x4) (Ne15 : x4 ≠ x1) (Ne16 : x4 ≠ x2) (Ne17 : x4 ≠ x3) (Ge0 : n0 ≤ a0) (Ge1 : n0 ≤ ar) (Ge2 : n0 ≤ a1) (Ge3 : n0 ≤ x4) (HD : fDue4 t4 t1 t2 t3 t4 = (4 : Int32)) :
    MetFree l y8 (head1 (Jvm.Cond.code y8 prog_4_method_6_code 3 none :: ws) ({ frames := 2, cells := 0, slots := 0, locals := 32 } : Room)) (fun a U => a = #[(.ref a0), (.ref a1)] ∧ Z.Warmed39 U.vm ∧ U.heap = h0) (fun _ _ _ _ _ => True) (fun _ U o U' => ∃ v L, o = .returned v ∧ QRemL4_4 Z a0 a1 ar kA x1 x2 x3 x4 t1 t2 t3 t4 nu pu h0 n0 v U'.heap L ∧ FrameEnd U o U' L ({ frames := 2, cells := 0, slots := 0, locals := 32 } : Room).cells ({ frames := 2, cells := 0, slots := 0, locals := 32 } : Room).slots) := by
  refine MetFree.of_bodySF (plainFor_of_name own_pn_com_example_admit_one_admitone_engine_DueOrder) hisR ?_
  intro p e s m args below meth c s₁ Bd hml0 hP hK
  obtain ⟨rfl, hZ, hh⟩ := hP
  have hx := Bd.exec
  have hby := Bd.bytes
  have hml : c.maxLocals = 3 := hml0
  have hown : s.vm.findClass cD = some m.cls := findClass_of_methodNamed Bd.named
  have hnm := (name_of_methodNamed Bd.named Bd.method).1
  have X0 : Stand p l e ({ frames := 2, cells := 0, slots := 0, locals := 32 } : Room) s m #[(.ref a0), (.ref a1)] below meth c s₁ [] 0 0 := Stand.of_body Bd
  have e0 : s₁.heap = h0 := by rw [← hh, Bd.state]; rfl
  have N0 := Fr.nil n0
  have Kp0 : Keep h0 h0 [x4, a1, a0, ar] := Keep.refl _ _
  refine Goes.start ?_
  refine Gb (B := s₁.setTop (mkF m 0 #[.val (.ref a0), .val (.ref a1), .unset] [])) (fun t k => castTop (efRemL4_4 m a0 a1) k) ?_
  refine Gb (fun _ => XS.aloadN X0.here hx rfl (hb hby d11_0) rfl rfl) ?_
  refine Gb (fun _ => getFR X0 hx hZ hown (wq hw 53 rfl) e0 F14 (g := (mkF m 1 (sh8 a0 a1) [(.ref a1)])) rfl rfl (hb hby d11_1)) ?_
  refine Gb (fun _ => XS.astoreN X0.here hx rfl (hb hby d11_4) rfl rfl (l' := (sh12 a0 a1 x4)) rfl) ?_
  refine Gb (fun _ => XS.aloadN X0.here hx rfl (hb hby d11_5) rfl rfl) ?_
  refine Gb (fun _ => XS.aloadN X0.here hx rfl (hb hby d11_6) rfl rfl) ?_
  refine Gb (fun _ => getFR X0 hx hZ hown (wq hw 55 rfl) e0 F15 (g := (mkF m 7 (sh12 a0 a1 x4) [(.ref a1), (.ref x4)])) rfl rfl (hb hby d11_7)) ?_
  obtain ⟨T3, h3, X3, e3, W3, st3⟩ := putFR X0 hx hZ hown (wq hw 55 rfl) e0 F16 F11 (wq hw 49 rfl) (wq hw 39 rfl) (ty := (.object cL)) (by decide) rfl rfl (g := (mkF m 10 (sh12 a0 a1 x4) [(.ref x4), (.ref x4)])) rfl rfl (hb hby d11_10)
  have f4 := F0.wr W3
  have f5 := F1.other W3 (Or.inl (Ne.symm Ne4))
  have f6 := F2.other W3 (Or.inl (Ne.symm Ne4))
  have f7 := F3.other W3 (Ne.symm Ne8)
  have f8 := F5.wr W3
  have f9 := F6.other W3 (Or.inl (Ne.symm Ne15))
  have f10 := F7.wr W3
  have f11 := F8.other W3 (Or.inl (Ne.symm Ne16))
  have f12 := F9.wr W3
  have f13 := F10.other W3 (Or.inl (Ne.symm Ne17))
  have f14 := F11.wr W3
  have f15 := F12.other W3 (Or.inr (slot_ne (Or.inr (wq hw 47 rfl)) (Or.inl (wq hw 49 rfl)) (by decide) (t := .long) (t' := (.object cL)) (by decide) (by decide)))
  have f16 := F13.wr W3
  have f17 := F14.other W3 (Or.inl Ne14)
  have f18 := F15.other W3 (Or.inl Ne14)
  have f19 := F17.other W3 (Or.inr (slot_ne (Or.inl (wq hw 51 rfl)) (Or.inl (wq hw 49 rfl)) (by decide) (t := (.object cL)) (t' := (.object cL)) (by decide) (by decide)))
  have f20 : Fld Z h3 x4 cL "next" dL (.ref x4) := F16.same W3
  have Kp3 : Keep h0 h3 [x4, a1, a0, ar] := Kp0.wr W3 (Or.inl om0)
  have Z21 := Nat.le_trans Z0 (Nat.le_of_eq W3.size.symm)
  have N22 := Fr.snoc X3 N0 Ge3
  refine Gb st3 ?_
  refine Gb (fun _ => XS.aloadN X3.here hx rfl (hb hby d11_13) rfl rfl) ?_
  refine Gb (fun _ => getFR X3 hx hZ hown (wq hw 55 rfl) e3 f18 (g := (mkF m 14 (sh12 a0 a1 x4) [(.ref a1)])) rfl rfl (hb hby d11_14)) ?_
  refine Gb (fun _ => XS.aloadN X3.here hx rfl (hb hby d11_17) rfl rfl) ?_
  obtain ⟨T24, h24, X24, e24, W24, st24⟩ := putFR X3 hx hZ hown (wq hw 53 rfl) e3 f19 f14 (wq hw 51 rfl) (wq hw 39 rfl) (ty := (.object cL)) (by decide) rfl rfl (g := (mkF m 18 (sh12 a0 a1 x4) [(.ref x4), (.ref x4)])) rfl rfl (hb hby d11_18)
  have f25 := f4.wr W24
  have f26 := f5.other W24 (Or.inl (Ne.symm Ne4))
  have f27 := f6.other W24 (Or.inl (Ne.symm Ne4))
  have f28 := f7.other W24 (Ne.symm Ne8)
  have f29 := f8.wr W24
  have f30 := f9.other W24 (Or.inl (Ne.symm Ne15))
  have f31 := f10.wr W24
  have f32 := f11.other W24 (Or.inl (Ne.symm Ne16))
  have f33 := f12.wr W24
  have f34 := f13.other W24 (Or.inl (Ne.symm Ne17))
  have f35 := f14.wr W24
  have f36 := f15.other W24 (Or.inr (slot_ne (Or.inr (wq hw 47 rfl)) (Or.inl (wq hw 51 rfl)) (by decide) (t := .long) (t' := (.object cL)) (by decide) (by decide)))
  have f37 := f16.wr W24
  have f38 := f17.other W24 (Or.inl Ne14)
  have f39 := f18.other W24 (Or.inl Ne14)
  have f40 := f20.other W24 (Or.inr (slot_ne (Or.inl (wq hw 49 rfl)) (Or.inl (wq hw 51 rfl)) (by decide) (t := (.object cL)) (t' := (.object cL)) (by decide) (by decide)))
  have f41 : Fld Z h24 x4 cL "prev" dL (.ref x4) := f19.same W24
  have Kp24 : Keep h0 h24 [x4, a1, a0, ar] := Kp3.wr W24 (Or.inl om0)
  have Z42 := Nat.le_trans Z21 (Nat.le_of_eq W24.size.symm)
  have N43 := Fr.snoc X24 N22 Ge3
  refine Gb st24 ?_
  refine Gb (fun _ => XS.aloadN X24.here hx rfl (hb hby d11_21) rfl rfl) ?_
  refine Gb (fun _ => XS.aconstNull X24.here hx rfl (hb hby d11_22)) ?_
  obtain ⟨T44, h44, X44, e44, W44, st44⟩ := putFR X24 hx hZ hown (wq hw 55 rfl) e24 f39 f37 (wq hw 56 rfl) (wq hw 14 rfl) (ty := (.object cL)) (by decide) rfl rfl (g := (mkF m 23 (sh12 a0 a1 x4) [.null, (.ref a1)])) rfl rfl (hb hby d11_23)
  have f45 := f25.wr W44
  have f46 := f26.other W44 (Or.inl (Ne.symm Ne9))
  have f47 := f27.other W44 (Or.inl (Ne.symm Ne9))
  have f48 := f28.other W44 (Ne.symm Ne10)
  have f49 := f29.wr W44
  have f50 := f30.other W44 (Or.inl (Ne.symm Ne11))
  have f51 := f31.wr W44
  have f52 := f32.other W44 (Or.inl (Ne.symm Ne12))
  have f53 := f33.wr W44
  have f54 := f34.other W44 (Or.inl (Ne.symm Ne13))
  have f55 := f35.wr W44
  have f56 := f36.other W44 (Or.inl (Ne.symm Ne14))
  have f57 := f37.wr W44
  have f58 := f38.other W44 (Or.inr (slot_ne (Or.inl (wq hw 54 rfl)) (Or.inl (wq hw 56 rfl)) (by decide) (t := (.object cL)) (t' := (.object cL)) (by decide) (by decide)))
  have f59 := f40.other W44 (Or.inl (Ne.symm Ne14))
  have f60 := f41.other W44 (Or.inl (Ne.symm Ne14))
  have f61 : Fld Z h44 a1 cL "next" dL .null := f39.same W44
  have Kp44 : Keep h0 h44 [x4, a1, a0, ar] := Kp24.wr W44 (Or.inl om1)
  have Z62 := Nat.le_trans Z42 (Nat.le_of_eq W44.size.symm)
  have N63 := Fr.snoc X44 N43 Ge2
  refine Gb st44 ?_
  refine Gb (fun _ => XS.aloadN X44.here hx rfl (hb hby d11_26) rfl rfl) ?_
  refine Gb (fun _ => XS.aconstNull X44.here hx rfl (hb hby d11_27)) ?_
  obtain ⟨T64, h64, X64, e64, W64, st64⟩ := putFR X44 hx hZ hown (wq hw 53 rfl) e44 f58 f57 (wq hw 54 rfl) (wq hw 14 rfl) (ty := (.object cL)) (by decide) rfl rfl (g := (mkF m 28 (sh12 a0 a1 x4) [.null, (.ref a1)])) rfl rfl (hb hby d11_28)
  have f65 := f45.wr W64
  have f66 := f46.other W64 (Or.inl (Ne.symm Ne9))
  have f67 := f47.other W64 (Or.inl (Ne.symm Ne9))
  have f68 := f48.other W64 (Ne.symm Ne10)
  have f69 := f49.wr W64
  have f70 := f50.other W64 (Or.inl (Ne.symm Ne11))
  have f71 := f51.wr W64
  have f72 := f52.other W64 (Or.inl (Ne.symm Ne12))
  have f73 := f53.wr W64
  have f74 := f54.other W64 (Or.inl (Ne.symm Ne13))
  have f75 := f55.wr W64
  have f76 := f56.other W64 (Or.inl (Ne.symm Ne14))
  have f77 := f57.wr W64
  have f78 := f59.other W64 (Or.inl (Ne.symm Ne14))
  have f79 := f60.other W64 (Or.inl (Ne.symm Ne14))
  have f80 := f61.other W64 (Or.inr (slot_ne (Or.inl (wq hw 56 rfl)) (Or.inl (wq hw 54 rfl)) (by decide) (t := (.object cL)) (t' := (.object cL)) (by decide) (by decide)))
  have f81 : Fld Z h64 a1 cL "prev" dL .null := f58.same W64
  have Kp64 : Keep h0 h64 [x4, a1, a0, ar] := Kp44.wr W64 (Or.inl om1)
  have Z82 := Nat.le_trans Z62 (Nat.le_of_eq W64.size.symm)
  have N83 := Fr.snoc X64 N63 Ge2
  refine Gb st64 ?_
  refine Gb (fun _ => XS.aloadN X64.here hx rfl (hb hby d11_31) rfl rfl) ?_
  refine Gb (B := T64.setTop (mkF m 41 (sh12 a0 a1 x4) [(.ref x4), (.ref a0)])) (fun t k => ?_) ?_
  · refine getFR X64 hx hZ hown (wq hw 55 rfl) e64 f78 (g := (mkF m 32 (sh12 a0 a1 x4) [(.ref x4)])) rfl rfl (hb hby d11_32) ?_
    refine XS.aloadN X64.here hx rfl (hb hby d11_35) rfl rfl ?_
    refine Jvm.RoadKit.acmp (g := (mkF m 36 (sh12 a0 a1 x4) [(.ref x4), (.ref x4)])) X64 hx rfl rfl rfl (pc0 := 36) (pc' := 39) (same := true) rfl (hb hby d11_36) rfl (decide_eq_true rfl) (by decide) (by decide) ?_
    refine XS.aloadN X64.here hx rfl (hb hby d11_39) rfl rfl ?_
    refine XS.aloadN X64.here hx rfl (hb hby d11_40) rfl rfl ?_
    exact k
  obtain ⟨T85, X85, e85, st85⟩ := castY X64 hx hZ hown (wq hw 9 rfl) e64 (Ins.self f75) (g := (mkF m 41 (sh12 a0 a1 x4) [(.ref x4), (.ref a0)])) rfl rfl (hb hby d11_41)
  refine Gb st85 ?_
  obtain ⟨_, T86, L86, Lc86, X86, hF86, hQ86, st86⟩ := own_cp X85 hx hZ hown (wq hw 77 rfl) (wq hw 79 rfl) (wq hw 1 rfl) (wq hw 78 rfl) (wq hw 2 rfl) (wq hw 80 rfl) (rmDrop4_4 l Z az hw [] a0 x4 ar kA x1 x2 x3 t1 t2 t3 t4 h64 n0 Z82 f65 f66 f67 f68 F4 f69 f70 f71 f72 f73 f74 f75 f76 Ne0 Ne1 Ne2 Ne3 Ne4 Ne5 Ne6 Ne7 Ne8 Ge0 Ge1 HD) (W := 0) (g := (mkF m 44 (sh12 a0 a1 x4) [(.ref x4), (.ref a0)])) rfl (by rw [hml]; rfl) f65 (argsL := [(.ref x4)]) (rest := []) rfl (lenOf own_pd4 rfl) rfl (hb hby d11_44) e85 N83 (c' := 0) (s' := 0)
  obtain ⟨rfl, N86q, K86, f87, f88, f89⟩ := hQ86
  have f90 := f65.keep K86
  have f91 := f69.keep K86
  have f92 := f70.keep K86 (ninS Ne5 (ninS Ne1 nin0))
  have f93 := f71.keep K86
  have f94 := f72.keep K86 (ninS Ne6 (ninS Ne2 nin0))
  have f95 := f73.keep K86
  have f96 := f74.keep K86 (ninS Ne7 (ninS Ne3 nin0))
  have f97 := f75.keep K86
  have f98 := f76.keep K86 (ninS Ne8 (ninS Ne4 nin0))
  have f99 := f77.keep K86
  have f100 := f78.keep K86 (ninS Ne8 (ninS Ne4 nin0))
  have f101 := f79.keep K86 (ninS Ne8 (ninS Ne4 nin0))
  have f102 := f80.keep K86 (ninS Ne10 (ninS Ne9 nin0))
  have f103 := f81.keep K86 (ninS Ne10 (ninS Ne9 nin0))
  have Kp86 : Keep h0 T86.heap [x4, a1, a0, ar] := Kp64.trans K86 (allS (Or.inl om3) (allS (Or.inl om2) all0))
  have Z104 := Nat.le_trans Z82 K86.1
  have N105 := hF86 N86q
  refine Gb st86 ?_
  obtain ⟨fs, hr, hrun, hended, hW, hsame⟩ := X86.leave (v := none) (fun _ => rfl)
  refine Goes.mk _ _ ?_ ⟨hrun, hended, _, _, rfl, ?_, ⟨_, rfl⟩, hW, hsame.mono (by decide) (by decide)⟩
  · exact X86.returnOut hx Bd.returns (hb hby d11_47) hr
  · show QRemL4_4 Z a0 a1 ar kA x1 x2 x3 x4 t1 t2 t3 t4 nu pu h0 n0 _ T86.heap _
    exact ⟨rfl, N105, Kp86, f87, f88, f89, f102, f103⟩
theorem d8_0 : decode prog_4_method_3_code 0 = .ok (.aload_n 0, 1) := by decide +kernel
theorem d8_1 : decode prog_4_method_3_code 1 = .ok (.getfield 15, 3) := by decide +kernel
theorem d8_4 : decode prog_4_method_3_code 4 = .ok (.ifCond .ne 9, 3) := by decide +kernel
theorem d8_7 : decode prog_4_method_3_code 7 = .ok (.ldc2_w 21, 3) := by decide +kernel
theorem d8_10 : decode prog_4_method_3_code 10 = .ok (.goto 12, 3) := by decide +kernel
theorem d8_22 : decode prog_4_method_3_code 22 = .ok (.lreturn, 1) := by decide +kernel
def fFirst0  : Int64 := (9223372036854775807 : Int64)
def QFirst0 (Z : State) (a0 : Addr) (h0 : Heap) (n0 : Nat) (v : Option Value) (h : Heap) (L : List Loc) : Prop := v = some (.long fFirst0) ∧ Fr n0 L ∧ h = h0
theorem efFirst0 (m : MethodId) (x0 : Addr) : entryFrame m #[(.ref x0)] 1 = mkF m 0 #[.val (.ref x0)] [] := by first | (simp [entryFrame, mkF, argsToLocals, Value.category]; done) | rfl
set_option maxRecDepth 65536 in
set_option maxHeartbeats 40000000 in
theorem rmFirst0 (l : Launch) (Z : State) (az : Array Value) (hw : ∀ d ∈ tables_1, d.before az Z = true) (ws : List Jvm.Cond) (a0 : Addr) (h0 : Heap) (n0 : Nat) (Z0 : n0 ≤ h0.size) (F0 : Fld Z h0 a0 cD "count" "I" (.int (0 : Int32))) :
    MetFree l y6 (head1 (Jvm.Cond.code y6 prog_4_method_3_code 1 (some .long) :: ws) ({ frames := 0, cells := 0, slots := 0, locals := 0 } : Room)) (fun a U => a = #[(.ref a0)] ∧ Z.Warmed39 U.vm ∧ U.heap = h0) (fun _ _ _ _ _ => True) (fun _ U o U' => ∃ v L, o = .returned v ∧ QFirst0 Z a0 h0 n0 v U'.heap L ∧ FrameEnd U o U' L ({ frames := 0, cells := 0, slots := 0, locals := 0 } : Room).cells ({ frames := 0, cells := 0, slots := 0, locals := 0 } : Room).slots) := by
  refine MetFree.of_bodySF (plainFor_of_name own_pn_com_example_admit_one_admitone_engine_DueOrder) hisR ?_
  intro p e s m args below meth c s₁ Bd hml0 hP hK
  obtain ⟨rfl, hZ, hh⟩ := hP
  have hx := Bd.exec
  have hby := Bd.bytes
  have hml : c.maxLocals = 1 := hml0
  have hown : s.vm.findClass cD = some m.cls := findClass_of_methodNamed Bd.named
  have hnm := (name_of_methodNamed Bd.named Bd.method).1
  have X0 : Stand p l e ({ frames := 0, cells := 0, slots := 0, locals := 0 } : Room) s m #[(.ref a0)] below meth c s₁ [] 0 0 := Stand.of_body Bd
  have e0 : s₁.heap = h0 := by rw [← hh, Bd.state]; rfl
  have N0 := Fr.nil n0
  have Kp0 : Keep h0 h0 [] := Keep.refl _ _
  refine Goes.start ?_
  refine Gb (B := s₁.setTop (mkF m 0 #[.val (.ref a0)] [])) (fun t k => castTop (efFirst0 m a0) k) ?_
  refine Gb (fun _ => XS.aloadN X0.here hx rfl (hb hby d8_0) rfl rfl) ?_
  obtain ⟨T1, X1, e1, st1⟩ := getF X0 hx hZ hown (host := "") (Or.inl (wq hw 29 rfl)) Via.refl e0 F0 (g := (mkF m 1 #[.val (.ref a0)] [(.ref a0)])) rfl rfl (hb hby d8_1)
  refine Gb st1 ?_
  refine Gb (fun _ => XS.ifNo X1.here hx rfl (hb hby d8_4) rfl ((if0 _ _).trans (teq (by decide : (0 : Int32) = (0 : Int32))).2)) ?_
  refine Gb (X1.ldc2Long hx hown (mvT hZ (wq hw 85 rfl)) (g := (mkF m 7 #[.val (.ref a0)] [])) rfl (hb hby d8_7)) ?_
  refine Gb (fun _ => XS.goto X1.here hx rfl (pc0 := 10) (pc' := 22) rfl (hb hby d8_10) (by decide) (by decide)) ?_
  obtain ⟨fs, hr, hrun, hended, hW, hsame⟩ := X1.leave (v := some (.long (9223372036854775807 : Int64))) (fun h => by rw [Bd.returns] at h; cases h)
  refine Goes.mk _ _ ?_ ⟨hrun, hended, _, _, rfl, ?_, ⟨_, rfl⟩, hW, hsame.mono (by decide) (by decide)⟩
  · exact retOut X1 hx Bd.returns rfl (Or.inr (Or.inl ⟨rfl, rfl, _, rfl⟩)) (hb hby d8_22) hr
  · show QFirst0 Z a0 h0 n0 _ T1.heap _
    rw [e1]
    exact ⟨rfl, N0, rfl⟩
theorem d8_13 : decode prog_4_method_3_code 13 = .ok (.aload_n 0, 1) := by decide +kernel
theorem d8_14 : decode prog_4_method_3_code 14 = .ok (.getfield 11, 3) := by decide +kernel
theorem d8_17 : decode prog_4_method_3_code 17 = .ok (.iconst 0, 1) := by decide +kernel
theorem d8_18 : decode prog_4_method_3_code 18 = .ok (.aaload, 1) := by decide +kernel
theorem d8_19 : decode prog_4_method_3_code 19 = .ok (.getfield 23, 3) := by decide +kernel
def QFirstY (Z : State) (a0 : Addr) (cn : Int32) (ar : Addr) (kA : ClassId) (x1 : Addr) (vs : (List Value)) (t1 : Int64) (h0 : Heap) (n0 : Nat) (v : Option Value) (h : Heap) (L : List Loc) : Prop := v = some (.long t1) ∧ Fr n0 L ∧ h = h0
theorem efFirstY (m : MethodId) (x0 : Addr) : entryFrame m #[(.ref x0)] 1 = mkF m 0 #[.val (.ref x0)] [] := by first | (simp [entryFrame, mkF, argsToLocals, Value.category]; done) | rfl
set_option maxRecDepth 65536 in
set_option maxHeartbeats 40000000 in
theorem rmFirstY (l : Launch) (Z : State) (az : Array Value) (hw : ∀ d ∈ tables_1, d.before az Z = true) (ws : List Jvm.Cond) (a0 : Addr) (cn : Int32) (ar : Addr) (kA : ClassId) (x1 : Addr) (vs : (List Value)) (t1 : Int64) (h0 : Heap) (n0 : Nat) (Z0 : n0 ≤ h0.size) (F0 : Fld Z h0 a0 cD "count" "I" (.int cn)) (F1 : Fld Z h0 a0 cD "heads" dA (.ref ar)) (F2 : Elt Z h0 ar (.object cH) (0 : Int32) (.ref x1)) (F3 : Fld Z h0 x1 cH "tick" "J" (.long t1)) (HC : ¬ (cn = (0 : Int32))) :
    MetFree l y6 (head1 (Jvm.Cond.code y6 prog_4_method_3_code 1 (some .long) :: ws) ({ frames := 0, cells := 0, slots := 0, locals := 0 } : Room)) (fun a U => a = #[(.ref a0)] ∧ Z.Warmed39 U.vm ∧ U.heap = h0) (fun _ _ _ _ _ => True) (fun _ U o U' => ∃ v L, o = .returned v ∧ QFirstY Z a0 cn ar kA x1 vs t1 h0 n0 v U'.heap L ∧ FrameEnd U o U' L ({ frames := 0, cells := 0, slots := 0, locals := 0 } : Room).cells ({ frames := 0, cells := 0, slots := 0, locals := 0 } : Room).slots) := by
  refine MetFree.of_bodySF (plainFor_of_name own_pn_com_example_admit_one_admitone_engine_DueOrder) hisR ?_
  intro p e s m args below meth c s₁ Bd hml0 hP hK
  obtain ⟨rfl, hZ, hh⟩ := hP
  have hx := Bd.exec
  have hby := Bd.bytes
  have hml : c.maxLocals = 1 := hml0
  have hown : s.vm.findClass cD = some m.cls := findClass_of_methodNamed Bd.named
  have hnm := (name_of_methodNamed Bd.named Bd.method).1
  have X0 : Stand p l e ({ frames := 0, cells := 0, slots := 0, locals := 0 } : Room) s m #[(.ref a0)] below meth c s₁ [] 0 0 := Stand.of_body Bd
  have e0 : s₁.heap = h0 := by rw [← hh, Bd.state]; rfl
  have N0 := Fr.nil n0
  have Kp0 : Keep h0 h0 [] := Keep.refl _ _
  refine Goes.start ?_
  refine Gb (B := s₁.setTop (mkF m 0 #[.val (.ref a0)] [])) (fun t k => castTop (efFirstY m a0) k) ?_
  refine Gb (fun _ => XS.aloadN X0.here hx rfl (hb hby d8_0) rfl rfl) ?_
  obtain ⟨T1, X1, e1, st1⟩ := getF X0 hx hZ hown (host := "") (Or.inl (wq hw 29 rfl)) Via.refl e0 F0 (g := (mkF m 1 #[.val (.ref a0)] [(.ref a0)])) rfl rfl (hb hby d8_1)
  refine Gb st1 ?_
  refine Gb (fun _ => XS.ifYes X1.here hx rfl (pc0 := 4) (pc' := 13) rfl (hb hby d8_4) rfl ((if0 _ _).trans (feq HC).2) (by decide) (by decide)) ?_
  refine Gb (fun _ => XS.aloadN X1.here hx rfl (hb hby d8_13) rfl rfl) ?_
  obtain ⟨T2, X2, e2, st2⟩ := getF X1 hx hZ hown (host := "") (Or.inl (wq hw 11 rfl)) Via.refl e1 F1 (g := (mkF m 14 #[.val (.ref a0)] [(.ref a0)])) rfl rfl (hb hby d8_14)
  refine Gb st2 ?_
  refine Gb (fun _ => XS.iconst X2.here hx rfl (hb hby d8_17)) ?_
  obtain ⟨cl3, cl3A, cl3I, cl3T⟩ := id F2
  refine Gb (X2.aaload hx (j := (0 : Int32)) (v := (.ref x1)) (by rw [e2]; exact cl3A.1) (State.isArrayOf_alike hZ.alike cl3A.2.1) rfl cl3A.2.2 cl3I cl3T (g := (mkF m 18 #[.val (.ref a0)] [(.int (0 : Int32)), (.ref ar)])) rfl rfl (hb hby d8_18)) ?_
  refine Gb (fun _ => getFR X2 hx hZ hown (wq hw 57 rfl) e2 F3 (g := (mkF m 19 #[.val (.ref a0)] [(.ref x1)])) rfl rfl (hb hby d8_19)) ?_
  obtain ⟨fs, hr, hrun, hended, hW, hsame⟩ := X2.leave (v := some (.long t1)) (fun h => by rw [Bd.returns] at h; cases h)
  refine Goes.mk _ _ ?_ ⟨hrun, hended, _, _, rfl, ?_, ⟨_, rfl⟩, hW, hsame.mono (by decide) (by decide)⟩
  · exact retOut X2 hx Bd.returns rfl (Or.inr (Or.inl ⟨rfl, rfl, _, rfl⟩)) (hb hby d8_22) hr
  · show QFirstY Z a0 cn ar kA x1 vs t1 h0 n0 _ T2.heap _
    rw [e2]
    exact ⟨rfl, N0, rfl⟩
def upd {α : Type} (f : Addr → α) (a : Addr) (v : α) : Addr → α := fun x => if x = a then v else f x
theorem upd_at {α : Type} (f : Addr → α) (a : Addr) (v : α) : upd f a v a = v := if_pos rfl
theorem upd_ne {α : Type} (f : Addr → α) {a x : Addr} (v : α) (h : x ≠ a) : upd f a v x = f x := if_neg h
/-- a chain: each one's next is the one behind it, whose prev it is -/
def Lk (N P : Addr → Value) : List Addr → Prop
  | [] => True
  | [_] => True
  | x :: y :: r => N x = .ref y ∧ P y = .ref x ∧ Lk N P (y :: r)
theorem Lk.congr {N P N' P' : Addr → Value} : ∀ (c : List Addr), (∀ u ∈ c.dropLast, N' u = N u) → (∀ u ∈ c.tail, P' u = P u) → Lk N P c → Lk N' P' c
  | [], _, _, _ => trivial
  | [_], _, _, _ => trivial
  | x :: y :: r, h1, h2, ⟨a, b, k⟩ => by
    refine ⟨(h1 x (by simp)).trans a, (h2 y (by simp)).trans b, ?_⟩
    refine Lk.congr (y :: r) (fun u hu => h1 u (by simp; exact Or.inr hu)) (fun u hu => h2 u ?_) k
    exact List.mem_of_mem_tail hu
theorem Lk.split {N P : Addr → Value} (z : Addr) (d : List Addr) : ∀ (c : List Addr), Lk N P (c ++ z :: d) ↔ (Lk N P (c ++ [z]) ∧ Lk N P (z :: d))
  | [] => by simp [Lk]
  | [x] => by
    show (N x = .ref z ∧ P z = .ref x ∧ Lk N P (z :: d)) ↔ ((N x = .ref z ∧ P z = .ref x ∧ Lk N P [z]) ∧ Lk N P (z :: d))
    simp only [Lk, and_true]
    constructor
    · intro ⟨a, b, c⟩; exact ⟨⟨a, b⟩, c⟩
    · intro ⟨⟨a, b⟩, c⟩; exact ⟨a, b, c⟩
  | x :: y :: r => by
    have ih := Lk.split (N := N) (P := P) z d (y :: r)
    show (N x = .ref y ∧ P y = .ref x ∧ Lk N P ((y :: r) ++ z :: d)) ↔ ((N x = .ref y ∧ P y = .ref x ∧ Lk N P ((y :: r) ++ [z])) ∧ Lk N P (z :: d))
    rw [ih]
    constructor
    · intro ⟨a, b, c, e⟩; exact ⟨⟨a, b, c⟩, e⟩
    · intro ⟨⟨a, b, c⟩, e⟩; exact ⟨a, b, c, e⟩
/-- what the order holds: heads by rising ticks, each with the ring of the links that are filed under its tick -/
def Inv (hs : List Addr) (τ : Addr → Int64) (N P : Addr → Value) (ls : List Addr) (tk : Addr → Option Int64) : Prop :=
  hs.Pairwise (fun a b => τ a < τ b) ∧ (∀ x ∈ hs, x ∉ ls) ∧
  (∀ x ∈ hs, ∃ ms : List Addr, ms ≠ [] ∧ ms.Nodup ∧ Lk N P (x :: (ms ++ [x])) ∧ ∀ l, l ∈ ms ↔ (l ∈ ls ∧ tk l = some (τ x))) ∧
  (∀ l ∈ ls, tk l = none → N l = .null) ∧ (∀ l ∈ ls, ∀ t, tk l = some t → ∃ x ∈ hs, τ x = t)
theorem own_tinj {τ : Addr → Int64} : ∀ {hs : List Addr}, hs.Pairwise (fun a b => τ a < τ b) → ∀ {x y : Addr}, x ∈ hs → y ∈ hs → τ x = τ y → x = y
  | [], _, _, _, hx, _, _ => nomatch hx
  | a :: r, hp, x, y, hx, hy, e => by
    rw [List.pairwise_cons] at hp
    rcases List.mem_cons.mp hx with hx1 | hx1
    · rcases List.mem_cons.mp hy with hy1 | hy1
      · exact hx1.trans hy1.symm
      · exact absurd (show τ y < τ y by have q := hp.1 y hy1; rw [← hx1, e] at q; exact q) Int64.lt_irrefl
    · rcases List.mem_cons.mp hy with hy1 | hy1
      · exact absurd (show τ x < τ x by have q := hp.1 x hx1; rw [← hy1, ← e] at q; exact q) Int64.lt_irrefl
      · exact own_tinj hp.2 hx1 hy1 e
/-- a link that is filed has a next -/
theorem Inv.filed {hs : List Addr} {τ : Addr → Int64} {N P : Addr → Value} {ls : List Addr} {tk : Addr → Option Int64} (I : Inv hs τ N P ls tk) {l : Addr} (hl : l ∈ ls) {t : Int64} (ht : tk l = some t) :
    ∃ x ∈ hs, τ x = t ∧ ∃ m1 m2, (m1 ++ l :: m2).Nodup ∧ x ∉ m1 ++ l :: m2 ∧ Lk N P ((x :: m1) ++ l :: (m2 ++ [x])) ∧ ∀ l', l' ∈ m1 ++ l :: m2 ↔ (l' ∈ ls ∧ tk l' = some t) := by
  obtain ⟨i1, i2, i3, i4, i5⟩ := I
  obtain ⟨x, hx, rfl⟩ := i5 l hl t ht
  obtain ⟨ms, m0, mn, mk, mm⟩ := i3 x hx
  have hm : l ∈ ms := (mm l).mpr ⟨hl, ht⟩
  obtain ⟨m1, m2, rfl⟩ := List.append_of_mem hm
  refine ⟨x, hx, rfl, m1, m2, mn, fun q => i2 x hx ((mm x).mp q).1, ?_, mm⟩
  simpa using mk
theorem own_lk_next {N P : Addr → Value} {l : Addr} : ∀ (d : List Addr), d ≠ [] → Lk N P (l :: d) → ∃ y r, d = y :: r ∧ N l = .ref y ∧ P y = .ref l
  | [], h, _ => absurd rfl h
  | y :: r, _, ⟨a, b, _⟩ => ⟨y, r, rfl, a, b⟩
theorem own_lk_prev {N P : Addr → Value} {l : Addr} : ∀ (c : List Addr), c ≠ [] → Lk N P (c ++ [l]) → ∃ r u, c = r ++ [u] ∧ N u = .ref l ∧ P l = .ref u := fun c h k => by
  have e : c = c.dropLast ++ [c.getLast h] := (List.dropLast_concat_getLast h).symm
  rw [e] at k
  have k2 := ((Lk.split (N := N) (P := P) (c.getLast h) [l] c.dropLast).mp (by simpa using k)).2
  exact ⟨c.dropLast, c.getLast h, e, k2.1, k2.2.1⟩

theorem Inv.append {hs : List Addr} {τ : Addr → Int64} {N P : Addr → Value} {ls : List Addr} {tk : Addr → Option Int64} (I : Inv hs τ N P ls tk) {l x z : Addr} {t : Int64} (hl : l ∈ ls) (hn : tk l = none) (hx : x ∈ hs) (ht : τ x = t) (hz : P x = .ref z) :
    z ∈ ls ∧ z ≠ l ∧ Inv hs τ (upd (upd N l (.ref x)) z (.ref l)) (upd (upd P l (.ref z)) x (.ref l)) ls (upd tk l (some t)) := by
  subst ht
  obtain ⟨i1, i2, i3, i4, i5⟩ := I
  obtain ⟨ms, m0, mn, mk, mm⟩ := i3 x hx
  have hxl : x ≠ l := fun e => i2 x hx (e ▸ hl)
  have mk' : Lk N P ((x :: ms) ++ [x]) := mk
  obtain ⟨r, z', er, n1, p1⟩ := own_lk_prev (x :: ms) (by simp) mk'
  have ez : z' = z := by rw [hz] at p1; exact (Value.ref.inj p1).symm
  subst ez
  have hzm : z' ∈ ms := by
    have : (x :: ms).getLast (by simp) = z' := by simp [er]
    rw [List.getLast_cons m0] at this
    exact this ▸ List.getLast_mem m0
  have zl := (mm z').mp hzm
  have hzl : z' ≠ l := fun e => by rw [e, hn] at zl; exact nomatch zl.2
  have hxz : x ≠ z' := fun e => i2 x hx (e ▸ zl.1)
  have hlm : l ∉ ms := fun q => by have := ((mm l).mp q).2; rw [hn] at this; exact nomatch this
  have hxm : x ∉ ms := fun q => i2 x hx ((mm x).mp q).1
  have nd : (x :: ms).Nodup := List.nodup_cons.mpr ⟨hxm, mn⟩
  have hrz : z' ∉ r := by
    rw [er, List.nodup_append] at nd
    intro q
    exact nd.2.2 z' q z' (by simp) rfl
  refine ⟨zl.1, hzl, i1, i2, fun y hy => ?_, fun l' h1 h2 => ?_, fun l' h1 t' h2 => ?_⟩
  · by_cases e : y = x
    · subst e
      refine ⟨ms ++ [l], by simp, ?_, ?_, fun l' => ?_⟩
      · rw [List.nodup_append]
        exact ⟨mn, by simp, fun a ha b hb => by rw [List.mem_singleton.mp hb]; exact fun q => hlm (q ▸ ha)⟩
      · have e2 : y :: ((ms ++ [l]) ++ [y]) = r ++ z' :: [l, y] := by
          have : y :: ms = r ++ [z'] := er
          calc y :: ((ms ++ [l]) ++ [y]) = (y :: ms) ++ [l, y] := by simp
            _ = _ := by rw [this]; simp
        rw [e2, Lk.split]
        constructor
        · have k1 : Lk N P (r ++ [z']) := by
            have := (Lk.split (N := N) (P := P) z' [y] r).mp (by
              have e3 : r ++ z' :: [y] = y :: (ms ++ [y]) := by
                have : y :: ms = r ++ [z'] := er
                calc r ++ z' :: [y] = (r ++ [z']) ++ [y] := by simp
                  _ = _ := by rw [← this]; simp
              rw [e3]; exact mk)
            exact this.1
          refine Lk.congr _ (fun u hu => ?_) (fun u hu => ?_) k1
          · have hu' : u ∈ r := by simpa using hu
            have hum : u ∈ y :: ms := by rw [er]; exact List.mem_append_left _ hu'
            have h1 : u ≠ z' := fun q => hrz (q ▸ hu')
            have h2 : u ≠ l := fun q => by
              rcases List.mem_cons.mp hum with q2 | q2
              · exact hxl (q2.symm.trans q)
              · exact hlm (q ▸ q2)
            rw [upd_ne _ _ h1, upd_ne _ _ h2]
          · have hum : u ∈ ms := by
              have q : u ∈ (y :: ms).tail := by rw [er]; exact hu
              exact q
            have h1 : u ≠ y := fun q => hxm (q ▸ hum)
            have h2 : u ≠ l := fun q => hlm (q ▸ hum)
            rw [upd_ne _ _ h1, upd_ne _ _ h2]
        · refine ⟨upd_at _ _ _, ?_, ?_, upd_at _ _ _, trivial⟩
          · rw [upd_ne _ _ (Ne.symm hxl), upd_at]
          · rw [upd_ne _ _ (Ne.symm hzl), upd_at]
      · by_cases e3 : l' = l
        · subst e3
          rw [upd_at]
          simp [hl]
        · rw [upd_ne _ _ e3, List.mem_append, List.mem_singleton, ← mm l']
          exact ⟨fun q => q.elim id (fun q => absurd q e3), Or.inl⟩
    · obtain ⟨ns, k0, kn, kk, km⟩ := i3 y hy
      have hty : τ x ≠ τ y := fun q => e (own_tinj i1 hy hx q.symm)
      have hyl : y ≠ l := fun q => i2 y hy (q ▸ hl)
      have hyz : y ≠ z' := fun q => i2 y hy (q ▸ zl.1)
      have huz : ∀ u ∈ ns, u ≠ z' ∧ u ≠ l ∧ u ≠ x := fun u hu => by
        have q := (km u).mp hu
        refine ⟨fun e4 => ?_, fun e4 => ?_, fun e4 => ?_⟩
        · rw [e4, zl.2] at q; exact hty (Option.some.inj q.2)
        · rw [e4, hn] at q; exact nomatch q.2
        · exact i2 x hx (e4 ▸ q.1)
      have hall : ∀ u ∈ y :: (ns ++ [y]), u ≠ z' ∧ u ≠ l ∧ u ≠ x := fun u hu => by
        rcases List.mem_cons.mp hu with q | q
        · rw [q]; exact ⟨hyz, hyl, e⟩
        · rcases List.mem_append.mp q with q | q
          · exact huz u q
          · rw [List.mem_singleton.mp q]; exact ⟨hyz, hyl, e⟩
      refine ⟨ns, k0, kn, Lk.congr _ (fun u hu => ?_) (fun u hu => ?_) kk, fun l' => ?_⟩
      · have q := hall u ((List.dropLast_sublist _).subset hu)
        rw [upd_ne _ _ q.1, upd_ne _ _ q.2.1]
      · have q := hall u (List.mem_of_mem_tail hu)
        rw [upd_ne _ _ q.2.2, upd_ne _ _ q.2.1]
      · rw [km l']
        by_cases e3 : l' = l
        · subst e3
          rw [upd_at, hn]
          constructor
          · intro q; exact nomatch q.2
          · intro q; exact absurd (Option.some.inj q.2) hty
        · rw [upd_ne _ _ e3]
  · have e3 : l' ≠ l := fun q => by rw [q, upd_at] at h2; exact nomatch h2
    rw [upd_ne _ _ e3] at h2
    have e4 : l' ≠ z' := fun q => by rw [q, zl.2] at h2; exact nomatch h2
    rw [upd_ne _ _ e4, upd_ne _ _ e3]; exact i4 l' h1 h2
  · by_cases e3 : l' = l
    · rw [e3, upd_at] at h2; exact ⟨x, hx, Option.some.inj h2⟩
    · rw [upd_ne _ _ e3] at h2; exact i5 l' h1 t' h2
theorem Inv.insert {pre post : List Addr} {τ : Addr → Int64} {N P : Addr → Value} {ls : List Addr} {tk : Addr → Option Int64} (I : Inv (pre ++ post) τ N P ls tk) {l b : Addr} {t : Int64} (hl : l ∈ ls) (hn : tk l = none)
    (h1 : ∀ x ∈ pre, τ x < t) (h2 : ∀ x ∈ post, t < τ x) (hb : b ∉ pre ++ post) (hbl : b ∉ ls) :
    Inv (pre ++ b :: post) (upd τ b t) (upd (upd N l (.ref b)) b (.ref l)) (upd (upd P l (.ref b)) b (.ref l)) ls (upd tk l (some t)) := by
  obtain ⟨i1, i2, i3, i4, i5⟩ := I
  have hlb : l ≠ b := fun e => hbl (e ▸ hl)
  have hne : ∀ x ∈ pre ++ post, x ≠ b := fun x hx e => hb (e ▸ hx)
  have hmem : ∀ x, x ∈ pre ++ b :: post ↔ (x = b ∨ x ∈ pre ++ post) := fun x => by
    simp only [List.mem_append, List.mem_cons]
    constructor
    · rintro (q | q | q)
      · exact Or.inr (Or.inl q)
      · exact Or.inl q
      · exact Or.inr (Or.inr q)
    · rintro (q | q | q)
      · exact Or.inr (Or.inl q)
      · exact Or.inl q
      · exact Or.inr (Or.inr q)
  have hτ : ∀ x ∈ pre ++ post, upd τ b t x = τ x := fun x hx => upd_ne _ _ (hne x hx)
  have htne : ∀ x ∈ pre ++ post, τ x ≠ t := fun x hx e => by
    rcases List.mem_append.mp hx with q | q
    · exact absurd (e ▸ h1 x q) Int64.lt_irrefl
    · exact absurd (e ▸ h2 x q) Int64.lt_irrefl
  refine ⟨?_, fun x hx => ?_, fun x hx => ?_, fun l' a1 a2 => ?_, fun l' a1 t' a2 => ?_⟩
  · rw [List.pairwise_append] at i1 ⊢
    rw [List.pairwise_cons]
    refine ⟨?_, ⟨fun y hy => ?_, ?_⟩, fun a ha c hc => ?_⟩
    · refine List.Pairwise.imp_of_mem (fun {a c} ha hc q => ?_) i1.1
      rw [hτ a (List.mem_append_left _ ha), hτ c (List.mem_append_left _ hc)]; exact q
    · rw [upd_at, hτ y (List.mem_append_right _ hy)]; exact h2 y hy
    · refine List.Pairwise.imp_of_mem (fun {a c} ha hc q => ?_) i1.2.1
      rw [hτ a (List.mem_append_right _ ha), hτ c (List.mem_append_right _ hc)]; exact q
    · rw [hτ a (List.mem_append_left _ ha)]
      rcases List.mem_cons.mp hc with q | q
      · rw [q, upd_at]; exact h1 a ha
      · rw [hτ c (List.mem_append_right _ q)]; exact i1.2.2 a ha c q
  · rcases (hmem x).mp hx with q | q
    · rw [q]; exact hbl
    · exact i2 x q
  · rcases (hmem x).mp hx with q | q
    · subst q
      refine ⟨[l], by simp, by simp, ⟨upd_at _ _ _, ?_, ?_, upd_at _ _ _, trivial⟩, fun l' => ?_⟩
      · rw [upd_ne _ _ hlb, upd_at]
      · rw [upd_ne _ _ hlb, upd_at]
      · rw [upd_at, List.mem_singleton]
        constructor
        · intro e; rw [e, upd_at]; exact ⟨hl, rfl⟩
        · intro ⟨a1, a2⟩
          by_cases e : l' = l
          · exact e
          · rw [upd_ne _ _ e] at a2
            obtain ⟨y, hy, ey⟩ := i5 l' a1 t a2
            exact absurd ey (htne y hy)
    · obtain ⟨ns, k0, kn, kk, km⟩ := i3 x q
      have hxb := hne x q
      have hxl : x ≠ l := fun e => i2 x q (e ▸ hl)
      have hu : ∀ u ∈ ns, u ≠ b ∧ u ≠ l := fun u hu => by
        have z := (km u).mp hu
        exact ⟨fun e => hbl (e ▸ z.1), fun e => by rw [e, hn] at z; exact nomatch z.2⟩
      have hall : ∀ u ∈ x :: (ns ++ [x]), u ≠ b ∧ u ≠ l := fun u hu' => by
        rcases List.mem_cons.mp hu' with z | z
        · rw [z]; exact ⟨hxb, hxl⟩
        · rcases List.mem_append.mp z with z | z
          · exact hu u z
          · rw [List.mem_singleton.mp z]; exact ⟨hxb, hxl⟩
      refine ⟨ns, k0, kn, Lk.congr _ (fun u hu' => ?_) (fun u hu' => ?_) kk, fun l' => ?_⟩
      · have z := hall u ((List.dropLast_sublist _).subset hu')
        rw [upd_ne _ _ z.1, upd_ne _ _ z.2]
      · have z := hall u (List.mem_of_mem_tail hu')
        rw [upd_ne _ _ z.1, upd_ne _ _ z.2]
      · rw [km l', hτ x q]
        by_cases e : l' = l
        · subst e
          rw [upd_at, hn]
          constructor
          · intro z; exact nomatch z.2
          · intro z; exact absurd (Option.some.inj z.2).symm (htne x q)
        · rw [upd_ne _ _ e]
  · have e3 : l' ≠ l := fun q => by rw [q, upd_at] at a2; exact nomatch a2
    rw [upd_ne _ _ e3] at a2
    have e4 : l' ≠ b := fun q => hbl (q ▸ a1)
    rw [upd_ne _ _ e4, upd_ne _ _ e3]; exact i4 l' a1 a2
  · by_cases e3 : l' = l
    · rw [e3, upd_at] at a2; exact ⟨b, (hmem b).mpr (Or.inl rfl), by rw [upd_at]; exact Option.some.inj a2⟩
    · rw [upd_ne _ _ e3] at a2
      obtain ⟨y, hy, ey⟩ := i5 l' a1 t' a2
      exact ⟨y, (hmem y).mpr (Or.inr hy), (hτ y hy).trans ey⟩
theorem own_bounds {N P : Addr → Value} {x l : Addr} {m1 m2 : List Addr} (k : Lk N P ((x :: m1) ++ l :: (m2 ++ [x]))) {u v : Addr} (hu : P l = .ref u) (hv : N l = .ref v) :
    (∃ c1, x :: m1 = c1 ++ [u]) ∧ (∃ c2, m2 ++ [x] = v :: c2) := by
  have k1 := (Lk.split (N := N) (P := P) l (m2 ++ [x]) (x :: m1)).mp k
  obtain ⟨r, u', e1, -, p1⟩ := own_lk_prev (x :: m1) (by simp) k1.1
  obtain ⟨v', r', e2, n1, -⟩ := own_lk_next (m2 ++ [x]) (by simp) k1.2
  rw [hu] at p1
  rw [hv] at n1
  cases p1
  cases n1
  exact ⟨⟨r, e1⟩, ⟨r', e2⟩⟩
/-- the ring without l -/
theorem own_cut {N P : Addr → Value} {x l u v : Addr} {m1 m2 c1 c2 : List Addr} (k : Lk N P ((x :: m1) ++ l :: (m2 ++ [x]))) (e1 : x :: m1 = c1 ++ [u]) (e2 : m2 ++ [x] = v :: c2) (nd : (m1 ++ l :: m2).Nodup) (hx : x ∉ m1 ++ l :: m2) :
    Lk (upd (upd N u (.ref v)) l .null) (upd (upd P v (.ref u)) l .null) (x :: ((m1 ++ m2) ++ [x])) := by
  have k1 := (Lk.split (N := N) (P := P) l (m2 ++ [x]) (x :: m1)).mp k
  have ka : Lk N P (c1 ++ [u]) := by
    have := k1.1
    rw [e1] at this
    exact ((Lk.split (N := N) (P := P) u [l] c1).mp (by simpa using this)).1
  have kb : Lk N P (v :: c2) := by
    have := k1.2
    rw [e2] at this
    exact this.2.2
  rw [List.nodup_append] at nd
  obtain ⟨n1, n2, n3⟩ := nd
  rw [List.nodup_cons] at n2
  have hl1 : l ∉ m1 := fun q => n3 l q l (by simp) rfl
  have hl2 : l ∉ m2 := n2.1
  have hx1 : x ∉ m1 := fun q => hx (List.mem_append_left _ q)
  have hx2 : x ∉ m2 := fun q => hx (List.mem_append_right _ (List.mem_cons_of_mem _ q))
  have hxl : x ≠ l := fun q => hx (by rw [q]; simp)
  have d12 : ∀ a ∈ m1, a ∉ m2 := fun a ha q => n3 a ha a (List.mem_cons_of_mem _ q) rfl
  have e : x :: ((m1 ++ m2) ++ [x]) = c1 ++ u :: (v :: c2) := by
    calc x :: ((m1 ++ m2) ++ [x]) = (x :: m1) ++ (m2 ++ [x]) := by simp
      _ = _ := by rw [e1, e2]; simp
  have ndA : (c1 ++ [u]).Nodup := by rw [← e1]; exact List.nodup_cons.mpr ⟨hx1, n1⟩
  have ndB : (v :: c2).Nodup := by
    rw [← e2, List.nodup_append]
    exact ⟨n2.2, by simp, fun a ha b hb => by rw [List.mem_singleton.mp hb]; exact fun q => hx2 (q ▸ ha)⟩
  have hul : u ≠ l := fun q => by
    have : u ∈ x :: m1 := by rw [e1]; simp
    rcases List.mem_cons.mp this with z | z
    · exact hxl (z.symm.trans q)
    · exact hl1 (q ▸ z)
  have hvl : v ≠ l := fun q => by
    have : v ∈ m2 ++ [x] := by rw [e2]; simp
    rcases List.mem_append.mp this with z | z
    · exact hl2 (q ▸ z)
    · exact hxl ((List.mem_singleton.mp z).symm.trans q)
  rw [e, Lk.split]
  refine ⟨Lk.congr _ (fun a ha => ?_) (fun a ha => ?_) ka, ?_, ?_, Lk.congr _ (fun a ha => ?_) (fun a ha => ?_) kb⟩
  · have ha' : a ∈ c1 := by simpa using ha
    have h1 : a ≠ u := fun q => by
      rw [List.nodup_append] at ndA
      exact ndA.2.2 a ha' u (by simp) q
    have h2 : a ≠ l := fun q => by
      have : a ∈ x :: m1 := by rw [e1]; exact List.mem_append_left _ ha'
      rcases List.mem_cons.mp this with z | z
      · exact hxl (z.symm.trans q)
      · exact hl1 (q ▸ z)
    rw [upd_ne _ _ h2, upd_ne _ _ h1]
  · have ha' : a ∈ m1 := by
      have : a ∈ (x :: m1).tail := by rw [e1]; exact ha
      exact this
    have h1 : a ≠ v := fun q => by
      have : v ∈ m2 ++ [x] := by rw [e2]; simp
      rcases List.mem_append.mp this with z | z
      · exact d12 a ha' (q ▸ z)
      · exact hx1 (by rw [← List.mem_singleton.mp z, ← q]; exact ha')
    have h2 : a ≠ l := fun q => hl1 (q ▸ ha')
    rw [upd_ne _ _ h2, upd_ne _ _ h1]
  · rw [upd_ne _ _ hul, upd_at]
  · rw [upd_ne _ _ hvl, upd_at]
  · have ha' : a ∈ m2 := by
      have : a ∈ (m2 ++ [x]).dropLast := by rw [e2]; exact ha
      simpa using this
    have h1 : a ≠ u := fun q => by
      have : u ∈ x :: m1 := by rw [e1]; simp
      rcases List.mem_cons.mp this with z | z
      · exact hx2 (by rw [← z, ← q]; exact ha')
      · exact d12 u z (q ▸ ha')
    have h2 : a ≠ l := fun q => hl2 (q ▸ ha')
    rw [upd_ne _ _ h2, upd_ne _ _ h1]
  · have ha' : a ∈ c2 := ha
    rw [List.nodup_cons] at ndB
    have h1 : a ≠ v := fun q => ndB.1 (q ▸ ha')
    have h2 : a ≠ l := fun q => by
      have : a ∈ m2 ++ [x] := by rw [e2]; exact List.mem_cons_of_mem _ ha'
      rcases List.mem_append.mp this with z | z
      · exact hl2 (q ▸ z)
      · exact hxl ((List.mem_singleton.mp z).symm.trans q)
    rw [upd_ne _ _ h2, upd_ne _ _ h1]
/-- what removing l does to the other rings: nothing -/
theorem own_rest {hs : List Addr} {τ : Addr → Int64} {N P : Addr → Value} {ls : List Addr} {tk : Addr → Option Int64} (I : Inv hs τ N P ls tk) {l x u v : Addr} {m1 m2 c1 c2 : List Addr} (hx : x ∈ hs) (hm : ∀ l', l' ∈ m1 ++ l :: m2 ↔ (l' ∈ ls ∧ tk l' = some (τ x)))
    (e1 : x :: m1 = c1 ++ [u]) (e2 : m2 ++ [x] = v :: c2) : ∀ y ∈ hs, y ≠ x → ∃ ms : List Addr, ms ≠ [] ∧ ms.Nodup ∧ Lk (upd (upd N u (.ref v)) l .null) (upd (upd P v (.ref u)) l .null) (y :: (ms ++ [y])) ∧ ∀ l', l' ∈ ms ↔ (l' ∈ ls ∧ upd tk l none l' = some (τ y)) := fun y hy e => by
  obtain ⟨i1, i2, i3, i4, i5⟩ := I
  obtain ⟨ns, k0, kn, kk, km⟩ := i3 y hy
  have hl := (hm l).mp (by simp)
  have hty : τ x ≠ τ y := fun q => e (own_tinj i1 hy hx q.symm)
  have hin : ∀ a, a = x ∨ a ∈ m1 ++ l :: m2 → a ≠ y ∧ a ∉ ns := fun a ha => by
    rcases ha with q | q
    · rw [q]; exact ⟨fun z => e z.symm, fun z => i2 x hx ((km x).mp z).1⟩
    · have z := (hm a).mp q
      refine ⟨fun w => i2 y hy (w ▸ z.1), fun w => ?_⟩
      have w' := ((km a).mp w).2
      rw [z.2] at w'; exact hty (Option.some.inj w')
  have hu : u = x ∨ u ∈ m1 ++ l :: m2 := by
    have : u ∈ x :: m1 := by rw [e1]; simp
    rcases List.mem_cons.mp this with z | z
    · exact Or.inl z
    · exact Or.inr (List.mem_append_left _ z)
  have hv : v = x ∨ v ∈ m1 ++ l :: m2 := by
    have : v ∈ m2 ++ [x] := by rw [e2]; simp
    rcases List.mem_append.mp this with z | z
    · exact Or.inr (List.mem_append_right _ (List.mem_cons_of_mem _ z))
    · exact Or.inl (List.mem_singleton.mp z)
  have hu' := hin u hu
  have hv' := hin v hv
  have hl' := hin l (Or.inr (by simp))
  have hall : ∀ a ∈ y :: (ns ++ [y]), a ≠ u ∧ a ≠ v ∧ a ≠ l := fun a ha => by
    have key : ∀ w : Addr, w ≠ y ∧ w ∉ ns → a ≠ w := fun w hw q => by
      rcases List.mem_cons.mp ha with z | z
      · exact hw.1 (q.symm.trans z)
      · rcases List.mem_append.mp z with z | z
        · exact hw.2 (q ▸ z)
        · exact hw.1 (q.symm.trans (List.mem_singleton.mp z))
    exact ⟨key u hu', key v hv', key l hl'⟩
  refine ⟨ns, k0, kn, Lk.congr _ (fun a ha => ?_) (fun a ha => ?_) kk, fun l' => ?_⟩
  · have q := hall a ((List.dropLast_sublist _).subset ha)
    rw [upd_ne _ _ q.2.2, upd_ne _ _ q.1]
  · have q := hall a (List.mem_of_mem_tail ha)
    rw [upd_ne _ _ q.2.2, upd_ne _ _ q.2.1]
  · rw [km l']
    by_cases e3 : l' = l
    · subst e3
      rw [upd_at, hl.2]
      constructor
      · intro q; exact absurd (Option.some.inj q.2) hty
      · intro q; exact nomatch q.2
    · rw [upd_ne _ _ e3]
theorem Inv.cut {hs : List Addr} {τ : Addr → Int64} {N P : Addr → Value} {ls : List Addr} {tk : Addr → Option Int64} (I : Inv hs τ N P ls tk) {l u v : Addr} {t : Int64} (hl : l ∈ ls) (ht : tk l = some t) (hu : P l = .ref u) (hv : N l = .ref v) :
    u ≠ l ∧ v ≠ l ∧ (u ∈ hs ∨ u ∈ ls) ∧ (v ∈ hs ∨ v ∈ ls) ∧
    (u ≠ v → Inv hs τ (upd (upd N u (.ref v)) l .null) (upd (upd P v (.ref u)) l .null) ls (upd tk l none)) ∧
    (u = v → u ∈ hs ∧ τ u = t ∧ ∀ pre post, hs = pre ++ u :: post → Inv (pre ++ post) τ (upd (upd N u (.ref v)) l .null) (upd (upd P v (.ref u)) l .null) ls (upd tk l none)) := by
  obtain ⟨x, hx, et, m1, m2, nd, hxm, k, hm⟩ := I.filed hl ht
  subst et
  obtain ⟨⟨c1, e1⟩, ⟨c2, e2⟩⟩ := own_bounds k hu hv
  have hcut := own_cut k e1 e2 nd hxm
  have hrest := own_rest I hx hm e1 e2
  obtain ⟨i1, i2, i3, i4, i5⟩ := I
  have hin1 : u = x ∨ u ∈ m1 := by
    have : u ∈ x :: m1 := by rw [e1]; simp
    exact List.mem_cons.mp this
  have hin2 : v ∈ m2 ∨ v = x := by
    have : v ∈ m2 ++ [x] := by rw [e2]; simp
    exact (List.mem_append.mp this).imp id List.mem_singleton.mp
  have hxl : x ≠ l := fun q => i2 x hx (q ▸ hl)
  rw [List.nodup_append] at nd
  obtain ⟨n1, n2, n3⟩ := nd
  rw [List.nodup_cons] at n2
  have hl1 : l ∉ m1 := fun q => n3 l q l (by simp) rfl
  have hl2 : l ∉ m2 := n2.1
  have mem1 : ∀ a ∈ m1, a ∈ ls ∧ tk a = some (τ x) := fun a ha => (hm a).mp (List.mem_append_left _ ha)
  have mem2 : ∀ a ∈ m2, a ∈ ls ∧ tk a = some (τ x) := fun a ha => (hm a).mp (List.mem_append_right _ (List.mem_cons_of_mem _ ha))
  have hul : u ≠ l := fun q => by
    rcases hin1 with z | z
    · exact hxl (z.symm.trans q)
    · exact hl1 (q ▸ z)
  have hvl : v ≠ l := fun q => by
    rcases hin2 with z | z
    · exact hl2 (q ▸ z)
    · exact hxl (z.symm.trans q)
  have hmem' : ∀ l', l' ∈ m1 ++ m2 ↔ (l' ∈ ls ∧ upd tk l none l' = some (τ x)) := fun l' => by
    by_cases e3 : l' = l
    · subst e3
      rw [upd_at]
      constructor
      · intro q; rcases List.mem_append.mp q with z | z
        · exact absurd z hl1
        · exact absurd z hl2
      · intro q; exact nomatch q.2
    · rw [upd_ne _ _ e3, ← hm l']
      simp [e3]
  have hnone : ∀ l' ∈ ls, upd tk l none l' = none → upd (upd N u (.ref v)) l .null l' = .null := fun l' a1 a2 => by
    by_cases e3 : l' = l
    · rw [e3, upd_at]
    · rw [upd_ne _ _ e3] at a2
      have e4 : l' ≠ u := fun q => by
        rcases hin1 with z | z
        · exact i2 x hx (by rw [← z, ← q]; exact a1)
        · have := (mem1 u z).2; rw [← q, a2] at this; exact nomatch this
      rw [upd_ne _ _ e3, upd_ne _ _ e4]; exact i4 l' a1 a2
  refine ⟨hul, hvl, ?_, ?_, fun huv => ?_, fun huv => ?_⟩
  · rcases hin1 with z | z
    · exact Or.inl (z ▸ hx)
    · exact Or.inr (mem1 u z).1
  · rcases hin2 with z | z
    · exact Or.inr (mem2 v z).1
    · exact Or.inl (z ▸ hx)
  · have hne : m1 ++ m2 ≠ [] := fun q => by
      have q1 := List.append_eq_nil_iff.mp q
      have a1 : u = x := by rcases hin1 with z | z; exact z; rw [q1.1] at z; exact nomatch z
      have a2 : v = x := by rcases hin2 with z | z; rw [q1.2] at z; exact nomatch z; exact z
      exact huv (a1.trans a2.symm)
    refine ⟨i1, i2, fun y hy => ?_, hnone, fun l' a1 t' a2 => ?_⟩
    · by_cases e : y = x
      · subst e
        refine ⟨m1 ++ m2, hne, ?_, hcut, hmem'⟩
        rw [List.nodup_append]
        exact ⟨n1, n2.2, fun a ha b hb => n3 a ha b (List.mem_cons_of_mem _ hb)⟩
      · exact hrest y hy e
    · by_cases e3 : l' = l
      · rw [e3, upd_at] at a2; exact nomatch a2
      · rw [upd_ne _ _ e3] at a2; exact i5 l' a1 t' a2
  · have hux : u = x := by
      rcases hin1 with z | z
      · exact z
      · rcases hin2 with w | w
        · exact absurd rfl (n3 u z u (List.mem_cons_of_mem _ (huv ▸ w)))
        · exact absurd (mem1 u z).1 (by rw [huv, w]; exact i2 x hx)
    have hm1 : m1 = [] := by
      rcases m1 with _ | ⟨a, r⟩
      · rfl
      · exfalso
        have q : u ∈ a :: r := by
          have : (x :: a :: r).getLast (by simp) = u := by simp [e1]
          rw [List.getLast_cons (by simp)] at this
          exact this ▸ List.getLast_mem _
        exact i2 x hx (hux ▸ (mem1 u q).1)
    have hm2 : m2 = [] := by
      rcases m2 with _ | ⟨a, r⟩
      · rfl
      · exfalso
        have q : v = a := by simpa using (List.cons.inj e2).1.symm
        exact i2 x hx (by rw [← hux, huv, q]; exact (mem2 a (by simp)).1)
    subst hux
    refine ⟨hx, rfl, fun pre post eh => ?_⟩
    subst eh
    have hpw := i1
    rw [List.pairwise_append, List.pairwise_cons] at i1
    have hsub : ∀ y, y ∈ pre ++ post → y ∈ pre ++ u :: post := fun y q => by
      rcases List.mem_append.mp q with z | z
      · exact List.mem_append_left _ z
      · exact List.mem_append_right _ (List.mem_cons_of_mem _ z)
    have hnu : ∀ y ∈ pre ++ post, y ≠ u := fun y q e => by
      rcases List.mem_append.mp q with z | z
      · have := i1.2.2 y z u (by simp); rw [e] at this; exact absurd this Int64.lt_irrefl
      · have := i1.2.1.1 y z; rw [e] at this; exact absurd this Int64.lt_irrefl
    refine ⟨?_, fun y hy => i2 y (hsub y hy), fun y hy => hrest y (hsub y hy) (hnu y hy), hnone, fun l' a1 t' a2 => ?_⟩
    · rw [List.pairwise_append]
      exact ⟨i1.1, i1.2.1.2, fun a ha b hb => i1.2.2 a ha b (List.mem_cons_of_mem _ hb)⟩
    · by_cases e3 : l' = l
      · rw [e3, upd_at] at a2; exact nomatch a2
      · have a3 := a2
        rw [upd_ne _ _ e3] at a2
        obtain ⟨y, hy, ey⟩ := i5 l' a1 t' a2
        have hyu : y ≠ u := fun q => by
          have : l' ∈ m1 ++ m2 := (hmem' l').mpr ⟨a1, by rw [a3, ← ey, q]⟩
          rw [hm1, hm2] at this; exact nomatch this
        refine ⟨y, ?_, ey⟩
        rcases List.mem_append.mp hy with z | z
        · exact List.mem_append_left _ z
        · rcases List.mem_cons.mp z with z | z
          · exact absurd z hyu
          · exact List.mem_append_right _ z
/-- the first tick, the ticks -/
theorem Inv.first {hs : List Addr} {τ : Addr → Int64} {N P : Addr → Value} {ls : List Addr} {tk : Addr → Option Int64} (I : Inv hs τ N P ls tk) :
    (hs = [] → ∀ l ∈ ls, tk l = none) ∧ (∀ x r, hs = x :: r → (∃ l ∈ ls, tk l = some (τ x)) ∧ ∀ l ∈ ls, ∀ t, tk l = some t → ¬ t < τ x) := by
  obtain ⟨i1, i2, i3, i4, i5⟩ := I
  refine ⟨fun e l hl => ?_, fun x r e => ?_⟩
  · subst e
    cases h : tk l with
    | none => rfl
    | some t => obtain ⟨x, hx, -⟩ := i5 l hl t h; exact nomatch hx
  · subst e
    obtain ⟨ms, m0, mn, mk, mm⟩ := i3 x (by simp)
    refine ⟨?_, fun l hl t ht q => ?_⟩
    · rcases ms with _ | ⟨a, ms⟩
      · exact absurd rfl m0
      · have := (mm a).mp (by simp)
        exact ⟨a, this.1, this.2⟩
    · obtain ⟨y, hy, rfl⟩ := i5 l hl t ht
      rw [List.pairwise_cons] at i1
      rcases List.mem_cons.mp hy with z | z
      · rw [z] at q; exact Int64.lt_irrefl q
      · exact Int64.lt_asymm q (i1.1 y z)
theorem Inv.ticks {hs : List Addr} {τ : Addr → Int64} {N P : Addr → Value} {ls : List Addr} {tk : Addr → Option Int64} (I : Inv hs τ N P ls tk) : (hs.map τ).Nodup ∧ ∀ t, t ∈ hs.map τ ↔ ∃ l ∈ ls, tk l = some t := by
  obtain ⟨i1, i2, i3, i4, i5⟩ := I
  refine ⟨?_, fun t => ?_⟩
  · show (hs.map τ).Pairwise (· ≠ ·)
    rw [List.pairwise_map]
    exact i1.imp (fun {a b} q e => by rw [e] at q; exact Int64.lt_irrefl q)
  · rw [List.mem_map]
    constructor
    · intro ⟨x, hx, e⟩
      obtain ⟨ms, m0, mn, mk, mm⟩ := i3 x hx
      rcases ms with _ | ⟨a, ms⟩
      · exact absurd rfl m0
      · have := (mm a).mp (by simp)
        exact ⟨a, this.1, by rw [this.2, e]⟩
    · intro ⟨l, hl, ht⟩
      obtain ⟨x, hx, e⟩ := i5 l hl t ht
      exact ⟨x, hx, e⟩

theorem own_weak {l : Launch} {x : MethodName} {S : Spec} {P : Array Value → State → Prop} {K : Program → Env → List Frame → State → Array Value → Prop} {Q Q' : Array Value → State → Outcome → State → Prop} (h : MetFree l x S P K Q) (hq : ∀ a s o t, P a s → Q a s o t → Q' a s o t) : MetFree l x S P K Q' := by
  intro p e ha hc hk s m args below hf happ hP hK
  obtain ⟨n, o, h1, h2, h3, h4⟩ := h p e ha hc hk s m args below hf happ hP hK
  exact ⟨n, o, h1, h2, h3, hq _ _ _ _ hP h4⟩
/-- the order at D lies so in the heap: its array A, its heads hs with their ticks, the links ls -/
def Rep (Z : State) (h : Heap) (n0 : Nat) (D A : Addr) (kA : ClassId) (hs : List Addr) (τ : Addr → Int64) (N P : Addr → Value) (ls : List Addr) : Prop :=
  Exa Z h D cD ∧ Fld Z h D cD "heads" dA (.ref A) ∧ Fld Z h D cD "count" "I" (.int (Int32.ofNat hs.length)) ∧ Arv Z h A kA (.object cH) (4 : Int32) (hs.map Value.ref ++ List.replicate (4 - hs.length) .null) .null ∧ Ovr Z kA cH ∧ n0 ≤ D ∧ n0 ≤ A ∧
  (∀ x ∈ hs, n0 ≤ x ∧ Exa Z h x cH ∧ Fld Z h x cH "tick" "J" (.long (τ x)) ∧ Fld Z h x cL "next" dL (N x) ∧ Fld Z h x cL "prev" dL (P x)) ∧
  (∀ x ∈ ls, n0 ≤ x ∧ Exa Z h x cL ∧ Fld Z h x cL "next" dL (N x) ∧ Fld Z h x cL "prev" dL (P x))
def Apart (D A : Addr) (hs ls : List Addr) : Prop := D ≠ A ∧ (∀ x ∈ hs, x ≠ D ∧ x ≠ A) ∧ (∀ x ∈ ls, x ≠ D ∧ x ≠ A ∧ ∀ y ∈ hs, x ≠ y)
section RepLaws
variable {Z : State} {h0 h : Heap} {n0 : Nat} {D A : Addr} {kA : ClassId} {hs : List Addr} {τ : Addr → Int64} {N P : Addr → Value} {ls : List Addr} {tk : Addr → Option Int64}
theorem Rep.apart {az : Array Value} {k1 k2 k3 : Nat} (hR : Rep Z h n0 D A kA hs τ N P ls) (wD : (Jvm.Cond.instantiable cD k1).before az Z = true) (wH : (Jvm.Cond.instantiable cH k2).before az Z = true) (wL : (Jvm.Cond.instantiable cL k3).before az Z = true) : Apart D A hs ls := by
  obtain ⟨rE, rH, rC, rV, rO, gD, gA, rh, rl⟩ := hR
  obtain ⟨c, A', -⟩ := rV
  exact ⟨ne_arr rE wD A', fun x hx => ⟨ne_exa (rh x hx).2.1 rE (by decide), ne_arr (rh x hx).2.1 wH A'⟩, fun x hx => ⟨ne_exa (rl x hx).2.1 rE (by decide), ne_arr (rl x hx).2.1 wL A', fun y hy => ne_exa (rl x hx).2.1 (rh y hy).2.1 (by decide)⟩⟩
theorem Rep.old (hR : Rep Z h0 n0 D A kA hs τ N P ls) (ap : Apart D A hs ls) {l x z : Addr} (hl : l ∈ ls) (hx : x ∈ hs) (hz : z ∈ ls) (hzl : z ≠ l) (K : Keep h0 h [l, z, x])
    (F1 : Fld Z h l cL "next" dL (.ref x)) (F2 : Fld Z h l cL "prev" dL (.ref z)) (F3 : Fld Z h z cL "next" dL (.ref l)) (F4 : Fld Z h z cL "prev" dL (P z)) (F5 : Fld Z h x cL "next" dL (N x)) (F6 : Fld Z h x cL "prev" dL (.ref l)) (F7 : Fld Z h x cH "tick" "J" (.long (τ x))) :
    Rep Z h n0 D A kA hs τ (upd (upd N l (.ref x)) z (.ref l)) (upd (upd P l (.ref z)) x (.ref l)) ls := by
  obtain ⟨rE, rH, rC, rV, rO, gD, gA, rh, rl⟩ := hR
  obtain ⟨a1, a2, a3⟩ := ap
  have nD : D ∉ [l, z, x] := ninS (a3 l hl).1.symm (ninS (a3 z hz).1.symm (ninS (a2 x hx).1.symm nin0))
  have nA : A ∉ [l, z, x] := ninS (a3 l hl).2.1.symm (ninS (a3 z hz).2.1.symm (ninS (a2 x hx).2.symm nin0))
  refine ⟨rE.keep K, rH.keep K nD, rC.keep K nD, rV.keep K nA, rO, gD, gA, fun y hy => ?_, fun y hy => ?_⟩
  · obtain ⟨g, E, T, n, p⟩ := rh y hy
    have y1 : y ≠ l := ((a3 l hl).2.2 y hy).symm
    have y2 : y ≠ z := ((a3 z hz).2.2 y hy).symm
    by_cases e : y = x
    · subst e
      refine ⟨g, E.keep K, F7, ?_, ?_⟩
      · rw [upd_ne _ _ y2, upd_ne _ _ y1]; exact F5
      · rw [upd_at]; exact F6
    · have ni : y ∉ [l, z, x] := ninS y1 (ninS y2 (ninS e nin0))
      refine ⟨g, E.keep K, T.keep K ni, ?_, ?_⟩
      · rw [upd_ne _ _ y2, upd_ne _ _ y1]; exact n.keep K ni
      · rw [upd_ne _ _ e, upd_ne _ _ y1]; exact p.keep K ni
  · obtain ⟨g, E, n, p⟩ := rl y hy
    have y3 : y ≠ x := (a3 y hy).2.2 x hx
    by_cases e1 : y = l
    · subst e1
      refine ⟨g, E.keep K, ?_, ?_⟩
      · rw [upd_ne _ _ hzl.symm, upd_at]; exact F1
      · rw [upd_ne _ _ y3, upd_at]; exact F2
    · by_cases e2 : y = z
      · subst e2
        refine ⟨g, E.keep K, ?_, ?_⟩
        · rw [upd_at]; exact F3
        · rw [upd_ne _ _ y3, upd_ne _ _ e1]; exact F4
      · have ni : y ∉ [l, z, x] := ninS e1 (ninS e2 (ninS y3 nin0))
        refine ⟨g, E.keep K, ?_, ?_⟩
        · rw [upd_ne _ _ e2, upd_ne _ _ e1]; exact n.keep K ni
        · rw [upd_ne _ _ y3, upd_ne _ _ e1]; exact p.keep K ni
theorem Rep.fresh (hR : Rep Z h0 n0 D A kA hs τ N P ls) {b : Addr} (sz : h0.size ≤ b) : b ∉ hs ∧ b ∉ ls := by
  obtain ⟨rE, rH, rC, rV, rO, gD, gA, rh, rl⟩ := hR
  exact ⟨fun q => Nat.not_lt.mpr sz (rh b q).2.1.lt, fun q => Nat.not_lt.mpr sz (rl b q).2.1.lt⟩
theorem Rep.new {pre post : List Addr} (hR : Rep Z h0 n0 D A kA (pre ++ post) τ N P ls) (ap : Apart D A (pre ++ post) ls) {l b : Addr} {t : Int64} (hl : l ∈ ls) (K : Keep h0 h [A, D, l]) (sz : h0.size ≤ b) (gb : n0 ≤ b)
    (F1 : Fld Z h D cD "heads" dA (.ref A)) (F2 : Fld Z h D cD "count" "I" (.int (Int32.ofNat (pre ++ b :: post).length))) (F3 : Arv Z h A kA (.object cH) (4 : Int32) ((pre ++ b :: post).map Value.ref ++ List.replicate (4 - (pre ++ b :: post).length) .null) .null)
    (F4 : Exa Z h b cH) (F5 : Fld Z h b cH "tick" "J" (.long t)) (F6 : Fld Z h b cL "next" dL (.ref l)) (F7 : Fld Z h b cL "prev" dL (.ref l)) (F8 : Fld Z h l cL "next" dL (.ref b)) (F9 : Fld Z h l cL "prev" dL (.ref b)) :
    Rep Z h n0 D A kA (pre ++ b :: post) (upd τ b t) (upd (upd N l (.ref b)) b (.ref l)) (upd (upd P l (.ref b)) b (.ref l)) ls := by
  have fr := hR.fresh sz
  obtain ⟨rE, rH, rC, rV, rO, gD, gA, rh, rl⟩ := hR
  obtain ⟨a1, a2, a3⟩ := ap
  refine ⟨rE.keep K, F1, F2, F3, rO, gD, gA, fun y hy => ?_, fun y hy => ?_⟩
  · by_cases e : y = b
    · subst e
      refine ⟨gb, F4, ?_, ?_, ?_⟩
      · rw [upd_at]; exact F5
      · rw [upd_at]; exact F6
      · rw [upd_at]; exact F7
    · have hy' : y ∈ pre ++ post := by
        rcases List.mem_append.mp hy with q | q
        · exact List.mem_append_left _ q
        · rcases List.mem_cons.mp q with q | q
          · exact absurd q e
          · exact List.mem_append_right _ q
      obtain ⟨g, E, T, n, p⟩ := rh y hy'
      have y1 : y ≠ l := ((a3 l hl).2.2 y hy').symm
      have ni : y ∉ [A, D, l] := ninS (a2 y hy').2 (ninS (a2 y hy').1 (ninS y1 nin0))
      refine ⟨g, E.keep K, ?_, ?_, ?_⟩
      · rw [upd_ne _ _ e]; exact T.keep K ni
      · rw [upd_ne _ _ e, upd_ne _ _ y1]; exact n.keep K ni
      · rw [upd_ne _ _ e, upd_ne _ _ y1]; exact p.keep K ni
  · obtain ⟨g, E, n, p⟩ := rl y hy
    have yb : y ≠ b := fun q => fr.2 (q ▸ hy)
    by_cases e1 : y = l
    · subst e1
      refine ⟨g, E.keep K, ?_, ?_⟩
      · rw [upd_ne _ _ yb, upd_at]; exact F8
      · rw [upd_ne _ _ yb, upd_at]; exact F9
    · have ni : y ∉ [A, D, l] := ninS (a3 y hy).2.1 (ninS (a3 y hy).1 (ninS e1 nin0))
      refine ⟨g, E.keep K, ?_, ?_⟩
      · rw [upd_ne _ _ yb, upd_ne _ _ e1]; exact n.keep K ni
      · rw [upd_ne _ _ yb, upd_ne _ _ e1]; exact p.keep K ni
theorem Rep.cut (hR : Rep Z h0 n0 D A kA hs τ N P ls) (ap : Apart D A hs ls) {l u w : Addr} (hl : l ∈ ls) (hu : u ∈ hs ∨ u ∈ ls) (hw : w ∈ hs ∨ w ∈ ls) (hul : u ≠ l) (hwl : w ≠ l) (huw : u ≠ w) (K : Keep h0 h [u, w, l])
    (F1 : Fld Z h l cL "next" dL .null) (F2 : Fld Z h l cL "prev" dL .null) (F3 : Fld Z h u cL "next" dL (.ref w)) (F4 : Fld Z h u cL "prev" dL (P u)) (F5 : Fld Z h w cL "next" dL (N w)) (F6 : Fld Z h w cL "prev" dL (.ref u)) (F7 : u ∈ hs → Fld Z h u cH "tick" "J" (.long (τ u))) (F8 : w ∈ hs → Fld Z h w cH "tick" "J" (.long (τ w))) :
    Rep Z h n0 D A kA hs τ (upd (upd N u (.ref w)) l .null) (upd (upd P w (.ref u)) l .null) ls := by
  obtain ⟨rE, rH, rC, rV, rO, gD, gA, rh, rl⟩ := hR
  obtain ⟨a1, a2, a3⟩ := ap
  have node : ∀ y, (y ∈ hs ∨ y ∈ ls) → D ≠ y ∧ A ≠ y := fun y hy => by
    rcases hy with q | q
    · exact ⟨(a2 y q).1.symm, (a2 y q).2.symm⟩
    · exact ⟨(a3 y q).1.symm, (a3 y q).2.1.symm⟩
  have nD : D ∉ [u, w, l] := ninS (node u hu).1 (ninS (node w hw).1 (ninS (a3 l hl).1.symm nin0))
  have nA : A ∉ [u, w, l] := ninS (node u hu).2 (ninS (node w hw).2 (ninS (a3 l hl).2.1.symm nin0))
  have key : ∀ y, y ≠ l → ∀ (n : Fld Z h0 y cL "next" dL (N y)) (p : Fld Z h0 y cL "prev" dL (P y)), Fld Z h y cL "next" dL (upd (upd N u (.ref w)) l .null y) ∧ Fld Z h y cL "prev" dL (upd (upd P w (.ref u)) l .null y) := fun y yl n p => by
    rw [upd_ne _ _ yl, upd_ne _ _ yl]
    by_cases e1 : y = u
    · subst e1
      rw [upd_at, upd_ne _ _ huw]; exact ⟨F3, F4⟩
    · rw [upd_ne _ _ e1]
      by_cases e2 : y = w
      · subst e2
        rw [upd_at]; exact ⟨F5, F6⟩
      · rw [upd_ne _ _ e2]
        have ni : y ∉ [u, w, l] := ninS e1 (ninS e2 (ninS yl nin0))
        exact ⟨n.keep K ni, p.keep K ni⟩
  refine ⟨rE.keep K, rH.keep K nD, rC.keep K nD, rV.keep K nA, rO, gD, gA, fun y hy => ?_, fun y hy => ?_⟩
  · obtain ⟨g, E, T, n, p⟩ := rh y hy
    have yl : y ≠ l := ((a3 l hl).2.2 y hy).symm
    have q := key y yl n p
    refine ⟨g, E.keep K, ?_, q.1, q.2⟩
    by_cases e1 : y = u
    · subst e1; exact F7 hy
    · by_cases e2 : y = w
      · subst e2; exact F8 hy
      · exact T.keep K (ninS e1 (ninS e2 (ninS yl nin0)))
  · obtain ⟨g, E, n, p⟩ := rl y hy
    by_cases yl : y = l
    · subst yl
      refine ⟨g, E.keep K, ?_, ?_⟩
      · rw [upd_at]; exact F1
      · rw [upd_at]; exact F2
    · have q := key y yl n p
      exact ⟨g, E.keep K, q.1, q.2⟩
theorem Rep.drop {pre post : List Addr} {x : Addr} (hR : Rep Z h0 n0 D A kA (pre ++ x :: post) τ N P ls) (ap : Apart D A (pre ++ x :: post) ls) (hnu : ∀ y ∈ pre ++ post, y ≠ x) {l : Addr} (hl : l ∈ ls) (K : Keep h0 h [x, l, D, A])
    (F1 : Fld Z h D cD "heads" dA (.ref A)) (F2 : Fld Z h D cD "count" "I" (.int (Int32.ofNat (pre ++ post).length))) (F3 : Arv Z h A kA (.object cH) (4 : Int32) ((pre ++ post).map Value.ref ++ List.replicate (4 - (pre ++ post).length) .null) .null)
    (F4 : Fld Z h l cL "next" dL .null) (F5 : Fld Z h l cL "prev" dL .null) :
    Rep Z h n0 D A kA (pre ++ post) τ (upd (upd N x (.ref x)) l .null) (upd (upd P x (.ref x)) l .null) ls := by
  obtain ⟨rE, rH, rC, rV, rO, gD, gA, rh, rl⟩ := hR
  obtain ⟨a1, a2, a3⟩ := ap
  have hsub : ∀ y, y ∈ pre ++ post → y ∈ pre ++ x :: post := fun y q => by
    rcases List.mem_append.mp q with z | z
    · exact List.mem_append_left _ z
    · exact List.mem_append_right _ (List.mem_cons_of_mem _ z)
  have hx : x ∈ pre ++ x :: post := by simp
  refine ⟨rE.keep K, F1, F2, F3, rO, gD, gA, fun y hy => ?_, fun y hy => ?_⟩
  · have hy' := hsub y hy
    obtain ⟨g, E, T, n, p⟩ := rh y hy'
    have y1 : y ≠ l := ((a3 l hl).2.2 y hy').symm
    have y2 := hnu y hy
    have ni : y ∉ [x, l, D, A] := ninS y2 (ninS y1 (ninS (a2 y hy').1 (ninS (a2 y hy').2 nin0)))
    refine ⟨g, E.keep K, T.keep K ni, ?_, ?_⟩
    · rw [upd_ne _ _ y1, upd_ne _ _ y2]; exact n.keep K ni
    · rw [upd_ne _ _ y1, upd_ne _ _ y2]; exact p.keep K ni
  · obtain ⟨g, E, n, p⟩ := rl y hy
    have y3 : y ≠ x := (a3 y hy).2.2 x hx
    by_cases e1 : y = l
    · subst e1
      refine ⟨g, E.keep K, ?_, ?_⟩
      · rw [upd_at]; exact F4
      · rw [upd_at]; exact F5
    · have ni : y ∉ [x, l, D, A] := ninS y3 (ninS e1 (ninS (a3 y hy).1 (ninS (a3 y hy).2.1 nin0)))
      refine ⟨g, E.keep K, ?_, ?_⟩
      · rw [upd_ne _ _ e1, upd_ne _ _ y3]; exact n.keep K ni
      · rw [upd_ne _ _ e1, upd_ne _ _ y3]; exact p.keep K ni
end RepLaws
/-- the last of a ring -/
theorem Inv.last {hs : List Addr} {τ : Addr → Int64} {N P : Addr → Value} {ls : List Addr} {tk : Addr → Option Int64} (I : Inv hs τ N P ls tk) {l x : Addr} (hn : tk l = none) (hx : x ∈ hs) : ∃ z, P x = .ref z ∧ z ∈ ls ∧ z ≠ l := by
  obtain ⟨i1, i2, i3, i4, i5⟩ := I
  obtain ⟨ms, m0, mn, mk, mm⟩ := i3 x hx
  have mk' : Lk N P ((x :: ms) ++ [x]) := mk
  obtain ⟨r, z, er, n1, p1⟩ := own_lk_prev (x :: ms) (by simp) mk'
  have hzm : z ∈ ms := by
    have : (x :: ms).getLast (by simp) = z := by simp [er]
    rw [List.getLast_cons m0] at this
    exact this ▸ List.getLast_mem m0
  have zl := (mm z).mp hzm
  exact ⟨z, p1, zl.1, fun e => by rw [e, hn] at zl; exact nomatch zl.2⟩
/-- both neighbours of a filed link -/
theorem Inv.sides {hs : List Addr} {τ : Addr → Int64} {N P : Addr → Value} {ls : List Addr} {tk : Addr → Option Int64} (I : Inv hs τ N P ls tk) {l : Addr} (hl : l ∈ ls) {t : Int64} (ht : tk l = some t) : ∃ u w, P l = .ref u ∧ N l = .ref w := by
  obtain ⟨x, hx, et, m1, m2, nd, hxm, k, hm⟩ := I.filed hl ht
  have k1 := (Lk.split (N := N) (P := P) l (m2 ++ [x]) (x :: m1)).mp k
  obtain ⟨r, u, e1, -, p1⟩ := own_lk_prev (x :: m1) (by simp) k1.1
  obtain ⟨w, r', e2, n1, -⟩ := own_lk_next (m2 ++ [x]) (by simp) k1.2
  exact ⟨u, w, p1, n1⟩

theorem own_pos1_0 (q t1 : Int64)  (h : fDue1 q t1 = (0 : Int32))  : q < t1 := by

  unfold fDue1 at h
  simp only [Int64.lt_iff_toInt_lt] at h ⊢
  repeat' split at h
  all_goals first | exact absurd h (by decide) | omega
theorem own_pos1_1 (q t1 : Int64)  (h : fDue1 q t1 = (1 : Int32)) (ne : ¬ (t1 = q)) : t1 < q := by

  have ne' : t1.toInt ≠ q.toInt := fun z => ne (Int64.toInt_inj.mp z)
  unfold fDue1 at h
  simp only [Int64.lt_iff_toInt_lt] at h ⊢
  repeat' split at h
  all_goals first | exact absurd h (by decide) | omega
theorem own_hd1_1 (t1 : Int64)  : fDue1 t1 t1 = (1 : Int32) := by

  unfold fDue1
  simp only [Int64.lt_iff_toInt_lt]
  repeat' split
  all_goals first | rfl | (exfalso; omega)
theorem own_pos2_0 (q t1 t2 : Int64) (s1 : t1 < t2) (h : fDue2 q t1 t2 = (0 : Int32))  : q < t1 ∧ q < t2 := by
  rw [Int64.lt_iff_toInt_lt] at s1
  unfold fDue2 at h
  simp only [Int64.lt_iff_toInt_lt] at h ⊢
  repeat' split at h
  all_goals first | exact absurd h (by decide) | omega
theorem own_pos2_1 (q t1 t2 : Int64) (s1 : t1 < t2) (h : fDue2 q t1 t2 = (1 : Int32)) (ne : ¬ (t1 = q)) : t1 < q ∧ q < t2 := by
  rw [Int64.lt_iff_toInt_lt] at s1
  have ne' : t1.toInt ≠ q.toInt := fun z => ne (Int64.toInt_inj.mp z)
  unfold fDue2 at h
  simp only [Int64.lt_iff_toInt_lt] at h ⊢
  repeat' split at h
  all_goals first | exact absurd h (by decide) | omega
theorem own_pos2_2 (q t1 t2 : Int64) (s1 : t1 < t2) (h : fDue2 q t1 t2 = (2 : Int32)) (ne : ¬ (t2 = q)) : t1 < q ∧ t2 < q := by
  rw [Int64.lt_iff_toInt_lt] at s1
  have ne' : t2.toInt ≠ q.toInt := fun z => ne (Int64.toInt_inj.mp z)
  unfold fDue2 at h
  simp only [Int64.lt_iff_toInt_lt] at h ⊢
  repeat' split at h
  all_goals first | exact absurd h (by decide) | omega
theorem own_hd2_1 (t1 t2 : Int64) (s1 : t1 < t2) : fDue2 t1 t1 t2 = (1 : Int32) := by
  rw [Int64.lt_iff_toInt_lt] at s1
  unfold fDue2
  simp only [Int64.lt_iff_toInt_lt]
  repeat' split
  all_goals first | rfl | (exfalso; omega)
theorem own_hd2_2 (t1 t2 : Int64) (s1 : t1 < t2) : fDue2 t2 t1 t2 = (2 : Int32) := by
  rw [Int64.lt_iff_toInt_lt] at s1
  unfold fDue2
  simp only [Int64.lt_iff_toInt_lt]
  repeat' split
  all_goals first | rfl | (exfalso; omega)
theorem own_pos3_0 (q t1 t2 t3 : Int64) (s1 : t1 < t2) (s2 : t2 < t3) (h : fDue3 q t1 t2 t3 = (0 : Int32))  : q < t1 ∧ q < t2 ∧ q < t3 := by
  rw [Int64.lt_iff_toInt_lt] at s1
  rw [Int64.lt_iff_toInt_lt] at s2
  unfold fDue3 at h
  simp only [Int64.lt_iff_toInt_lt] at h ⊢
  repeat' split at h
  all_goals first | exact absurd h (by decide) | omega
theorem own_pos3_1 (q t1 t2 t3 : Int64) (s1 : t1 < t2) (s2 : t2 < t3) (h : fDue3 q t1 t2 t3 = (1 : Int32)) (ne : ¬ (t1 = q)) : t1 < q ∧ q < t2 ∧ q < t3 := by
  rw [Int64.lt_iff_toInt_lt] at s1
  rw [Int64.lt_iff_toInt_lt] at s2
  have ne' : t1.toInt ≠ q.toInt := fun z => ne (Int64.toInt_inj.mp z)
  unfold fDue3 at h
  simp only [Int64.lt_iff_toInt_lt] at h ⊢
  repeat' split at h
  all_goals first | exact absurd h (by decide) | omega
theorem own_pos3_2 (q t1 t2 t3 : Int64) (s1 : t1 < t2) (s2 : t2 < t3) (h : fDue3 q t1 t2 t3 = (2 : Int32)) (ne : ¬ (t2 = q)) : t1 < q ∧ t2 < q ∧ q < t3 := by
  rw [Int64.lt_iff_toInt_lt] at s1
  rw [Int64.lt_iff_toInt_lt] at s2
  have ne' : t2.toInt ≠ q.toInt := fun z => ne (Int64.toInt_inj.mp z)
  unfold fDue3 at h
  simp only [Int64.lt_iff_toInt_lt] at h ⊢
  repeat' split at h
  all_goals first | exact absurd h (by decide) | omega
theorem own_pos3_3 (q t1 t2 t3 : Int64) (s1 : t1 < t2) (s2 : t2 < t3) (h : fDue3 q t1 t2 t3 = (3 : Int32)) (ne : ¬ (t3 = q)) : t1 < q ∧ t2 < q ∧ t3 < q := by
  rw [Int64.lt_iff_toInt_lt] at s1
  rw [Int64.lt_iff_toInt_lt] at s2
  have ne' : t3.toInt ≠ q.toInt := fun z => ne (Int64.toInt_inj.mp z)
  unfold fDue3 at h
  simp only [Int64.lt_iff_toInt_lt] at h ⊢
  repeat' split at h
  all_goals first | exact absurd h (by decide) | omega
theorem own_hd3_1 (t1 t2 t3 : Int64) (s1 : t1 < t2) (s2 : t2 < t3) : fDue3 t1 t1 t2 t3 = (1 : Int32) := by
  rw [Int64.lt_iff_toInt_lt] at s1
  rw [Int64.lt_iff_toInt_lt] at s2
  unfold fDue3
  simp only [Int64.lt_iff_toInt_lt]
  repeat' split
  all_goals first | rfl | (exfalso; omega)
theorem own_hd3_2 (t1 t2 t3 : Int64) (s1 : t1 < t2) (s2 : t2 < t3) : fDue3 t2 t1 t2 t3 = (2 : Int32) := by
  rw [Int64.lt_iff_toInt_lt] at s1
  rw [Int64.lt_iff_toInt_lt] at s2
  unfold fDue3
  simp only [Int64.lt_iff_toInt_lt]
  repeat' split
  all_goals first | rfl | (exfalso; omega)
theorem own_hd3_3 (t1 t2 t3 : Int64) (s1 : t1 < t2) (s2 : t2 < t3) : fDue3 t3 t1 t2 t3 = (3 : Int32) := by
  rw [Int64.lt_iff_toInt_lt] at s1
  rw [Int64.lt_iff_toInt_lt] at s2
  unfold fDue3
  simp only [Int64.lt_iff_toInt_lt]
  repeat' split
  all_goals first | rfl | (exfalso; omega)
theorem own_pos4_0 (q t1 t2 t3 t4 : Int64) (s1 : t1 < t2) (s2 : t2 < t3) (s3 : t3 < t4) (h : fDue4 q t1 t2 t3 t4 = (0 : Int32))  : q < t1 ∧ q < t2 ∧ q < t3 ∧ q < t4 := by
  rw [Int64.lt_iff_toInt_lt] at s1
  rw [Int64.lt_iff_toInt_lt] at s2
  rw [Int64.lt_iff_toInt_lt] at s3
  unfold fDue4 at h
  simp only [Int64.lt_iff_toInt_lt] at h ⊢
  repeat' split at h
  all_goals first | exact absurd h (by decide) | omega
theorem own_pos4_1 (q t1 t2 t3 t4 : Int64) (s1 : t1 < t2) (s2 : t2 < t3) (s3 : t3 < t4) (h : fDue4 q t1 t2 t3 t4 = (1 : Int32)) (ne : ¬ (t1 = q)) : t1 < q ∧ q < t2 ∧ q < t3 ∧ q < t4 := by
  rw [Int64.lt_iff_toInt_lt] at s1
  rw [Int64.lt_iff_toInt_lt] at s2
  rw [Int64.lt_iff_toInt_lt] at s3
  have ne' : t1.toInt ≠ q.toInt := fun z => ne (Int64.toInt_inj.mp z)
  unfold fDue4 at h
  simp only [Int64.lt_iff_toInt_lt] at h ⊢
  repeat' split at h
  all_goals first | exact absurd h (by decide) | omega
theorem own_pos4_2 (q t1 t2 t3 t4 : Int64) (s1 : t1 < t2) (s2 : t2 < t3) (s3 : t3 < t4) (h : fDue4 q t1 t2 t3 t4 = (2 : Int32)) (ne : ¬ (t2 = q)) : t1 < q ∧ t2 < q ∧ q < t3 ∧ q < t4 := by
  rw [Int64.lt_iff_toInt_lt] at s1
  rw [Int64.lt_iff_toInt_lt] at s2
  rw [Int64.lt_iff_toInt_lt] at s3
  have ne' : t2.toInt ≠ q.toInt := fun z => ne (Int64.toInt_inj.mp z)
  unfold fDue4 at h
  simp only [Int64.lt_iff_toInt_lt] at h ⊢
  repeat' split at h
  all_goals first | exact absurd h (by decide) | omega
theorem own_pos4_3 (q t1 t2 t3 t4 : Int64) (s1 : t1 < t2) (s2 : t2 < t3) (s3 : t3 < t4) (h : fDue4 q t1 t2 t3 t4 = (3 : Int32)) (ne : ¬ (t3 = q)) : t1 < q ∧ t2 < q ∧ t3 < q ∧ q < t4 := by
  rw [Int64.lt_iff_toInt_lt] at s1
  rw [Int64.lt_iff_toInt_lt] at s2
  rw [Int64.lt_iff_toInt_lt] at s3
  have ne' : t3.toInt ≠ q.toInt := fun z => ne (Int64.toInt_inj.mp z)
  unfold fDue4 at h
  simp only [Int64.lt_iff_toInt_lt] at h ⊢
  repeat' split at h
  all_goals first | exact absurd h (by decide) | omega
theorem own_pos4_4 (q t1 t2 t3 t4 : Int64) (s1 : t1 < t2) (s2 : t2 < t3) (s3 : t3 < t4) (h : fDue4 q t1 t2 t3 t4 = (4 : Int32)) (ne : ¬ (t4 = q)) : t1 < q ∧ t2 < q ∧ t3 < q ∧ t4 < q := by
  rw [Int64.lt_iff_toInt_lt] at s1
  rw [Int64.lt_iff_toInt_lt] at s2
  rw [Int64.lt_iff_toInt_lt] at s3
  have ne' : t4.toInt ≠ q.toInt := fun z => ne (Int64.toInt_inj.mp z)
  unfold fDue4 at h
  simp only [Int64.lt_iff_toInt_lt] at h ⊢
  repeat' split at h
  all_goals first | exact absurd h (by decide) | omega
theorem own_hd4_1 (t1 t2 t3 t4 : Int64) (s1 : t1 < t2) (s2 : t2 < t3) (s3 : t3 < t4) : fDue4 t1 t1 t2 t3 t4 = (1 : Int32) := by
  rw [Int64.lt_iff_toInt_lt] at s1
  rw [Int64.lt_iff_toInt_lt] at s2
  rw [Int64.lt_iff_toInt_lt] at s3
  unfold fDue4
  simp only [Int64.lt_iff_toInt_lt]
  repeat' split
  all_goals first | rfl | (exfalso; omega)
theorem own_hd4_2 (t1 t2 t3 t4 : Int64) (s1 : t1 < t2) (s2 : t2 < t3) (s3 : t3 < t4) : fDue4 t2 t1 t2 t3 t4 = (2 : Int32) := by
  rw [Int64.lt_iff_toInt_lt] at s1
  rw [Int64.lt_iff_toInt_lt] at s2
  rw [Int64.lt_iff_toInt_lt] at s3
  unfold fDue4
  simp only [Int64.lt_iff_toInt_lt]
  repeat' split
  all_goals first | rfl | (exfalso; omega)
theorem own_hd4_3 (t1 t2 t3 t4 : Int64) (s1 : t1 < t2) (s2 : t2 < t3) (s3 : t3 < t4) : fDue4 t3 t1 t2 t3 t4 = (3 : Int32) := by
  rw [Int64.lt_iff_toInt_lt] at s1
  rw [Int64.lt_iff_toInt_lt] at s2
  rw [Int64.lt_iff_toInt_lt] at s3
  unfold fDue4
  simp only [Int64.lt_iff_toInt_lt]
  repeat' split
  all_goals first | rfl | (exfalso; omega)
theorem own_hd4_4 (t1 t2 t3 t4 : Int64) (s1 : t1 < t2) (s2 : t2 < t3) (s3 : t3 < t4) : fDue4 t4 t1 t2 t3 t4 = (4 : Int32) := by
  rw [Int64.lt_iff_toInt_lt] at s1
  rw [Int64.lt_iff_toInt_lt] at s2
  rw [Int64.lt_iff_toInt_lt] at s3
  unfold fDue4
  simp only [Int64.lt_iff_toInt_lt]
  repeat' split
  all_goals first | rfl | (exfalso; omega)
theorem own_hne {τ : Addr → Int64} {a b : Addr} (h : τ a < τ b) : a ≠ b := fun e => by rw [e] at h; exact Int64.lt_irrefl h
theorem own_nu {τ : Addr → Int64} {pre post : List Addr} {x : Addr} (h : (pre ++ x :: post).Pairwise (fun a b => τ a < τ b)) : ∀ y ∈ pre ++ post, y ≠ x := fun y q e => by
  rw [List.pairwise_append, List.pairwise_cons] at h
  rcases List.mem_append.mp q with z | z
  · have := h.2.2 y z x (by simp)
    rw [e] at this; exact Int64.lt_irrefl this
  · have := h.2.1.1 y z
    rw [e] at this; exact Int64.lt_irrefl this
def QFileR (Z : State) (a0 a1 : Addr) (q2 : Int64) (ar : Addr) (kA : ClassId) (ls : List Addr) (tk : Addr → Option Int64) (k : Nat) (h0 : Heap) (n0 : Nat) (v : Option Value) (h : Heap) (L : List Loc) : Prop :=
  ∃ (hs : List Addr) (τ : Addr → Int64) (N P : Addr → Value), v = none ∧ Fr n0 L ∧ h0.size ≤ h.size ∧ Rep Z h n0 a0 ar kA hs τ N P ls ∧ Inv hs τ N P ls (upd tk a1 (some q2)) ∧ hs.length ≤ k + 1
set_option maxRecDepth 65536 in
set_option maxHeartbeats 40000000 in
theorem rmFileR (l : Launch) (Z : State) (az : Array Value) (hw : ∀ d ∈ tables_1, d.before az Z = true) (ws : List Jvm.Cond) (a0 a1 : Addr) (q2 : Int64) (ar : Addr) (kA : ClassId) (hs : List Addr) (τ : Addr → Int64) (N P : Addr → Value) (ls : List Addr) (tk : Addr → Option Int64) (h0 : Heap) (n0 : Nat) (Z0 : n0 ≤ h0.size) (hR : Rep Z h0 n0 a0 ar kA hs τ N P ls) (hI : Inv hs τ N P ls tk) (hl : a1 ∈ ls) (ht : tk a1 = none) (hn : hs.length ≤ 3) :
    MetFree l y2 (head1 (Jvm.Cond.code y2 prog_4_method_5_code 5 none :: ws) ({ frames := 4, cells := 1, slots := 3, locals := 55 } : Room)) (fun a U => a = #[(.ref a0), (.ref a1), (.long q2)] ∧ Z.Warmed39 U.vm ∧ U.heap = h0) (fun _ _ _ _ _ => True) (fun _ U o U' => ∃ v L, o = .returned v ∧ QFileR Z a0 a1 q2 ar kA ls tk hs.length h0 n0 v U'.heap L ∧ FrameEnd U o U' L ({ frames := 4, cells := 1, slots := 3, locals := 55 } : Room).cells ({ frames := 4, cells := 1, slots := 3, locals := 55 } : Room).slots) := by
  have ap := hR.apart (wq hw 1 rfl) (wq hw 39 rfl) (wq hw 14 rfl)
  have hR' := hR
  obtain ⟨rE, rH, rC, rV, rO, gD, gA, rh, rl⟩ := hR'
  have ap' := ap
  obtain ⟨p1, p2, p3⟩ := ap'
  obtain ⟨gl, El, Nl, Pl⟩ := rl a1 hl
  rcases hs with _ | ⟨x1, _ | ⟨x2, _ | ⟨x3, _ | ⟨x4, r⟩⟩⟩⟩
  · refine own_weak (rmFile0 l Z az hw ws a0 a1 q2 ar kA (N a1) (P a1) h0 n0 Z0 rE rH rC rV rO El Nl Pl p1 (p3 a1 hl).1 (p3 a1 hl).2.1 gD gA gl) (fun _ _ _ _ _ hq => ?_)
    obtain ⟨v, L, ho, hQ, hF⟩ := hq
    refine ⟨v, L, ho, ?_, hF⟩
    rcases hQ with ⟨b, hv, hN, K, sz, F1, F2, F3, F4, F5, F6, F7, F8, F9⟩
    exact ⟨[] ++ b :: [], _, _, _, hv, hN, K.1, Rep.new (pre := []) (post := []) hR ap hl K sz (Nat.le_trans Z0 sz) F1 F2 F3 F4 F5 F6 F7 F8 F9, Inv.insert (pre := []) (post := []) hI hl ht all0 all0 (hR.fresh sz).1 (hR.fresh sz).2, Nat.le_refl _⟩
  · have m1 : x1 ∈ [x1] := by simp
    obtain ⟨g1, E1, T1, N1, P1⟩ := rh x1 m1
    obtain ⟨z1, ez1, hz1, nz1⟩ := hI.last ht m1
    rw [ez1] at P1
    obtain ⟨gz1, Ez1, Nz1, Pz1⟩ := rl z1 hz1
    refine own_weak (rmFile1 l Z az hw ws a0 a1 q2 ar kA x1 (τ x1) (N a1) (P a1) z1 (N z1) (N x1) (P z1) h0 n0 Z0 rE rH rC rV rO E1 T1 El Nl Pl P1 Ez1 Nz1 N1 Pz1 p1 (p2 x1 m1).1 (p2 x1 m1).2 (p3 a1 hl).1 (p3 a1 hl).2.1 ((p3 a1 hl).2.2 x1 m1) (Ne.symm nz1) (Ne.symm ((p3 z1 hz1).2.2 x1 m1)) gD gA gl g1 gz1) (fun _ _ _ _ _ hq => ?_)
    obtain ⟨v, L, ho, hQ, hF⟩ := hq
    refine ⟨v, L, ho, ?_, hF⟩
    rcases hQ with ⟨c0, hv, hN, K, F1, F2, F3, F4, F5, F6, F7⟩ | ⟨b, c0, c1, hv, hN, K, sz, F1, F2, F3, F4, F5, F6, F7, F8, F9⟩ | ⟨b, c0, c1, hv, hN, K, sz, F1, F2, F3, F4, F5, F6, F7, F8, F9⟩
    · exact ⟨[x1], τ, _, _, hv, hN, K.1, hR.old ap hl m1 hz1 nz1 K F1 F2 F3 F4 F5 F6 F7, (hI.append hl ht m1 c0 ez1).2.2, Nat.le_succ _⟩
    · have hp := own_pos1_0 q2 (τ x1)  c1 
      exact ⟨[] ++ b :: [x1], _, _, _, hv, hN, K.1, Rep.new (pre := []) (post := [x1]) hR ap hl K sz (Nat.le_trans Z0 sz) F1 F2 F3 F4 F5 F6 F7 F8 F9, Inv.insert (pre := []) (post := [x1]) hI hl ht all0 (allS (hp) all0) (hR.fresh sz).1 (hR.fresh sz).2, Nat.le_refl _⟩
    · have hp := own_pos1_1 q2 (τ x1)  c1 c0
      exact ⟨[x1] ++ b :: [], _, _, _, hv, hN, K.1, Rep.new (pre := [x1]) (post := []) hR ap hl K sz (Nat.le_trans Z0 sz) F1 F2 F3 F4 F5 F6 F7 F8 F9, Inv.insert (pre := [x1]) (post := []) hI hl ht (allS (hp) all0) all0 (hR.fresh sz).1 (hR.fresh sz).2, Nat.le_refl _⟩
  · have m1 : x1 ∈ [x1, x2] := by simp
    obtain ⟨g1, E1, T1, N1, P1⟩ := rh x1 m1
    have m2 : x2 ∈ [x1, x2] := by simp
    obtain ⟨g2, E2, T2, N2, P2⟩ := rh x2 m2
    have s1 : τ x1 < τ x2 := (List.pairwise_cons.mp hI.1).1 x2 (by simp)
    obtain ⟨z1, ez1, hz1, nz1⟩ := hI.last ht m1
    rw [ez1] at P1
    obtain ⟨gz1, Ez1, Nz1, Pz1⟩ := rl z1 hz1
    obtain ⟨z2, ez2, hz2, nz2⟩ := hI.last ht m2
    rw [ez2] at P2
    obtain ⟨gz2, Ez2, Nz2, Pz2⟩ := rl z2 hz2
    refine own_weak (rmFile2 l Z az hw ws a0 a1 q2 ar kA x1 x2 (τ x1) (τ x2) (N a1) (P a1) z1 z2 (N z1) (N z2) (N x1) (N x2) (P z1) (P z2) h0 n0 Z0 rE rH rC rV rO E1 T1 E2 T2 El Nl Pl P1 Ez1 Nz1 N1 Pz1 P2 Ez2 Nz2 N2 Pz2 p1 (p2 x1 m1).1 (p2 x2 m2).1 (p2 x1 m1).2 (p2 x2 m2).2 (p3 a1 hl).1 (p3 a1 hl).2.1 ((p3 a1 hl).2.2 x1 m1) (Ne.symm nz1) (Ne.symm ((p3 z1 hz1).2.2 x1 m1)) ((p3 a1 hl).2.2 x2 m2) (Ne.symm nz2) (Ne.symm ((p3 z2 hz2).2.2 x2 m2)) gD gA gl g1 g2 gz1 gz2) (fun _ _ _ _ _ hq => ?_)
    obtain ⟨v, L, ho, hQ, hF⟩ := hq
    refine ⟨v, L, ho, ?_, hF⟩
    rcases hQ with ⟨c0, hv, hN, K, F1, F2, F3, F4, F5, F6, F7⟩ | ⟨b, c0, c1, hv, hN, K, sz, F1, F2, F3, F4, F5, F6, F7, F8, F9⟩ | ⟨c0, c1, c2, hv, hN, K, F1, F2, F3, F4, F5, F6, F7⟩ | ⟨b, c0, c1, c2, hv, hN, K, sz, F1, F2, F3, F4, F5, F6, F7, F8, F9⟩ | ⟨b, c0, c1, hv, hN, K, sz, F1, F2, F3, F4, F5, F6, F7, F8, F9⟩
    · exact ⟨[x1, x2], τ, _, _, hv, hN, K.1, hR.old ap hl m2 hz2 nz2 K F1 F2 F3 F4 F5 F6 F7, (hI.append hl ht m2 c0 ez2).2.2, Nat.le_succ _⟩
    · have hp := own_pos2_0 q2 (τ x1) (τ x2) s1 c1 
      exact ⟨[] ++ b :: [x1, x2], _, _, _, hv, hN, K.1, Rep.new (pre := []) (post := [x1, x2]) hR ap hl K sz (Nat.le_trans Z0 sz) F1 F2 F3 F4 F5 F6 F7 F8 F9, Inv.insert (pre := []) (post := [x1, x2]) hI hl ht all0 (allS (hp.1) (allS (hp.2) all0)) (hR.fresh sz).1 (hR.fresh sz).2, Nat.le_refl _⟩
    · exact ⟨[x1, x2], τ, _, _, hv, hN, K.1, hR.old ap hl m1 hz1 nz1 K F1 F2 F3 F4 F5 F6 F7, (hI.append hl ht m1 c2 ez1).2.2, Nat.le_succ _⟩
    · have hp := own_pos2_1 q2 (τ x1) (τ x2) s1 c1 c2
      exact ⟨[x1] ++ b :: [x2], _, _, _, hv, hN, K.1, Rep.new (pre := [x1]) (post := [x2]) hR ap hl K sz (Nat.le_trans Z0 sz) F1 F2 F3 F4 F5 F6 F7 F8 F9, Inv.insert (pre := [x1]) (post := [x2]) hI hl ht (allS (hp.1) all0) (allS (hp.2) all0) (hR.fresh sz).1 (hR.fresh sz).2, Nat.le_refl _⟩
    · have hp := own_pos2_2 q2 (τ x1) (τ x2) s1 c1 c0
      exact ⟨[x1, x2] ++ b :: [], _, _, _, hv, hN, K.1, Rep.new (pre := [x1, x2]) (post := []) hR ap hl K sz (Nat.le_trans Z0 sz) F1 F2 F3 F4 F5 F6 F7 F8 F9, Inv.insert (pre := [x1, x2]) (post := []) hI hl ht (allS (hp.1) (allS (hp.2) all0)) all0 (hR.fresh sz).1 (hR.fresh sz).2, Nat.le_refl _⟩
  · have m1 : x1 ∈ [x1, x2, x3] := by simp
    obtain ⟨g1, E1, T1, N1, P1⟩ := rh x1 m1
    have m2 : x2 ∈ [x1, x2, x3] := by simp
    obtain ⟨g2, E2, T2, N2, P2⟩ := rh x2 m2
    have m3 : x3 ∈ [x1, x2, x3] := by simp
    obtain ⟨g3, E3, T3, N3, P3⟩ := rh x3 m3
    have s1 : τ x1 < τ x2 := (List.pairwise_cons.mp hI.1).1 x2 (by simp)
    have s2 : τ x2 < τ x3 := (List.pairwise_cons.mp (List.pairwise_cons.mp hI.1).2).1 x3 (by simp)
    obtain ⟨z1, ez1, hz1, nz1⟩ := hI.last ht m1
    rw [ez1] at P1
    obtain ⟨gz1, Ez1, Nz1, Pz1⟩ := rl z1 hz1
    obtain ⟨z2, ez2, hz2, nz2⟩ := hI.last ht m2
    rw [ez2] at P2
    obtain ⟨gz2, Ez2, Nz2, Pz2⟩ := rl z2 hz2
    obtain ⟨z3, ez3, hz3, nz3⟩ := hI.last ht m3
    rw [ez3] at P3
    obtain ⟨gz3, Ez3, Nz3, Pz3⟩ := rl z3 hz3
    refine own_weak (rmFile3 l Z az hw ws a0 a1 q2 ar kA x1 x2 x3 (τ x1) (τ x2) (τ x3) (N a1) (P a1) z1 z2 z3 (N z1) (N z2) (N z3) (N x1) (N x2) (N x3) (P z1) (P z2) (P z3) h0 n0 Z0 rE rH rC rV rO E1 T1 E2 T2 E3 T3 El Nl Pl P1 Ez1 Nz1 N1 Pz1 P2 Ez2 Nz2 N2 Pz2 P3 Ez3 Nz3 N3 Pz3 p1 (p2 x1 m1).1 (p2 x2 m2).1 (p2 x3 m3).1 (p2 x1 m1).2 (p2 x2 m2).2 (p2 x3 m3).2 (p3 a1 hl).1 (p3 a1 hl).2.1 ((p3 a1 hl).2.2 x1 m1) (Ne.symm nz1) (Ne.symm ((p3 z1 hz1).2.2 x1 m1)) ((p3 a1 hl).2.2 x2 m2) (Ne.symm nz2) (Ne.symm ((p3 z2 hz2).2.2 x2 m2)) ((p3 a1 hl).2.2 x3 m3) (Ne.symm nz3) (Ne.symm ((p3 z3 hz3).2.2 x3 m3)) gD gA gl g1 g2 g3 gz1 gz2 gz3) (fun _ _ _ _ _ hq => ?_)
    obtain ⟨v, L, ho, hQ, hF⟩ := hq
    refine ⟨v, L, ho, ?_, hF⟩
    rcases hQ with ⟨c0, hv, hN, K, F1, F2, F3, F4, F5, F6, F7⟩ | ⟨b, c0, c1, hv, hN, K, sz, F1, F2, F3, F4, F5, F6, F7, F8, F9⟩ | ⟨c0, c1, c2, hv, hN, K, F1, F2, F3, F4, F5, F6, F7⟩ | ⟨b, c0, c1, c2, hv, hN, K, sz, F1, F2, F3, F4, F5, F6, F7, F8, F9⟩ | ⟨c0, c1, c2, hv, hN, K, F1, F2, F3, F4, F5, F6, F7⟩ | ⟨b, c0, c1, c2, hv, hN, K, sz, F1, F2, F3, F4, F5, F6, F7, F8, F9⟩ | ⟨b, c0, c1, hv, hN, K, sz, F1, F2, F3, F4, F5, F6, F7, F8, F9⟩
    · exact ⟨[x1, x2, x3], τ, _, _, hv, hN, K.1, hR.old ap hl m3 hz3 nz3 K F1 F2 F3 F4 F5 F6 F7, (hI.append hl ht m3 c0 ez3).2.2, Nat.le_succ _⟩
    · have hp := own_pos3_0 q2 (τ x1) (τ x2) (τ x3) s1 s2 c1 
      exact ⟨[] ++ b :: [x1, x2, x3], _, _, _, hv, hN, K.1, Rep.new (pre := []) (post := [x1, x2, x3]) hR ap hl K sz (Nat.le_trans Z0 sz) F1 F2 F3 F4 F5 F6 F7 F8 F9, Inv.insert (pre := []) (post := [x1, x2, x3]) hI hl ht all0 (allS (hp.1) (allS (hp.2.1) (allS (hp.2.2) all0))) (hR.fresh sz).1 (hR.fresh sz).2, Nat.le_refl _⟩
    · exact ⟨[x1, x2, x3], τ, _, _, hv, hN, K.1, hR.old ap hl m1 hz1 nz1 K F1 F2 F3 F4 F5 F6 F7, (hI.append hl ht m1 c2 ez1).2.2, Nat.le_succ _⟩
    · have hp := own_pos3_1 q2 (τ x1) (τ x2) (τ x3) s1 s2 c1 c2
      exact ⟨[x1] ++ b :: [x2, x3], _, _, _, hv, hN, K.1, Rep.new (pre := [x1]) (post := [x2, x3]) hR ap hl K sz (Nat.le_trans Z0 sz) F1 F2 F3 F4 F5 F6 F7 F8 F9, Inv.insert (pre := [x1]) (post := [x2, x3]) hI hl ht (allS (hp.1) all0) (allS (hp.2.1) (allS (hp.2.2) all0)) (hR.fresh sz).1 (hR.fresh sz).2, Nat.le_refl _⟩
    · exact ⟨[x1, x2, x3], τ, _, _, hv, hN, K.1, hR.old ap hl m2 hz2 nz2 K F1 F2 F3 F4 F5 F6 F7, (hI.append hl ht m2 c2 ez2).2.2, Nat.le_succ _⟩
    · have hp := own_pos3_2 q2 (τ x1) (τ x2) (τ x3) s1 s2 c1 c2
      exact ⟨[x1, x2] ++ b :: [x3], _, _, _, hv, hN, K.1, Rep.new (pre := [x1, x2]) (post := [x3]) hR ap hl K sz (Nat.le_trans Z0 sz) F1 F2 F3 F4 F5 F6 F7 F8 F9, Inv.insert (pre := [x1, x2]) (post := [x3]) hI hl ht (allS (hp.1) (allS (hp.2.1) all0)) (allS (hp.2.2) all0) (hR.fresh sz).1 (hR.fresh sz).2, Nat.le_refl _⟩
    · have hp := own_pos3_3 q2 (τ x1) (τ x2) (τ x3) s1 s2 c1 c0
      exact ⟨[x1, x2, x3] ++ b :: [], _, _, _, hv, hN, K.1, Rep.new (pre := [x1, x2, x3]) (post := []) hR ap hl K sz (Nat.le_trans Z0 sz) F1 F2 F3 F4 F5 F6 F7 F8 F9, Inv.insert (pre := [x1, x2, x3]) (post := []) hI hl ht (allS (hp.1) (allS (hp.2.1) (allS (hp.2.2) all0))) all0 (hR.fresh sz).1 (hR.fresh sz).2, Nat.le_refl _⟩
  · exact absurd hn (by simp)
def QRemR (Z : State) (a0 a1 : Addr) (ar : Addr) (kA : ClassId) (ls : List Addr) (tk : Addr → Option Int64) (k : Nat) (h0 : Heap) (n0 : Nat) (v : Option Value) (h : Heap) (L : List Loc) : Prop :=
  ∃ (hs : List Addr) (τ : Addr → Int64) (N P : Addr → Value), v = none ∧ Fr n0 L ∧ h0.size ≤ h.size ∧ Rep Z h n0 a0 ar kA hs τ N P ls ∧ Inv hs τ N P ls (upd tk a1 none) ∧ hs.length ≤ k
set_option maxRecDepth 65536 in
set_option maxHeartbeats 40000000 in
theorem rmRemR (l : Launch) (Z : State) (az : Array Value) (hw : ∀ d ∈ tables_1, d.before az Z = true) (ws : List Jvm.Cond) (a0 a1 : Addr) (t : Int64) (ar : Addr) (kA : ClassId) (hs : List Addr) (τ : Addr → Int64) (N P : Addr → Value) (ls : List Addr) (tk : Addr → Option Int64) (h0 : Heap) (n0 : Nat) (Z0 : n0 ≤ h0.size) (hR : Rep Z h0 n0 a0 ar kA hs τ N P ls) (hI : Inv hs τ N P ls tk) (hl : a1 ∈ ls) (ht : tk a1 = some t) (hn : hs.length ≤ 4) :
    MetFree l y8 (head1 (Jvm.Cond.code y8 prog_4_method_6_code 3 none :: ws) ({ frames := 2, cells := 0, slots := 0, locals := 32 } : Room)) (fun a U => a = #[(.ref a0), (.ref a1)] ∧ Z.Warmed39 U.vm ∧ U.heap = h0) (fun _ _ _ _ _ => True) (fun _ U o U' => ∃ v L, o = .returned v ∧ QRemR Z a0 a1 ar kA ls tk hs.length h0 n0 v U'.heap L ∧ FrameEnd U o U' L ({ frames := 2, cells := 0, slots := 0, locals := 32 } : Room).cells ({ frames := 2, cells := 0, slots := 0, locals := 32 } : Room).slots) := by
  have ap := hR.apart (wq hw 1 rfl) (wq hw 39 rfl) (wq hw 14 rfl)
  have hR' := hR
  obtain ⟨rE, rH, rC, rV, rO, gD, gA, rh, rl⟩ := hR'
  have ap' := ap
  obtain ⟨p1, p2, p3⟩ := ap'
  obtain ⟨gl, El, Nl, Pl⟩ := rl a1 hl
  obtain ⟨u, w, eu, ew⟩ := hI.sides hl ht
  obtain ⟨c1, c2, c3, c4, c5, c6⟩ := hI.cut hl ht eu ew
  rw [eu] at Pl
  rw [ew] at Nl
  by_cases e : u = w
  · subst e
    obtain ⟨hu, etu, hdrop⟩ := c6 rfl
    rcases hs with _ | ⟨x1, _ | ⟨x2, _ | ⟨x3, _ | ⟨x4, _ | ⟨x5, r⟩⟩⟩⟩⟩
    · exact nomatch hu
    · have m1 : x1 ∈ [x1] := by simp
      obtain ⟨g1, E1, T1, N1, P1⟩ := rh x1 m1
      have hu' : u = x1 := by simpa using hu
      have e1 := hu'
      rw [e1] at Pl Nl hdrop
      refine own_weak (rmRemL1_1 l Z az hw ws a0 a1 ar kA x1 (τ x1) (N x1) (P x1) h0 n0 Z0 rE rH rC rV rO E1 T1 El Pl Nl N1 P1 p1 (p2 x1 m1).1 (p2 x1 m1).2 (p3 a1 hl).1 (p3 a1 hl).2.1 ((p3 a1 hl).2.2 x1 m1) gD gA gl g1 (own_hd1_1 (τ x1) )) (fun _ _ _ _ _ hq => ?_)
      obtain ⟨v, L, ho, hQ, hF⟩ := hq
      refine ⟨v, L, ho, ?_, hF⟩
      obtain ⟨hv, hN, K, F1, F2, F3, F4, F5⟩ := hQ
      exact ⟨[] ++ [], τ, _, _, hv, hN, K.1, Rep.drop (pre := []) (post := []) hR ap (own_nu (pre := []) (post := []) hI.1) hl K F1 F2 F3 F4 F5, hdrop [] [] rfl, Nat.le_succ _⟩
    · have m1 : x1 ∈ [x1, x2] := by simp
      obtain ⟨g1, E1, T1, N1, P1⟩ := rh x1 m1
      have m2 : x2 ∈ [x1, x2] := by simp
      obtain ⟨g2, E2, T2, N2, P2⟩ := rh x2 m2
      have s1 : τ x1 < τ x2 := (List.pairwise_cons.mp hI.1).1 x2 (by simp)
      have hu' : u = x1 ∨ u = x2 := by simpa using hu
      rcases hu' with e1 | e2
      · rw [e1] at Pl Nl hdrop
        refine own_weak (rmRemL2_1 l Z az hw ws a0 a1 ar kA x1 x2 (τ x1) (τ x2) (N x1) (P x1) h0 n0 Z0 rE rH rC rV rO E1 T1 E2 T2 El Pl Nl N1 P1 p1 (p2 x1 m1).1 (p2 x2 m2).1 (p2 x1 m1).2 (p2 x2 m2).2 (p3 a1 hl).1 (p3 a1 hl).2.1 ((p3 a1 hl).2.2 x1 m1) ((p3 a1 hl).2.2 x2 m2) (own_hne s1) gD gA gl g1 (own_hd2_1 (τ x1) (τ x2) s1)) (fun _ _ _ _ _ hq => ?_)
        obtain ⟨v, L, ho, hQ, hF⟩ := hq
        refine ⟨v, L, ho, ?_, hF⟩
        obtain ⟨hv, hN, K, F1, F2, F3, F4, F5⟩ := hQ
        exact ⟨[] ++ [x2], τ, _, _, hv, hN, K.1, Rep.drop (pre := []) (post := [x2]) hR ap (own_nu (pre := []) (post := [x2]) hI.1) hl K F1 F2 F3 F4 F5, hdrop [] [x2] rfl, Nat.le_succ _⟩
      · rw [e2] at Pl Nl hdrop
        refine own_weak (rmRemL2_2 l Z az hw ws a0 a1 ar kA x1 x2 (τ x1) (τ x2) (N x2) (P x2) h0 n0 Z0 rE rH rC rV rO E1 T1 E2 T2 El Pl Nl N2 P2 p1 (p2 x1 m1).1 (p2 x2 m2).1 (p2 x1 m1).2 (p2 x2 m2).2 (p3 a1 hl).1 (p3 a1 hl).2.1 ((p3 a1 hl).2.2 x1 m1) ((p3 a1 hl).2.2 x2 m2) (Ne.symm (own_hne s1)) gD gA gl g2 (own_hd2_2 (τ x1) (τ x2) s1)) (fun _ _ _ _ _ hq => ?_)
        obtain ⟨v, L, ho, hQ, hF⟩ := hq
        refine ⟨v, L, ho, ?_, hF⟩
        obtain ⟨hv, hN, K, F1, F2, F3, F4, F5⟩ := hQ
        exact ⟨[x1] ++ [], τ, _, _, hv, hN, K.1, Rep.drop (pre := [x1]) (post := []) hR ap (own_nu (pre := [x1]) (post := []) hI.1) hl K F1 F2 F3 F4 F5, hdrop [x1] [] rfl, Nat.le_succ _⟩
    · have m1 : x1 ∈ [x1, x2, x3] := by simp
      obtain ⟨g1, E1, T1, N1, P1⟩ := rh x1 m1
      have m2 : x2 ∈ [x1, x2, x3] := by simp
      obtain ⟨g2, E2, T2, N2, P2⟩ := rh x2 m2
      have m3 : x3 ∈ [x1, x2, x3] := by simp
      obtain ⟨g3, E3, T3, N3, P3⟩ := rh x3 m3
      have s1 : τ x1 < τ x2 := (List.pairwise_cons.mp hI.1).1 x2 (by simp)
      have s2 : τ x2 < τ x3 := (List.pairwise_cons.mp (List.pairwise_cons.mp hI.1).2).1 x3 (by simp)
      have hu' : u = x1 ∨ u = x2 ∨ u = x3 := by simpa using hu
      rcases hu' with e1 | e2 | e3
      · rw [e1] at Pl Nl hdrop
        refine own_weak (rmRemL3_1 l Z az hw ws a0 a1 ar kA x1 x2 x3 (τ x1) (τ x2) (τ x3) (N x1) (P x1) h0 n0 Z0 rE rH rC rV rO E1 T1 E2 T2 E3 T3 El Pl Nl N1 P1 p1 (p2 x1 m1).1 (p2 x2 m2).1 (p2 x3 m3).1 (p2 x1 m1).2 (p2 x2 m2).2 (p2 x3 m3).2 (p3 a1 hl).1 (p3 a1 hl).2.1 ((p3 a1 hl).2.2 x1 m1) ((p3 a1 hl).2.2 x2 m2) ((p3 a1 hl).2.2 x3 m3) (own_hne s1) (own_hne (Int64.lt_trans s1 s2)) gD gA gl g1 (own_hd3_1 (τ x1) (τ x2) (τ x3) s1 s2)) (fun _ _ _ _ _ hq => ?_)
        obtain ⟨v, L, ho, hQ, hF⟩ := hq
        refine ⟨v, L, ho, ?_, hF⟩
        obtain ⟨hv, hN, K, F1, F2, F3, F4, F5⟩ := hQ
        exact ⟨[] ++ [x2, x3], τ, _, _, hv, hN, K.1, Rep.drop (pre := []) (post := [x2, x3]) hR ap (own_nu (pre := []) (post := [x2, x3]) hI.1) hl K F1 F2 F3 F4 F5, hdrop [] [x2, x3] rfl, Nat.le_succ _⟩
      · rw [e2] at Pl Nl hdrop
        refine own_weak (rmRemL3_2 l Z az hw ws a0 a1 ar kA x1 x2 x3 (τ x1) (τ x2) (τ x3) (N x2) (P x2) h0 n0 Z0 rE rH rC rV rO E1 T1 E2 T2 E3 T3 El Pl Nl N2 P2 p1 (p2 x1 m1).1 (p2 x2 m2).1 (p2 x3 m3).1 (p2 x1 m1).2 (p2 x2 m2).2 (p2 x3 m3).2 (p3 a1 hl).1 (p3 a1 hl).2.1 ((p3 a1 hl).2.2 x1 m1) ((p3 a1 hl).2.2 x2 m2) ((p3 a1 hl).2.2 x3 m3) (Ne.symm (own_hne s1)) (own_hne s2) gD gA gl g2 (own_hd3_2 (τ x1) (τ x2) (τ x3) s1 s2)) (fun _ _ _ _ _ hq => ?_)
        obtain ⟨v, L, ho, hQ, hF⟩ := hq
        refine ⟨v, L, ho, ?_, hF⟩
        obtain ⟨hv, hN, K, F1, F2, F3, F4, F5⟩ := hQ
        exact ⟨[x1] ++ [x3], τ, _, _, hv, hN, K.1, Rep.drop (pre := [x1]) (post := [x3]) hR ap (own_nu (pre := [x1]) (post := [x3]) hI.1) hl K F1 F2 F3 F4 F5, hdrop [x1] [x3] rfl, Nat.le_succ _⟩
      · rw [e3] at Pl Nl hdrop
        refine own_weak (rmRemL3_3 l Z az hw ws a0 a1 ar kA x1 x2 x3 (τ x1) (τ x2) (τ x3) (N x3) (P x3) h0 n0 Z0 rE rH rC rV rO E1 T1 E2 T2 E3 T3 El Pl Nl N3 P3 p1 (p2 x1 m1).1 (p2 x2 m2).1 (p2 x3 m3).1 (p2 x1 m1).2 (p2 x2 m2).2 (p2 x3 m3).2 (p3 a1 hl).1 (p3 a1 hl).2.1 ((p3 a1 hl).2.2 x1 m1) ((p3 a1 hl).2.2 x2 m2) ((p3 a1 hl).2.2 x3 m3) (Ne.symm (own_hne (Int64.lt_trans s1 s2))) (Ne.symm (own_hne s2)) gD gA gl g3 (own_hd3_3 (τ x1) (τ x2) (τ x3) s1 s2)) (fun _ _ _ _ _ hq => ?_)
        obtain ⟨v, L, ho, hQ, hF⟩ := hq
        refine ⟨v, L, ho, ?_, hF⟩
        obtain ⟨hv, hN, K, F1, F2, F3, F4, F5⟩ := hQ
        exact ⟨[x1, x2] ++ [], τ, _, _, hv, hN, K.1, Rep.drop (pre := [x1, x2]) (post := []) hR ap (own_nu (pre := [x1, x2]) (post := []) hI.1) hl K F1 F2 F3 F4 F5, hdrop [x1, x2] [] rfl, Nat.le_succ _⟩
    · have m1 : x1 ∈ [x1, x2, x3, x4] := by simp
      obtain ⟨g1, E1, T1, N1, P1⟩ := rh x1 m1
      have m2 : x2 ∈ [x1, x2, x3, x4] := by simp
      obtain ⟨g2, E2, T2, N2, P2⟩ := rh x2 m2
      have m3 : x3 ∈ [x1, x2, x3, x4] := by simp
      obtain ⟨g3, E3, T3, N3, P3⟩ := rh x3 m3
      have m4 : x4 ∈ [x1, x2, x3, x4] := by simp
      obtain ⟨g4, E4, T4, N4, P4⟩ := rh x4 m4
      have s1 : τ x1 < τ x2 := (List.pairwise_cons.mp hI.1).1 x2 (by simp)
      have s2 : τ x2 < τ x3 := (List.pairwise_cons.mp (List.pairwise_cons.mp hI.1).2).1 x3 (by simp)
      have s3 : τ x3 < τ x4 := (List.pairwise_cons.mp (List.pairwise_cons.mp (List.pairwise_cons.mp hI.1).2).2).1 x4 (by simp)
      have hu' : u = x1 ∨ u = x2 ∨ u = x3 ∨ u = x4 := by simpa using hu
      rcases hu' with e1 | e2 | e3 | e4
      · rw [e1] at Pl Nl hdrop
        refine own_weak (rmRemL4_1 l Z az hw ws a0 a1 ar kA x1 x2 x3 x4 (τ x1) (τ x2) (τ x3) (τ x4) (N x1) (P x1) h0 n0 Z0 rE rH rC rV rO E1 T1 E2 T2 E3 T3 E4 T4 El Pl Nl N1 P1 p1 (p2 x1 m1).1 (p2 x2 m2).1 (p2 x3 m3).1 (p2 x4 m4).1 (p2 x1 m1).2 (p2 x2 m2).2 (p2 x3 m3).2 (p2 x4 m4).2 (p3 a1 hl).1 (p3 a1 hl).2.1 ((p3 a1 hl).2.2 x1 m1) ((p3 a1 hl).2.2 x2 m2) ((p3 a1 hl).2.2 x3 m3) ((p3 a1 hl).2.2 x4 m4) (own_hne s1) (own_hne (Int64.lt_trans s1 s2)) (own_hne (Int64.lt_trans (Int64.lt_trans s1 s2) s3)) gD gA gl g1 (own_hd4_1 (τ x1) (τ x2) (τ x3) (τ x4) s1 s2 s3)) (fun _ _ _ _ _ hq => ?_)
        obtain ⟨v, L, ho, hQ, hF⟩ := hq
        refine ⟨v, L, ho, ?_, hF⟩
        obtain ⟨hv, hN, K, F1, F2, F3, F4, F5⟩ := hQ
        exact ⟨[] ++ [x2, x3, x4], τ, _, _, hv, hN, K.1, Rep.drop (pre := []) (post := [x2, x3, x4]) hR ap (own_nu (pre := []) (post := [x2, x3, x4]) hI.1) hl K F1 F2 F3 F4 F5, hdrop [] [x2, x3, x4] rfl, Nat.le_succ _⟩
      · rw [e2] at Pl Nl hdrop
        refine own_weak (rmRemL4_2 l Z az hw ws a0 a1 ar kA x1 x2 x3 x4 (τ x1) (τ x2) (τ x3) (τ x4) (N x2) (P x2) h0 n0 Z0 rE rH rC rV rO E1 T1 E2 T2 E3 T3 E4 T4 El Pl Nl N2 P2 p1 (p2 x1 m1).1 (p2 x2 m2).1 (p2 x3 m3).1 (p2 x4 m4).1 (p2 x1 m1).2 (p2 x2 m2).2 (p2 x3 m3).2 (p2 x4 m4).2 (p3 a1 hl).1 (p3 a1 hl).2.1 ((p3 a1 hl).2.2 x1 m1) ((p3 a1 hl).2.2 x2 m2) ((p3 a1 hl).2.2 x3 m3) ((p3 a1 hl).2.2 x4 m4) (Ne.symm (own_hne s1)) (own_hne s2) (own_hne (Int64.lt_trans s2 s3)) gD gA gl g2 (own_hd4_2 (τ x1) (τ x2) (τ x3) (τ x4) s1 s2 s3)) (fun _ _ _ _ _ hq => ?_)
        obtain ⟨v, L, ho, hQ, hF⟩ := hq
        refine ⟨v, L, ho, ?_, hF⟩
        obtain ⟨hv, hN, K, F1, F2, F3, F4, F5⟩ := hQ
        exact ⟨[x1] ++ [x3, x4], τ, _, _, hv, hN, K.1, Rep.drop (pre := [x1]) (post := [x3, x4]) hR ap (own_nu (pre := [x1]) (post := [x3, x4]) hI.1) hl K F1 F2 F3 F4 F5, hdrop [x1] [x3, x4] rfl, Nat.le_succ _⟩
      · rw [e3] at Pl Nl hdrop
        refine own_weak (rmRemL4_3 l Z az hw ws a0 a1 ar kA x1 x2 x3 x4 (τ x1) (τ x2) (τ x3) (τ x4) (N x3) (P x3) h0 n0 Z0 rE rH rC rV rO E1 T1 E2 T2 E3 T3 E4 T4 El Pl Nl N3 P3 p1 (p2 x1 m1).1 (p2 x2 m2).1 (p2 x3 m3).1 (p2 x4 m4).1 (p2 x1 m1).2 (p2 x2 m2).2 (p2 x3 m3).2 (p2 x4 m4).2 (p3 a1 hl).1 (p3 a1 hl).2.1 ((p3 a1 hl).2.2 x1 m1) ((p3 a1 hl).2.2 x2 m2) ((p3 a1 hl).2.2 x3 m3) ((p3 a1 hl).2.2 x4 m4) (Ne.symm (own_hne (Int64.lt_trans s1 s2))) (Ne.symm (own_hne s2)) (own_hne s3) gD gA gl g3 (own_hd4_3 (τ x1) (τ x2) (τ x3) (τ x4) s1 s2 s3)) (fun _ _ _ _ _ hq => ?_)
        obtain ⟨v, L, ho, hQ, hF⟩ := hq
        refine ⟨v, L, ho, ?_, hF⟩
        obtain ⟨hv, hN, K, F1, F2, F3, F4, F5⟩ := hQ
        exact ⟨[x1, x2] ++ [x4], τ, _, _, hv, hN, K.1, Rep.drop (pre := [x1, x2]) (post := [x4]) hR ap (own_nu (pre := [x1, x2]) (post := [x4]) hI.1) hl K F1 F2 F3 F4 F5, hdrop [x1, x2] [x4] rfl, Nat.le_succ _⟩
      · rw [e4] at Pl Nl hdrop
        refine own_weak (rmRemL4_4 l Z az hw ws a0 a1 ar kA x1 x2 x3 x4 (τ x1) (τ x2) (τ x3) (τ x4) (N x4) (P x4) h0 n0 Z0 rE rH rC rV rO E1 T1 E2 T2 E3 T3 E4 T4 El Pl Nl N4 P4 p1 (p2 x1 m1).1 (p2 x2 m2).1 (p2 x3 m3).1 (p2 x4 m4).1 (p2 x1 m1).2 (p2 x2 m2).2 (p2 x3 m3).2 (p2 x4 m4).2 (p3 a1 hl).1 (p3 a1 hl).2.1 ((p3 a1 hl).2.2 x1 m1) ((p3 a1 hl).2.2 x2 m2) ((p3 a1 hl).2.2 x3 m3) ((p3 a1 hl).2.2 x4 m4) (Ne.symm (own_hne (Int64.lt_trans (Int64.lt_trans s1 s2) s3))) (Ne.symm (own_hne (Int64.lt_trans s2 s3))) (Ne.symm (own_hne s3)) gD gA gl g4 (own_hd4_4 (τ x1) (τ x2) (τ x3) (τ x4) s1 s2 s3)) (fun _ _ _ _ _ hq => ?_)
        obtain ⟨v, L, ho, hQ, hF⟩ := hq
        refine ⟨v, L, ho, ?_, hF⟩
        obtain ⟨hv, hN, K, F1, F2, F3, F4, F5⟩ := hQ
        exact ⟨[x1, x2, x3] ++ [], τ, _, _, hv, hN, K.1, Rep.drop (pre := [x1, x2, x3]) (post := []) hR ap (own_nu (pre := [x1, x2, x3]) (post := []) hI.1) hl K F1 F2 F3 F4 F5, hdrop [x1, x2, x3] [] rfl, Nat.le_succ _⟩
    · exact absurd hn (by simp)
  · rcases c3 with hu | hu <;> rcases c4 with hv | hv
    · obtain ⟨gu, Eu, Tu, Nu, Pu⟩ := rh u hu
      obtain ⟨gv, Ev, Tv, Nv, Pv⟩ := rh w hv
      refine own_weak (rmRemHH l Z az hw ws a0 a1 u w (N u) (P u) (N w) (P w) (τ u) (τ w)  h0 n0 Z0 El Pl Nl Eu Nu Pu Ev Nv Pv Tu Tv  (Ne.symm c1) (Ne.symm c2) e gl gu gv) (fun _ _ _ _ _ hq => ?_)
      obtain ⟨v, L, ho, hQ, hF⟩ := hq
      refine ⟨v, L, ho, ?_, hF⟩
      obtain ⟨hv', hN, K, F1, F2, F3, F4, F5, F6, Fu, Fv⟩ := hQ
      exact ⟨hs, τ, _, _, hv', hN, K.1, hR.cut ap hl (Or.inl hu) (Or.inl hv) c1 c2 e K F1 F2 F3 F4 F5 F6 (fun _ => Fu) (fun _ => Fv), c5 e, Nat.le_refl _⟩
    · obtain ⟨gu, Eu, Tu, Nu, Pu⟩ := rh u hu
      obtain ⟨gv, Ev, Nv, Pv⟩ := rl w hv
      refine own_weak (rmRemHL l Z az hw ws a0 a1 u w (N u) (P u) (N w) (P w) (τ u)  h0 n0 Z0 El Pl Nl Eu Nu Pu Ev Nv Pv Tu  (Ne.symm c1) (Ne.symm c2) e gl gu gv) (fun _ _ _ _ _ hq => ?_)
      obtain ⟨v, L, ho, hQ, hF⟩ := hq
      refine ⟨v, L, ho, ?_, hF⟩
      obtain ⟨hv', hN, K, F1, F2, F3, F4, F5, F6, Fu⟩ := hQ
      exact ⟨hs, τ, _, _, hv', hN, K.1, hR.cut ap hl (Or.inl hu) (Or.inr hv) c1 c2 e K F1 F2 F3 F4 F5 F6 (fun _ => Fu) (fun q => absurd rfl ((p3 w hv).2.2 w q)), c5 e, Nat.le_refl _⟩
    · obtain ⟨gu, Eu, Nu, Pu⟩ := rl u hu
      obtain ⟨gv, Ev, Tv, Nv, Pv⟩ := rh w hv
      refine own_weak (rmRemLH l Z az hw ws a0 a1 u w (N u) (P u) (N w) (P w) (τ w)  h0 n0 Z0 El Pl Nl Eu Nu Pu Ev Nv Pv Tv  (Ne.symm c1) (Ne.symm c2) e gl gu gv) (fun _ _ _ _ _ hq => ?_)
      obtain ⟨v, L, ho, hQ, hF⟩ := hq
      refine ⟨v, L, ho, ?_, hF⟩
      obtain ⟨hv', hN, K, F1, F2, F3, F4, F5, F6, Fv⟩ := hQ
      exact ⟨hs, τ, _, _, hv', hN, K.1, hR.cut ap hl (Or.inr hu) (Or.inl hv) c1 c2 e K F1 F2 F3 F4 F5 F6 (fun q => absurd rfl ((p3 u hu).2.2 u q)) (fun _ => Fv), c5 e, Nat.le_refl _⟩
    · obtain ⟨gu, Eu, Nu, Pu⟩ := rl u hu
      obtain ⟨gv, Ev, Nv, Pv⟩ := rl w hv
      refine own_weak (rmRemLL l Z az hw ws a0 a1 u w (N u) (P u) (N w) (P w)  h0 n0 Z0 El Pl Nl Eu Nu Pu Ev Nv Pv  (Ne.symm c1) (Ne.symm c2) e gl gu gv) (fun _ _ _ _ _ hq => ?_)
      obtain ⟨v, L, ho, hQ, hF⟩ := hq
      refine ⟨v, L, ho, ?_, hF⟩
      obtain ⟨hv', hN, K, F1, F2, F3, F4, F5, F6⟩ := hQ
      exact ⟨hs, τ, _, _, hv', hN, K.1, hR.cut ap hl (Or.inr hu) (Or.inr hv) c1 c2 e K F1 F2 F3 F4 F5 F6 (fun q => absurd rfl ((p3 u hu).2.2 u q)) (fun q => absurd rfl ((p3 w hv).2.2 w q)), c5 e, Nat.le_refl _⟩
theorem Inv.none {τ : Addr → Int64} {P : Addr → Value} (ls : List Addr) : Inv [] τ (fun _ => .null) P ls (fun _ => none) :=
  ⟨List.Pairwise.nil, (fun _ q => nomatch q), (fun _ q => nomatch q), (fun _ _ _ => rfl), (fun _ _ _ q => nomatch q)⟩
theorem Rep.nextN {Z : State} {h : Heap} {n0 : Nat} {D A : Addr} {kA : ClassId} {hs : List Addr} {τ : Addr → Int64} {N P : Addr → Value} {ls : List Addr} {tk : Addr → Option Int64} (hR : Rep Z h n0 D A kA hs τ N P ls) (hI : Inv hs τ N P ls tk) {l : Addr} (hl : l ∈ ls) (ht : tk l = none) : Fld Z h l cL "next" dL .null := by
  obtain ⟨-, -, -, -, -, -, -, -, rl⟩ := hR
  have q := (rl l hl).2.2.1
  rw [hI.2.2.2.1 l hl ht] at q
  exact q
theorem Rep.nextY {Z : State} {h : Heap} {n0 : Nat} {D A : Addr} {kA : ClassId} {hs : List Addr} {τ : Addr → Int64} {N P : Addr → Value} {ls : List Addr} {tk : Addr → Option Int64} (hR : Rep Z h n0 D A kA hs τ N P ls) (hI : Inv hs τ N P ls tk) {l : Addr} (hl : l ∈ ls) {t : Int64} (ht : tk l = some t) : ∃ w, Fld Z h l cL "next" dL (.ref w) := by
  obtain ⟨-, -, -, -, -, -, -, -, rl⟩ := hR
  obtain ⟨u, w, eu, ew⟩ := hI.sides hl ht
  have q := (rl l hl).2.2.1
  rw [ew] at q
  exact ⟨w, q⟩
def IsMin (ls : List Addr) (tk : Addr → Option Int64) (r : Int64) : Prop := ((∀ l ∈ ls, tk l = none) ∧ r = (9223372036854775807 : Int64)) ∨ ((∃ l ∈ ls, tk l = some r) ∧ ∀ l ∈ ls, ∀ t, tk l = some t → ¬ t < r)
theorem own_len4 {hs : List Addr} (h0 : hs ≠ []) (h4 : hs.length ≤ 4) : ¬ (Int32.ofNat hs.length = (0 : Int32)) := by
  have h1 : hs.length ≠ 0 := fun q => h0 (List.length_eq_zero_iff.mp q)
  have c : hs.length = 1 ∨ hs.length = 2 ∨ hs.length = 3 ∨ hs.length = 4 := by omega
  rcases c with c | c | c | c <;> rw [c] <;> decide

def QFirstR (ls : List Addr) (tk : Addr → Option Int64) (h0 : Heap) (n0 : Nat) (v : Option Value) (h : Heap) (L : List Loc) : Prop := ∃ r : Int64, v = some (.long r) ∧ Fr n0 L ∧ h = h0 ∧ IsMin ls tk r
set_option maxRecDepth 65536 in
set_option maxHeartbeats 40000000 in
theorem rmFirstR (l : Launch) (Z : State) (az : Array Value) (hw : ∀ d ∈ tables_1, d.before az Z = true) (ws : List Jvm.Cond) (a0 : Addr) (ar : Addr) (kA : ClassId) (hs : List Addr) (τ : Addr → Int64) (N P : Addr → Value) (ls : List Addr) (tk : Addr → Option Int64) (h0 : Heap) (n0 : Nat) (Z0 : n0 ≤ h0.size) (hR : Rep Z h0 n0 a0 ar kA hs τ N P ls) (hI : Inv hs τ N P ls tk) (hn : hs.length ≤ 4) :
    MetFree l y6 (head1 (Jvm.Cond.code y6 prog_4_method_3_code 1 (some .long) :: ws) ({ frames := 0, cells := 0, slots := 0, locals := 0 } : Room)) (fun a U => a = #[(.ref a0)] ∧ Z.Warmed39 U.vm ∧ U.heap = h0) (fun _ _ _ _ _ => True) (fun _ U o U' => ∃ v L, o = .returned v ∧ QFirstR ls tk h0 n0 v U'.heap L ∧ FrameEnd U o U' L ({ frames := 0, cells := 0, slots := 0, locals := 0 } : Room).cells ({ frames := 0, cells := 0, slots := 0, locals := 0 } : Room).slots) := by
  have hR' := hR
  obtain ⟨rE, rH, rC, rV, rO, gD, gA, rh, rl⟩ := hR'
  rcases hs with _ | ⟨x, r⟩
  · refine own_weak (rmFirst0 l Z az hw ws a0 h0 n0 Z0 rC) (fun _ _ _ _ _ hq => ?_)
    obtain ⟨v, L, ho, ⟨hv, hN, hh⟩, hF⟩ := hq
    exact ⟨v, L, ho, ⟨_, hv, hN, hh, Or.inl ⟨hI.first.1 rfl, rfl⟩⟩, hF⟩
  · have hc : ¬ (Int32.ofNat (x :: r).length = (0 : Int32)) := own_len4 (by simp) hn
    have el : Elt Z h0 ar (.object cH) (0 : Int32) (.ref x) := Elt.of rV ⟨by decide, by decide⟩ rfl
    refine own_weak (rmFirstY l Z az hw ws a0 (Int32.ofNat (x :: r).length) ar kA x [] (τ x) h0 n0 Z0 rC rH el (rh x (by simp)).2.2.1 hc) (fun _ _ _ _ _ hq => ?_)
    obtain ⟨v, L, ho, ⟨hv, hN, hh⟩, hF⟩ := hq
    exact ⟨v, L, ho, ⟨_, hv, hN, hh, Or.inr (hI.first.2 x r rfl)⟩, hF⟩
theorem d10_0 : decode jdk_29_method_70_code 0 = .ok (.lload_n 0, 1) := by decide +kernel
theorem d10_1 : decode jdk_29_method_70_code 1 = .ok (.lload_n 2, 1) := by decide +kernel
theorem d10_2 : decode jdk_29_method_70_code 2 = .ok (.lcmp, 1) := by decide +kernel
theorem d10_3 : decode jdk_29_method_70_code 3 = .ok (.ifCond .gt 7, 3) := by decide +kernel
theorem d10_10 : decode jdk_29_method_70_code 10 = .ok (.lload_n 2, 1) := by decide +kernel
theorem d10_11 : decode jdk_29_method_70_code 11 = .ok (.lreturn, 1) := by decide +kernel
theorem d10_6 : decode jdk_29_method_70_code 6 = .ok (.lload_n 0, 1) := by decide +kernel
theorem d10_7 : decode jdk_29_method_70_code 7 = .ok (.goto 4, 3) := by decide +kernel
def fMin (q0 : Int64) (q1 : Int64) : Int64 := (if q1 < q0 then q1 else q0)
def QMin (Z : State) (q0 : Int64) (q1 : Int64) (h0 : Heap) (n0 : Nat) (v : Option Value) (h : Heap) (L : List Loc) : Prop := v = some (.long (fMin q0 q1)) ∧ Fr n0 L ∧ h = h0
theorem efMin (m : MethodId) (x0 : Int64) (x1 : Int64) : entryFrame m #[(.long x0), (.long x1)] 4 = mkF m 0 #[.val (.long x0), .second, .val (.long x1), .second] [] := by first | (simp [entryFrame, mkF, argsToLocals, Value.category]; done) | rfl
set_option maxRecDepth 65536 in
set_option maxHeartbeats 40000000 in
theorem rmMin (l : Launch) (Z : State) (az : Array Value) (hw : ∀ d ∈ tables_1, d.before az Z = true) (ws : List Jvm.Cond) (q0 : Int64) (q1 : Int64) (h0 : Heap) (n0 : Nat) (Z0 : n0 ≤ h0.size) :
    MetFree l (⟨"java/lang/Math", "min", "(JJ)J"⟩ : MethodName) (head1 (Jvm.Cond.code (⟨"java/lang/Math", "min", "(JJ)J"⟩ : MethodName) jdk_29_method_70_code 4 (some .long) :: ws) ({ frames := 0, cells := 0, slots := 0, locals := 0 } : Room)) (fun a U => a = #[(.long q0), (.long q1)] ∧ Z.Warmed39 U.vm ∧ U.heap = h0) (fun _ _ _ _ _ => True) (fun _ U o U' => ∃ v L, o = .returned v ∧ QMin Z q0 q1 h0 n0 v U'.heap L ∧ FrameEnd U o U' L ({ frames := 0, cells := 0, slots := 0, locals := 0 } : Room).cells ({ frames := 0, cells := 0, slots := 0, locals := 0 } : Room).slots) := by
  refine MetFree.of_bodySF (Jvm.Free.JP.mathPlain rfl (by decide +kernel)) hisR ?_
  intro p e s m args below meth c s₁ Bd hml0 hP hK
  obtain ⟨rfl, hZ, hh⟩ := hP
  have hx := Bd.exec
  have hby := Bd.bytes
  have hml : c.maxLocals = 4 := hml0
  have hown : s.vm.findClass "java/lang/Math" = some m.cls := findClass_of_methodNamed Bd.named
  have hnm := (name_of_methodNamed Bd.named Bd.method).1
  have X0 : Stand p l e ({ frames := 0, cells := 0, slots := 0, locals := 0 } : Room) s m #[(.long q0), (.long q1)] below meth c s₁ [] 0 0 := Stand.of_body Bd
  have e0 : s₁.heap = h0 := by rw [← hh, Bd.state]; rfl
  have N0 := Fr.nil n0
  have Kp0 : Keep h0 h0 [] := Keep.refl _ _
  refine Goes.start ?_
  refine Gb (B := s₁.setTop (mkF m 0 #[.val (.long q0), .second, .val (.long q1), .second] [])) (fun t k => castTop (efMin m q0 q1) k) ?_
  refine Gb (B := s₁.setTop (mkF m 3 (sh13 q0 q1) [(.int (lcmpW q0 q1))])) (fun t k => ?_) ?_
  · refine XS.lloadN X0.here hx rfl (hb hby d10_0) rfl ?_
    refine XS.lloadN X0.here hx rfl (hb hby d10_1) rfl ?_
    refine XS.lcmp X0.here hx rfl (hb hby d10_2) rfl ?_
    exact k
  by_cases hc1 : q1 < q0
  · refine Gb (fun _ => XS.ifYes X0.here hx rfl (pc0 := 3) (pc' := 10) rfl (hb hby d10_3) rfl ((if0 _ _).trans (tlt ((lw_gt q0 q1).mpr hc1)).2.2.1) (by decide) (by decide)) ?_
    refine Gb (fun _ => XS.lloadN X0.here hx rfl (hb hby d10_10) rfl) ?_
    obtain ⟨fs, hr, hrun, hended, hW, hsame⟩ := X0.leave (v := some (.long q1)) (fun h => by rw [Bd.returns] at h; cases h)
    refine Goes.mk _ _ ?_ ⟨hrun, hended, _, _, rfl, ?_, ⟨_, rfl⟩, hW, hsame.mono (by decide) (by decide)⟩
    · exact retOut X0 hx Bd.returns rfl (Or.inr (Or.inl ⟨rfl, rfl, _, rfl⟩)) (hb hby d10_11) hr
    · show QMin Z q0 q1 h0 n0 _ s₁.heap _
      rw [e0]
      exact ⟨(by simp only [fMin, if_pos hc1]), N0, rfl⟩
  · refine Gb (fun _ => XS.ifNo X0.here hx rfl (hb hby d10_3) rfl ((if0 _ _).trans (flt (fun z => hc1 ((lw_gt q0 q1).mp z))).2.2.1)) ?_
    refine Gb (fun _ => XS.lloadN X0.here hx rfl (hb hby d10_6) rfl) ?_
    refine Gb (fun _ => XS.goto X0.here hx rfl (pc0 := 7) (pc' := 11) rfl (hb hby d10_7) (by decide) (by decide)) ?_
    obtain ⟨fs, hr, hrun, hended, hW, hsame⟩ := X0.leave (v := some (.long q0)) (fun h => by rw [Bd.returns] at h; cases h)
    refine Goes.mk _ _ ?_ ⟨hrun, hended, _, _, rfl, ?_, ⟨_, rfl⟩, hW, hsame.mono (by decide) (by decide)⟩
    · exact retOut X0 hx Bd.returns rfl (Or.inr (Or.inl ⟨rfl, rfl, _, rfl⟩)) (hb hby d10_11) hr
    · show QMin Z q0 q1 h0 n0 _ s₁.heap _
      rw [e0]
      exact ⟨(by simp only [fMin, if_neg hc1]), N0, rfl⟩
def mo (i n s : Int32) (m t : Int64) : Int64 := if i < n then (if s = i then m else fMin m t) else m
def fMO (q0 q1 q2 q3 : Int64) (n s : Int32) : Int64 := mo 3 n s (mo 2 n s (mo 1 n s (mo 0 n s (9223372036854775807 : Int64) q0) q1) q2) q3
theorem d9_85 : decode method_2_code 85 = .ok (.lload 10, 2) := by decide +kernel
theorem d9_87 : decode method_2_code 87 = .ok (.lreturn, 1) := by decide +kernel
theorem d9_64 : decode method_2_code 64 = .ok (.iload 8, 2) := by decide +kernel
theorem d9_66 : decode method_2_code 66 = .ok (.iconst 3, 1) := by decide +kernel
theorem d9_67 : decode method_2_code 67 = .ok (.if_icmp .le 18, 3) := by decide +kernel
theorem d9_70 : decode method_2_code 70 = .ok (.iload 9, 2) := by decide +kernel
theorem d9_72 : decode method_2_code 72 = .ok (.iconst 3, 1) := by decide +kernel
theorem d9_73 : decode method_2_code 73 = .ok (.if_icmp .eq 12, 3) := by decide +kernel
theorem d9_76 : decode method_2_code 76 = .ok (.lload 10, 2) := by decide +kernel
theorem d9_78 : decode method_2_code 78 = .ok (.lload 6, 2) := by decide +kernel
theorem d9_80 : decode method_2_code 80 = .ok (.invokestatic 11, 3) := by decide +kernel
theorem own_pd5 : parseMethodDescriptor "(JJ)J" = some ⟨[.long, .long], some .long⟩ := by decide +kernel
theorem d9_83 : decode method_2_code 83 = .ok (.lstore 10, 2) := by decide +kernel
theorem d9_43 : decode method_2_code 43 = .ok (.iload 8, 2) := by decide +kernel
theorem d9_45 : decode method_2_code 45 = .ok (.iconst 2, 1) := by decide +kernel
theorem d9_46 : decode method_2_code 46 = .ok (.if_icmp .le 18, 3) := by decide +kernel
theorem d9_49 : decode method_2_code 49 = .ok (.iload 9, 2) := by decide +kernel
theorem d9_51 : decode method_2_code 51 = .ok (.iconst 2, 1) := by decide +kernel
theorem d9_52 : decode method_2_code 52 = .ok (.if_icmp .eq 12, 3) := by decide +kernel
theorem d9_55 : decode method_2_code 55 = .ok (.lload 10, 2) := by decide +kernel
theorem d9_57 : decode method_2_code 57 = .ok (.lload 4, 2) := by decide +kernel
theorem d9_59 : decode method_2_code 59 = .ok (.invokestatic 11, 3) := by decide +kernel
theorem d9_62 : decode method_2_code 62 = .ok (.lstore 10, 2) := by decide +kernel
theorem d9_23 : decode method_2_code 23 = .ok (.iload 8, 2) := by decide +kernel
theorem d9_25 : decode method_2_code 25 = .ok (.iconst 1, 1) := by decide +kernel
theorem d9_26 : decode method_2_code 26 = .ok (.if_icmp .le 17, 3) := by decide +kernel
theorem d9_29 : decode method_2_code 29 = .ok (.iload 9, 2) := by decide +kernel
theorem d9_31 : decode method_2_code 31 = .ok (.iconst 1, 1) := by decide +kernel
theorem d9_32 : decode method_2_code 32 = .ok (.if_icmp .eq 11, 3) := by decide +kernel
theorem d9_35 : decode method_2_code 35 = .ok (.lload 10, 2) := by decide +kernel
theorem d9_37 : decode method_2_code 37 = .ok (.lload_n 2, 1) := by decide +kernel
theorem d9_38 : decode method_2_code 38 = .ok (.invokestatic 11, 3) := by decide +kernel
theorem d9_41 : decode method_2_code 41 = .ok (.lstore 10, 2) := by decide +kernel
theorem d9_0 : decode method_2_code 0 = .ok (.ldc2_w 9, 3) := by decide +kernel
theorem d9_3 : decode method_2_code 3 = .ok (.lstore 10, 2) := by decide +kernel
theorem d9_5 : decode method_2_code 5 = .ok (.iload 8, 2) := by decide +kernel
theorem d9_7 : decode method_2_code 7 = .ok (.ifCond .le 16, 3) := by decide +kernel
theorem d9_10 : decode method_2_code 10 = .ok (.iload 9, 2) := by decide +kernel
theorem d9_12 : decode method_2_code 12 = .ok (.ifCond .eq 11, 3) := by decide +kernel
theorem d9_15 : decode method_2_code 15 = .ok (.lload 10, 2) := by decide +kernel
theorem d9_17 : decode method_2_code 17 = .ok (.lload_n 0, 1) := by decide +kernel
theorem d9_18 : decode method_2_code 18 = .ok (.invokestatic 11, 3) := by decide +kernel
theorem d9_21 : decode method_2_code 21 = .ok (.lstore 10, 2) := by decide +kernel
def QMinOf (Z : State) (q0 : Int64) (q1 : Int64) (q2 : Int64) (q3 : Int64) (p4 : Int32) (p5 : Int32) (h0 : Heap) (n0 : Nat) (v : Option Value) (h : Heap) (L : List Loc) : Prop := v = some (.long (fMO q0 q1 q2 q3 p4 p5)) ∧ Fr n0 L ∧ h = h0
theorem own_pn_com_example_admit_one_admitone_engine_DueOrderFirstTickPinLaw : plainName "com/example/admit_one/admitone/engine/DueOrderFirstTickPinLaw" = true := by first | (simp [plainName, overriddenIn]; done) | decide +kernel
theorem efMinOf (m : MethodId) (x0 : Int64) (x1 : Int64) (x2 : Int64) (x3 : Int64) (x4 : Int32) (x5 : Int32) : entryFrame m #[(.long x0), (.long x1), (.long x2), (.long x3), (.int x4), (.int x5)] 12 = mkF m 0 #[.val (.long x0), .second, .val (.long x1), .second, .val (.long x2), .second, .val (.long x3), .second, .val (.int x4), .val (.int x5), .unset, .unset] [] := by first | (simp [entryFrame, mkF, argsToLocals, Value.category]; done) | rfl
set_option maxRecDepth 65536 in
set_option maxHeartbeats 40000000 in
theorem rmMinOf (l : Launch) (Z : State) (az : Array Value) (hw : ∀ d ∈ tables_1, d.before az Z = true) (ws : List Jvm.Cond) (q0 : Int64) (q1 : Int64) (q2 : Int64) (q3 : Int64) (p4 : Int32) (p5 : Int32) (h0 : Heap) (n0 : Nat) (Z0 : n0 ≤ h0.size) :
    MetFree l y7 (head1 (Jvm.Cond.code y7 method_2_code 12 (some .long) :: ws) ({ frames := 1, cells := 0, slots := 0, locals := 15 } : Room)) (fun a U => a = #[(.long q0), (.long q1), (.long q2), (.long q3), (.int p4), (.int p5)] ∧ Z.Warmed39 U.vm ∧ U.heap = h0) (fun _ _ _ _ _ => True) (fun _ U o U' => ∃ v L, o = .returned v ∧ QMinOf Z q0 q1 q2 q3 p4 p5 h0 n0 v U'.heap L ∧ FrameEnd U o U' L ({ frames := 1, cells := 0, slots := 0, locals := 15 } : Room).cells ({ frames := 1, cells := 0, slots := 0, locals := 15 } : Room).slots) := by
  refine MetFree.of_bodySF (plainFor_of_name own_pn_com_example_admit_one_admitone_engine_DueOrderFirstTickPinLaw) hisR ?_
  intro p e s m args below meth c s₁ Bd hml0 hP hK
  obtain ⟨rfl, hZ, hh⟩ := hP
  have hx := Bd.exec
  have hby := Bd.bytes
  have hml : c.maxLocals = 12 := hml0
  have hown : s.vm.findClass "com/example/admit_one/admitone/engine/DueOrderFirstTickPinLaw" = some m.cls := findClass_of_methodNamed Bd.named
  have hnm := (name_of_methodNamed Bd.named Bd.method).1
  have X0 : Stand p l e ({ frames := 1, cells := 0, slots := 0, locals := 15 } : Room) s m #[(.long q0), (.long q1), (.long q2), (.long q3), (.int p4), (.int p5)] below meth c s₁ [] 0 0 := Stand.of_body Bd
  have e0 : s₁.heap = h0 := by rw [← hh, Bd.state]; rfl
  have N0 := Fr.nil n0
  have Kp0 : Keep h0 h0 [] := Keep.refl _ _
  refine Goes.start ?_
  refine Gb (B := s₁.setTop (mkF m 0 #[.val (.long q0), .second, .val (.long q1), .second, .val (.long q2), .second, .val (.long q3), .second, .val (.int p4), .val (.int p5), .unset, .unset] [])) (fun t k => castTop (efMinOf m q0 q1 q2 q3 p4 p5) k) ?_
  have tl85 : ∀ (T : State) (locs : List Loc) (mv : Int64), Stand p l e ({ frames := 1, cells := 0, slots := 0, locals := 15 } : Room) s m #[(.long q0), (.long q1), (.long q2), (.long q3), (.int p4), (.int p5)] below meth c T locs 0 0 → Fr n0 locs → T.heap = h0 → mv = (fMO q0 q1 q2 q3 p4 p5) → Goes p.tables e below (fun s₂ o => s₂.status = .running ∧ Ended s₂ below o ∧ ∃ v L, o = .returned v ∧ QMinOf Z q0 q1 q2 q3 p4 p5 h0 n0 v s₂.heap L ∧ FrameEnd s o s₂ L ({ frames := 1, cells := 0, slots := 0, locals := 15 } : Room).cells ({ frames := 1, cells := 0, slots := 0, locals := 15 } : Room).slots) (T.setTop (mkF m 85 (sh14 q0 q1 q2 q3 p4 p5 mv) [])) := by
    intro T locs mv XT NT ET hv
    refine Gb (fun _ => XS.lload XT.here hx rfl (hb hby d9_85) rfl) ?_
    obtain ⟨fs, hr, hrun, hended, hW, hsame⟩ := XT.leave (v := some (.long mv)) (fun h => by rw [Bd.returns] at h; cases h)
    refine Goes.mk _ _ ?_ ⟨hrun, hended, _, _, rfl, ?_, ⟨_, rfl⟩, hW, hsame.mono (by decide) (by decide)⟩
    · exact retOut XT hx Bd.returns rfl (Or.inr (Or.inl ⟨rfl, rfl, _, rfl⟩)) (hb hby d9_87) hr
    · show QMinOf Z q0 q1 q2 q3 p4 p5 h0 n0 _ T.heap _
      rw [ET]
      exact ⟨by rw [hv], NT, rfl⟩
  have tl64 : ∀ (T : State) (locs : List Loc) (mv : Int64), Stand p l e ({ frames := 1, cells := 0, slots := 0, locals := 15 } : Room) s m #[(.long q0), (.long q1), (.long q2), (.long q3), (.int p4), (.int p5)] below meth c T locs 0 0 → Fr n0 locs → T.heap = h0 → (mo 3 p4 p5 mv q3) = (fMO q0 q1 q2 q3 p4 p5) → Goes p.tables e below (fun s₂ o => s₂.status = .running ∧ Ended s₂ below o ∧ ∃ v L, o = .returned v ∧ QMinOf Z q0 q1 q2 q3 p4 p5 h0 n0 v s₂.heap L ∧ FrameEnd s o s₂ L ({ frames := 1, cells := 0, slots := 0, locals := 15 } : Room).cells ({ frames := 1, cells := 0, slots := 0, locals := 15 } : Room).slots) (T.setTop (mkF m 64 (sh14 q0 q1 q2 q3 p4 p5 mv) [])) := by
    intro T locs mv XT NT ET hv
    refine Gb (fun _ => XS.iload XT.here hx rfl (hb hby d9_64) rfl) ?_
    refine Gb (fun _ => XS.iconst XT.here hx rfl (hb hby d9_66)) ?_
    by_cases hc1 : (3 : Int32) < p4
    · refine Gb (B := T.setTop (mkF m 73 (sh14 q0 q1 q2 q3 p4 p5 mv) [(.int (3 : Int32)), (.int p5)])) (fun t k => ?_) ?_
      · refine XS.icmpNo XT.here hx rfl (hb hby d9_67) rfl (tlt hc1).2.2.2 ?_
        refine XS.iload XT.here hx rfl (hb hby d9_70) rfl ?_
        refine XS.iconst XT.here hx rfl (hb hby d9_72) ?_
        exact k
      by_cases hc2 : p5 = (3 : Int32)
      · refine Gb (fun _ => XS.icmpYes XT.here hx rfl (pc0 := 73) (pc' := 85) rfl (hb hby d9_73) rfl (teq hc2).1 (by decide) (by decide)) ?_
        exact tl85 _ _ _ XT NT ET (by rw [← hv]; simp only [mo, if_pos hc1, if_pos hc2])
      · refine Gb (fun _ => XS.icmpNo XT.here hx rfl (hb hby d9_73) rfl (feq hc2).1) ?_
        refine Gb (fun _ => XS.lload XT.here hx rfl (hb hby d9_76) rfl) ?_
        refine Gb (fun _ => XS.lload XT.here hx rfl (hb hby d9_78) rfl) ?_
        obtain ⟨_, T3, L3, Lc3, X3, hF3, hQ3, st3⟩ := own_cs XT hx hZ hown (wq hw 68 rfl) (wq hw 69 rfl) (wq hw 70 rfl) (wq hw 71 rfl) (rmMin l Z az hw [] mv q3 h0 n0 Z0 ) (W := 0) (g := (mkF m 80 (sh14 q0 q1 q2 q3 p4 p5 mv) [(.long q3), (.long mv)])) rfl (by rw [hml]; rfl) (argsL := [(.long mv), (.long q3)]) (rest := []) rfl (lenOf own_pd5 rfl) rfl (hb hby d9_80) ET NT (c' := 0) (s' := 0)
        obtain ⟨rfl, N3q, e3⟩ := hQ3
        have N4 := hF3 N3q
        refine Gb st3 ?_
        refine Gb (fun _ => XS.lstore X3.here hx rfl (hb hby d9_83) rfl (l' := (sh14 q0 q1 q2 q3 p4 p5 (fMin mv q3))) rfl) ?_
        exact tl85 _ _ _ X3 N4 e3 (by rw [← hv]; simp only [mo, if_pos hc1, if_neg hc2])
    · refine Gb (fun _ => XS.icmpYes XT.here hx rfl (pc0 := 67) (pc' := 85) rfl (hb hby d9_67) rfl (flt hc1).2.2.2 (by decide) (by decide)) ?_
      exact tl85 _ _ _ XT NT ET (by rw [← hv]; simp only [mo, if_neg hc1])
  have tl43 : ∀ (T : State) (locs : List Loc) (mv : Int64), Stand p l e ({ frames := 1, cells := 0, slots := 0, locals := 15 } : Room) s m #[(.long q0), (.long q1), (.long q2), (.long q3), (.int p4), (.int p5)] below meth c T locs 0 0 → Fr n0 locs → T.heap = h0 → (mo 3 p4 p5 (mo 2 p4 p5 mv q2) q3) = (fMO q0 q1 q2 q3 p4 p5) → Goes p.tables e below (fun s₂ o => s₂.status = .running ∧ Ended s₂ below o ∧ ∃ v L, o = .returned v ∧ QMinOf Z q0 q1 q2 q3 p4 p5 h0 n0 v s₂.heap L ∧ FrameEnd s o s₂ L ({ frames := 1, cells := 0, slots := 0, locals := 15 } : Room).cells ({ frames := 1, cells := 0, slots := 0, locals := 15 } : Room).slots) (T.setTop (mkF m 43 (sh14 q0 q1 q2 q3 p4 p5 mv) [])) := by
    intro T locs mv XT NT ET hv
    refine Gb (fun _ => XS.iload XT.here hx rfl (hb hby d9_43) rfl) ?_
    refine Gb (fun _ => XS.iconst XT.here hx rfl (hb hby d9_45)) ?_
    by_cases hc5 : (2 : Int32) < p4
    · refine Gb (B := T.setTop (mkF m 52 (sh14 q0 q1 q2 q3 p4 p5 mv) [(.int (2 : Int32)), (.int p5)])) (fun t k => ?_) ?_
      · refine XS.icmpNo XT.here hx rfl (hb hby d9_46) rfl (tlt hc5).2.2.2 ?_
        refine XS.iload XT.here hx rfl (hb hby d9_49) rfl ?_
        refine XS.iconst XT.here hx rfl (hb hby d9_51) ?_
        exact k
      by_cases hc6 : p5 = (2 : Int32)
      · refine Gb (fun _ => XS.icmpYes XT.here hx rfl (pc0 := 52) (pc' := 64) rfl (hb hby d9_52) rfl (teq hc6).1 (by decide) (by decide)) ?_
        exact tl64 _ _ _ XT NT ET (by rw [← hv]; simp only [mo, if_pos hc5, if_pos hc6])
      · refine Gb (fun _ => XS.icmpNo XT.here hx rfl (hb hby d9_52) rfl (feq hc6).1) ?_
        refine Gb (fun _ => XS.lload XT.here hx rfl (hb hby d9_55) rfl) ?_
        refine Gb (fun _ => XS.lload XT.here hx rfl (hb hby d9_57) rfl) ?_
        obtain ⟨_, T7, L7, Lc7, X7, hF7, hQ7, st7⟩ := own_cs XT hx hZ hown (wq hw 68 rfl) (wq hw 69 rfl) (wq hw 70 rfl) (wq hw 71 rfl) (rmMin l Z az hw [] mv q2 h0 n0 Z0 ) (W := 0) (g := (mkF m 59 (sh14 q0 q1 q2 q3 p4 p5 mv) [(.long q2), (.long mv)])) rfl (by rw [hml]; rfl) (argsL := [(.long mv), (.long q2)]) (rest := []) rfl (lenOf own_pd5 rfl) rfl (hb hby d9_59) ET NT (c' := 0) (s' := 0)
        obtain ⟨rfl, N7q, e7⟩ := hQ7
        have N8 := hF7 N7q
        refine Gb st7 ?_
        refine Gb (fun _ => XS.lstore X7.here hx rfl (hb hby d9_62) rfl (l' := (sh14 q0 q1 q2 q3 p4 p5 (fMin mv q2))) rfl) ?_
        exact tl64 _ _ _ X7 N8 e7 (by rw [← hv]; simp only [mo, if_pos hc5, if_neg hc6])
    · refine Gb (fun _ => XS.icmpYes XT.here hx rfl (pc0 := 46) (pc' := 64) rfl (hb hby d9_46) rfl (flt hc5).2.2.2 (by decide) (by decide)) ?_
      exact tl64 _ _ _ XT NT ET (by rw [← hv]; simp only [mo, if_neg hc5])
  have tl23 : ∀ (T : State) (locs : List Loc) (mv : Int64), Stand p l e ({ frames := 1, cells := 0, slots := 0, locals := 15 } : Room) s m #[(.long q0), (.long q1), (.long q2), (.long q3), (.int p4), (.int p5)] below meth c T locs 0 0 → Fr n0 locs → T.heap = h0 → (mo 3 p4 p5 (mo 2 p4 p5 (mo 1 p4 p5 mv q1) q2) q3) = (fMO q0 q1 q2 q3 p4 p5) → Goes p.tables e below (fun s₂ o => s₂.status = .running ∧ Ended s₂ below o ∧ ∃ v L, o = .returned v ∧ QMinOf Z q0 q1 q2 q3 p4 p5 h0 n0 v s₂.heap L ∧ FrameEnd s o s₂ L ({ frames := 1, cells := 0, slots := 0, locals := 15 } : Room).cells ({ frames := 1, cells := 0, slots := 0, locals := 15 } : Room).slots) (T.setTop (mkF m 23 (sh14 q0 q1 q2 q3 p4 p5 mv) [])) := by
    intro T locs mv XT NT ET hv
    refine Gb (fun _ => XS.iload XT.here hx rfl (hb hby d9_23) rfl) ?_
    refine Gb (fun _ => XS.iconst XT.here hx rfl (hb hby d9_25)) ?_
    by_cases hc9 : (1 : Int32) < p4
    · refine Gb (B := T.setTop (mkF m 32 (sh14 q0 q1 q2 q3 p4 p5 mv) [(.int (1 : Int32)), (.int p5)])) (fun t k => ?_) ?_
      · refine XS.icmpNo XT.here hx rfl (hb hby d9_26) rfl (tlt hc9).2.2.2 ?_
        refine XS.iload XT.here hx rfl (hb hby d9_29) rfl ?_
        refine XS.iconst XT.here hx rfl (hb hby d9_31) ?_
        exact k
      by_cases hc10 : p5 = (1 : Int32)
      · refine Gb (fun _ => XS.icmpYes XT.here hx rfl (pc0 := 32) (pc' := 43) rfl (hb hby d9_32) rfl (teq hc10).1 (by decide) (by decide)) ?_
        exact tl43 _ _ _ XT NT ET (by rw [← hv]; simp only [mo, if_pos hc9, if_pos hc10])
      · refine Gb (fun _ => XS.icmpNo XT.here hx rfl (hb hby d9_32) rfl (feq hc10).1) ?_
        refine Gb (fun _ => XS.lload XT.here hx rfl (hb hby d9_35) rfl) ?_
        refine Gb (fun _ => XS.lloadN XT.here hx rfl (hb hby d9_37) rfl) ?_
        obtain ⟨_, T11, L11, Lc11, X11, hF11, hQ11, st11⟩ := own_cs XT hx hZ hown (wq hw 68 rfl) (wq hw 69 rfl) (wq hw 70 rfl) (wq hw 71 rfl) (rmMin l Z az hw [] mv q1 h0 n0 Z0 ) (W := 0) (g := (mkF m 38 (sh14 q0 q1 q2 q3 p4 p5 mv) [(.long q1), (.long mv)])) rfl (by rw [hml]; rfl) (argsL := [(.long mv), (.long q1)]) (rest := []) rfl (lenOf own_pd5 rfl) rfl (hb hby d9_38) ET NT (c' := 0) (s' := 0)
        obtain ⟨rfl, N11q, e11⟩ := hQ11
        have N12 := hF11 N11q
        refine Gb st11 ?_
        refine Gb (fun _ => XS.lstore X11.here hx rfl (hb hby d9_41) rfl (l' := (sh14 q0 q1 q2 q3 p4 p5 (fMin mv q1))) rfl) ?_
        exact tl43 _ _ _ X11 N12 e11 (by rw [← hv]; simp only [mo, if_pos hc9, if_neg hc10])
    · refine Gb (fun _ => XS.icmpYes XT.here hx rfl (pc0 := 26) (pc' := 43) rfl (hb hby d9_26) rfl (flt hc9).2.2.2 (by decide) (by decide)) ?_
      exact tl43 _ _ _ XT NT ET (by rw [← hv]; simp only [mo, if_neg hc9])
  refine Gb (B := s₁.setTop (mkF m 7 (sh14 q0 q1 q2 q3 p4 p5 (9223372036854775807 : Int64)) [(.int p4)])) (fun t k => ?_) ?_
  · refine X0.ldc2Long hx hown (mvT hZ (wq hw 67 rfl)) (g := (mkF m 0 (sh15 q0 q1 q2 q3 p4 p5) [])) rfl (hb hby d9_0) _ ?_
    refine XS.lstore X0.here hx rfl (hb hby d9_3) rfl (l' := (sh14 q0 q1 q2 q3 p4 p5 (9223372036854775807 : Int64))) rfl ?_
    refine XS.iload X0.here hx rfl (hb hby d9_5) rfl ?_
    exact k
  by_cases hc13 : (0 : Int32) < p4
  · refine Gb (fun _ => XS.ifNo X0.here hx rfl (hb hby d9_7) rfl ((if0 _ _).trans (tlt hc13).2.2.2)) ?_
    refine Gb (fun _ => XS.iload X0.here hx rfl (hb hby d9_10) rfl) ?_
    by_cases hc14 : p5 = (0 : Int32)
    · refine Gb (fun _ => XS.ifYes X0.here hx rfl (pc0 := 12) (pc' := 23) rfl (hb hby d9_12) rfl ((if0 _ _).trans (teq hc14).1) (by decide) (by decide)) ?_
      exact tl23 _ _ _ X0 N0 e0 (by unfold fMO; simp only [mo, if_pos hc13, if_pos hc14])
    · refine Gb (fun _ => XS.ifNo X0.here hx rfl (hb hby d9_12) rfl ((if0 _ _).trans (feq hc14).1)) ?_
      refine Gb (fun _ => XS.lload X0.here hx rfl (hb hby d9_15) rfl) ?_
      refine Gb (fun _ => XS.lloadN X0.here hx rfl (hb hby d9_17) rfl) ?_
      obtain ⟨_, T15, L15, Lc15, X15, hF15, hQ15, st15⟩ := own_cs X0 hx hZ hown (wq hw 68 rfl) (wq hw 69 rfl) (wq hw 70 rfl) (wq hw 71 rfl) (rmMin l Z az hw [] (9223372036854775807 : Int64) q0 h0 n0 Z0 ) (W := 0) (g := (mkF m 18 (sh14 q0 q1 q2 q3 p4 p5 (9223372036854775807 : Int64)) [(.long q0), (.long (9223372036854775807 : Int64))])) rfl (by rw [hml]; rfl) (argsL := [(.long (9223372036854775807 : Int64)), (.long q0)]) (rest := []) rfl (lenOf own_pd5 rfl) rfl (hb hby d9_18) e0 N0 (c' := 0) (s' := 0)
      obtain ⟨rfl, N15q, e15⟩ := hQ15
      have N16 := hF15 N15q
      refine Gb st15 ?_
      refine Gb (fun _ => XS.lstore X15.here hx rfl (hb hby d9_21) rfl (l' := (sh14 q0 q1 q2 q3 p4 p5 (fMin (9223372036854775807 : Int64) q0))) rfl) ?_
      exact tl23 _ _ _ X15 N16 e15 (by unfold fMO; simp only [mo, if_pos hc13, if_neg hc14])
  · refine Gb (fun _ => XS.ifYes X0.here hx rfl (pc0 := 7) (pc' := 23) rfl (hb hby d9_7) rfl ((if0 _ _).trans (flt hc13).2.2.2) (by decide) (by decide)) ?_
    exact tl23 _ _ _ X0 N0 e0 (by unfold fMO; simp only [mo, if_neg hc13])
theorem own_min_le (a b : Int64) : (fMin a b = a ∨ fMin a b = b) ∧ ¬ a < fMin a b ∧ ¬ b < fMin a b := by
  unfold fMin
  split
  · rename_i h
    exact ⟨Or.inr rfl, Int64.lt_asymm h, Int64.lt_irrefl⟩
  · rename_i h
    exact ⟨Or.inl rfl, Int64.lt_irrefl, h⟩
theorem own_fold : ∀ (T : List Int64) (m : Int64), ((T.foldl fMin m = m ∨ T.foldl fMin m ∈ T) ∧ ¬ m < T.foldl fMin m ∧ ∀ t ∈ T, ¬ t < T.foldl fMin m)
  | [], m => ⟨Or.inl rfl, Int64.lt_irrefl, fun _ q => nomatch q⟩
  | t :: T, m => by
    obtain ⟨i1, i2, i3⟩ := own_fold T (fMin m t)
    obtain ⟨j1, j2, j3⟩ := own_min_le m t
    have tr : ∀ {x y z : Int64}, ¬ x < y → ¬ y < z → ¬ x < z := fun {x y z} h1 h2 => by
      simp only [Int64.lt_iff_toInt_lt] at *; omega
    refine ⟨?_, tr j2 i2, fun u hu => ?_⟩
    · rcases i1 with i1 | i1
      · rcases j1 with j1 | j1
        · exact Or.inl (i1.trans j1)
        · exact Or.inr (List.mem_cons.mpr (Or.inl (i1.trans j1)))
      · exact Or.inr (List.mem_cons_of_mem _ i1)
    · rcases List.mem_cons.mp hu with e | e
      · rw [e]; exact tr j3 i2
      · exact i3 u e
theorem own_first {ls : List Addr} {tk : Addr → Option Int64} {r : Int64} (h : IsMin ls tk r) (T : List Int64) (hT : ∀ t, (∃ l ∈ ls, tk l = some t) ↔ t ∈ T) : r = T.foldl fMin (9223372036854775807 : Int64) := by
  obtain ⟨f1, f2, f3⟩ := own_fold T (9223372036854775807 : Int64)
  have hmax : ∀ x : Int64, ¬ (9223372036854775807 : Int64) < x := fun x => by
    have := rng64 x
    have l : (9223372036854775807 : Int64).toInt = 9223372036854775807 := by decide
    rw [Int64.lt_iff_toInt_lt, l]; omega
  rcases h with ⟨h1, h2⟩ | ⟨h1, h2⟩
  · have e : T = [] := by
      rcases T with _ | ⟨t, T⟩
      · rfl
      · obtain ⟨l, hl, ht⟩ := (hT t).mpr (by simp)
        rw [h1 l hl] at ht; exact nomatch ht
    rw [e]; exact h2
  · have hr : r ∈ T := (hT r).mp h1
    have hle : ∀ t ∈ T, ¬ t < r := fun t ht => by
      obtain ⟨l, hl, e⟩ := (hT t).mpr ht
      exact h2 l hl t e
    have a1 := f3 r hr
    have a2 : ¬ T.foldl fMin (9223372036854775807 : Int64) < r := by
      rcases f1 with f1 | f1
      · rw [f1]; exact hmax r
      · exact hle _ f1
    simp only [Int64.lt_iff_toInt_lt] at a1 a2
    exact Int64.toInt_inj.mp (by omega)

theorem own_nn (x n : Int32) (h : ((x &&& (7 : Int32)) % (5 : Int32)) = n) : n = 0 ∨ n = 1 ∨ n = 2 ∨ n = 3 ∨ n = 4 := by
  have m := c_mask x (7 : Int32) 3 (by decide) (by decide)
  have e : ((2 ^ 3 : Nat) : Int) = 8 := rfl
  rw [e] at m
  have q := (c_irem (x &&& (7 : Int32)) (5 : Int32) 5 (by decide)).1 (by omega)
  rw [h] at q
  have c : n.toInt = 0 ∨ n.toInt = 1 ∨ n.toInt = 2 ∨ n.toInt = 3 ∨ n.toInt = 4 := by omega
  rcases c with c | c | c | c | c
  · exact Or.inl (Int32.toInt_inj.mp c)
  · exact Or.inr (Or.inl (Int32.toInt_inj.mp c))
  · exact Or.inr (Or.inr (Or.inl (Int32.toInt_inj.mp c)))
  · exact Or.inr (Or.inr (Or.inr (Or.inl (Int32.toInt_inj.mp c))))
  · exact Or.inr (Or.inr (Or.inr (Or.inr (Int32.toInt_inj.mp c))))
theorem own_r0 (x r : Int32) (h : (x &&& (7 : Int32)) = r) : ¬ (r < (0 : Int32)) := by
  have m := c_mask x (7 : Int32) 3 (by decide) (by decide)
  have e : ((2 ^ 3 : Nat) : Int) = 8 := rfl
  have l0 : (0 : Int32).toInt = 0 := by decide
  rw [e, h] at m
  rw [Int32.lt_iff_toInt_lt, l0]; omega
theorem own_rr1 (r : Int32) (h0 : ¬ (r < (0 : Int32))) (h1 : r < (1 : Int32)) : r = (0 : Int32) := by
  have l0 : (0 : Int32).toInt = 0 := by decide
  have l1 : (1 : Int32).toInt = 1 := by decide
  rw [Int32.lt_iff_toInt_lt] at h0 h1
  exact Int32.toInt_inj.mp (by omega)
theorem own_rr2 (r : Int32) (h0 : ¬ (r < (0 : Int32))) (h1 : r < (2 : Int32)) : r = (0 : Int32) ∨ r = (1 : Int32) := by
  have l0 : (0 : Int32).toInt = 0 := by decide
  have l1 : (2 : Int32).toInt = 2 := by decide
  rw [Int32.lt_iff_toInt_lt] at h0 h1
  have c : r.toInt = 0 ∨ r.toInt = 1 := by omega
  rcases c with c | c
  · exact Or.inl (Int32.toInt_inj.mp c)
  · exact Or.inr (Int32.toInt_inj.mp c)
theorem own_rr3 (r : Int32) (h0 : ¬ (r < (0 : Int32))) (h1 : r < (3 : Int32)) : r = (0 : Int32) ∨ r = (1 : Int32) ∨ r = (2 : Int32) := by
  have l0 : (0 : Int32).toInt = 0 := by decide
  have l1 : (3 : Int32).toInt = 3 := by decide
  rw [Int32.lt_iff_toInt_lt] at h0 h1
  have c : r.toInt = 0 ∨ r.toInt = 1 ∨ r.toInt = 2 := by omega
  rcases c with c | c | c
  · exact Or.inl (Int32.toInt_inj.mp c)
  · exact Or.inr (Or.inl (Int32.toInt_inj.mp c))
  · exact Or.inr (Or.inr (Int32.toInt_inj.mp c))
theorem own_rr4 (r : Int32) (h0 : ¬ (r < (0 : Int32))) (h1 : r < (4 : Int32)) : r = (0 : Int32) ∨ r = (1 : Int32) ∨ r = (2 : Int32) ∨ r = (3 : Int32) := by
  have l0 : (0 : Int32).toInt = 0 := by decide
  have l1 : (4 : Int32).toInt = 4 := by decide
  rw [Int32.lt_iff_toInt_lt] at h0 h1
  have c : r.toInt = 0 ∨ r.toInt = 1 ∨ r.toInt = 2 ∨ r.toInt = 3 := by omega
  rcases c with c | c | c | c
  · exact Or.inl (Int32.toInt_inj.mp c)
  · exact Or.inr (Or.inl (Int32.toInt_inj.mp c))
  · exact Or.inr (Or.inr (Or.inl (Int32.toInt_inj.mp c)))
  · exact Or.inr (Or.inr (Or.inr (Int32.toInt_inj.mp c)))

theorem own_q1 {i n s : Int32} {m t : Int64} (h : i < n) (h2 : ¬ s = i) : mo i n s m t = fMin m t := by rw [mo, if_pos h, if_neg h2]
theorem own_q2 {i n s : Int32} {m t : Int64} (h2 : s = i) : mo i n s m t = m := by rw [mo, if_pos h2, ite_self]
theorem own_q3 {i n s : Int32} {m t : Int64} (h : ¬ i < n) : mo i n s m t = m := by rw [mo, if_neg h]
theorem own_mo0_0 (q0 q1 q2 q3 : Int64) : [].foldl fMin (9223372036854775807 : Int64) = fMO q0 q1 q2 q3 (0 : Int32) (-1 : Int32) := by rw [fMO, own_q3 (by decide), own_q3 (by decide), own_q3 (by decide), own_q3 (by decide)]; rfl
theorem own_mo1_0 (q0 q1 q2 q3 : Int64) : [q0].foldl fMin (9223372036854775807 : Int64) = fMO q0 q1 q2 q3 (1 : Int32) (-1 : Int32) := by rw [fMO, own_q3 (by decide), own_q3 (by decide), own_q3 (by decide), own_q1 (by decide) (by decide)]; rfl
theorem own_mo1_1 (q0 q1 q2 q3 : Int64) : [].foldl fMin (9223372036854775807 : Int64) = fMO q0 q1 q2 q3 (1 : Int32) (0 : Int32) := by rw [fMO, own_q3 (by decide), own_q3 (by decide), own_q3 (by decide), own_q2 (by decide)]; rfl
theorem own_mo2_0 (q0 q1 q2 q3 : Int64) : [q0, q1].foldl fMin (9223372036854775807 : Int64) = fMO q0 q1 q2 q3 (2 : Int32) (-1 : Int32) := by rw [fMO, own_q3 (by decide), own_q3 (by decide), own_q1 (by decide) (by decide), own_q1 (by decide) (by decide)]; rfl
theorem own_mo2_1 (q0 q1 q2 q3 : Int64) : [q1].foldl fMin (9223372036854775807 : Int64) = fMO q0 q1 q2 q3 (2 : Int32) (0 : Int32) := by rw [fMO, own_q3 (by decide), own_q3 (by decide), own_q1 (by decide) (by decide), own_q2 (by decide)]; rfl
theorem own_mo2_2 (q0 q1 q2 q3 : Int64) : [q0].foldl fMin (9223372036854775807 : Int64) = fMO q0 q1 q2 q3 (2 : Int32) (1 : Int32) := by rw [fMO, own_q3 (by decide), own_q3 (by decide), own_q2 (by decide), own_q1 (by decide) (by decide)]; rfl
theorem own_mo3_0 (q0 q1 q2 q3 : Int64) : [q0, q1, q2].foldl fMin (9223372036854775807 : Int64) = fMO q0 q1 q2 q3 (3 : Int32) (-1 : Int32) := by rw [fMO, own_q3 (by decide), own_q1 (by decide) (by decide), own_q1 (by decide) (by decide), own_q1 (by decide) (by decide)]; rfl
theorem own_mo3_1 (q0 q1 q2 q3 : Int64) : [q1, q2].foldl fMin (9223372036854775807 : Int64) = fMO q0 q1 q2 q3 (3 : Int32) (0 : Int32) := by rw [fMO, own_q3 (by decide), own_q1 (by decide) (by decide), own_q1 (by decide) (by decide), own_q2 (by decide)]; rfl
theorem own_mo3_2 (q0 q1 q2 q3 : Int64) : [q0, q2].foldl fMin (9223372036854775807 : Int64) = fMO q0 q1 q2 q3 (3 : Int32) (1 : Int32) := by rw [fMO, own_q3 (by decide), own_q1 (by decide) (by decide), own_q2 (by decide), own_q1 (by decide) (by decide)]; rfl
theorem own_mo3_3 (q0 q1 q2 q3 : Int64) : [q0, q1].foldl fMin (9223372036854775807 : Int64) = fMO q0 q1 q2 q3 (3 : Int32) (2 : Int32) := by rw [fMO, own_q3 (by decide), own_q2 (by decide), own_q1 (by decide) (by decide), own_q1 (by decide) (by decide)]; rfl
theorem own_mo4_0 (q0 q1 q2 q3 : Int64) : [q0, q1, q2, q3].foldl fMin (9223372036854775807 : Int64) = fMO q0 q1 q2 q3 (4 : Int32) (-1 : Int32) := by rw [fMO, own_q1 (by decide) (by decide), own_q1 (by decide) (by decide), own_q1 (by decide) (by decide), own_q1 (by decide) (by decide)]; rfl
theorem own_mo4_1 (q0 q1 q2 q3 : Int64) : [q1, q2, q3].foldl fMin (9223372036854775807 : Int64) = fMO q0 q1 q2 q3 (4 : Int32) (0 : Int32) := by rw [fMO, own_q1 (by decide) (by decide), own_q1 (by decide) (by decide), own_q1 (by decide) (by decide), own_q2 (by decide)]; rfl
theorem own_mo4_2 (q0 q1 q2 q3 : Int64) : [q0, q2, q3].foldl fMin (9223372036854775807 : Int64) = fMO q0 q1 q2 q3 (4 : Int32) (1 : Int32) := by rw [fMO, own_q1 (by decide) (by decide), own_q1 (by decide) (by decide), own_q2 (by decide), own_q1 (by decide) (by decide)]; rfl
theorem own_mo4_3 (q0 q1 q2 q3 : Int64) : [q0, q1, q3].foldl fMin (9223372036854775807 : Int64) = fMO q0 q1 q2 q3 (4 : Int32) (2 : Int32) := by rw [fMO, own_q1 (by decide) (by decide), own_q2 (by decide), own_q1 (by decide) (by decide), own_q1 (by decide) (by decide)]; rfl
theorem own_mo4_4 (q0 q1 q2 q3 : Int64) : [q0, q1, q2].foldl fMin (9223372036854775807 : Int64) = fMO q0 q1 q2 q3 (4 : Int32) (3 : Int32) := by rw [fMO, own_q2 (by decide), own_q1 (by decide) (by decide), own_q1 (by decide) (by decide), own_q1 (by decide) (by decide)]; rfl
theorem own_more {p : Program} {l : Launch} {e : Env} {R : Room} {s : State} {m : MethodId} {args : Array Value} {below : List Frame} {meth : Method} {c : Code} {T : State} {locs : List Loc} {k1 k2 k3 k4 : Nat} (X : Stand p l e R s m args below meth c T locs k1 k2) (h1 : k1 ≤ k3) (h2 : k2 ≤ k4) : Stand p l e R s m args below meth c T locs k3 k4 :=
  ⟨X.admits, X.cas, X.clock, X.frames, X.room, X.hears, X.method, X.code, X.here, X.tail, X.warmed, X.limits, X.bytes, X.same.mono h1 h2⟩
theorem own_pd6 : parseMethodDescriptor "()J" = some ⟨[], some .long⟩ := by decide +kernel
theorem own_pd7 : parseMethodDescriptor "(JJJJII)J" = some ⟨[.long, .long, .long, .long, .int, .int], some .long⟩ := by decide +kernel
theorem own_pd8 : parseMethodDescriptor "(Lcom/example/admit_one/admitone/engine/DueOrder$Link;J)V" = some ⟨[(.object cL), .long], none⟩ := by decide +kernel
theorem own_pd9 : parseMethodDescriptor "(Lcom/example/admit_one/admitone/engine/DueOrder$Link;)V" = some ⟨[(.object cL)], none⟩ := by decide +kernel
def Q0 (Z : State) (q0 : Int64) (q1 : Int64) (q2 : Int64) (q3 : Int64) (p4 : Int32) (h0 : Heap) (n0 : Nat) (v : Option Value) (h : Heap) (L : List Loc) : Prop := v = some (.int 1) ∧ Fr n0 L
theorem ef0 (m : MethodId) (x0 : Int64) (x1 : Int64) (x2 : Int64) (x3 : Int64) (x4 : Int32) : entryFrame m #[(.long x0), (.long x1), (.long x2), (.long x3), (.int x4)] maxLocals = mkF m 0 #[.val (.long x0), .second, .val (.long x1), .second, .val (.long x2), .second, .val (.long x3), .second, .val (.int x4), .unset, .unset, .unset, .unset, .unset, .unset, .unset, .unset, .unset, .unset] [] := by first | (simp [entryFrame, mkF, argsToLocals, Value.category, maxLocals]; done) | rfl
set_option maxRecDepth 65536 in
set_option maxHeartbeats 40000000 in
theorem rm0 (l : Launch) (Z : State) (az : Array Value) (hw : ∀ d ∈ tables_1, d.before az Z = true) (ws : List Jvm.Cond) (q0 : Int64) (q1 : Int64) (q2 : Int64) (q3 : Int64) (p4 : Int32) (h0 : Heap) (n0 : Nat) (Z0 : n0 ≤ h0.size) :
    MetFree l x (head1 (Jvm.Cond.code x code maxLocals ret :: ws) room_1) (fun a U => a = #[(.long q0), (.long q1), (.long q2), (.long q3), (.int p4)] ∧ Z.Warmed39 U.vm ∧ U.heap = h0) (fun _ _ _ _ _ => True) (fun _ U o U' => ∃ v L, o = .returned v ∧ Q0 Z q0 q1 q2 q3 p4 h0 n0 v U'.heap L ∧ FrameEnd U o U' L 10 26) := by
  refine MetFree.of_bodySF (plainFor_of_name own_pn_com_example_admit_one_admitone_engine_DueOrderFirstTickPinLaw) hisR ?_
  intro p e s m args below meth c s₁ Bd hml0 hP hK
  obtain ⟨rfl, hZ, hh⟩ := hP
  have hx := Bd.exec
  have hby := Bd.bytes
  have hml : c.maxLocals = 19 := hml0
  have hown : s.vm.findClass "com/example/admit_one/admitone/engine/DueOrderFirstTickPinLaw" = some m.cls := findClass_of_methodNamed Bd.named
  have hnm := (name_of_methodNamed Bd.named Bd.method).1
  have X0 : Stand p l e room_1 s m #[(.long q0), (.long q1), (.long q2), (.long q3), (.int p4)] below meth c s₁ [] 0 0 := Stand.of_body Bd
  have e0 : s₁.heap = h0 := by rw [← hh, Bd.state]; rfl
  have N0 := Fr.nil n0
  have Kp0 : Keep h0 h0 [] := Keep.refl _ _
  refine Goes.start ?_
  refine Gb (B := s₁.setTop (mkF m 0 #[.val (.long q0), .second, .val (.long q1), .second, .val (.long q2), .second, .val (.long q3), .second, .val (.int p4), .unset, .unset, .unset, .unset, .unset, .unset, .unset, .unset, .unset, .unset] [])) (fun t k => castTop (ef0 m q0 q1 q2 q3 p4) k) ?_
  refine Gb (B := s₁.setTop (mkF m 9 (sh17 q0 q1 q2 q3 p4 ((p4 &&& (7 : Int32)) % (5 : Int32))) [])) (fun t k => ?_) ?_
  · refine XS.iload X0.here hx rfl (hb hby at_0) rfl ?_
    refine XS.bipush X0.here hx rfl (hb hby at_2) ?_
    refine XS.iand X0.here hx rfl (hb hby at_4) rfl ?_
    refine XS.iconst X0.here hx rfl (hb hby at_5) ?_
    refine iremM X0 hx rfl (hb hby at_6) rfl (by decide) ?_
    refine XS.istore X0.here hx rfl (hb hby at_7) rfl (l' := (sh17 q0 q1 q2 q3 p4 ((p4 &&& (7 : Int32)) % (5 : Int32)))) rfl ?_
    exact k
  generalize hg_nn : ((p4 &&& (7 : Int32)) % (5 : Int32)) = nn
  refine Gb (B := s₁.setTop (mkF m 18 (sh18 q0 q1 q2 q3 p4 nn (((p4.toUInt32 >>> ((3 : Int32) &&& 31).toUInt32).toInt32) &&& (7 : Int32))) [])) (fun t k => ?_) ?_
  · refine XS.iload X0.here hx rfl (hb hby at_9) rfl ?_
    refine XS.iconst X0.here hx rfl (hb hby at_11) ?_
    refine XS.iushr X0.here hx rfl (hb hby at_12) rfl ?_
    refine XS.bipush X0.here hx rfl (hb hby at_13) ?_
    refine XS.iand X0.here hx rfl (hb hby at_15) rfl ?_
    refine XS.istore X0.here hx rfl (hb hby at_16) rfl (l' := (sh18 q0 q1 q2 q3 p4 nn (((p4.toUInt32 >>> ((3 : Int32) &&& 31).toUInt32).toInt32) &&& (7 : Int32)))) rfl ?_
    exact k
  generalize hg_rr : (((p4.toUInt32 >>> ((3 : Int32) &&& 31).toUInt32).toInt32) &&& (7 : Int32)) = rr
  have tl63 : ∀ (T : State) (locs : List Loc) (oD la lb lc ld ar : Addr) (kA : ClassId) (tk : Addr → Option Int64), Stand p l e room_1 s m #[(.long q0), (.long q1), (.long q2), (.long q3), (.int p4)] below meth c T locs 6 14 → Fr n0 locs → n0 ≤ T.heap.size → Rep Z T.heap n0 oD ar kA [] (fun _ => 0) (fun _ => .null) (fun _ => .null) [la, lb, lc, ld] → Inv [] (fun _ => 0) (fun _ => .null) (fun _ => .null) [la, lb, lc, ld] tk → tk la = none → tk lb = none → tk lc = none → tk ld = none → la ≠ lb → la ≠ lc → la ≠ ld → lb ≠ lc → lb ≠ ld → lc ≠ ld → ([] : List Addr).length ≤ 0 → Goes p.tables e below (fun s₂ o => s₂.status = .running ∧ Ended s₂ below o ∧ ∃ v L, o = .returned v ∧ Q0 Z q0 q1 q2 q3 p4 h0 n0 v s₂.heap L ∧ FrameEnd s o s₂ L 10 26) (T.setTop (mkF m 63 (sh19 q0 q1 q2 q3 p4 nn rr oD la lb lc ld) [])) := by
    intro T locs oD la lb lc ld ar kA tk XT NT ZT RT IT vt0 vt1 vt2 vt3 nt01 nt02 nt03 nt12 nt13 nt23 LT
    have tl205 : ∀ (U : State) (locs : List Loc) (x9 x10 x17 : Int32) (u18 : Slot) (hs : List Addr) (τ : Addr → Int64) (N P : Addr → Value) (tu : Addr → Option Int64), Stand p l e room_1 s m #[(.long q0), (.long q1), (.long q2), (.long q3), (.int p4)] below meth c U locs 10 26 → Fr n0 locs → n0 ≤ U.heap.size → Rep Z U.heap n0 oD ar kA hs τ N P [la, lb, lc, ld] → Inv hs τ N P [la, lb, lc, ld] tu → hs.length ≤ 4 → (u18 = .unset ∨ ∃ a, u18 = .val (.ref a)) → (∀ r, IsMin [la, lb, lc, ld] tu r → r = fMO q0 q1 q2 q3 x9 x17) → Goes p.tables e below (fun s₂ o => s₂.status = .running ∧ Ended s₂ below o ∧ ∃ v L, o = .returned v ∧ Q0 Z q0 q1 q2 q3 p4 h0 n0 v s₂.heap L ∧ FrameEnd s o s₂ L 10 26) (U.setTop (mkF m 205 (sh20 q0 q1 q2 q3 p4 x9 x10 oD la lb lc ld (1 : Int32) x17 u18) [])) := by
      intro U locs x9 x10 x17 u18 hs τ N P tu XU NU ZU RU IU LU hu hM
      rcases hu with rfl | ⟨a18, rfl⟩
      · refine Gb (fun _ => XS.aload XU.here hx rfl (hb hby at_205) rfl rfl) ?_
        obtain ⟨_, T1, L1, Lc1, X1, hF1, hQ1, st1⟩ := own_cv XU hx hZ hown (wq hw 58 rfl) (wq hw 59 rfl) (wq hw 61 rfl) (wq hw 60 rfl) (wq hw 2 rfl) (wq hw 62 rfl) (rmFirstR l Z az hw [] oD ar kA hs τ N P [la, lb, lc, ld] tu U.heap n0 ZU RU IU (Nat.le_trans LU (by decide))) (W := 0) (g := (mkF m 207 (sh21 q0 q1 q2 q3 p4 x9 x10 oD la lb lc ld (1 : Int32) x17) [(.ref oD)])) rfl (by rw [hml]; rfl) RU.1 (argsL := []) (rest := []) rfl (lenOf own_pd6 rfl) rfl (hb hby at_207) rfl NU (c' := 10) (s' := 26)
        obtain ⟨r2, rfl, N1q, e1, mn3⟩ := hQ1
        have N4 := hF1 N1q
        refine Gb st1 ?_
        refine Gb (B := T1.setTop (mkF m 220 (sh21 q0 q1 q2 q3 p4 x9 x10 oD la lb lc ld (1 : Int32) x17) [(.int x17), (.int x9), (.long q3), (.long q2), (.long q1), (.long q0), (.long r2)])) (fun t k => ?_) ?_
        · refine XS.lloadN X1.here hx rfl (hb hby at_210) rfl ?_
          refine XS.lloadN X1.here hx rfl (hb hby at_211) rfl ?_
          refine XS.lload X1.here hx rfl (hb hby at_212) rfl ?_
          refine XS.lload X1.here hx rfl (hb hby at_214) rfl ?_
          refine XS.iload X1.here hx rfl (hb hby at_216) rfl ?_
          refine XS.iload X1.here hx rfl (hb hby at_218) rfl ?_
          exact k
        obtain ⟨_, T5, L5, Lc5, X5, hF5, hQ5, st5⟩ := own_cs X1 hx hZ hown (wq hw 63 rfl) (wq hw 64 rfl) (wq hw 65 rfl) (wq hw 66 rfl) (rmMinOf l Z az hw [] q0 q1 q2 q3 x9 x17 U.heap n0 ZU ) (W := 2) (g := (mkF m 220 (sh21 q0 q1 q2 q3 p4 x9 x10 oD la lb lc ld (1 : Int32) x17) [(.int x17), (.int x9), (.long q3), (.long q2), (.long q1), (.long q0), (.long r2)])) rfl (by rw [hml]; rfl) (argsL := [(.long q0), (.long q1), (.long q2), (.long q3), (.int x9), (.int x17)]) (rest := [(.long r2)]) rfl (lenOf own_pd7 rfl) rfl (hb hby at_220) e1 N4 (c' := 10) (s' := 26)
        obtain ⟨rfl, N5q, e5⟩ := hQ5
        have N6 := hF5 N5q
        refine Gb st5 ?_
        refine Gb (B := T5.setTop (mkF m 249 (sh22 q0 q1 q2 q3 p4 x9 x10 oD la lb lc ld (1 : Int32) x17 (1 : Int32)) [(.int (1 : Int32))])) (fun t k => ?_) ?_
        · refine XS.lcmp X5.here hx rfl (hb hby at_223) rfl ?_
          refine XS.ifNo X5.here hx rfl (hb hby at_224) rfl ((if0 _ _).trans (teq ((lw_eq r2 (fMO q0 q1 q2 q3 x9 x17)).mpr (hM _ mn3))).2) ?_
          refine XS.iconst X5.here hx rfl (hb hby at_227) ?_
          refine XS.goto X5.here hx rfl (pc0 := 228) (pc' := 232) rfl (hb hby at_228) (by decide) (by decide) ?_
          refine XS.istore X5.here hx rfl (hb hby at_232) rfl (l' := (sh22 q0 q1 q2 q3 p4 x9 x10 oD la lb lc ld (1 : Int32) x17 (1 : Int32))) rfl ?_
          refine XS.iload X5.here hx rfl (hb hby at_234) rfl ?_
          refine XS.ifNo X5.here hx rfl (hb hby at_236) rfl ((if0 _ _).trans (feq (by decide : ¬ ((1 : Int32) = (0 : Int32)))).1) ?_
          refine XS.iload X5.here hx rfl (hb hby at_239) rfl ?_
          refine XS.ifNo X5.here hx rfl (hb hby at_241) rfl ((if0 _ _).trans (feq (by decide : ¬ ((1 : Int32) = (0 : Int32)))).1) ?_
          refine XS.iconst X5.here hx rfl (hb hby at_244) ?_
          refine XS.goto X5.here hx rfl (pc0 := 245) (pc' := 249) rfl (hb hby at_245) (by decide) (by decide) ?_
          exact k
        obtain ⟨fs, hr, hrun, hended, hW, hsame⟩ := X5.leave (v := some (.int (1 : Int32))) (fun h => by rw [Bd.returns] at h; cases h)
        refine Goes.mk _ _ ?_ ⟨hrun, hended, _, _, rfl, ?_, ⟨_, rfl⟩, hW, hsame.mono (by decide) (by decide)⟩
        · exact retN X5 hx (t := .boolean) Bd.returns (by simp) (hb hby at_249) hr
        · show Q0 Z q0 q1 q2 q3 p4 h0 n0 _ T5.heap _
          rw [e5]
          exact ⟨rfl, N6⟩
      · refine Gb (fun _ => XS.aload XU.here hx rfl (hb hby at_205) rfl rfl) ?_
        obtain ⟨_, T7, L7, Lc7, X7, hF7, hQ7, st7⟩ := own_cv XU hx hZ hown (wq hw 58 rfl) (wq hw 59 rfl) (wq hw 61 rfl) (wq hw 60 rfl) (wq hw 2 rfl) (wq hw 62 rfl) (rmFirstR l Z az hw [] oD ar kA hs τ N P [la, lb, lc, ld] tu U.heap n0 ZU RU IU (Nat.le_trans LU (by decide))) (W := 0) (g := (mkF m 207 (sh23 q0 q1 q2 q3 p4 x9 x10 oD la lb lc ld (1 : Int32) x17 a18) [(.ref oD)])) rfl (by rw [hml]; rfl) RU.1 (argsL := []) (rest := []) rfl (lenOf own_pd6 rfl) rfl (hb hby at_207) rfl NU (c' := 10) (s' := 26)
        obtain ⟨r8, rfl, N7q, e7, mn9⟩ := hQ7
        have N10 := hF7 N7q
        refine Gb st7 ?_
        refine Gb (B := T7.setTop (mkF m 220 (sh23 q0 q1 q2 q3 p4 x9 x10 oD la lb lc ld (1 : Int32) x17 a18) [(.int x17), (.int x9), (.long q3), (.long q2), (.long q1), (.long q0), (.long r8)])) (fun t k => ?_) ?_
        · refine XS.lloadN X7.here hx rfl (hb hby at_210) rfl ?_
          refine XS.lloadN X7.here hx rfl (hb hby at_211) rfl ?_
          refine XS.lload X7.here hx rfl (hb hby at_212) rfl ?_
          refine XS.lload X7.here hx rfl (hb hby at_214) rfl ?_
          refine XS.iload X7.here hx rfl (hb hby at_216) rfl ?_
          refine XS.iload X7.here hx rfl (hb hby at_218) rfl ?_
          exact k
        obtain ⟨_, T11, L11, Lc11, X11, hF11, hQ11, st11⟩ := own_cs X7 hx hZ hown (wq hw 63 rfl) (wq hw 64 rfl) (wq hw 65 rfl) (wq hw 66 rfl) (rmMinOf l Z az hw [] q0 q1 q2 q3 x9 x17 U.heap n0 ZU ) (W := 2) (g := (mkF m 220 (sh23 q0 q1 q2 q3 p4 x9 x10 oD la lb lc ld (1 : Int32) x17 a18) [(.int x17), (.int x9), (.long q3), (.long q2), (.long q1), (.long q0), (.long r8)])) rfl (by rw [hml]; rfl) (argsL := [(.long q0), (.long q1), (.long q2), (.long q3), (.int x9), (.int x17)]) (rest := [(.long r8)]) rfl (lenOf own_pd7 rfl) rfl (hb hby at_220) e7 N10 (c' := 10) (s' := 26)
        obtain ⟨rfl, N11q, e11⟩ := hQ11
        have N12 := hF11 N11q
        refine Gb st11 ?_
        refine Gb (B := T11.setTop (mkF m 249 (sh22 q0 q1 q2 q3 p4 x9 x10 oD la lb lc ld (1 : Int32) x17 (1 : Int32)) [(.int (1 : Int32))])) (fun t k => ?_) ?_
        · refine XS.lcmp X11.here hx rfl (hb hby at_223) rfl ?_
          refine XS.ifNo X11.here hx rfl (hb hby at_224) rfl ((if0 _ _).trans (teq ((lw_eq r8 (fMO q0 q1 q2 q3 x9 x17)).mpr (hM _ mn9))).2) ?_
          refine XS.iconst X11.here hx rfl (hb hby at_227) ?_
          refine XS.goto X11.here hx rfl (pc0 := 228) (pc' := 232) rfl (hb hby at_228) (by decide) (by decide) ?_
          refine XS.istore X11.here hx rfl (hb hby at_232) rfl (l' := (sh22 q0 q1 q2 q3 p4 x9 x10 oD la lb lc ld (1 : Int32) x17 (1 : Int32))) rfl ?_
          refine XS.iload X11.here hx rfl (hb hby at_234) rfl ?_
          refine XS.ifNo X11.here hx rfl (hb hby at_236) rfl ((if0 _ _).trans (feq (by decide : ¬ ((1 : Int32) = (0 : Int32)))).1) ?_
          refine XS.iload X11.here hx rfl (hb hby at_239) rfl ?_
          refine XS.ifNo X11.here hx rfl (hb hby at_241) rfl ((if0 _ _).trans (feq (by decide : ¬ ((1 : Int32) = (0 : Int32)))).1) ?_
          refine XS.iconst X11.here hx rfl (hb hby at_244) ?_
          refine XS.goto X11.here hx rfl (pc0 := 245) (pc' := 249) rfl (hb hby at_245) (by decide) (by decide) ?_
          exact k
        obtain ⟨fs, hr, hrun, hended, hW, hsame⟩ := X11.leave (v := some (.int (1 : Int32))) (fun h => by rw [Bd.returns] at h; cases h)
        refine Goes.mk _ _ ?_ ⟨hrun, hended, _, _, rfl, ?_, ⟨_, rfl⟩, hW, hsame.mono (by decide) (by decide)⟩
        · exact retN X11 hx (t := .boolean) Bd.returns (by simp) (hb hby at_249) hr
        · show Q0 Z q0 q1 q2 q3 p4 h0 n0 _ T11.heap _
          rw [e11]
          exact ⟨rfl, N12⟩
    rcases own_nn _ nn hg_nn with rfl | rfl | rfl | rfl | rfl
    · refine Gb (B := T.setTop (mkF m 122 (sh19 q0 q1 q2 q3 p4 (0 : Int32) rr oD la lb lc ld) [(.ref oD)])) (fun t k => ?_) ?_
      · refine XS.iload XT.here hx rfl (hb hby at_63) rfl ?_
        refine XS.ifYes XT.here hx rfl (pc0 := 65) (pc' := 76) rfl (hb hby at_65) rfl ((if0 _ _).trans (flt (by decide : ¬ ((0 : Int32) < (0 : Int32)))).2.2.2) (by decide) (by decide) ?_
        refine XS.iload XT.here hx rfl (hb hby at_76) rfl ?_
        refine XS.iconst XT.here hx rfl (hb hby at_78) ?_
        refine XS.icmpYes XT.here hx rfl (pc0 := 79) (pc' := 90) rfl (hb hby at_79) rfl (flt (by decide : ¬ ((1 : Int32) < (0 : Int32)))).2.2.2 (by decide) (by decide) ?_
        refine XS.iload XT.here hx rfl (hb hby at_90) rfl ?_
        refine XS.iconst XT.here hx rfl (hb hby at_92) ?_
        refine XS.icmpYes XT.here hx rfl (pc0 := 93) (pc' := 105) rfl (hb hby at_93) rfl (flt (by decide : ¬ ((2 : Int32) < (0 : Int32)))).2.2.2 (by decide) (by decide) ?_
        refine XS.iload XT.here hx rfl (hb hby at_105) rfl ?_
        refine XS.iconst XT.here hx rfl (hb hby at_107) ?_
        refine XS.icmpYes XT.here hx rfl (pc0 := 108) (pc' := 120) rfl (hb hby at_108) rfl (flt (by decide : ¬ ((3 : Int32) < (0 : Int32)))).2.2.2 (by decide) (by decide) ?_
        refine XS.aload XT.here hx rfl (hb hby at_120) rfl rfl ?_
        exact k
      obtain ⟨_, T13, L13, Lc13, X13, hF13, hQ13, st13⟩ := own_cv XT hx hZ hown (wq hw 58 rfl) (wq hw 59 rfl) (wq hw 61 rfl) (wq hw 60 rfl) (wq hw 2 rfl) (wq hw 62 rfl) (rmFirstR l Z az hw [] oD ar kA [] (fun _ => 0) (fun _ => .null) (fun _ => .null) [la, lb, lc, ld] tk T.heap n0 ZT RT IT (Nat.le_trans LT (by decide))) (W := 0) (g := (mkF m 122 (sh19 q0 q1 q2 q3 p4 (0 : Int32) rr oD la lb lc ld) [(.ref oD)])) rfl (by rw [hml]; rfl) RT.1 (argsL := []) (rest := []) rfl (lenOf own_pd6 rfl) rfl (hb hby at_122) rfl NT (c' := 6) (s' := 14)
      obtain ⟨r14, rfl, N13q, e13, mn15⟩ := hQ13
      have N16 := hF13 N13q
      refine Gb st13 ?_
      refine Gb (B := T13.setTop (mkF m 134 (sh19 q0 q1 q2 q3 p4 (0 : Int32) rr oD la lb lc ld) [(.int (-1 : Int32)), (.int (0 : Int32)), (.long q3), (.long q2), (.long q1), (.long q0), (.long r14)])) (fun t k => ?_) ?_
      · refine XS.lloadN X13.here hx rfl (hb hby at_125) rfl ?_
        refine XS.lloadN X13.here hx rfl (hb hby at_126) rfl ?_
        refine XS.lload X13.here hx rfl (hb hby at_127) rfl ?_
        refine XS.lload X13.here hx rfl (hb hby at_129) rfl ?_
        refine XS.iload X13.here hx rfl (hb hby at_131) rfl ?_
        refine XS.iconst X13.here hx rfl (hb hby at_133) ?_
        exact k
      obtain ⟨_, T17, L17, Lc17, X17, hF17, hQ17, st17⟩ := own_cs X13 hx hZ hown (wq hw 63 rfl) (wq hw 64 rfl) (wq hw 65 rfl) (wq hw 66 rfl) (rmMinOf l Z az hw [] q0 q1 q2 q3 (0 : Int32) (-1 : Int32) T.heap n0 ZT ) (W := 2) (g := (mkF m 134 (sh19 q0 q1 q2 q3 p4 (0 : Int32) rr oD la lb lc ld) [(.int (-1 : Int32)), (.int (0 : Int32)), (.long q3), (.long q2), (.long q1), (.long q0), (.long r14)])) rfl (by rw [hml]; rfl) (argsL := [(.long q0), (.long q1), (.long q2), (.long q3), (.int (0 : Int32)), (.int (-1 : Int32))]) (rest := [(.long r14)]) rfl (lenOf own_pd7 rfl) rfl (hb hby at_134) e13 N16 (c' := 6) (s' := 14)
      obtain ⟨rfl, N17q, e17⟩ := hQ17
      have N18 := hF17 N17q
      refine Gb st17 ?_
      refine Gb (B := T17.setTop (mkF m 205 (sh21 q0 q1 q2 q3 p4 (0 : Int32) rr oD la lb lc ld (1 : Int32) (-1 : Int32)) [])) (fun t k => ?_) ?_
      · refine XS.lcmp X17.here hx rfl (hb hby at_137) rfl ?_
        refine XS.ifNo X17.here hx rfl (hb hby at_138) rfl ((if0 _ _).trans (teq ((lw_eq r14 (fMO q0 q1 q2 q3 (0 : Int32) (-1 : Int32))).mpr ((own_first mn15 [] (fun t => by simp [vt0, vt1, vt2, vt3, eq_comm])).trans (own_mo0_0 q0 q1 q2 q3)))).2) ?_
        refine XS.iconst X17.here hx rfl (hb hby at_141) ?_
        refine XS.goto X17.here hx rfl (pc0 := 142) (pc' := 146) rfl (hb hby at_142) (by decide) (by decide) ?_
        refine XS.istore X17.here hx rfl (hb hby at_146) rfl (l' := (sh24 q0 q1 q2 q3 p4 (0 : Int32) rr oD la lb lc ld (1 : Int32))) rfl ?_
        refine XS.iconst X17.here hx rfl (hb hby at_148) ?_
        refine XS.istore X17.here hx rfl (hb hby at_149) rfl (l' := (sh21 q0 q1 q2 q3 p4 (0 : Int32) rr oD la lb lc ld (1 : Int32) (-1 : Int32))) rfl ?_
        refine XS.iload X17.here hx rfl (hb hby at_151) rfl ?_
        refine XS.iload X17.here hx rfl (hb hby at_153) rfl ?_
        refine XS.icmpYes X17.here hx rfl (pc0 := 155) (pc' := 205) rfl (hb hby at_155) rfl (flt (own_r0 _ rr hg_rr)).2.1 (by decide) (by decide) ?_
        exact k
      exact tl205 _ _ _ _ _ _ _ _ _ _ _ (own_more X17 (by decide) (by decide)) N18 (by rw [e17]; exact ZT) (by rw [e17]; exact RT) IT (Nat.le_trans LT (by decide)) (Or.inl rfl) (fun r hr => (own_first hr [] (fun t => by simp [vt0, vt1, vt2, vt3, eq_comm])).trans (own_mo0_0 q0 q1 q2 q3))
    · refine Gb (B := T.setTop (mkF m 73 (sh19 q0 q1 q2 q3 p4 (1 : Int32) rr oD la lb lc ld) [(.long q0), (.ref la), (.ref oD)])) (fun t k => ?_) ?_
      · refine XS.iload XT.here hx rfl (hb hby at_63) rfl ?_
        refine XS.ifNo XT.here hx rfl (hb hby at_65) rfl ((if0 _ _).trans (tlt (by decide : (0 : Int32) < (1 : Int32))).2.2.2) ?_
        refine XS.aload XT.here hx rfl (hb hby at_68) rfl rfl ?_
        refine XS.aload XT.here hx rfl (hb hby at_70) rfl rfl ?_
        refine XS.lloadN XT.here hx rfl (hb hby at_72) rfl ?_
        exact k
      obtain ⟨_, T19, L19, Lc19, X19, hF19, hQ19, st19⟩ := own_cv XT hx hZ hown (wq hw 20 rfl) (wq hw 21 rfl) (wq hw 23 rfl) (wq hw 22 rfl) (wq hw 2 rfl) (wq hw 24 rfl) (rmFileR l Z az hw [] oD la q0 ar kA [] (fun _ => 0) (fun _ => .null) (fun _ => .null) [la, lb, lc, ld] tk T.heap n0 ZT RT IT (by simp) vt0 (Nat.le_trans LT (by decide))) (W := 0) (g := (mkF m 73 (sh19 q0 q1 q2 q3 p4 (1 : Int32) rr oD la lb lc ld) [(.long q0), (.ref la), (.ref oD)])) rfl (by rw [hml]; rfl) RT.1 (argsL := [(.ref la), (.long q0)]) (rest := []) rfl (lenOf own_pd8 rfl) rfl (hb hby at_73) rfl NT (c' := 7) (s' := 17)
      obtain ⟨hs20, τ21, Nn22, Pp23, rfl, N19q, zq26, R24, I25, lq27⟩ := hQ19
      have Z28 := Nat.le_trans ZT zq26
      obtain ⟨tk29, etk29⟩ : ∃ z, z = upd tk la (some q0) := ⟨_, rfl⟩
      rw [← etk29] at I25
      have v30 : tk29 la = (some q0) := by rw [etk29]; exact upd_at _ _ _
      have v31 : tk29 lb = none := by rw [etk29, upd_ne _ _ (Ne.symm nt01)]; exact vt1
      have v32 : tk29 lc = none := by rw [etk29, upd_ne _ _ (Ne.symm nt02)]; exact vt2
      have v33 : tk29 ld = none := by rw [etk29, upd_ne _ _ (Ne.symm nt03)]; exact vt3
      have le34 : hs20.length ≤ 1 := Nat.le_trans lq27 (Nat.succ_le_succ LT)
      have N35 := hF19 N19q
      refine Gb st19 ?_
      refine Gb (B := T19.setTop (mkF m 122 (sh19 q0 q1 q2 q3 p4 (1 : Int32) rr oD la lb lc ld) [(.ref oD)])) (fun t k => ?_) ?_
      · refine XS.iload X19.here hx rfl (hb hby at_76) rfl ?_
        refine XS.iconst X19.here hx rfl (hb hby at_78) ?_
        refine XS.icmpYes X19.here hx rfl (pc0 := 79) (pc' := 90) rfl (hb hby at_79) rfl (flt (by decide : ¬ ((1 : Int32) < (1 : Int32)))).2.2.2 (by decide) (by decide) ?_
        refine XS.iload X19.here hx rfl (hb hby at_90) rfl ?_
        refine XS.iconst X19.here hx rfl (hb hby at_92) ?_
        refine XS.icmpYes X19.here hx rfl (pc0 := 93) (pc' := 105) rfl (hb hby at_93) rfl (flt (by decide : ¬ ((2 : Int32) < (1 : Int32)))).2.2.2 (by decide) (by decide) ?_
        refine XS.iload X19.here hx rfl (hb hby at_105) rfl ?_
        refine XS.iconst X19.here hx rfl (hb hby at_107) ?_
        refine XS.icmpYes X19.here hx rfl (pc0 := 108) (pc' := 120) rfl (hb hby at_108) rfl (flt (by decide : ¬ ((3 : Int32) < (1 : Int32)))).2.2.2 (by decide) (by decide) ?_
        refine XS.aload X19.here hx rfl (hb hby at_120) rfl rfl ?_
        exact k
      obtain ⟨_, T36, L36, Lc36, X36, hF36, hQ36, st36⟩ := own_cv X19 hx hZ hown (wq hw 58 rfl) (wq hw 59 rfl) (wq hw 61 rfl) (wq hw 60 rfl) (wq hw 2 rfl) (wq hw 62 rfl) (rmFirstR l Z az hw [] oD ar kA hs20 τ21 Nn22 Pp23 [la, lb, lc, ld] tk29 T19.heap n0 Z28 R24 I25 (Nat.le_trans le34 (by decide))) (W := 0) (g := (mkF m 122 (sh19 q0 q1 q2 q3 p4 (1 : Int32) rr oD la lb lc ld) [(.ref oD)])) rfl (by rw [hml]; rfl) R24.1 (argsL := []) (rest := []) rfl (lenOf own_pd6 rfl) rfl (hb hby at_122) rfl N35 (c' := 7) (s' := 17)
      obtain ⟨r37, rfl, N36q, e36, mn38⟩ := hQ36
      have N39 := hF36 N36q
      refine Gb st36 ?_
      refine Gb (B := T36.setTop (mkF m 134 (sh19 q0 q1 q2 q3 p4 (1 : Int32) rr oD la lb lc ld) [(.int (-1 : Int32)), (.int (1 : Int32)), (.long q3), (.long q2), (.long q1), (.long q0), (.long r37)])) (fun t k => ?_) ?_
      · refine XS.lloadN X36.here hx rfl (hb hby at_125) rfl ?_
        refine XS.lloadN X36.here hx rfl (hb hby at_126) rfl ?_
        refine XS.lload X36.here hx rfl (hb hby at_127) rfl ?_
        refine XS.lload X36.here hx rfl (hb hby at_129) rfl ?_
        refine XS.iload X36.here hx rfl (hb hby at_131) rfl ?_
        refine XS.iconst X36.here hx rfl (hb hby at_133) ?_
        exact k
      obtain ⟨_, T40, L40, Lc40, X40, hF40, hQ40, st40⟩ := own_cs X36 hx hZ hown (wq hw 63 rfl) (wq hw 64 rfl) (wq hw 65 rfl) (wq hw 66 rfl) (rmMinOf l Z az hw [] q0 q1 q2 q3 (1 : Int32) (-1 : Int32) T19.heap n0 Z28 ) (W := 2) (g := (mkF m 134 (sh19 q0 q1 q2 q3 p4 (1 : Int32) rr oD la lb lc ld) [(.int (-1 : Int32)), (.int (1 : Int32)), (.long q3), (.long q2), (.long q1), (.long q0), (.long r37)])) rfl (by rw [hml]; rfl) (argsL := [(.long q0), (.long q1), (.long q2), (.long q3), (.int (1 : Int32)), (.int (-1 : Int32))]) (rest := [(.long r37)]) rfl (lenOf own_pd7 rfl) rfl (hb hby at_134) e36 N39 (c' := 7) (s' := 17)
      obtain ⟨rfl, N40q, e40⟩ := hQ40
      have N41 := hF40 N40q
      refine Gb st40 ?_
      refine Gb (B := T40.setTop (mkF m 155 (sh21 q0 q1 q2 q3 p4 (1 : Int32) rr oD la lb lc ld (1 : Int32) (-1 : Int32)) [(.int (1 : Int32)), (.int rr)])) (fun t k => ?_) ?_
      · refine XS.lcmp X40.here hx rfl (hb hby at_137) rfl ?_
        refine XS.ifNo X40.here hx rfl (hb hby at_138) rfl ((if0 _ _).trans (teq ((lw_eq r37 (fMO q0 q1 q2 q3 (1 : Int32) (-1 : Int32))).mpr ((own_first mn38 [q0] (fun t => by simp [v30, v31, v32, v33, eq_comm])).trans (own_mo1_0 q0 q1 q2 q3)))).2) ?_
        refine XS.iconst X40.here hx rfl (hb hby at_141) ?_
        refine XS.goto X40.here hx rfl (pc0 := 142) (pc' := 146) rfl (hb hby at_142) (by decide) (by decide) ?_
        refine XS.istore X40.here hx rfl (hb hby at_146) rfl (l' := (sh24 q0 q1 q2 q3 p4 (1 : Int32) rr oD la lb lc ld (1 : Int32))) rfl ?_
        refine XS.iconst X40.here hx rfl (hb hby at_148) ?_
        refine XS.istore X40.here hx rfl (hb hby at_149) rfl (l' := (sh21 q0 q1 q2 q3 p4 (1 : Int32) rr oD la lb lc ld (1 : Int32) (-1 : Int32))) rfl ?_
        refine XS.iload X40.here hx rfl (hb hby at_151) rfl ?_
        refine XS.iload X40.here hx rfl (hb hby at_153) rfl ?_
        exact k
      by_cases hc42 : rr < (1 : Int32)
      · refine Gb (fun _ => XS.icmpNo X40.here hx rfl (hb hby at_155) rfl (tlt hc42).2.1) ?_
        obtain rfl := own_rr1 rr (own_r0 _ rr hg_rr) hc42
        refine Gb (B := T40.setTop (mkF m 198 (sh23 q0 q1 q2 q3 p4 (1 : Int32) (0 : Int32) oD la lb lc ld (1 : Int32) (-1 : Int32) la) [(.ref la), (.ref oD)])) (fun t k => ?_) ?_
        · refine XS.iload X40.here hx rfl (hb hby at_158) rfl ?_
          refine XS.ifNo X40.here hx rfl (hb hby at_160) rfl ((if0 _ _).trans (teq (by decide : (0 : Int32) = (0 : Int32))).2) ?_
          refine XS.aload X40.here hx rfl (hb hby at_163) rfl rfl ?_
          refine XS.goto X40.here hx rfl (pc0 := 165) (pc' := 192) rfl (hb hby at_165) (by decide) (by decide) ?_
          refine XS.astore X40.here hx rfl (hb hby at_192) rfl rfl (l' := (sh23 q0 q1 q2 q3 p4 (1 : Int32) (0 : Int32) oD la lb lc ld (1 : Int32) (-1 : Int32) la)) rfl ?_
          refine XS.aload X40.here hx rfl (hb hby at_194) rfl rfl ?_
          refine XS.aload X40.here hx rfl (hb hby at_196) rfl rfl ?_
          exact k
        obtain ⟨_, T43, L43, Lc43, X43, hF43, hQ43, st43⟩ := own_cv X40 hx hZ hown (wq hw 72 rfl) (wq hw 73 rfl) (wq hw 75 rfl) (wq hw 74 rfl) (wq hw 2 rfl) (wq hw 76 rfl) (rmRemR l Z az hw [] oD la q0 ar kA hs20 τ21 Nn22 Pp23 [la, lb, lc, ld] tk29 T19.heap n0 Z28 R24 I25 (by simp) v30 (Nat.le_trans le34 (by decide))) (W := 0) (g := (mkF m 198 (sh23 q0 q1 q2 q3 p4 (1 : Int32) (0 : Int32) oD la lb lc ld (1 : Int32) (-1 : Int32) la) [(.ref la), (.ref oD)])) rfl (by rw [hml]; rfl) R24.1 (argsL := [(.ref la)]) (rest := []) rfl (lenOf own_pd9 rfl) rfl (hb hby at_198) e40 N41 (c' := 7) (s' := 17)
        obtain ⟨hs44, τ45, Nn46, Pp47, rfl, N43q, zq50, R48, I49, lq51⟩ := hQ43
        have Z52 := Nat.le_trans Z28 zq50
        obtain ⟨tk53, etk53⟩ : ∃ z, z = upd tk29 la none := ⟨_, rfl⟩
        rw [← etk53] at I49
        have v54 : tk53 la = none := by rw [etk53]; exact upd_at _ _ _
        have v55 : tk53 lb = none := by rw [etk53, upd_ne _ _ (Ne.symm nt01)]; exact v31
        have v56 : tk53 lc = none := by rw [etk53, upd_ne _ _ (Ne.symm nt02)]; exact v32
        have v57 : tk53 ld = none := by rw [etk53, upd_ne _ _ (Ne.symm nt03)]; exact v33
        have le58 : hs44.length ≤ 1 := Nat.le_trans lq51 le34
        have N59 := hF43 N43q
        refine Gb st43 ?_
        refine Gb (fun _ => XS.iload X43.here hx rfl (hb hby at_201) rfl) ?_
        refine Gb (fun _ => XS.istore X43.here hx rfl (hb hby at_203) rfl (l' := (sh23 q0 q1 q2 q3 p4 (1 : Int32) (0 : Int32) oD la lb lc ld (1 : Int32) (0 : Int32) la)) rfl) ?_
        exact tl205 _ _ _ _ _ _ _ _ _ _ _ (own_more X43 (by decide) (by decide)) N59 Z52 R48 I49 (Nat.le_trans le58 (by decide)) (Or.inr ⟨_, rfl⟩) (fun r hr => (own_first hr [] (fun t => by simp [v54, v55, v56, v57, eq_comm])).trans (own_mo1_1 q0 q1 q2 q3))
      · refine Gb (fun _ => XS.icmpYes X40.here hx rfl (pc0 := 155) (pc' := 205) rfl (hb hby at_155) rfl (flt hc42).2.1 (by decide) (by decide)) ?_
        exact tl205 _ _ _ _ _ _ _ _ _ _ _ (own_more X40 (by decide) (by decide)) N41 (by rw [e40]; exact Z28) (by rw [e40]; exact R24) I25 (Nat.le_trans le34 (by decide)) (Or.inl rfl) (fun r hr => (own_first hr [q0] (fun t => by simp [v30, v31, v32, v33, eq_comm])).trans (own_mo1_0 q0 q1 q2 q3))
    · refine Gb (B := T.setTop (mkF m 73 (sh19 q0 q1 q2 q3 p4 (2 : Int32) rr oD la lb lc ld) [(.long q0), (.ref la), (.ref oD)])) (fun t k => ?_) ?_
      · refine XS.iload XT.here hx rfl (hb hby at_63) rfl ?_
        refine XS.ifNo XT.here hx rfl (hb hby at_65) rfl ((if0 _ _).trans (tlt (by decide : (0 : Int32) < (2 : Int32))).2.2.2) ?_
        refine XS.aload XT.here hx rfl (hb hby at_68) rfl rfl ?_
        refine XS.aload XT.here hx rfl (hb hby at_70) rfl rfl ?_
        refine XS.lloadN XT.here hx rfl (hb hby at_72) rfl ?_
        exact k
      obtain ⟨_, T60, L60, Lc60, X60, hF60, hQ60, st60⟩ := own_cv XT hx hZ hown (wq hw 20 rfl) (wq hw 21 rfl) (wq hw 23 rfl) (wq hw 22 rfl) (wq hw 2 rfl) (wq hw 24 rfl) (rmFileR l Z az hw [] oD la q0 ar kA [] (fun _ => 0) (fun _ => .null) (fun _ => .null) [la, lb, lc, ld] tk T.heap n0 ZT RT IT (by simp) vt0 (Nat.le_trans LT (by decide))) (W := 0) (g := (mkF m 73 (sh19 q0 q1 q2 q3 p4 (2 : Int32) rr oD la lb lc ld) [(.long q0), (.ref la), (.ref oD)])) rfl (by rw [hml]; rfl) RT.1 (argsL := [(.ref la), (.long q0)]) (rest := []) rfl (lenOf own_pd8 rfl) rfl (hb hby at_73) rfl NT (c' := 7) (s' := 17)
      obtain ⟨hs61, τ62, Nn63, Pp64, rfl, N60q, zq67, R65, I66, lq68⟩ := hQ60
      have Z69 := Nat.le_trans ZT zq67
      obtain ⟨tk70, etk70⟩ : ∃ z, z = upd tk la (some q0) := ⟨_, rfl⟩
      rw [← etk70] at I66
      have v71 : tk70 la = (some q0) := by rw [etk70]; exact upd_at _ _ _
      have v72 : tk70 lb = none := by rw [etk70, upd_ne _ _ (Ne.symm nt01)]; exact vt1
      have v73 : tk70 lc = none := by rw [etk70, upd_ne _ _ (Ne.symm nt02)]; exact vt2
      have v74 : tk70 ld = none := by rw [etk70, upd_ne _ _ (Ne.symm nt03)]; exact vt3
      have le75 : hs61.length ≤ 1 := Nat.le_trans lq68 (Nat.succ_le_succ LT)
      have N76 := hF60 N60q
      refine Gb st60 ?_
      refine Gb (B := T60.setTop (mkF m 87 (sh19 q0 q1 q2 q3 p4 (2 : Int32) rr oD la lb lc ld) [(.long q1), (.ref lb), (.ref oD)])) (fun t k => ?_) ?_
      · refine XS.iload X60.here hx rfl (hb hby at_76) rfl ?_
        refine XS.iconst X60.here hx rfl (hb hby at_78) ?_
        refine XS.icmpNo X60.here hx rfl (hb hby at_79) rfl (tlt (by decide : (1 : Int32) < (2 : Int32))).2.2.2 ?_
        refine XS.aload X60.here hx rfl (hb hby at_82) rfl rfl ?_
        refine XS.aload X60.here hx rfl (hb hby at_84) rfl rfl ?_
        refine XS.lloadN X60.here hx rfl (hb hby at_86) rfl ?_
        exact k
      obtain ⟨_, T77, L77, Lc77, X77, hF77, hQ77, st77⟩ := own_cv X60 hx hZ hown (wq hw 20 rfl) (wq hw 21 rfl) (wq hw 23 rfl) (wq hw 22 rfl) (wq hw 2 rfl) (wq hw 24 rfl) (rmFileR l Z az hw [] oD lb q1 ar kA hs61 τ62 Nn63 Pp64 [la, lb, lc, ld] tk70 T60.heap n0 Z69 R65 I66 (by simp) v72 (Nat.le_trans le75 (by decide))) (W := 0) (g := (mkF m 87 (sh19 q0 q1 q2 q3 p4 (2 : Int32) rr oD la lb lc ld) [(.long q1), (.ref lb), (.ref oD)])) rfl (by rw [hml]; rfl) R65.1 (argsL := [(.ref lb), (.long q1)]) (rest := []) rfl (lenOf own_pd8 rfl) rfl (hb hby at_87) rfl N76 (c' := 8) (s' := 20)
      obtain ⟨hs78, τ79, Nn80, Pp81, rfl, N77q, zq84, R82, I83, lq85⟩ := hQ77
      have Z86 := Nat.le_trans Z69 zq84
      obtain ⟨tk87, etk87⟩ : ∃ z, z = upd tk70 lb (some q1) := ⟨_, rfl⟩
      rw [← etk87] at I83
      have v88 : tk87 la = (some q0) := by rw [etk87, upd_ne _ _ nt01]; exact v71
      have v89 : tk87 lb = (some q1) := by rw [etk87]; exact upd_at _ _ _
      have v90 : tk87 lc = none := by rw [etk87, upd_ne _ _ (Ne.symm nt12)]; exact v73
      have v91 : tk87 ld = none := by rw [etk87, upd_ne _ _ (Ne.symm nt13)]; exact v74
      have le92 : hs78.length ≤ 2 := Nat.le_trans lq85 (Nat.succ_le_succ le75)
      have N93 := hF77 N77q
      refine Gb st77 ?_
      refine Gb (B := T77.setTop (mkF m 122 (sh19 q0 q1 q2 q3 p4 (2 : Int32) rr oD la lb lc ld) [(.ref oD)])) (fun t k => ?_) ?_
      · refine XS.iload X77.here hx rfl (hb hby at_90) rfl ?_
        refine XS.iconst X77.here hx rfl (hb hby at_92) ?_
        refine XS.icmpYes X77.here hx rfl (pc0 := 93) (pc' := 105) rfl (hb hby at_93) rfl (flt (by decide : ¬ ((2 : Int32) < (2 : Int32)))).2.2.2 (by decide) (by decide) ?_
        refine XS.iload X77.here hx rfl (hb hby at_105) rfl ?_
        refine XS.iconst X77.here hx rfl (hb hby at_107) ?_
        refine XS.icmpYes X77.here hx rfl (pc0 := 108) (pc' := 120) rfl (hb hby at_108) rfl (flt (by decide : ¬ ((3 : Int32) < (2 : Int32)))).2.2.2 (by decide) (by decide) ?_
        refine XS.aload X77.here hx rfl (hb hby at_120) rfl rfl ?_
        exact k
      obtain ⟨_, T94, L94, Lc94, X94, hF94, hQ94, st94⟩ := own_cv X77 hx hZ hown (wq hw 58 rfl) (wq hw 59 rfl) (wq hw 61 rfl) (wq hw 60 rfl) (wq hw 2 rfl) (wq hw 62 rfl) (rmFirstR l Z az hw [] oD ar kA hs78 τ79 Nn80 Pp81 [la, lb, lc, ld] tk87 T77.heap n0 Z86 R82 I83 (Nat.le_trans le92 (by decide))) (W := 0) (g := (mkF m 122 (sh19 q0 q1 q2 q3 p4 (2 : Int32) rr oD la lb lc ld) [(.ref oD)])) rfl (by rw [hml]; rfl) R82.1 (argsL := []) (rest := []) rfl (lenOf own_pd6 rfl) rfl (hb hby at_122) rfl N93 (c' := 8) (s' := 20)
      obtain ⟨r95, rfl, N94q, e94, mn96⟩ := hQ94
      have N97 := hF94 N94q
      refine Gb st94 ?_
      refine Gb (B := T94.setTop (mkF m 134 (sh19 q0 q1 q2 q3 p4 (2 : Int32) rr oD la lb lc ld) [(.int (-1 : Int32)), (.int (2 : Int32)), (.long q3), (.long q2), (.long q1), (.long q0), (.long r95)])) (fun t k => ?_) ?_
      · refine XS.lloadN X94.here hx rfl (hb hby at_125) rfl ?_
        refine XS.lloadN X94.here hx rfl (hb hby at_126) rfl ?_
        refine XS.lload X94.here hx rfl (hb hby at_127) rfl ?_
        refine XS.lload X94.here hx rfl (hb hby at_129) rfl ?_
        refine XS.iload X94.here hx rfl (hb hby at_131) rfl ?_
        refine XS.iconst X94.here hx rfl (hb hby at_133) ?_
        exact k
      obtain ⟨_, T98, L98, Lc98, X98, hF98, hQ98, st98⟩ := own_cs X94 hx hZ hown (wq hw 63 rfl) (wq hw 64 rfl) (wq hw 65 rfl) (wq hw 66 rfl) (rmMinOf l Z az hw [] q0 q1 q2 q3 (2 : Int32) (-1 : Int32) T77.heap n0 Z86 ) (W := 2) (g := (mkF m 134 (sh19 q0 q1 q2 q3 p4 (2 : Int32) rr oD la lb lc ld) [(.int (-1 : Int32)), (.int (2 : Int32)), (.long q3), (.long q2), (.long q1), (.long q0), (.long r95)])) rfl (by rw [hml]; rfl) (argsL := [(.long q0), (.long q1), (.long q2), (.long q3), (.int (2 : Int32)), (.int (-1 : Int32))]) (rest := [(.long r95)]) rfl (lenOf own_pd7 rfl) rfl (hb hby at_134) e94 N97 (c' := 8) (s' := 20)
      obtain ⟨rfl, N98q, e98⟩ := hQ98
      have N99 := hF98 N98q
      refine Gb st98 ?_
      refine Gb (B := T98.setTop (mkF m 155 (sh21 q0 q1 q2 q3 p4 (2 : Int32) rr oD la lb lc ld (1 : Int32) (-1 : Int32)) [(.int (2 : Int32)), (.int rr)])) (fun t k => ?_) ?_
      · refine XS.lcmp X98.here hx rfl (hb hby at_137) rfl ?_
        refine XS.ifNo X98.here hx rfl (hb hby at_138) rfl ((if0 _ _).trans (teq ((lw_eq r95 (fMO q0 q1 q2 q3 (2 : Int32) (-1 : Int32))).mpr ((own_first mn96 [q0, q1] (fun t => by simp [v88, v89, v90, v91, eq_comm])).trans (own_mo2_0 q0 q1 q2 q3)))).2) ?_
        refine XS.iconst X98.here hx rfl (hb hby at_141) ?_
        refine XS.goto X98.here hx rfl (pc0 := 142) (pc' := 146) rfl (hb hby at_142) (by decide) (by decide) ?_
        refine XS.istore X98.here hx rfl (hb hby at_146) rfl (l' := (sh24 q0 q1 q2 q3 p4 (2 : Int32) rr oD la lb lc ld (1 : Int32))) rfl ?_
        refine XS.iconst X98.here hx rfl (hb hby at_148) ?_
        refine XS.istore X98.here hx rfl (hb hby at_149) rfl (l' := (sh21 q0 q1 q2 q3 p4 (2 : Int32) rr oD la lb lc ld (1 : Int32) (-1 : Int32))) rfl ?_
        refine XS.iload X98.here hx rfl (hb hby at_151) rfl ?_
        refine XS.iload X98.here hx rfl (hb hby at_153) rfl ?_
        exact k
      by_cases hc100 : rr < (2 : Int32)
      · refine Gb (fun _ => XS.icmpNo X98.here hx rfl (hb hby at_155) rfl (tlt hc100).2.1) ?_
        rcases own_rr2 rr (own_r0 _ rr hg_rr) hc100 with rfl | rfl
        · refine Gb (B := T98.setTop (mkF m 198 (sh23 q0 q1 q2 q3 p4 (2 : Int32) (0 : Int32) oD la lb lc ld (1 : Int32) (-1 : Int32) la) [(.ref la), (.ref oD)])) (fun t k => ?_) ?_
          · refine XS.iload X98.here hx rfl (hb hby at_158) rfl ?_
            refine XS.ifNo X98.here hx rfl (hb hby at_160) rfl ((if0 _ _).trans (teq (by decide : (0 : Int32) = (0 : Int32))).2) ?_
            refine XS.aload X98.here hx rfl (hb hby at_163) rfl rfl ?_
            refine XS.goto X98.here hx rfl (pc0 := 165) (pc' := 192) rfl (hb hby at_165) (by decide) (by decide) ?_
            refine XS.astore X98.here hx rfl (hb hby at_192) rfl rfl (l' := (sh23 q0 q1 q2 q3 p4 (2 : Int32) (0 : Int32) oD la lb lc ld (1 : Int32) (-1 : Int32) la)) rfl ?_
            refine XS.aload X98.here hx rfl (hb hby at_194) rfl rfl ?_
            refine XS.aload X98.here hx rfl (hb hby at_196) rfl rfl ?_
            exact k
          obtain ⟨_, T101, L101, Lc101, X101, hF101, hQ101, st101⟩ := own_cv X98 hx hZ hown (wq hw 72 rfl) (wq hw 73 rfl) (wq hw 75 rfl) (wq hw 74 rfl) (wq hw 2 rfl) (wq hw 76 rfl) (rmRemR l Z az hw [] oD la q0 ar kA hs78 τ79 Nn80 Pp81 [la, lb, lc, ld] tk87 T77.heap n0 Z86 R82 I83 (by simp) v88 (Nat.le_trans le92 (by decide))) (W := 0) (g := (mkF m 198 (sh23 q0 q1 q2 q3 p4 (2 : Int32) (0 : Int32) oD la lb lc ld (1 : Int32) (-1 : Int32) la) [(.ref la), (.ref oD)])) rfl (by rw [hml]; rfl) R82.1 (argsL := [(.ref la)]) (rest := []) rfl (lenOf own_pd9 rfl) rfl (hb hby at_198) e98 N99 (c' := 8) (s' := 20)
          obtain ⟨hs102, τ103, Nn104, Pp105, rfl, N101q, zq108, R106, I107, lq109⟩ := hQ101
          have Z110 := Nat.le_trans Z86 zq108
          obtain ⟨tk111, etk111⟩ : ∃ z, z = upd tk87 la none := ⟨_, rfl⟩
          rw [← etk111] at I107
          have v112 : tk111 la = none := by rw [etk111]; exact upd_at _ _ _
          have v113 : tk111 lb = (some q1) := by rw [etk111, upd_ne _ _ (Ne.symm nt01)]; exact v89
          have v114 : tk111 lc = none := by rw [etk111, upd_ne _ _ (Ne.symm nt02)]; exact v90
          have v115 : tk111 ld = none := by rw [etk111, upd_ne _ _ (Ne.symm nt03)]; exact v91
          have le116 : hs102.length ≤ 2 := Nat.le_trans lq109 le92
          have N117 := hF101 N101q
          refine Gb st101 ?_
          refine Gb (fun _ => XS.iload X101.here hx rfl (hb hby at_201) rfl) ?_
          refine Gb (fun _ => XS.istore X101.here hx rfl (hb hby at_203) rfl (l' := (sh23 q0 q1 q2 q3 p4 (2 : Int32) (0 : Int32) oD la lb lc ld (1 : Int32) (0 : Int32) la)) rfl) ?_
          exact tl205 _ _ _ _ _ _ _ _ _ _ _ (own_more X101 (by decide) (by decide)) N117 Z110 R106 I107 (Nat.le_trans le116 (by decide)) (Or.inr ⟨_, rfl⟩) (fun r hr => (own_first hr [q1] (fun t => by simp [v112, v113, v114, v115, eq_comm])).trans (own_mo2_1 q0 q1 q2 q3))
        · refine Gb (B := T98.setTop (mkF m 198 (sh23 q0 q1 q2 q3 p4 (2 : Int32) (1 : Int32) oD la lb lc ld (1 : Int32) (-1 : Int32) lb) [(.ref lb), (.ref oD)])) (fun t k => ?_) ?_
          · refine XS.iload X98.here hx rfl (hb hby at_158) rfl ?_
            refine XS.ifYes X98.here hx rfl (pc0 := 160) (pc' := 168) rfl (hb hby at_160) rfl ((if0 _ _).trans (feq (by decide : ¬ ((1 : Int32) = (0 : Int32)))).2) (by decide) (by decide) ?_
            refine XS.iload X98.here hx rfl (hb hby at_168) rfl ?_
            refine XS.iconst X98.here hx rfl (hb hby at_170) ?_
            refine XS.icmpNo X98.here hx rfl (hb hby at_171) rfl (teq (by decide : (1 : Int32) = (1 : Int32))).2 ?_
            refine XS.aload X98.here hx rfl (hb hby at_174) rfl rfl ?_
            refine XS.goto X98.here hx rfl (pc0 := 176) (pc' := 192) rfl (hb hby at_176) (by decide) (by decide) ?_
            refine XS.astore X98.here hx rfl (hb hby at_192) rfl rfl (l' := (sh23 q0 q1 q2 q3 p4 (2 : Int32) (1 : Int32) oD la lb lc ld (1 : Int32) (-1 : Int32) lb)) rfl ?_
            refine XS.aload X98.here hx rfl (hb hby at_194) rfl rfl ?_
            refine XS.aload X98.here hx rfl (hb hby at_196) rfl rfl ?_
            exact k
          obtain ⟨_, T118, L118, Lc118, X118, hF118, hQ118, st118⟩ := own_cv X98 hx hZ hown (wq hw 72 rfl) (wq hw 73 rfl) (wq hw 75 rfl) (wq hw 74 rfl) (wq hw 2 rfl) (wq hw 76 rfl) (rmRemR l Z az hw [] oD lb q1 ar kA hs78 τ79 Nn80 Pp81 [la, lb, lc, ld] tk87 T77.heap n0 Z86 R82 I83 (by simp) v89 (Nat.le_trans le92 (by decide))) (W := 0) (g := (mkF m 198 (sh23 q0 q1 q2 q3 p4 (2 : Int32) (1 : Int32) oD la lb lc ld (1 : Int32) (-1 : Int32) lb) [(.ref lb), (.ref oD)])) rfl (by rw [hml]; rfl) R82.1 (argsL := [(.ref lb)]) (rest := []) rfl (lenOf own_pd9 rfl) rfl (hb hby at_198) e98 N99 (c' := 8) (s' := 20)
          obtain ⟨hs119, τ120, Nn121, Pp122, rfl, N118q, zq125, R123, I124, lq126⟩ := hQ118
          have Z127 := Nat.le_trans Z86 zq125
          obtain ⟨tk128, etk128⟩ : ∃ z, z = upd tk87 lb none := ⟨_, rfl⟩
          rw [← etk128] at I124
          have v129 : tk128 la = (some q0) := by rw [etk128, upd_ne _ _ nt01]; exact v88
          have v130 : tk128 lb = none := by rw [etk128]; exact upd_at _ _ _
          have v131 : tk128 lc = none := by rw [etk128, upd_ne _ _ (Ne.symm nt12)]; exact v90
          have v132 : tk128 ld = none := by rw [etk128, upd_ne _ _ (Ne.symm nt13)]; exact v91
          have le133 : hs119.length ≤ 2 := Nat.le_trans lq126 le92
          have N134 := hF118 N118q
          refine Gb st118 ?_
          refine Gb (fun _ => XS.iload X118.here hx rfl (hb hby at_201) rfl) ?_
          refine Gb (fun _ => XS.istore X118.here hx rfl (hb hby at_203) rfl (l' := (sh23 q0 q1 q2 q3 p4 (2 : Int32) (1 : Int32) oD la lb lc ld (1 : Int32) (1 : Int32) lb)) rfl) ?_
          exact tl205 _ _ _ _ _ _ _ _ _ _ _ (own_more X118 (by decide) (by decide)) N134 Z127 R123 I124 (Nat.le_trans le133 (by decide)) (Or.inr ⟨_, rfl⟩) (fun r hr => (own_first hr [q0] (fun t => by simp [v129, v130, v131, v132, eq_comm])).trans (own_mo2_2 q0 q1 q2 q3))
      · refine Gb (fun _ => XS.icmpYes X98.here hx rfl (pc0 := 155) (pc' := 205) rfl (hb hby at_155) rfl (flt hc100).2.1 (by decide) (by decide)) ?_
        exact tl205 _ _ _ _ _ _ _ _ _ _ _ (own_more X98 (by decide) (by decide)) N99 (by rw [e98]; exact Z86) (by rw [e98]; exact R82) I83 (Nat.le_trans le92 (by decide)) (Or.inl rfl) (fun r hr => (own_first hr [q0, q1] (fun t => by simp [v88, v89, v90, v91, eq_comm])).trans (own_mo2_0 q0 q1 q2 q3))
    · refine Gb (B := T.setTop (mkF m 73 (sh19 q0 q1 q2 q3 p4 (3 : Int32) rr oD la lb lc ld) [(.long q0), (.ref la), (.ref oD)])) (fun t k => ?_) ?_
      · refine XS.iload XT.here hx rfl (hb hby at_63) rfl ?_
        refine XS.ifNo XT.here hx rfl (hb hby at_65) rfl ((if0 _ _).trans (tlt (by decide : (0 : Int32) < (3 : Int32))).2.2.2) ?_
        refine XS.aload XT.here hx rfl (hb hby at_68) rfl rfl ?_
        refine XS.aload XT.here hx rfl (hb hby at_70) rfl rfl ?_
        refine XS.lloadN XT.here hx rfl (hb hby at_72) rfl ?_
        exact k
      obtain ⟨_, T135, L135, Lc135, X135, hF135, hQ135, st135⟩ := own_cv XT hx hZ hown (wq hw 20 rfl) (wq hw 21 rfl) (wq hw 23 rfl) (wq hw 22 rfl) (wq hw 2 rfl) (wq hw 24 rfl) (rmFileR l Z az hw [] oD la q0 ar kA [] (fun _ => 0) (fun _ => .null) (fun _ => .null) [la, lb, lc, ld] tk T.heap n0 ZT RT IT (by simp) vt0 (Nat.le_trans LT (by decide))) (W := 0) (g := (mkF m 73 (sh19 q0 q1 q2 q3 p4 (3 : Int32) rr oD la lb lc ld) [(.long q0), (.ref la), (.ref oD)])) rfl (by rw [hml]; rfl) RT.1 (argsL := [(.ref la), (.long q0)]) (rest := []) rfl (lenOf own_pd8 rfl) rfl (hb hby at_73) rfl NT (c' := 7) (s' := 17)
      obtain ⟨hs136, τ137, Nn138, Pp139, rfl, N135q, zq142, R140, I141, lq143⟩ := hQ135
      have Z144 := Nat.le_trans ZT zq142
      obtain ⟨tk145, etk145⟩ : ∃ z, z = upd tk la (some q0) := ⟨_, rfl⟩
      rw [← etk145] at I141
      have v146 : tk145 la = (some q0) := by rw [etk145]; exact upd_at _ _ _
      have v147 : tk145 lb = none := by rw [etk145, upd_ne _ _ (Ne.symm nt01)]; exact vt1
      have v148 : tk145 lc = none := by rw [etk145, upd_ne _ _ (Ne.symm nt02)]; exact vt2
      have v149 : tk145 ld = none := by rw [etk145, upd_ne _ _ (Ne.symm nt03)]; exact vt3
      have le150 : hs136.length ≤ 1 := Nat.le_trans lq143 (Nat.succ_le_succ LT)
      have N151 := hF135 N135q
      refine Gb st135 ?_
      refine Gb (B := T135.setTop (mkF m 87 (sh19 q0 q1 q2 q3 p4 (3 : Int32) rr oD la lb lc ld) [(.long q1), (.ref lb), (.ref oD)])) (fun t k => ?_) ?_
      · refine XS.iload X135.here hx rfl (hb hby at_76) rfl ?_
        refine XS.iconst X135.here hx rfl (hb hby at_78) ?_
        refine XS.icmpNo X135.here hx rfl (hb hby at_79) rfl (tlt (by decide : (1 : Int32) < (3 : Int32))).2.2.2 ?_
        refine XS.aload X135.here hx rfl (hb hby at_82) rfl rfl ?_
        refine XS.aload X135.here hx rfl (hb hby at_84) rfl rfl ?_
        refine XS.lloadN X135.here hx rfl (hb hby at_86) rfl ?_
        exact k
      obtain ⟨_, T152, L152, Lc152, X152, hF152, hQ152, st152⟩ := own_cv X135 hx hZ hown (wq hw 20 rfl) (wq hw 21 rfl) (wq hw 23 rfl) (wq hw 22 rfl) (wq hw 2 rfl) (wq hw 24 rfl) (rmFileR l Z az hw [] oD lb q1 ar kA hs136 τ137 Nn138 Pp139 [la, lb, lc, ld] tk145 T135.heap n0 Z144 R140 I141 (by simp) v147 (Nat.le_trans le150 (by decide))) (W := 0) (g := (mkF m 87 (sh19 q0 q1 q2 q3 p4 (3 : Int32) rr oD la lb lc ld) [(.long q1), (.ref lb), (.ref oD)])) rfl (by rw [hml]; rfl) R140.1 (argsL := [(.ref lb), (.long q1)]) (rest := []) rfl (lenOf own_pd8 rfl) rfl (hb hby at_87) rfl N151 (c' := 8) (s' := 20)
      obtain ⟨hs153, τ154, Nn155, Pp156, rfl, N152q, zq159, R157, I158, lq160⟩ := hQ152
      have Z161 := Nat.le_trans Z144 zq159
      obtain ⟨tk162, etk162⟩ : ∃ z, z = upd tk145 lb (some q1) := ⟨_, rfl⟩
      rw [← etk162] at I158
      have v163 : tk162 la = (some q0) := by rw [etk162, upd_ne _ _ nt01]; exact v146
      have v164 : tk162 lb = (some q1) := by rw [etk162]; exact upd_at _ _ _
      have v165 : tk162 lc = none := by rw [etk162, upd_ne _ _ (Ne.symm nt12)]; exact v148
      have v166 : tk162 ld = none := by rw [etk162, upd_ne _ _ (Ne.symm nt13)]; exact v149
      have le167 : hs153.length ≤ 2 := Nat.le_trans lq160 (Nat.succ_le_succ le150)
      have N168 := hF152 N152q
      refine Gb st152 ?_
      refine Gb (B := T152.setTop (mkF m 102 (sh19 q0 q1 q2 q3 p4 (3 : Int32) rr oD la lb lc ld) [(.long q2), (.ref lc), (.ref oD)])) (fun t k => ?_) ?_
      · refine XS.iload X152.here hx rfl (hb hby at_90) rfl ?_
        refine XS.iconst X152.here hx rfl (hb hby at_92) ?_
        refine XS.icmpNo X152.here hx rfl (hb hby at_93) rfl (tlt (by decide : (2 : Int32) < (3 : Int32))).2.2.2 ?_
        refine XS.aload X152.here hx rfl (hb hby at_96) rfl rfl ?_
        refine XS.aload X152.here hx rfl (hb hby at_98) rfl rfl ?_
        refine XS.lload X152.here hx rfl (hb hby at_100) rfl ?_
        exact k
      obtain ⟨_, T169, L169, Lc169, X169, hF169, hQ169, st169⟩ := own_cv X152 hx hZ hown (wq hw 20 rfl) (wq hw 21 rfl) (wq hw 23 rfl) (wq hw 22 rfl) (wq hw 2 rfl) (wq hw 24 rfl) (rmFileR l Z az hw [] oD lc q2 ar kA hs153 τ154 Nn155 Pp156 [la, lb, lc, ld] tk162 T152.heap n0 Z161 R157 I158 (by simp) v165 (Nat.le_trans le167 (by decide))) (W := 0) (g := (mkF m 102 (sh19 q0 q1 q2 q3 p4 (3 : Int32) rr oD la lb lc ld) [(.long q2), (.ref lc), (.ref oD)])) rfl (by rw [hml]; rfl) R157.1 (argsL := [(.ref lc), (.long q2)]) (rest := []) rfl (lenOf own_pd8 rfl) rfl (hb hby at_102) rfl N168 (c' := 9) (s' := 23)
      obtain ⟨hs170, τ171, Nn172, Pp173, rfl, N169q, zq176, R174, I175, lq177⟩ := hQ169
      have Z178 := Nat.le_trans Z161 zq176
      obtain ⟨tk179, etk179⟩ : ∃ z, z = upd tk162 lc (some q2) := ⟨_, rfl⟩
      rw [← etk179] at I175
      have v180 : tk179 la = (some q0) := by rw [etk179, upd_ne _ _ nt02]; exact v163
      have v181 : tk179 lb = (some q1) := by rw [etk179, upd_ne _ _ nt12]; exact v164
      have v182 : tk179 lc = (some q2) := by rw [etk179]; exact upd_at _ _ _
      have v183 : tk179 ld = none := by rw [etk179, upd_ne _ _ (Ne.symm nt23)]; exact v166
      have le184 : hs170.length ≤ 3 := Nat.le_trans lq177 (Nat.succ_le_succ le167)
      have N185 := hF169 N169q
      refine Gb st169 ?_
      refine Gb (fun _ => XS.iload X169.here hx rfl (hb hby at_105) rfl) ?_
      refine Gb (fun _ => XS.iconst X169.here hx rfl (hb hby at_107)) ?_
      refine Gb (fun _ => XS.icmpYes X169.here hx rfl (pc0 := 108) (pc' := 120) rfl (hb hby at_108) rfl (flt (by decide : ¬ ((3 : Int32) < (3 : Int32)))).2.2.2 (by decide) (by decide)) ?_
      refine Gb (fun _ => XS.aload X169.here hx rfl (hb hby at_120) rfl rfl) ?_
      obtain ⟨_, T186, L186, Lc186, X186, hF186, hQ186, st186⟩ := own_cv X169 hx hZ hown (wq hw 58 rfl) (wq hw 59 rfl) (wq hw 61 rfl) (wq hw 60 rfl) (wq hw 2 rfl) (wq hw 62 rfl) (rmFirstR l Z az hw [] oD ar kA hs170 τ171 Nn172 Pp173 [la, lb, lc, ld] tk179 T169.heap n0 Z178 R174 I175 (Nat.le_trans le184 (by decide))) (W := 0) (g := (mkF m 122 (sh19 q0 q1 q2 q3 p4 (3 : Int32) rr oD la lb lc ld) [(.ref oD)])) rfl (by rw [hml]; rfl) R174.1 (argsL := []) (rest := []) rfl (lenOf own_pd6 rfl) rfl (hb hby at_122) rfl N185 (c' := 9) (s' := 23)
      obtain ⟨r187, rfl, N186q, e186, mn188⟩ := hQ186
      have N189 := hF186 N186q
      refine Gb st186 ?_
      refine Gb (B := T186.setTop (mkF m 134 (sh19 q0 q1 q2 q3 p4 (3 : Int32) rr oD la lb lc ld) [(.int (-1 : Int32)), (.int (3 : Int32)), (.long q3), (.long q2), (.long q1), (.long q0), (.long r187)])) (fun t k => ?_) ?_
      · refine XS.lloadN X186.here hx rfl (hb hby at_125) rfl ?_
        refine XS.lloadN X186.here hx rfl (hb hby at_126) rfl ?_
        refine XS.lload X186.here hx rfl (hb hby at_127) rfl ?_
        refine XS.lload X186.here hx rfl (hb hby at_129) rfl ?_
        refine XS.iload X186.here hx rfl (hb hby at_131) rfl ?_
        refine XS.iconst X186.here hx rfl (hb hby at_133) ?_
        exact k
      obtain ⟨_, T190, L190, Lc190, X190, hF190, hQ190, st190⟩ := own_cs X186 hx hZ hown (wq hw 63 rfl) (wq hw 64 rfl) (wq hw 65 rfl) (wq hw 66 rfl) (rmMinOf l Z az hw [] q0 q1 q2 q3 (3 : Int32) (-1 : Int32) T169.heap n0 Z178 ) (W := 2) (g := (mkF m 134 (sh19 q0 q1 q2 q3 p4 (3 : Int32) rr oD la lb lc ld) [(.int (-1 : Int32)), (.int (3 : Int32)), (.long q3), (.long q2), (.long q1), (.long q0), (.long r187)])) rfl (by rw [hml]; rfl) (argsL := [(.long q0), (.long q1), (.long q2), (.long q3), (.int (3 : Int32)), (.int (-1 : Int32))]) (rest := [(.long r187)]) rfl (lenOf own_pd7 rfl) rfl (hb hby at_134) e186 N189 (c' := 9) (s' := 23)
      obtain ⟨rfl, N190q, e190⟩ := hQ190
      have N191 := hF190 N190q
      refine Gb st190 ?_
      refine Gb (B := T190.setTop (mkF m 155 (sh21 q0 q1 q2 q3 p4 (3 : Int32) rr oD la lb lc ld (1 : Int32) (-1 : Int32)) [(.int (3 : Int32)), (.int rr)])) (fun t k => ?_) ?_
      · refine XS.lcmp X190.here hx rfl (hb hby at_137) rfl ?_
        refine XS.ifNo X190.here hx rfl (hb hby at_138) rfl ((if0 _ _).trans (teq ((lw_eq r187 (fMO q0 q1 q2 q3 (3 : Int32) (-1 : Int32))).mpr ((own_first mn188 [q0, q1, q2] (fun t => by simp [v180, v181, v182, v183, eq_comm])).trans (own_mo3_0 q0 q1 q2 q3)))).2) ?_
        refine XS.iconst X190.here hx rfl (hb hby at_141) ?_
        refine XS.goto X190.here hx rfl (pc0 := 142) (pc' := 146) rfl (hb hby at_142) (by decide) (by decide) ?_
        refine XS.istore X190.here hx rfl (hb hby at_146) rfl (l' := (sh24 q0 q1 q2 q3 p4 (3 : Int32) rr oD la lb lc ld (1 : Int32))) rfl ?_
        refine XS.iconst X190.here hx rfl (hb hby at_148) ?_
        refine XS.istore X190.here hx rfl (hb hby at_149) rfl (l' := (sh21 q0 q1 q2 q3 p4 (3 : Int32) rr oD la lb lc ld (1 : Int32) (-1 : Int32))) rfl ?_
        refine XS.iload X190.here hx rfl (hb hby at_151) rfl ?_
        refine XS.iload X190.here hx rfl (hb hby at_153) rfl ?_
        exact k
      by_cases hc192 : rr < (3 : Int32)
      · refine Gb (fun _ => XS.icmpNo X190.here hx rfl (hb hby at_155) rfl (tlt hc192).2.1) ?_
        rcases own_rr3 rr (own_r0 _ rr hg_rr) hc192 with rfl | rfl | rfl
        · refine Gb (B := T190.setTop (mkF m 198 (sh23 q0 q1 q2 q3 p4 (3 : Int32) (0 : Int32) oD la lb lc ld (1 : Int32) (-1 : Int32) la) [(.ref la), (.ref oD)])) (fun t k => ?_) ?_
          · refine XS.iload X190.here hx rfl (hb hby at_158) rfl ?_
            refine XS.ifNo X190.here hx rfl (hb hby at_160) rfl ((if0 _ _).trans (teq (by decide : (0 : Int32) = (0 : Int32))).2) ?_
            refine XS.aload X190.here hx rfl (hb hby at_163) rfl rfl ?_
            refine XS.goto X190.here hx rfl (pc0 := 165) (pc' := 192) rfl (hb hby at_165) (by decide) (by decide) ?_
            refine XS.astore X190.here hx rfl (hb hby at_192) rfl rfl (l' := (sh23 q0 q1 q2 q3 p4 (3 : Int32) (0 : Int32) oD la lb lc ld (1 : Int32) (-1 : Int32) la)) rfl ?_
            refine XS.aload X190.here hx rfl (hb hby at_194) rfl rfl ?_
            refine XS.aload X190.here hx rfl (hb hby at_196) rfl rfl ?_
            exact k
          obtain ⟨_, T193, L193, Lc193, X193, hF193, hQ193, st193⟩ := own_cv X190 hx hZ hown (wq hw 72 rfl) (wq hw 73 rfl) (wq hw 75 rfl) (wq hw 74 rfl) (wq hw 2 rfl) (wq hw 76 rfl) (rmRemR l Z az hw [] oD la q0 ar kA hs170 τ171 Nn172 Pp173 [la, lb, lc, ld] tk179 T169.heap n0 Z178 R174 I175 (by simp) v180 (Nat.le_trans le184 (by decide))) (W := 0) (g := (mkF m 198 (sh23 q0 q1 q2 q3 p4 (3 : Int32) (0 : Int32) oD la lb lc ld (1 : Int32) (-1 : Int32) la) [(.ref la), (.ref oD)])) rfl (by rw [hml]; rfl) R174.1 (argsL := [(.ref la)]) (rest := []) rfl (lenOf own_pd9 rfl) rfl (hb hby at_198) e190 N191 (c' := 9) (s' := 23)
          obtain ⟨hs194, τ195, Nn196, Pp197, rfl, N193q, zq200, R198, I199, lq201⟩ := hQ193
          have Z202 := Nat.le_trans Z178 zq200
          obtain ⟨tk203, etk203⟩ : ∃ z, z = upd tk179 la none := ⟨_, rfl⟩
          rw [← etk203] at I199
          have v204 : tk203 la = none := by rw [etk203]; exact upd_at _ _ _
          have v205 : tk203 lb = (some q1) := by rw [etk203, upd_ne _ _ (Ne.symm nt01)]; exact v181
          have v206 : tk203 lc = (some q2) := by rw [etk203, upd_ne _ _ (Ne.symm nt02)]; exact v182
          have v207 : tk203 ld = none := by rw [etk203, upd_ne _ _ (Ne.symm nt03)]; exact v183
          have le208 : hs194.length ≤ 3 := Nat.le_trans lq201 le184
          have N209 := hF193 N193q
          refine Gb st193 ?_
          refine Gb (fun _ => XS.iload X193.here hx rfl (hb hby at_201) rfl) ?_
          refine Gb (fun _ => XS.istore X193.here hx rfl (hb hby at_203) rfl (l' := (sh23 q0 q1 q2 q3 p4 (3 : Int32) (0 : Int32) oD la lb lc ld (1 : Int32) (0 : Int32) la)) rfl) ?_
          exact tl205 _ _ _ _ _ _ _ _ _ _ _ (own_more X193 (by decide) (by decide)) N209 Z202 R198 I199 (Nat.le_trans le208 (by decide)) (Or.inr ⟨_, rfl⟩) (fun r hr => (own_first hr [q1, q2] (fun t => by simp [v204, v205, v206, v207, eq_comm])).trans (own_mo3_1 q0 q1 q2 q3))
        · refine Gb (B := T190.setTop (mkF m 198 (sh23 q0 q1 q2 q3 p4 (3 : Int32) (1 : Int32) oD la lb lc ld (1 : Int32) (-1 : Int32) lb) [(.ref lb), (.ref oD)])) (fun t k => ?_) ?_
          · refine XS.iload X190.here hx rfl (hb hby at_158) rfl ?_
            refine XS.ifYes X190.here hx rfl (pc0 := 160) (pc' := 168) rfl (hb hby at_160) rfl ((if0 _ _).trans (feq (by decide : ¬ ((1 : Int32) = (0 : Int32)))).2) (by decide) (by decide) ?_
            refine XS.iload X190.here hx rfl (hb hby at_168) rfl ?_
            refine XS.iconst X190.here hx rfl (hb hby at_170) ?_
            refine XS.icmpNo X190.here hx rfl (hb hby at_171) rfl (teq (by decide : (1 : Int32) = (1 : Int32))).2 ?_
            refine XS.aload X190.here hx rfl (hb hby at_174) rfl rfl ?_
            refine XS.goto X190.here hx rfl (pc0 := 176) (pc' := 192) rfl (hb hby at_176) (by decide) (by decide) ?_
            refine XS.astore X190.here hx rfl (hb hby at_192) rfl rfl (l' := (sh23 q0 q1 q2 q3 p4 (3 : Int32) (1 : Int32) oD la lb lc ld (1 : Int32) (-1 : Int32) lb)) rfl ?_
            refine XS.aload X190.here hx rfl (hb hby at_194) rfl rfl ?_
            refine XS.aload X190.here hx rfl (hb hby at_196) rfl rfl ?_
            exact k
          obtain ⟨_, T210, L210, Lc210, X210, hF210, hQ210, st210⟩ := own_cv X190 hx hZ hown (wq hw 72 rfl) (wq hw 73 rfl) (wq hw 75 rfl) (wq hw 74 rfl) (wq hw 2 rfl) (wq hw 76 rfl) (rmRemR l Z az hw [] oD lb q1 ar kA hs170 τ171 Nn172 Pp173 [la, lb, lc, ld] tk179 T169.heap n0 Z178 R174 I175 (by simp) v181 (Nat.le_trans le184 (by decide))) (W := 0) (g := (mkF m 198 (sh23 q0 q1 q2 q3 p4 (3 : Int32) (1 : Int32) oD la lb lc ld (1 : Int32) (-1 : Int32) lb) [(.ref lb), (.ref oD)])) rfl (by rw [hml]; rfl) R174.1 (argsL := [(.ref lb)]) (rest := []) rfl (lenOf own_pd9 rfl) rfl (hb hby at_198) e190 N191 (c' := 9) (s' := 23)
          obtain ⟨hs211, τ212, Nn213, Pp214, rfl, N210q, zq217, R215, I216, lq218⟩ := hQ210
          have Z219 := Nat.le_trans Z178 zq217
          obtain ⟨tk220, etk220⟩ : ∃ z, z = upd tk179 lb none := ⟨_, rfl⟩
          rw [← etk220] at I216
          have v221 : tk220 la = (some q0) := by rw [etk220, upd_ne _ _ nt01]; exact v180
          have v222 : tk220 lb = none := by rw [etk220]; exact upd_at _ _ _
          have v223 : tk220 lc = (some q2) := by rw [etk220, upd_ne _ _ (Ne.symm nt12)]; exact v182
          have v224 : tk220 ld = none := by rw [etk220, upd_ne _ _ (Ne.symm nt13)]; exact v183
          have le225 : hs211.length ≤ 3 := Nat.le_trans lq218 le184
          have N226 := hF210 N210q
          refine Gb st210 ?_
          refine Gb (fun _ => XS.iload X210.here hx rfl (hb hby at_201) rfl) ?_
          refine Gb (fun _ => XS.istore X210.here hx rfl (hb hby at_203) rfl (l' := (sh23 q0 q1 q2 q3 p4 (3 : Int32) (1 : Int32) oD la lb lc ld (1 : Int32) (1 : Int32) lb)) rfl) ?_
          exact tl205 _ _ _ _ _ _ _ _ _ _ _ (own_more X210 (by decide) (by decide)) N226 Z219 R215 I216 (Nat.le_trans le225 (by decide)) (Or.inr ⟨_, rfl⟩) (fun r hr => (own_first hr [q0, q2] (fun t => by simp [v221, v222, v223, v224, eq_comm])).trans (own_mo3_2 q0 q1 q2 q3))
        · refine Gb (B := T190.setTop (mkF m 198 (sh23 q0 q1 q2 q3 p4 (3 : Int32) (2 : Int32) oD la lb lc ld (1 : Int32) (-1 : Int32) lc) [(.ref lc), (.ref oD)])) (fun t k => ?_) ?_
          · refine XS.iload X190.here hx rfl (hb hby at_158) rfl ?_
            refine XS.ifYes X190.here hx rfl (pc0 := 160) (pc' := 168) rfl (hb hby at_160) rfl ((if0 _ _).trans (feq (by decide : ¬ ((2 : Int32) = (0 : Int32)))).2) (by decide) (by decide) ?_
            refine XS.iload X190.here hx rfl (hb hby at_168) rfl ?_
            refine XS.iconst X190.here hx rfl (hb hby at_170) ?_
            refine XS.icmpYes X190.here hx rfl (pc0 := 171) (pc' := 179) rfl (hb hby at_171) rfl (feq (by decide : ¬ ((2 : Int32) = (1 : Int32)))).2 (by decide) (by decide) ?_
            refine XS.iload X190.here hx rfl (hb hby at_179) rfl ?_
            refine XS.iconst X190.here hx rfl (hb hby at_181) ?_
            refine XS.icmpNo X190.here hx rfl (hb hby at_182) rfl (teq (by decide : (2 : Int32) = (2 : Int32))).2 ?_
            refine XS.aload X190.here hx rfl (hb hby at_185) rfl rfl ?_
            refine XS.goto X190.here hx rfl (pc0 := 187) (pc' := 192) rfl (hb hby at_187) (by decide) (by decide) ?_
            refine XS.astore X190.here hx rfl (hb hby at_192) rfl rfl (l' := (sh23 q0 q1 q2 q3 p4 (3 : Int32) (2 : Int32) oD la lb lc ld (1 : Int32) (-1 : Int32) lc)) rfl ?_
            refine XS.aload X190.here hx rfl (hb hby at_194) rfl rfl ?_
            refine XS.aload X190.here hx rfl (hb hby at_196) rfl rfl ?_
            exact k
          obtain ⟨_, T227, L227, Lc227, X227, hF227, hQ227, st227⟩ := own_cv X190 hx hZ hown (wq hw 72 rfl) (wq hw 73 rfl) (wq hw 75 rfl) (wq hw 74 rfl) (wq hw 2 rfl) (wq hw 76 rfl) (rmRemR l Z az hw [] oD lc q2 ar kA hs170 τ171 Nn172 Pp173 [la, lb, lc, ld] tk179 T169.heap n0 Z178 R174 I175 (by simp) v182 (Nat.le_trans le184 (by decide))) (W := 0) (g := (mkF m 198 (sh23 q0 q1 q2 q3 p4 (3 : Int32) (2 : Int32) oD la lb lc ld (1 : Int32) (-1 : Int32) lc) [(.ref lc), (.ref oD)])) rfl (by rw [hml]; rfl) R174.1 (argsL := [(.ref lc)]) (rest := []) rfl (lenOf own_pd9 rfl) rfl (hb hby at_198) e190 N191 (c' := 9) (s' := 23)
          obtain ⟨hs228, τ229, Nn230, Pp231, rfl, N227q, zq234, R232, I233, lq235⟩ := hQ227
          have Z236 := Nat.le_trans Z178 zq234
          obtain ⟨tk237, etk237⟩ : ∃ z, z = upd tk179 lc none := ⟨_, rfl⟩
          rw [← etk237] at I233
          have v238 : tk237 la = (some q0) := by rw [etk237, upd_ne _ _ nt02]; exact v180
          have v239 : tk237 lb = (some q1) := by rw [etk237, upd_ne _ _ nt12]; exact v181
          have v240 : tk237 lc = none := by rw [etk237]; exact upd_at _ _ _
          have v241 : tk237 ld = none := by rw [etk237, upd_ne _ _ (Ne.symm nt23)]; exact v183
          have le242 : hs228.length ≤ 3 := Nat.le_trans lq235 le184
          have N243 := hF227 N227q
          refine Gb st227 ?_
          refine Gb (fun _ => XS.iload X227.here hx rfl (hb hby at_201) rfl) ?_
          refine Gb (fun _ => XS.istore X227.here hx rfl (hb hby at_203) rfl (l' := (sh23 q0 q1 q2 q3 p4 (3 : Int32) (2 : Int32) oD la lb lc ld (1 : Int32) (2 : Int32) lc)) rfl) ?_
          exact tl205 _ _ _ _ _ _ _ _ _ _ _ (own_more X227 (by decide) (by decide)) N243 Z236 R232 I233 (Nat.le_trans le242 (by decide)) (Or.inr ⟨_, rfl⟩) (fun r hr => (own_first hr [q0, q1] (fun t => by simp [v238, v239, v240, v241, eq_comm])).trans (own_mo3_3 q0 q1 q2 q3))
      · refine Gb (fun _ => XS.icmpYes X190.here hx rfl (pc0 := 155) (pc' := 205) rfl (hb hby at_155) rfl (flt hc192).2.1 (by decide) (by decide)) ?_
        exact tl205 _ _ _ _ _ _ _ _ _ _ _ (own_more X190 (by decide) (by decide)) N191 (by rw [e190]; exact Z178) (by rw [e190]; exact R174) I175 (Nat.le_trans le184 (by decide)) (Or.inl rfl) (fun r hr => (own_first hr [q0, q1, q2] (fun t => by simp [v180, v181, v182, v183, eq_comm])).trans (own_mo3_0 q0 q1 q2 q3))
    · refine Gb (B := T.setTop (mkF m 73 (sh19 q0 q1 q2 q3 p4 (4 : Int32) rr oD la lb lc ld) [(.long q0), (.ref la), (.ref oD)])) (fun t k => ?_) ?_
      · refine XS.iload XT.here hx rfl (hb hby at_63) rfl ?_
        refine XS.ifNo XT.here hx rfl (hb hby at_65) rfl ((if0 _ _).trans (tlt (by decide : (0 : Int32) < (4 : Int32))).2.2.2) ?_
        refine XS.aload XT.here hx rfl (hb hby at_68) rfl rfl ?_
        refine XS.aload XT.here hx rfl (hb hby at_70) rfl rfl ?_
        refine XS.lloadN XT.here hx rfl (hb hby at_72) rfl ?_
        exact k
      obtain ⟨_, T244, L244, Lc244, X244, hF244, hQ244, st244⟩ := own_cv XT hx hZ hown (wq hw 20 rfl) (wq hw 21 rfl) (wq hw 23 rfl) (wq hw 22 rfl) (wq hw 2 rfl) (wq hw 24 rfl) (rmFileR l Z az hw [] oD la q0 ar kA [] (fun _ => 0) (fun _ => .null) (fun _ => .null) [la, lb, lc, ld] tk T.heap n0 ZT RT IT (by simp) vt0 (Nat.le_trans LT (by decide))) (W := 0) (g := (mkF m 73 (sh19 q0 q1 q2 q3 p4 (4 : Int32) rr oD la lb lc ld) [(.long q0), (.ref la), (.ref oD)])) rfl (by rw [hml]; rfl) RT.1 (argsL := [(.ref la), (.long q0)]) (rest := []) rfl (lenOf own_pd8 rfl) rfl (hb hby at_73) rfl NT (c' := 7) (s' := 17)
      obtain ⟨hs245, τ246, Nn247, Pp248, rfl, N244q, zq251, R249, I250, lq252⟩ := hQ244
      have Z253 := Nat.le_trans ZT zq251
      obtain ⟨tk254, etk254⟩ : ∃ z, z = upd tk la (some q0) := ⟨_, rfl⟩
      rw [← etk254] at I250
      have v255 : tk254 la = (some q0) := by rw [etk254]; exact upd_at _ _ _
      have v256 : tk254 lb = none := by rw [etk254, upd_ne _ _ (Ne.symm nt01)]; exact vt1
      have v257 : tk254 lc = none := by rw [etk254, upd_ne _ _ (Ne.symm nt02)]; exact vt2
      have v258 : tk254 ld = none := by rw [etk254, upd_ne _ _ (Ne.symm nt03)]; exact vt3
      have le259 : hs245.length ≤ 1 := Nat.le_trans lq252 (Nat.succ_le_succ LT)
      have N260 := hF244 N244q
      refine Gb st244 ?_
      refine Gb (B := T244.setTop (mkF m 87 (sh19 q0 q1 q2 q3 p4 (4 : Int32) rr oD la lb lc ld) [(.long q1), (.ref lb), (.ref oD)])) (fun t k => ?_) ?_
      · refine XS.iload X244.here hx rfl (hb hby at_76) rfl ?_
        refine XS.iconst X244.here hx rfl (hb hby at_78) ?_
        refine XS.icmpNo X244.here hx rfl (hb hby at_79) rfl (tlt (by decide : (1 : Int32) < (4 : Int32))).2.2.2 ?_
        refine XS.aload X244.here hx rfl (hb hby at_82) rfl rfl ?_
        refine XS.aload X244.here hx rfl (hb hby at_84) rfl rfl ?_
        refine XS.lloadN X244.here hx rfl (hb hby at_86) rfl ?_
        exact k
      obtain ⟨_, T261, L261, Lc261, X261, hF261, hQ261, st261⟩ := own_cv X244 hx hZ hown (wq hw 20 rfl) (wq hw 21 rfl) (wq hw 23 rfl) (wq hw 22 rfl) (wq hw 2 rfl) (wq hw 24 rfl) (rmFileR l Z az hw [] oD lb q1 ar kA hs245 τ246 Nn247 Pp248 [la, lb, lc, ld] tk254 T244.heap n0 Z253 R249 I250 (by simp) v256 (Nat.le_trans le259 (by decide))) (W := 0) (g := (mkF m 87 (sh19 q0 q1 q2 q3 p4 (4 : Int32) rr oD la lb lc ld) [(.long q1), (.ref lb), (.ref oD)])) rfl (by rw [hml]; rfl) R249.1 (argsL := [(.ref lb), (.long q1)]) (rest := []) rfl (lenOf own_pd8 rfl) rfl (hb hby at_87) rfl N260 (c' := 8) (s' := 20)
      obtain ⟨hs262, τ263, Nn264, Pp265, rfl, N261q, zq268, R266, I267, lq269⟩ := hQ261
      have Z270 := Nat.le_trans Z253 zq268
      obtain ⟨tk271, etk271⟩ : ∃ z, z = upd tk254 lb (some q1) := ⟨_, rfl⟩
      rw [← etk271] at I267
      have v272 : tk271 la = (some q0) := by rw [etk271, upd_ne _ _ nt01]; exact v255
      have v273 : tk271 lb = (some q1) := by rw [etk271]; exact upd_at _ _ _
      have v274 : tk271 lc = none := by rw [etk271, upd_ne _ _ (Ne.symm nt12)]; exact v257
      have v275 : tk271 ld = none := by rw [etk271, upd_ne _ _ (Ne.symm nt13)]; exact v258
      have le276 : hs262.length ≤ 2 := Nat.le_trans lq269 (Nat.succ_le_succ le259)
      have N277 := hF261 N261q
      refine Gb st261 ?_
      refine Gb (B := T261.setTop (mkF m 102 (sh19 q0 q1 q2 q3 p4 (4 : Int32) rr oD la lb lc ld) [(.long q2), (.ref lc), (.ref oD)])) (fun t k => ?_) ?_
      · refine XS.iload X261.here hx rfl (hb hby at_90) rfl ?_
        refine XS.iconst X261.here hx rfl (hb hby at_92) ?_
        refine XS.icmpNo X261.here hx rfl (hb hby at_93) rfl (tlt (by decide : (2 : Int32) < (4 : Int32))).2.2.2 ?_
        refine XS.aload X261.here hx rfl (hb hby at_96) rfl rfl ?_
        refine XS.aload X261.here hx rfl (hb hby at_98) rfl rfl ?_
        refine XS.lload X261.here hx rfl (hb hby at_100) rfl ?_
        exact k
      obtain ⟨_, T278, L278, Lc278, X278, hF278, hQ278, st278⟩ := own_cv X261 hx hZ hown (wq hw 20 rfl) (wq hw 21 rfl) (wq hw 23 rfl) (wq hw 22 rfl) (wq hw 2 rfl) (wq hw 24 rfl) (rmFileR l Z az hw [] oD lc q2 ar kA hs262 τ263 Nn264 Pp265 [la, lb, lc, ld] tk271 T261.heap n0 Z270 R266 I267 (by simp) v274 (Nat.le_trans le276 (by decide))) (W := 0) (g := (mkF m 102 (sh19 q0 q1 q2 q3 p4 (4 : Int32) rr oD la lb lc ld) [(.long q2), (.ref lc), (.ref oD)])) rfl (by rw [hml]; rfl) R266.1 (argsL := [(.ref lc), (.long q2)]) (rest := []) rfl (lenOf own_pd8 rfl) rfl (hb hby at_102) rfl N277 (c' := 9) (s' := 23)
      obtain ⟨hs279, τ280, Nn281, Pp282, rfl, N278q, zq285, R283, I284, lq286⟩ := hQ278
      have Z287 := Nat.le_trans Z270 zq285
      obtain ⟨tk288, etk288⟩ : ∃ z, z = upd tk271 lc (some q2) := ⟨_, rfl⟩
      rw [← etk288] at I284
      have v289 : tk288 la = (some q0) := by rw [etk288, upd_ne _ _ nt02]; exact v272
      have v290 : tk288 lb = (some q1) := by rw [etk288, upd_ne _ _ nt12]; exact v273
      have v291 : tk288 lc = (some q2) := by rw [etk288]; exact upd_at _ _ _
      have v292 : tk288 ld = none := by rw [etk288, upd_ne _ _ (Ne.symm nt23)]; exact v275
      have le293 : hs279.length ≤ 3 := Nat.le_trans lq286 (Nat.succ_le_succ le276)
      have N294 := hF278 N278q
      refine Gb st278 ?_
      refine Gb (B := T278.setTop (mkF m 117 (sh19 q0 q1 q2 q3 p4 (4 : Int32) rr oD la lb lc ld) [(.long q3), (.ref ld), (.ref oD)])) (fun t k => ?_) ?_
      · refine XS.iload X278.here hx rfl (hb hby at_105) rfl ?_
        refine XS.iconst X278.here hx rfl (hb hby at_107) ?_
        refine XS.icmpNo X278.here hx rfl (hb hby at_108) rfl (tlt (by decide : (3 : Int32) < (4 : Int32))).2.2.2 ?_
        refine XS.aload X278.here hx rfl (hb hby at_111) rfl rfl ?_
        refine XS.aload X278.here hx rfl (hb hby at_113) rfl rfl ?_
        refine XS.lload X278.here hx rfl (hb hby at_115) rfl ?_
        exact k
      obtain ⟨_, T295, L295, Lc295, X295, hF295, hQ295, st295⟩ := own_cv X278 hx hZ hown (wq hw 20 rfl) (wq hw 21 rfl) (wq hw 23 rfl) (wq hw 22 rfl) (wq hw 2 rfl) (wq hw 24 rfl) (rmFileR l Z az hw [] oD ld q3 ar kA hs279 τ280 Nn281 Pp282 [la, lb, lc, ld] tk288 T278.heap n0 Z287 R283 I284 (by simp) v292 (Nat.le_trans le293 (by decide))) (W := 0) (g := (mkF m 117 (sh19 q0 q1 q2 q3 p4 (4 : Int32) rr oD la lb lc ld) [(.long q3), (.ref ld), (.ref oD)])) rfl (by rw [hml]; rfl) R283.1 (argsL := [(.ref ld), (.long q3)]) (rest := []) rfl (lenOf own_pd8 rfl) rfl (hb hby at_117) rfl N294 (c' := 10) (s' := 26)
      obtain ⟨hs296, τ297, Nn298, Pp299, rfl, N295q, zq302, R300, I301, lq303⟩ := hQ295
      have Z304 := Nat.le_trans Z287 zq302
      obtain ⟨tk305, etk305⟩ : ∃ z, z = upd tk288 ld (some q3) := ⟨_, rfl⟩
      rw [← etk305] at I301
      have v306 : tk305 la = (some q0) := by rw [etk305, upd_ne _ _ nt03]; exact v289
      have v307 : tk305 lb = (some q1) := by rw [etk305, upd_ne _ _ nt13]; exact v290
      have v308 : tk305 lc = (some q2) := by rw [etk305, upd_ne _ _ nt23]; exact v291
      have v309 : tk305 ld = (some q3) := by rw [etk305]; exact upd_at _ _ _
      have le310 : hs296.length ≤ 4 := Nat.le_trans lq303 (Nat.succ_le_succ le293)
      have N311 := hF295 N295q
      refine Gb st295 ?_
      refine Gb (fun _ => XS.aload X295.here hx rfl (hb hby at_120) rfl rfl) ?_
      obtain ⟨_, T312, L312, Lc312, X312, hF312, hQ312, st312⟩ := own_cv X295 hx hZ hown (wq hw 58 rfl) (wq hw 59 rfl) (wq hw 61 rfl) (wq hw 60 rfl) (wq hw 2 rfl) (wq hw 62 rfl) (rmFirstR l Z az hw [] oD ar kA hs296 τ297 Nn298 Pp299 [la, lb, lc, ld] tk305 T295.heap n0 Z304 R300 I301 (Nat.le_trans le310 (by decide))) (W := 0) (g := (mkF m 122 (sh19 q0 q1 q2 q3 p4 (4 : Int32) rr oD la lb lc ld) [(.ref oD)])) rfl (by rw [hml]; rfl) R300.1 (argsL := []) (rest := []) rfl (lenOf own_pd6 rfl) rfl (hb hby at_122) rfl N311 (c' := 10) (s' := 26)
      obtain ⟨r313, rfl, N312q, e312, mn314⟩ := hQ312
      have N315 := hF312 N312q
      refine Gb st312 ?_
      refine Gb (B := T312.setTop (mkF m 134 (sh19 q0 q1 q2 q3 p4 (4 : Int32) rr oD la lb lc ld) [(.int (-1 : Int32)), (.int (4 : Int32)), (.long q3), (.long q2), (.long q1), (.long q0), (.long r313)])) (fun t k => ?_) ?_
      · refine XS.lloadN X312.here hx rfl (hb hby at_125) rfl ?_
        refine XS.lloadN X312.here hx rfl (hb hby at_126) rfl ?_
        refine XS.lload X312.here hx rfl (hb hby at_127) rfl ?_
        refine XS.lload X312.here hx rfl (hb hby at_129) rfl ?_
        refine XS.iload X312.here hx rfl (hb hby at_131) rfl ?_
        refine XS.iconst X312.here hx rfl (hb hby at_133) ?_
        exact k
      obtain ⟨_, T316, L316, Lc316, X316, hF316, hQ316, st316⟩ := own_cs X312 hx hZ hown (wq hw 63 rfl) (wq hw 64 rfl) (wq hw 65 rfl) (wq hw 66 rfl) (rmMinOf l Z az hw [] q0 q1 q2 q3 (4 : Int32) (-1 : Int32) T295.heap n0 Z304 ) (W := 2) (g := (mkF m 134 (sh19 q0 q1 q2 q3 p4 (4 : Int32) rr oD la lb lc ld) [(.int (-1 : Int32)), (.int (4 : Int32)), (.long q3), (.long q2), (.long q1), (.long q0), (.long r313)])) rfl (by rw [hml]; rfl) (argsL := [(.long q0), (.long q1), (.long q2), (.long q3), (.int (4 : Int32)), (.int (-1 : Int32))]) (rest := [(.long r313)]) rfl (lenOf own_pd7 rfl) rfl (hb hby at_134) e312 N315 (c' := 10) (s' := 26)
      obtain ⟨rfl, N316q, e316⟩ := hQ316
      have N317 := hF316 N316q
      refine Gb st316 ?_
      refine Gb (B := T316.setTop (mkF m 155 (sh21 q0 q1 q2 q3 p4 (4 : Int32) rr oD la lb lc ld (1 : Int32) (-1 : Int32)) [(.int (4 : Int32)), (.int rr)])) (fun t k => ?_) ?_
      · refine XS.lcmp X316.here hx rfl (hb hby at_137) rfl ?_
        refine XS.ifNo X316.here hx rfl (hb hby at_138) rfl ((if0 _ _).trans (teq ((lw_eq r313 (fMO q0 q1 q2 q3 (4 : Int32) (-1 : Int32))).mpr ((own_first mn314 [q0, q1, q2, q3] (fun t => by simp [v306, v307, v308, v309, eq_comm])).trans (own_mo4_0 q0 q1 q2 q3)))).2) ?_
        refine XS.iconst X316.here hx rfl (hb hby at_141) ?_
        refine XS.goto X316.here hx rfl (pc0 := 142) (pc' := 146) rfl (hb hby at_142) (by decide) (by decide) ?_
        refine XS.istore X316.here hx rfl (hb hby at_146) rfl (l' := (sh24 q0 q1 q2 q3 p4 (4 : Int32) rr oD la lb lc ld (1 : Int32))) rfl ?_
        refine XS.iconst X316.here hx rfl (hb hby at_148) ?_
        refine XS.istore X316.here hx rfl (hb hby at_149) rfl (l' := (sh21 q0 q1 q2 q3 p4 (4 : Int32) rr oD la lb lc ld (1 : Int32) (-1 : Int32))) rfl ?_
        refine XS.iload X316.here hx rfl (hb hby at_151) rfl ?_
        refine XS.iload X316.here hx rfl (hb hby at_153) rfl ?_
        exact k
      by_cases hc318 : rr < (4 : Int32)
      · refine Gb (fun _ => XS.icmpNo X316.here hx rfl (hb hby at_155) rfl (tlt hc318).2.1) ?_
        rcases own_rr4 rr (own_r0 _ rr hg_rr) hc318 with rfl | rfl | rfl | rfl
        · refine Gb (B := T316.setTop (mkF m 198 (sh23 q0 q1 q2 q3 p4 (4 : Int32) (0 : Int32) oD la lb lc ld (1 : Int32) (-1 : Int32) la) [(.ref la), (.ref oD)])) (fun t k => ?_) ?_
          · refine XS.iload X316.here hx rfl (hb hby at_158) rfl ?_
            refine XS.ifNo X316.here hx rfl (hb hby at_160) rfl ((if0 _ _).trans (teq (by decide : (0 : Int32) = (0 : Int32))).2) ?_
            refine XS.aload X316.here hx rfl (hb hby at_163) rfl rfl ?_
            refine XS.goto X316.here hx rfl (pc0 := 165) (pc' := 192) rfl (hb hby at_165) (by decide) (by decide) ?_
            refine XS.astore X316.here hx rfl (hb hby at_192) rfl rfl (l' := (sh23 q0 q1 q2 q3 p4 (4 : Int32) (0 : Int32) oD la lb lc ld (1 : Int32) (-1 : Int32) la)) rfl ?_
            refine XS.aload X316.here hx rfl (hb hby at_194) rfl rfl ?_
            refine XS.aload X316.here hx rfl (hb hby at_196) rfl rfl ?_
            exact k
          obtain ⟨_, T319, L319, Lc319, X319, hF319, hQ319, st319⟩ := own_cv X316 hx hZ hown (wq hw 72 rfl) (wq hw 73 rfl) (wq hw 75 rfl) (wq hw 74 rfl) (wq hw 2 rfl) (wq hw 76 rfl) (rmRemR l Z az hw [] oD la q0 ar kA hs296 τ297 Nn298 Pp299 [la, lb, lc, ld] tk305 T295.heap n0 Z304 R300 I301 (by simp) v306 (Nat.le_trans le310 (by decide))) (W := 0) (g := (mkF m 198 (sh23 q0 q1 q2 q3 p4 (4 : Int32) (0 : Int32) oD la lb lc ld (1 : Int32) (-1 : Int32) la) [(.ref la), (.ref oD)])) rfl (by rw [hml]; rfl) R300.1 (argsL := [(.ref la)]) (rest := []) rfl (lenOf own_pd9 rfl) rfl (hb hby at_198) e316 N317 (c' := 10) (s' := 26)
          obtain ⟨hs320, τ321, Nn322, Pp323, rfl, N319q, zq326, R324, I325, lq327⟩ := hQ319
          have Z328 := Nat.le_trans Z304 zq326
          obtain ⟨tk329, etk329⟩ : ∃ z, z = upd tk305 la none := ⟨_, rfl⟩
          rw [← etk329] at I325
          have v330 : tk329 la = none := by rw [etk329]; exact upd_at _ _ _
          have v331 : tk329 lb = (some q1) := by rw [etk329, upd_ne _ _ (Ne.symm nt01)]; exact v307
          have v332 : tk329 lc = (some q2) := by rw [etk329, upd_ne _ _ (Ne.symm nt02)]; exact v308
          have v333 : tk329 ld = (some q3) := by rw [etk329, upd_ne _ _ (Ne.symm nt03)]; exact v309
          have le334 : hs320.length ≤ 4 := Nat.le_trans lq327 le310
          have N335 := hF319 N319q
          refine Gb st319 ?_
          refine Gb (fun _ => XS.iload X319.here hx rfl (hb hby at_201) rfl) ?_
          refine Gb (fun _ => XS.istore X319.here hx rfl (hb hby at_203) rfl (l' := (sh23 q0 q1 q2 q3 p4 (4 : Int32) (0 : Int32) oD la lb lc ld (1 : Int32) (0 : Int32) la)) rfl) ?_
          exact tl205 _ _ _ _ _ _ _ _ _ _ _ (own_more X319 (by decide) (by decide)) N335 Z328 R324 I325 (Nat.le_trans le334 (by decide)) (Or.inr ⟨_, rfl⟩) (fun r hr => (own_first hr [q1, q2, q3] (fun t => by simp [v330, v331, v332, v333, eq_comm])).trans (own_mo4_1 q0 q1 q2 q3))
        · refine Gb (B := T316.setTop (mkF m 198 (sh23 q0 q1 q2 q3 p4 (4 : Int32) (1 : Int32) oD la lb lc ld (1 : Int32) (-1 : Int32) lb) [(.ref lb), (.ref oD)])) (fun t k => ?_) ?_
          · refine XS.iload X316.here hx rfl (hb hby at_158) rfl ?_
            refine XS.ifYes X316.here hx rfl (pc0 := 160) (pc' := 168) rfl (hb hby at_160) rfl ((if0 _ _).trans (feq (by decide : ¬ ((1 : Int32) = (0 : Int32)))).2) (by decide) (by decide) ?_
            refine XS.iload X316.here hx rfl (hb hby at_168) rfl ?_
            refine XS.iconst X316.here hx rfl (hb hby at_170) ?_
            refine XS.icmpNo X316.here hx rfl (hb hby at_171) rfl (teq (by decide : (1 : Int32) = (1 : Int32))).2 ?_
            refine XS.aload X316.here hx rfl (hb hby at_174) rfl rfl ?_
            refine XS.goto X316.here hx rfl (pc0 := 176) (pc' := 192) rfl (hb hby at_176) (by decide) (by decide) ?_
            refine XS.astore X316.here hx rfl (hb hby at_192) rfl rfl (l' := (sh23 q0 q1 q2 q3 p4 (4 : Int32) (1 : Int32) oD la lb lc ld (1 : Int32) (-1 : Int32) lb)) rfl ?_
            refine XS.aload X316.here hx rfl (hb hby at_194) rfl rfl ?_
            refine XS.aload X316.here hx rfl (hb hby at_196) rfl rfl ?_
            exact k
          obtain ⟨_, T336, L336, Lc336, X336, hF336, hQ336, st336⟩ := own_cv X316 hx hZ hown (wq hw 72 rfl) (wq hw 73 rfl) (wq hw 75 rfl) (wq hw 74 rfl) (wq hw 2 rfl) (wq hw 76 rfl) (rmRemR l Z az hw [] oD lb q1 ar kA hs296 τ297 Nn298 Pp299 [la, lb, lc, ld] tk305 T295.heap n0 Z304 R300 I301 (by simp) v307 (Nat.le_trans le310 (by decide))) (W := 0) (g := (mkF m 198 (sh23 q0 q1 q2 q3 p4 (4 : Int32) (1 : Int32) oD la lb lc ld (1 : Int32) (-1 : Int32) lb) [(.ref lb), (.ref oD)])) rfl (by rw [hml]; rfl) R300.1 (argsL := [(.ref lb)]) (rest := []) rfl (lenOf own_pd9 rfl) rfl (hb hby at_198) e316 N317 (c' := 10) (s' := 26)
          obtain ⟨hs337, τ338, Nn339, Pp340, rfl, N336q, zq343, R341, I342, lq344⟩ := hQ336
          have Z345 := Nat.le_trans Z304 zq343
          obtain ⟨tk346, etk346⟩ : ∃ z, z = upd tk305 lb none := ⟨_, rfl⟩
          rw [← etk346] at I342
          have v347 : tk346 la = (some q0) := by rw [etk346, upd_ne _ _ nt01]; exact v306
          have v348 : tk346 lb = none := by rw [etk346]; exact upd_at _ _ _
          have v349 : tk346 lc = (some q2) := by rw [etk346, upd_ne _ _ (Ne.symm nt12)]; exact v308
          have v350 : tk346 ld = (some q3) := by rw [etk346, upd_ne _ _ (Ne.symm nt13)]; exact v309
          have le351 : hs337.length ≤ 4 := Nat.le_trans lq344 le310
          have N352 := hF336 N336q
          refine Gb st336 ?_
          refine Gb (fun _ => XS.iload X336.here hx rfl (hb hby at_201) rfl) ?_
          refine Gb (fun _ => XS.istore X336.here hx rfl (hb hby at_203) rfl (l' := (sh23 q0 q1 q2 q3 p4 (4 : Int32) (1 : Int32) oD la lb lc ld (1 : Int32) (1 : Int32) lb)) rfl) ?_
          exact tl205 _ _ _ _ _ _ _ _ _ _ _ (own_more X336 (by decide) (by decide)) N352 Z345 R341 I342 (Nat.le_trans le351 (by decide)) (Or.inr ⟨_, rfl⟩) (fun r hr => (own_first hr [q0, q2, q3] (fun t => by simp [v347, v348, v349, v350, eq_comm])).trans (own_mo4_2 q0 q1 q2 q3))
        · refine Gb (B := T316.setTop (mkF m 198 (sh23 q0 q1 q2 q3 p4 (4 : Int32) (2 : Int32) oD la lb lc ld (1 : Int32) (-1 : Int32) lc) [(.ref lc), (.ref oD)])) (fun t k => ?_) ?_
          · refine XS.iload X316.here hx rfl (hb hby at_158) rfl ?_
            refine XS.ifYes X316.here hx rfl (pc0 := 160) (pc' := 168) rfl (hb hby at_160) rfl ((if0 _ _).trans (feq (by decide : ¬ ((2 : Int32) = (0 : Int32)))).2) (by decide) (by decide) ?_
            refine XS.iload X316.here hx rfl (hb hby at_168) rfl ?_
            refine XS.iconst X316.here hx rfl (hb hby at_170) ?_
            refine XS.icmpYes X316.here hx rfl (pc0 := 171) (pc' := 179) rfl (hb hby at_171) rfl (feq (by decide : ¬ ((2 : Int32) = (1 : Int32)))).2 (by decide) (by decide) ?_
            refine XS.iload X316.here hx rfl (hb hby at_179) rfl ?_
            refine XS.iconst X316.here hx rfl (hb hby at_181) ?_
            refine XS.icmpNo X316.here hx rfl (hb hby at_182) rfl (teq (by decide : (2 : Int32) = (2 : Int32))).2 ?_
            refine XS.aload X316.here hx rfl (hb hby at_185) rfl rfl ?_
            refine XS.goto X316.here hx rfl (pc0 := 187) (pc' := 192) rfl (hb hby at_187) (by decide) (by decide) ?_
            refine XS.astore X316.here hx rfl (hb hby at_192) rfl rfl (l' := (sh23 q0 q1 q2 q3 p4 (4 : Int32) (2 : Int32) oD la lb lc ld (1 : Int32) (-1 : Int32) lc)) rfl ?_
            refine XS.aload X316.here hx rfl (hb hby at_194) rfl rfl ?_
            refine XS.aload X316.here hx rfl (hb hby at_196) rfl rfl ?_
            exact k
          obtain ⟨_, T353, L353, Lc353, X353, hF353, hQ353, st353⟩ := own_cv X316 hx hZ hown (wq hw 72 rfl) (wq hw 73 rfl) (wq hw 75 rfl) (wq hw 74 rfl) (wq hw 2 rfl) (wq hw 76 rfl) (rmRemR l Z az hw [] oD lc q2 ar kA hs296 τ297 Nn298 Pp299 [la, lb, lc, ld] tk305 T295.heap n0 Z304 R300 I301 (by simp) v308 (Nat.le_trans le310 (by decide))) (W := 0) (g := (mkF m 198 (sh23 q0 q1 q2 q3 p4 (4 : Int32) (2 : Int32) oD la lb lc ld (1 : Int32) (-1 : Int32) lc) [(.ref lc), (.ref oD)])) rfl (by rw [hml]; rfl) R300.1 (argsL := [(.ref lc)]) (rest := []) rfl (lenOf own_pd9 rfl) rfl (hb hby at_198) e316 N317 (c' := 10) (s' := 26)
          obtain ⟨hs354, τ355, Nn356, Pp357, rfl, N353q, zq360, R358, I359, lq361⟩ := hQ353
          have Z362 := Nat.le_trans Z304 zq360
          obtain ⟨tk363, etk363⟩ : ∃ z, z = upd tk305 lc none := ⟨_, rfl⟩
          rw [← etk363] at I359
          have v364 : tk363 la = (some q0) := by rw [etk363, upd_ne _ _ nt02]; exact v306
          have v365 : tk363 lb = (some q1) := by rw [etk363, upd_ne _ _ nt12]; exact v307
          have v366 : tk363 lc = none := by rw [etk363]; exact upd_at _ _ _
          have v367 : tk363 ld = (some q3) := by rw [etk363, upd_ne _ _ (Ne.symm nt23)]; exact v309
          have le368 : hs354.length ≤ 4 := Nat.le_trans lq361 le310
          have N369 := hF353 N353q
          refine Gb st353 ?_
          refine Gb (fun _ => XS.iload X353.here hx rfl (hb hby at_201) rfl) ?_
          refine Gb (fun _ => XS.istore X353.here hx rfl (hb hby at_203) rfl (l' := (sh23 q0 q1 q2 q3 p4 (4 : Int32) (2 : Int32) oD la lb lc ld (1 : Int32) (2 : Int32) lc)) rfl) ?_
          exact tl205 _ _ _ _ _ _ _ _ _ _ _ (own_more X353 (by decide) (by decide)) N369 Z362 R358 I359 (Nat.le_trans le368 (by decide)) (Or.inr ⟨_, rfl⟩) (fun r hr => (own_first hr [q0, q1, q3] (fun t => by simp [v364, v365, v366, v367, eq_comm])).trans (own_mo4_3 q0 q1 q2 q3))
        · refine Gb (B := T316.setTop (mkF m 198 (sh23 q0 q1 q2 q3 p4 (4 : Int32) (3 : Int32) oD la lb lc ld (1 : Int32) (-1 : Int32) ld) [(.ref ld), (.ref oD)])) (fun t k => ?_) ?_
          · refine XS.iload X316.here hx rfl (hb hby at_158) rfl ?_
            refine XS.ifYes X316.here hx rfl (pc0 := 160) (pc' := 168) rfl (hb hby at_160) rfl ((if0 _ _).trans (feq (by decide : ¬ ((3 : Int32) = (0 : Int32)))).2) (by decide) (by decide) ?_
            refine XS.iload X316.here hx rfl (hb hby at_168) rfl ?_
            refine XS.iconst X316.here hx rfl (hb hby at_170) ?_
            refine XS.icmpYes X316.here hx rfl (pc0 := 171) (pc' := 179) rfl (hb hby at_171) rfl (feq (by decide : ¬ ((3 : Int32) = (1 : Int32)))).2 (by decide) (by decide) ?_
            refine XS.iload X316.here hx rfl (hb hby at_179) rfl ?_
            refine XS.iconst X316.here hx rfl (hb hby at_181) ?_
            refine XS.icmpYes X316.here hx rfl (pc0 := 182) (pc' := 190) rfl (hb hby at_182) rfl (feq (by decide : ¬ ((3 : Int32) = (2 : Int32)))).2 (by decide) (by decide) ?_
            refine XS.aload X316.here hx rfl (hb hby at_190) rfl rfl ?_
            refine XS.astore X316.here hx rfl (hb hby at_192) rfl rfl (l' := (sh23 q0 q1 q2 q3 p4 (4 : Int32) (3 : Int32) oD la lb lc ld (1 : Int32) (-1 : Int32) ld)) rfl ?_
            refine XS.aload X316.here hx rfl (hb hby at_194) rfl rfl ?_
            refine XS.aload X316.here hx rfl (hb hby at_196) rfl rfl ?_
            exact k
          obtain ⟨_, T370, L370, Lc370, X370, hF370, hQ370, st370⟩ := own_cv X316 hx hZ hown (wq hw 72 rfl) (wq hw 73 rfl) (wq hw 75 rfl) (wq hw 74 rfl) (wq hw 2 rfl) (wq hw 76 rfl) (rmRemR l Z az hw [] oD ld q3 ar kA hs296 τ297 Nn298 Pp299 [la, lb, lc, ld] tk305 T295.heap n0 Z304 R300 I301 (by simp) v309 (Nat.le_trans le310 (by decide))) (W := 0) (g := (mkF m 198 (sh23 q0 q1 q2 q3 p4 (4 : Int32) (3 : Int32) oD la lb lc ld (1 : Int32) (-1 : Int32) ld) [(.ref ld), (.ref oD)])) rfl (by rw [hml]; rfl) R300.1 (argsL := [(.ref ld)]) (rest := []) rfl (lenOf own_pd9 rfl) rfl (hb hby at_198) e316 N317 (c' := 10) (s' := 26)
          obtain ⟨hs371, τ372, Nn373, Pp374, rfl, N370q, zq377, R375, I376, lq378⟩ := hQ370
          have Z379 := Nat.le_trans Z304 zq377
          obtain ⟨tk380, etk380⟩ : ∃ z, z = upd tk305 ld none := ⟨_, rfl⟩
          rw [← etk380] at I376
          have v381 : tk380 la = (some q0) := by rw [etk380, upd_ne _ _ nt03]; exact v306
          have v382 : tk380 lb = (some q1) := by rw [etk380, upd_ne _ _ nt13]; exact v307
          have v383 : tk380 lc = (some q2) := by rw [etk380, upd_ne _ _ nt23]; exact v308
          have v384 : tk380 ld = none := by rw [etk380]; exact upd_at _ _ _
          have le385 : hs371.length ≤ 4 := Nat.le_trans lq378 le310
          have N386 := hF370 N370q
          refine Gb st370 ?_
          refine Gb (fun _ => XS.iload X370.here hx rfl (hb hby at_201) rfl) ?_
          refine Gb (fun _ => XS.istore X370.here hx rfl (hb hby at_203) rfl (l' := (sh23 q0 q1 q2 q3 p4 (4 : Int32) (3 : Int32) oD la lb lc ld (1 : Int32) (3 : Int32) ld)) rfl) ?_
          exact tl205 _ _ _ _ _ _ _ _ _ _ _ (own_more X370 (by decide) (by decide)) N386 Z379 R375 I376 (Nat.le_trans le385 (by decide)) (Or.inr ⟨_, rfl⟩) (fun r hr => (own_first hr [q0, q1, q2] (fun t => by simp [v381, v382, v383, v384, eq_comm])).trans (own_mo4_4 q0 q1 q2 q3))
      · refine Gb (fun _ => XS.icmpYes X316.here hx rfl (pc0 := 155) (pc' := 205) rfl (hb hby at_155) rfl (flt hc318).2.1 (by decide) (by decide)) ?_
        exact tl205 _ _ _ _ _ _ _ _ _ _ _ (own_more X316 (by decide) (by decide)) N317 (by rw [e316]; exact Z304) (by rw [e316]; exact R300) I301 (Nat.le_trans le310 (by decide)) (Or.inl rfl) (fun r hr => (own_first hr [q0, q1, q2, q3] (fun t => by simp [v306, v307, v308, v309, eq_comm])).trans (own_mo4_0 q0 q1 q2 q3))
  obtain ⟨T387, h387, X387, e387, E387, A387, D387, -, st387⟩ := newO X0 hx hZ hown (wq hw 0 rfl) (wq hw 1 rfl) (wq hw 2 rfl) e0 (g := (mkF m 18 (sh18 q0 q1 q2 q3 p4 nn rr) [])) rfl (hb hby at_18) (by decide) (by decide)
  obtain ⟨b388, g387⟩ : ∃ z, z = h0.size := ⟨_, rfl⟩
  rw [← g387] at A387 D387 st387
  have ge389 : n0 ≤ b388 := Nat.le_trans Z0 (Nat.le_of_eq g387.symm)
  have sz390 : h0.size ≤ b388 := Nat.le_trans Kp0.1 (Nat.le_of_eq g387.symm)
  have f391 : Fld Z h387 b388 cD "heads" dA .null := D387 (Or.inl (wq hw 12 rfl)) (ty := (.array (.object cH))) (by decide)
  have f392 : Fld Z h387 b388 cD "count" "I" (.int (0 : Int32)) := D387 (Or.inl (wq hw 30 rfl)) (ty := .int) (by decide)
  have Kp387 : Keep h0 h387 [] := Kp0.ext E387
  have Z393 := Nat.le_trans Z0 E387.1
  refine Gb st387 ?_
  refine Gb (fun _ => XS.dup X387.here hx rfl (hb hby at_21) rfl rfl) ?_
  obtain ⟨_, T394, L394, Lc394, X394, hF394, hQ394, st394⟩ := own_ci X387 hx hZ rfl hown (wq hw 3 rfl) (wq hw 4 rfl) (wq hw 2 rfl) (wq hw 5 rfl) (rmDueI l Z az hw [] b388 h387 n0 Z393 A387 f391 f392 ge389) (W := 1) (g := (mkF m 22 (sh18 q0 q1 q2 q3 p4 nn rr) [(.ref b388), (.ref b388)])) rfl (by rw [hml]; rfl) (argsL := []) (rest := [(.ref b388)]) rfl (lenOf own_pd0 rfl) rfl (hb hby at_22) e387 N0 (c' := 2) (s' := 6)
  obtain ⟨b395, c396, rfl, N394q, K394, sz402, f397, f398, f399, f400, f401⟩ := hQ394
  have ne403 : b388 ≠ b395 := Nat.ne_of_lt (Nat.lt_of_lt_of_le A387.lt sz402)
  have ge404 : n0 ≤ b395 := Nat.le_trans Z393 sz402
  have sz405 : h0.size ≤ b395 := Nat.le_trans Kp387.1 sz402
  have f406 := A387.keep K394
  have Kp394 : Keep h0 T394.heap [] := Kp387.trans K394 (allS (Or.inr sz390) all0)
  have Z407 := Nat.le_trans Z393 K394.1
  have N408 := hF394 N394q
  refine Gb st394 ?_
  refine Gb (fun _ => XS.astore X394.here hx rfl (hb hby at_25) rfl rfl (l' := (sh25 q0 q1 q2 q3 p4 nn rr b388)) rfl) ?_
  obtain ⟨T409, h409, X409, e409, E409, A409, D409, -, st409⟩ := newO X394 hx hZ hown (wq hw 13 rfl) (wq hw 14 rfl) (wq hw 15 rfl) rfl (g := (mkF m 27 (sh25 q0 q1 q2 q3 p4 nn rr b388) [])) rfl (hb hby at_27) (by decide) (by decide)
  obtain ⟨b410, g409⟩ : ∃ z, z = T394.heap.size := ⟨_, rfl⟩
  rw [← g409] at A409 D409 st409
  have ne411 : b388 ≠ b410 := Nat.ne_of_lt (Nat.lt_of_lt_of_le f397.lt (Nat.le_of_eq g409.symm))
  have ne412 : b395 ≠ b410 := Nat.ne_of_lt (Nat.lt_of_lt_of_le f400.lt (Nat.le_of_eq g409.symm))
  have ge413 : n0 ≤ b410 := Nat.le_trans Z407 (Nat.le_of_eq g409.symm)
  have sz414 : h0.size ≤ b410 := Nat.le_trans Kp394.1 (Nat.le_of_eq g409.symm)
  have f415 := f397.ext E409
  have f416 := f398.ext E409
  have f417 := f399.ext E409
  have f418 := f400.ext E409
  have f419 : Fld Z h409 b410 cL "prev" dL .null := D409 (Or.inl (wq hw 54 rfl)) (ty := (.object cL)) (by decide)
  have f420 : Fld Z h409 b410 cL "next" dL .null := D409 (Or.inl (wq hw 56 rfl)) (ty := (.object cL)) (by decide)
  have Kp409 : Keep h0 h409 [] := Kp394.ext E409
  have Z421 := Nat.le_trans Z407 E409.1
  refine Gb st409 ?_
  refine Gb (fun _ => XS.dup X409.here hx rfl (hb hby at_30) rfl rfl) ?_
  obtain ⟨_, T422, L422, Lc422, X422, hF422, hQ422, st422⟩ := own_ci X409 hx hZ rfl hown (wq hw 16 rfl) (wq hw 17 rfl) (wq hw 15 rfl) (wq hw 18 rfl) (rmLinkI l Z az hw [] b410 h409 n0 Z421 ) (W := 1) (g := (mkF m 31 (sh25 q0 q1 q2 q3 p4 nn rr b388) [(.ref b410), (.ref b410)])) rfl (by rw [hml]; rfl) (argsL := []) (rest := [(.ref b410)]) rfl (lenOf own_pd0 rfl) rfl (hb hby at_31) e409 N408 (c' := 3) (s' := 8)
  obtain ⟨rfl, N422q, e422⟩ := hQ422
  have N423 := hF422 N422q
  refine Gb st422 ?_
  refine Gb (fun _ => XS.astore X422.here hx rfl (hb hby at_34) rfl rfl (l' := (sh26 q0 q1 q2 q3 p4 nn rr b388 b410)) rfl) ?_
  obtain ⟨T424, h424, X424, e424, E424, A424, D424, -, st424⟩ := newO X422 hx hZ hown (wq hw 13 rfl) (wq hw 14 rfl) (wq hw 15 rfl) e422 (g := (mkF m 36 (sh26 q0 q1 q2 q3 p4 nn rr b388 b410) [])) rfl (hb hby at_36) (by decide) (by decide)
  obtain ⟨b425, g424⟩ : ∃ z, z = h409.size := ⟨_, rfl⟩
  rw [← g424] at A424 D424 st424
  have ne426 : b388 ≠ b425 := Nat.ne_of_lt (Nat.lt_of_lt_of_le f415.lt (Nat.le_of_eq g424.symm))
  have ne427 : b395 ≠ b425 := Nat.ne_of_lt (Nat.lt_of_lt_of_le f418.lt (Nat.le_of_eq g424.symm))
  have ne428 : b410 ≠ b425 := Nat.ne_of_lt (Nat.lt_of_lt_of_le A409.lt (Nat.le_of_eq g424.symm))
  have ge429 : n0 ≤ b425 := Nat.le_trans Z421 (Nat.le_of_eq g424.symm)
  have sz430 : h0.size ≤ b425 := Nat.le_trans Kp409.1 (Nat.le_of_eq g424.symm)
  have f431 := f415.ext E424
  have f432 := f416.ext E424
  have f433 := f417.ext E424
  have f434 := f418.ext E424
  have f435 := A409.ext E424
  have f436 := f419.ext E424
  have f437 := f420.ext E424
  have f438 : Fld Z h424 b425 cL "prev" dL .null := D424 (Or.inl (wq hw 54 rfl)) (ty := (.object cL)) (by decide)
  have f439 : Fld Z h424 b425 cL "next" dL .null := D424 (Or.inl (wq hw 56 rfl)) (ty := (.object cL)) (by decide)
  have Kp424 : Keep h0 h424 [] := Kp409.ext E424
  have Z440 := Nat.le_trans Z421 E424.1
  refine Gb st424 ?_
  refine Gb (fun _ => XS.dup X424.here hx rfl (hb hby at_39) rfl rfl) ?_
  obtain ⟨_, T441, L441, Lc441, X441, hF441, hQ441, st441⟩ := own_ci X424 hx hZ rfl hown (wq hw 16 rfl) (wq hw 17 rfl) (wq hw 15 rfl) (wq hw 18 rfl) (rmLinkI l Z az hw [] b425 h424 n0 Z440 ) (W := 1) (g := (mkF m 40 (sh26 q0 q1 q2 q3 p4 nn rr b388 b410) [(.ref b425), (.ref b425)])) rfl (by rw [hml]; rfl) (argsL := []) (rest := [(.ref b425)]) rfl (lenOf own_pd0 rfl) rfl (hb hby at_40) e424 N423 (c' := 4) (s' := 10)
  obtain ⟨rfl, N441q, e441⟩ := hQ441
  have N442 := hF441 N441q
  refine Gb st441 ?_
  refine Gb (fun _ => XS.astore X441.here hx rfl (hb hby at_43) rfl rfl (l' := (sh27 q0 q1 q2 q3 p4 nn rr b388 b410 b425)) rfl) ?_
  obtain ⟨T443, h443, X443, e443, E443, A443, D443, -, st443⟩ := newO X441 hx hZ hown (wq hw 13 rfl) (wq hw 14 rfl) (wq hw 15 rfl) e441 (g := (mkF m 45 (sh27 q0 q1 q2 q3 p4 nn rr b388 b410 b425) [])) rfl (hb hby at_45) (by decide) (by decide)
  obtain ⟨b444, g443⟩ : ∃ z, z = h424.size := ⟨_, rfl⟩
  rw [← g443] at A443 D443 st443
  have ne445 : b388 ≠ b444 := Nat.ne_of_lt (Nat.lt_of_lt_of_le f431.lt (Nat.le_of_eq g443.symm))
  have ne446 : b395 ≠ b444 := Nat.ne_of_lt (Nat.lt_of_lt_of_le f434.lt (Nat.le_of_eq g443.symm))
  have ne447 : b410 ≠ b444 := Nat.ne_of_lt (Nat.lt_of_lt_of_le f435.lt (Nat.le_of_eq g443.symm))
  have ne448 : b425 ≠ b444 := Nat.ne_of_lt (Nat.lt_of_lt_of_le A424.lt (Nat.le_of_eq g443.symm))
  have ge449 : n0 ≤ b444 := Nat.le_trans Z440 (Nat.le_of_eq g443.symm)
  have sz450 : h0.size ≤ b444 := Nat.le_trans Kp424.1 (Nat.le_of_eq g443.symm)
  have f451 := f431.ext E443
  have f452 := f432.ext E443
  have f453 := f433.ext E443
  have f454 := f434.ext E443
  have f455 := f435.ext E443
  have f456 := f436.ext E443
  have f457 := f437.ext E443
  have f458 := A424.ext E443
  have f459 := f438.ext E443
  have f460 := f439.ext E443
  have f461 : Fld Z h443 b444 cL "prev" dL .null := D443 (Or.inl (wq hw 54 rfl)) (ty := (.object cL)) (by decide)
  have f462 : Fld Z h443 b444 cL "next" dL .null := D443 (Or.inl (wq hw 56 rfl)) (ty := (.object cL)) (by decide)
  have Kp443 : Keep h0 h443 [] := Kp424.ext E443
  have Z463 := Nat.le_trans Z440 E443.1
  refine Gb st443 ?_
  refine Gb (fun _ => XS.dup X443.here hx rfl (hb hby at_48) rfl rfl) ?_
  obtain ⟨_, T464, L464, Lc464, X464, hF464, hQ464, st464⟩ := own_ci X443 hx hZ rfl hown (wq hw 16 rfl) (wq hw 17 rfl) (wq hw 15 rfl) (wq hw 18 rfl) (rmLinkI l Z az hw [] b444 h443 n0 Z463 ) (W := 1) (g := (mkF m 49 (sh27 q0 q1 q2 q3 p4 nn rr b388 b410 b425) [(.ref b444), (.ref b444)])) rfl (by rw [hml]; rfl) (argsL := []) (rest := [(.ref b444)]) rfl (lenOf own_pd0 rfl) rfl (hb hby at_49) e443 N442 (c' := 5) (s' := 12)
  obtain ⟨rfl, N464q, e464⟩ := hQ464
  have N465 := hF464 N464q
  refine Gb st464 ?_
  refine Gb (fun _ => XS.astore X464.here hx rfl (hb hby at_52) rfl rfl (l' := (sh28 q0 q1 q2 q3 p4 nn rr b388 b410 b425 b444)) rfl) ?_
  obtain ⟨T466, h466, X466, e466, E466, A466, D466, -, st466⟩ := newO X464 hx hZ hown (wq hw 13 rfl) (wq hw 14 rfl) (wq hw 15 rfl) e464 (g := (mkF m 54 (sh28 q0 q1 q2 q3 p4 nn rr b388 b410 b425 b444) [])) rfl (hb hby at_54) (by decide) (by decide)
  obtain ⟨b467, g466⟩ : ∃ z, z = h443.size := ⟨_, rfl⟩
  rw [← g466] at A466 D466 st466
  have ne468 : b388 ≠ b467 := Nat.ne_of_lt (Nat.lt_of_lt_of_le f451.lt (Nat.le_of_eq g466.symm))
  have ne469 : b395 ≠ b467 := Nat.ne_of_lt (Nat.lt_of_lt_of_le f454.lt (Nat.le_of_eq g466.symm))
  have ne470 : b410 ≠ b467 := Nat.ne_of_lt (Nat.lt_of_lt_of_le f455.lt (Nat.le_of_eq g466.symm))
  have ne471 : b425 ≠ b467 := Nat.ne_of_lt (Nat.lt_of_lt_of_le f458.lt (Nat.le_of_eq g466.symm))
  have ne472 : b444 ≠ b467 := Nat.ne_of_lt (Nat.lt_of_lt_of_le A443.lt (Nat.le_of_eq g466.symm))
  have ge473 : n0 ≤ b467 := Nat.le_trans Z463 (Nat.le_of_eq g466.symm)
  have sz474 : h0.size ≤ b467 := Nat.le_trans Kp443.1 (Nat.le_of_eq g466.symm)
  have f475 := f451.ext E466
  have f476 := f452.ext E466
  have f477 := f453.ext E466
  have f478 := f454.ext E466
  have f479 := f455.ext E466
  have f480 := f456.ext E466
  have f481 := f457.ext E466
  have f482 := f458.ext E466
  have f483 := f459.ext E466
  have f484 := f460.ext E466
  have f485 := A443.ext E466
  have f486 := f461.ext E466
  have f487 := f462.ext E466
  have f488 : Fld Z h466 b467 cL "prev" dL .null := D466 (Or.inl (wq hw 54 rfl)) (ty := (.object cL)) (by decide)
  have f489 : Fld Z h466 b467 cL "next" dL .null := D466 (Or.inl (wq hw 56 rfl)) (ty := (.object cL)) (by decide)
  have Kp466 : Keep h0 h466 [] := Kp443.ext E466
  have Z490 := Nat.le_trans Z463 E466.1
  refine Gb st466 ?_
  refine Gb (fun _ => XS.dup X466.here hx rfl (hb hby at_57) rfl rfl) ?_
  obtain ⟨_, T491, L491, Lc491, X491, hF491, hQ491, st491⟩ := own_ci X466 hx hZ rfl hown (wq hw 16 rfl) (wq hw 17 rfl) (wq hw 15 rfl) (wq hw 18 rfl) (rmLinkI l Z az hw [] b467 h466 n0 Z490 ) (W := 1) (g := (mkF m 58 (sh28 q0 q1 q2 q3 p4 nn rr b388 b410 b425 b444) [(.ref b467), (.ref b467)])) rfl (by rw [hml]; rfl) (argsL := []) (rest := [(.ref b467)]) rfl (lenOf own_pd0 rfl) rfl (hb hby at_58) e466 N465 (c' := 6) (s' := 14)
  obtain ⟨rfl, N491q, e491⟩ := hQ491
  have N492 := hF491 N491q
  refine Gb st491 ?_
  refine Gb (fun _ => XS.astore X491.here hx rfl (hb hby at_61) rfl rfl (l' := (sh19 q0 q1 q2 q3 p4 nn rr b388 b410 b425 b444 b467)) rfl) ?_
  have R493 : Rep Z h466 n0 b388 b395 c396 [] (fun _ => 0) (fun _ => .null) (fun _ => .null) [b410, b425, b444, b467] := by
    refine ⟨f475, f476, f477, f478, f401, ge389, ge404, (fun _ q => nomatch q), (fun y hy => ?_)⟩
    simp only [List.mem_cons, List.not_mem_nil, or_false] at hy
    rcases hy with e | e | e | e
    · rw [e]; exact ⟨ge413, f479, f481, f480⟩
    · rw [e]; exact ⟨ge429, f482, f484, f483⟩
    · rw [e]; exact ⟨ge449, f485, f487, f486⟩
    · rw [e]; exact ⟨ge473, A466, f489, f488⟩
  have I494 : Inv [] (fun _ => 0) (fun _ => .null) (fun _ => .null) [b410, b425, b444, b467] (fun _ => none) := Inv.none _
  obtain ⟨tk495, etk495⟩ : ∃ z : Addr → Option Int64, z = (fun _ => none) := ⟨_, rfl⟩
  rw [← etk495] at I494
  have v496 : tk495 b410 = none := by rw [etk495]
  have v497 : tk495 b425 = none := by rw [etk495]
  have v498 : tk495 b444 = none := by rw [etk495]
  have v499 : tk495 b467 = none := by rw [etk495]
  have le500 : ([] : List Addr).length ≤ 0 := Nat.le_refl _
  exact tl63 _ _ _ _ _ _ _ _ _ _ X491 N492 (by rw [e491]; exact Z490) (by rw [e491]; exact R493) I494 v496 v497 v498 v499 ne428 ne447 ne470 ne448 ne471 ne472 le500
set_option maxRecDepth 65536 in
set_option maxHeartbeats 40000000 in
theorem comes_1 {Post : Tables → Env → Array Value → State → Outcome → State → Prop} (hpost : ∀ tb e args s v u, (limb_1_1.after args s (.returned v) u = true ∧ limb_1_2.after args s (.returned v) u = true ∧ True) → FrameEnd s (.returned v) u (Jvm.fieldLocs frame_1_writes args s ++ Jvm.arrayLocs frame_1_arrays args s ++ Jvm.staticLocs frame_1_statics s) 32 128 → Post tb e args s (.returned v) u) :
    ArmFor flags0 classFile x code maxLocals ret World_1 tables_1 room_1 Calls_1 rest_1 Pre_1 Post := by
  intro l hfl _ _ p e ha hc hk s m args below hf hA hF happ hP
  obtain ⟨hcalls, hrest, hpre⟩ := hP
  obtain ⟨-, -, -, hnamed, -, -, -, hat⟩ := (Spec.applies_iff hf).mp happ
  obtain ⟨hg, hn⟩ := and_e (Cond.before_iff.mp (show (Jvm.Cond.and given_1 narrow_1).before args s = true from hpre))
  obtain ⟨gg1, gg2⟩ := and_e hg
  obtain ⟨gg3, gg4⟩ := and_e gg2
  obtain ⟨gg5, gg6⟩ := and_e gg4
  obtain ⟨gg7, gg8⟩ := and_e gg6
  obtain ⟨gg9, gg10⟩ := and_e gg8
  obtain ⟨w0, w1, w2, w3, w4, rfl⟩ : ∃ w0 w1 w2 w3 w4 : Value, args = #[w0, w1, w2, w3, w4] := by
    have hs : args.size = 5 := by simpa [Cond.value, given_1] using gg1
    obtain ⟨L⟩ := args
    match L, hs with
    | [w0, w1, w2, w3, w4], _ => exact ⟨w0, w1, w2, w3, w4, rfl⟩
  have hw := fun d (hd : d ∈ tables_1) => atoms_spec (ws := Jvm.Cond.code x code maxLocals ret :: tables_1) hat d (List.mem_cons_of_mem _ hd)
  have hfit : Fit s := fun {y c} hc i hi => by
    obtain ⟨ha, rfl⟩ := Array.getElem?_eq_some_iff.mp hc
    have q := List.all_eq_true.mp ((Array.all_eq_true_iff_forall_mem.mp hF) _ (Array.getElem_mem ha)) i (List.mem_range.mpr hi)
    simpa [Array.getElem?_eq_getElem hi] using q
  obtain ⟨i0, ei0⟩ := isL_v gg3
  obtain rfl : w0 = (.long i0) := Option.some.inj ei0
  obtain ⟨i1, ei1⟩ := isL_v gg5
  obtain rfl : w1 = (.long i1) := Option.some.inj ei1
  obtain ⟨i2, ei2⟩ := isL_v gg7
  obtain rfl : w2 = (.long i2) := Option.some.inj ei2
  obtain ⟨i3, ei3⟩ := isL_v gg9
  obtain rfl : w3 = (.long i3) := Option.some.inj ei3
  obtain ⟨i4, ei4⟩ := is_v gg10
  obtain rfl : w4 = (.int i4) := Option.some.inj ei4
  obtain ⟨n, o, h1, h2, h3, _, L, rfl, ⟨rfl, N⟩, hq⟩ := rm0 l s _ hw tables_1 i0 i1 i2 i3 i4 s.heap s.heap.size (Nat.le_refl _)  p e ha hc hk s m _ below hf ((Spec.applies_iff_loose hf).mp happ).1 ⟨rfl, State.Warmed39.refl s, rfl⟩ trivial
  refine ⟨n, _, h1, h2, h3, hpost _ _ _ _ _ _ ⟨Cond.after_iff.mpr rfl, Cond.after_iff.mpr (eq_i res_at (Term.int_eval (1)) rfl), trivial⟩ ⟨hq.1, hq.2.1, (hq.2.2.sift fun y hy => Or.inr (N y hy)).mono (by decide) (by decide)⟩⟩
theorem main_1_1 : Claimed_1_1 := comes_1 fun _ _ _ _ _ _ h hF => ⟨h.1, hF⟩
theorem main_1_2 : Claimed_1_2 := comes_1 fun _ _ _ _ _ _ h hF => ⟨h.2.1, hF⟩
end Jvm.Pilot.@@N@@
namespace Jvm.Pilot.@@N@@
open Jvm Jvm.ClassFile Sem Op Lib Jvm.Free Jvm.Stand Jvm.Pilot.@@N@@.Jvm.D
/-! MADE BY PROGRAM (witnessworld.py) out of the Statement's table words and the real class files: 14 classes; the members and pool entries that the words name. The judged class is class 1, her method 2. -/
namespace start1
open Jvm.ClassFile
def u (s : String) : CpInfo := .utf8 (stringToUtf16 s)
/-- a pool by its gaps: so many unusable entries, then the entry; so many at the end -/
def gap : Nat → List CpInfo → List CpInfo
  | 0, r => r
  | n + 1, r => .unusable :: gap n r
def poolList (es : List (Nat × CpInfo)) (last : Nat) : List CpInfo := es.foldr (fun e r => gap e.1 (e.2 :: r)) (gap last [])
def pool (es : List (Nat × CpInfo)) (last : Nat) : Array CpInfo := ⟨poolList es last⟩
def fileOf (pool : Array CpInfo) (this : Nat) (attrs : Array Attribute := #[]) (ms : Array MethodInfo := #[]) (fl : Nat := 33) (sup : Nat := 0) (ifs : Array Nat := #[]) (fds : Array FieldInfo := #[]) : ClassFile where
  minorVersion := 0
  majorVersion := 65
  constantPool := pool
  accessFlags := fl
  thisClass := this
  superClass := sup
  interfaces := ifs
  fields := fds
  methods := ms
  attributes := attrs
def plain (name : String) (sup : Option ClassId) : Class where
  name := name
  kind := .ordinary
  loader := none
  accessFlags := 33
  super := sup
  interfaces := #[]
  cf := none
  fields := #[]
  methods := #[]
  instanceTypes := #[]
  staticTypes := #[]
  resolved := #[]
  callSites := []
  init := .initialized
  statics := none
  mirror := none

def pool0 : Array CpInfo := pool [(5, u "<init>"), (0, u "()V"), (1, .class_ 10), (1, u "java/lang/Object")] 113

def k0c0 : Code := { maxStack := 0, maxLocals := 1, code := object_method_1_code, exceptionTable := #[], attributes := #[] }
def k0m0 : Method := { name := "<init>", desc := "()V", sig := { parameters := [], returnType := none }, accessFlags := 1, code := some k0c0 }
/-- java/lang/Object -/
def k0 : Class := { plain "java/lang/Object" none with
  accessFlags := 33
  interfaces := #[]
  cf := some (fileOf pool0 8 #[] #[{ accessFlags := 1, nameIndex := 5, descriptorIndex := 6, attributes := #[] }] 33 0 #[] #[])
  fields := #[]
  methods := #[k0m0]
  instanceTypes := #[]
  staticTypes := #[]
  resolved := Array.replicate 124 none
  statics := none }

def pool1 : Array CpInfo := pool [(2, .class_ 4), (0, .nameAndType 5 6), (0, u "java/lang/Object"), (0, u "<init>"), (0, u "()V"), (2, .long 9223372036854775807), (1, .methodref 12 13), (0, .class_ 14), (0, .nameAndType 15 16), (0, u "java/lang/Math"), (0, u "min"), (0, u "(JJ)J"), (0, .class_ 18), (0, u "com/example/admit_one/admitone/engine/DueOrder"), (0, .methodref 17 3), (0, .class_ 21), (0, u "com/example/admit_one/admitone/engine/DueOrder$Link"), (0, .methodref 20 3), (0, .methodref 17 24), (0, .nameAndType 25 26), (0, u "file"), (0, u "(Lcom/example/admit_one/admitone/engine/DueOrder$Link;J)V"), (0, .methodref 17 28), (0, .nameAndType 29 30), (0, u "firstTick"), (0, u "()J"), (0, .methodref 32 33), (0, .class_ 34), (0, .nameAndType 35 36), (0, u "com/example/admit_one/admitone/engine/DueOrderFirstTickPinLaw"), (0, u "minOf"), (0, u "(JJJJII)J"), (0, .methodref 17 38), (0, .nameAndType 39 40), (0, u "remove"), (0, u "(Lcom/example/admit_one/admitone/engine/DueOrder$Link;)V"), (3, u "law"), (0, u "(JJJJI)Z")] 4

def k1m0 : Method := { name := "<init>", desc := "()V", sig := { parameters := [], returnType := none }, accessFlags := 1, code := none }
def k1c1 : Code := { maxStack := 4, maxLocals := 12, code := method_2_code, exceptionTable := #[], attributes := #[] }
def k1m1 : Method := { name := "minOf", desc := "(JJJJII)J", sig := { parameters := [.long, .long, .long, .long, .int, .int], returnType := some .long }, accessFlags := 10, code := some k1c1 }
def k1c2 : Code := { maxStack := 12, maxLocals := 19, code := code, exceptionTable := #[], attributes := #[] }
def k1m2 : Method := { name := "law", desc := "(JJJJI)Z", sig := { parameters := [.long, .long, .long, .long, .int], returnType := some .boolean }, accessFlags := 9, code := some k1c2 }
/-- com/example/admit_one/admitone/engine/DueOrderFirstTickPinLaw -/
def k1 : Class := { plain "com/example/admit_one/admitone/engine/DueOrderFirstTickPinLaw" (some 0) with
  accessFlags := 49
  interfaces := #[]
  cf := some (fileOf pool1 32 #[] #[{ accessFlags := 1, nameIndex := 5, descriptorIndex := 6, attributes := #[] }, { accessFlags := 10, nameIndex := 35, descriptorIndex := 36, attributes := #[] }, { accessFlags := 9, nameIndex := 44, descriptorIndex := 45, attributes := #[] }] 49 2 #[] #[])
  fields := #[]
  methods := #[k1m0, k1m1, k1m2]
  instanceTypes := #[]
  staticTypes := #[]
  resolved := Array.replicate 50 none
  statics := none }

def pool2 : Array CpInfo := pool [(1, .methodref 2 3), (0, .class_ 4), (0, .nameAndType 5 6), (0, u "java/lang/Object"), (0, u "<init>"), (0, u "()V"), (0, .class_ 8), (0, u "com/example/admit_one/admitone/engine/DueOrder"), (0, .class_ 10), (0, u "com/example/admit_one/admitone/engine/DueOrder$Head"), (0, .fieldref 7 12), (0, .nameAndType 13 14), (0, u "heads"), (0, u "[Lcom/example/admit_one/admitone/engine/DueOrder$Head;"), (0, .fieldref 7 16), (0, .nameAndType 17 18), (0, u "count"), (0, u "I"), (2, .long 9223372036854775807), (1, .fieldref 9 24), (0, .nameAndType 25 26), (0, u "tick"), (0, u "J"), (0, .fieldref 28 29), (0, .class_ 30), (0, .nameAndType 31 32), (0, u "com/example/admit_one/admitone/engine/DueOrder$Link"), (0, u "next"), (0, u "Lcom/example/admit_one/admitone/engine/DueOrder$Link;"), (0, .methodref 7 34), (0, .nameAndType 35 36), (0, u "headOf"), (0, u "(J)Lcom/example/admit_one/admitone/engine/DueOrder$Head;"), (0, .fieldref 28 38), (0, .nameAndType 39 32), (0, u "prev"), (0, .methodref 7 41), (0, .nameAndType 42 43), (0, u "drop"), (0, u "(Lcom/example/admit_one/admitone/engine/DueOrder$Head;)V"), (0, .methodref 7 45), (0, .nameAndType 46 47), (0, u "dueBy"), (0, u "(J)I"), (7, .methodref 56 57), (0, .class_ 58), (0, .nameAndType 59 60), (0, u "java/lang/System"), (0, u "arraycopy"), (0, u "(Ljava/lang/Object;ILjava/lang/Object;II)V"), (4, .methodref 7 66), (0, .nameAndType 67 6), (0, u "shrinkIfSparse"), (6, .methodref 9 75), (0, .nameAndType 5 76), (0, u "(J)V"), (0, u "MIN_CAPACITY"), (6, u "firstTick"), (0, u "()J"), (3, u "file"), (0, u "(Lcom/example/admit_one/admitone/engine/DueOrder$Link;J)V"), (0, u "remove"), (0, u "(Lcom/example/admit_one/admitone/engine/DueOrder$Link;)V")] 10

def k2c0 : Code := { maxStack := 2, maxLocals := 1, code := prog_4_method_1_code, exceptionTable := #[], attributes := #[] }
def k2m0 : Method := { name := "<init>", desc := "()V", sig := { parameters := [], returnType := none }, accessFlags := 0, code := some k2c0 }
def k2c1 : Code := { maxStack := 2, maxLocals := 1, code := prog_4_method_3_code, exceptionTable := #[], attributes := #[] }
def k2m1 : Method := { name := "firstTick", desc := "()J", sig := { parameters := [], returnType := some .long }, accessFlags := 0, code := some k2c1 }
def k2c2 : Code := { maxStack := 3, maxLocals := 5, code := prog_4_method_5_code, exceptionTable := #[], attributes := #[] }
def k2m2 : Method := { name := "file", desc := "(Lcom/example/admit_one/admitone/engine/DueOrder$Link;J)V", sig := { parameters := [(.object "com/example/admit_one/admitone/engine/DueOrder$Link"), .long], returnType := none }, accessFlags := 0, code := some k2c2 }
def k2c3 : Code := { maxStack := 2, maxLocals := 3, code := prog_4_method_6_code, exceptionTable := #[], attributes := #[] }
def k2m3 : Method := { name := "remove", desc := "(Lcom/example/admit_one/admitone/engine/DueOrder$Link;)V", sig := { parameters := [(.object "com/example/admit_one/admitone/engine/DueOrder$Link")], returnType := none }, accessFlags := 0, code := some k2c3 }
def k2c4 : Code := { maxStack := 6, maxLocals := 5, code := prog_4_method_8_code, exceptionTable := #[], attributes := #[] }
def k2m4 : Method := { name := "headOf", desc := "(J)Lcom/example/admit_one/admitone/engine/DueOrder$Head;", sig := { parameters := [.long], returnType := some (.object "com/example/admit_one/admitone/engine/DueOrder$Head") }, accessFlags := 2, code := some k2c4 }
def k2c5 : Code := { maxStack := 6, maxLocals := 3, code := prog_4_method_9_code, exceptionTable := #[], attributes := #[] }
def k2m5 : Method := { name := "drop", desc := "(Lcom/example/admit_one/admitone/engine/DueOrder$Head;)V", sig := { parameters := [(.object "com/example/admit_one/admitone/engine/DueOrder$Head")], returnType := none }, accessFlags := 2, code := some k2c5 }
def k2c6 : Code := { maxStack := 4, maxLocals := 6, code := prog_4_method_10_code, exceptionTable := #[], attributes := #[] }
def k2m6 : Method := { name := "dueBy", desc := "(J)I", sig := { parameters := [.long], returnType := some .int }, accessFlags := 2, code := some k2c6 }
def k2c7 : Code := { maxStack := 3, maxLocals := 2, code := prog_4_method_11_code, exceptionTable := #[], attributes := #[] }
def k2m7 : Method := { name := "shrinkIfSparse", desc := "()V", sig := { parameters := [], returnType := none }, accessFlags := 2, code := some k2c7 }
/-- com/example/admit_one/admitone/engine/DueOrder -/
def k2 : Class := { plain "com/example/admit_one/admitone/engine/DueOrder" (some 0) with
  accessFlags := 32
  interfaces := #[]
  cf := some (fileOf pool2 7 #[.nestMembers #[9, 28]] #[{ accessFlags := 0, nameIndex := 5, descriptorIndex := 6, attributes := #[] }, { accessFlags := 0, nameIndex := 84, descriptorIndex := 85, attributes := #[] }, { accessFlags := 0, nameIndex := 89, descriptorIndex := 90, attributes := #[] }, { accessFlags := 0, nameIndex := 91, descriptorIndex := 92, attributes := #[] }, { accessFlags := 2, nameIndex := 35, descriptorIndex := 36, attributes := #[] }, { accessFlags := 2, nameIndex := 42, descriptorIndex := 43, attributes := #[] }, { accessFlags := 2, nameIndex := 46, descriptorIndex := 47, attributes := #[] }, { accessFlags := 2, nameIndex := 67, descriptorIndex := 6, attributes := #[] }] 32 2 #[] #[{ accessFlags := 26, nameIndex := 77, descriptorIndex := 18, attributes := #[] }, { accessFlags := 2, nameIndex := 13, descriptorIndex := 14, attributes := #[] }, { accessFlags := 2, nameIndex := 17, descriptorIndex := 18, attributes := #[] }])
  fields := #[{ name := "MIN_CAPACITY", type := .int, accessFlags := 26, slot := 0, constantValue := 0 }, { name := "heads", type := (.array (.object "com/example/admit_one/admitone/engine/DueOrder$Head")), accessFlags := 2, slot := 0, constantValue := 0 }, { name := "count", type := .int, accessFlags := 2, slot := 1, constantValue := 0 }]
  methods := #[k2m0, k2m1, k2m2, k2m3, k2m4, k2m5, k2m6, k2m7]
  instanceTypes := #[(.array (.object "com/example/admit_one/admitone/engine/DueOrder$Head")), .int]
  staticTypes := #[.int]
  resolved := #[none, none, none, none, none, none, none, none, none, none, none, none, none, none, none, none, none, none, none, none, none, none, none, some (.field 4 0), none, none, none, some (.field 3 0), none, none, none, none, none, none, none, none, none, some (.field 3 1), none, none, none, none, none, none, none, none, none, none, none, none, none, none, none, none, none, none, none, none, none, none, none, none, none, none, none, none, none, none, none, none, none, none, none, none, none, none, none, none, none, none, none, none, none, none, none, none, none, none, none, none, none, none, none, none, none, none, none, none, none, none, none, none, none]
  statics := none }

def pool3 : Array CpInfo := pool [(1, .methodref 2 3), (0, .class_ 4), (0, .nameAndType 5 6), (0, u "java/lang/Object"), (0, u "<init>"), (0, u "()V"), (0, .class_ 8), (0, u "com/example/admit_one/admitone/engine/DueOrder$Link"), (0, u "next"), (0, u "Lcom/example/admit_one/admitone/engine/DueOrder$Link;"), (0, u "prev"), (5, .class_ 18), (0, u "com/example/admit_one/admitone/engine/DueOrder")] 2

def k3c0 : Code := { maxStack := 1, maxLocals := 1, code := prog_6_method_1_code, exceptionTable := #[], attributes := #[] }
def k3m0 : Method := { name := "<init>", desc := "()V", sig := { parameters := [], returnType := none }, accessFlags := 0, code := some k3c0 }
/-- com/example/admit_one/admitone/engine/DueOrder$Link -/
def k3 : Class := { plain "com/example/admit_one/admitone/engine/DueOrder$Link" (some 0) with
  accessFlags := 32
  interfaces := #[]
  cf := some (fileOf pool3 7 #[.nestHost 17] #[{ accessFlags := 0, nameIndex := 5, descriptorIndex := 6, attributes := #[] }] 32 2 #[] #[{ accessFlags := 2, nameIndex := 9, descriptorIndex := 10, attributes := #[] }, { accessFlags := 2, nameIndex := 11, descriptorIndex := 10, attributes := #[] }])
  fields := #[{ name := "next", type := (.object "com/example/admit_one/admitone/engine/DueOrder$Link"), accessFlags := 2, slot := 0, constantValue := 0 }, { name := "prev", type := (.object "com/example/admit_one/admitone/engine/DueOrder$Link"), accessFlags := 2, slot := 1, constantValue := 0 }]
  methods := #[k3m0]
  instanceTypes := #[(.object "com/example/admit_one/admitone/engine/DueOrder$Link"), (.object "com/example/admit_one/admitone/engine/DueOrder$Link")]
  staticTypes := #[]
  resolved := Array.replicate 21 none
  statics := none }

def pool4 : Array CpInfo := pool [(1, .methodref 2 3), (0, .class_ 4), (0, .nameAndType 5 6), (0, u "com/example/admit_one/admitone/engine/DueOrder$Link"), (0, u "<init>"), (0, u "()V"), (0, .fieldref 8 9), (0, .class_ 10), (0, .nameAndType 11 12), (0, u "com/example/admit_one/admitone/engine/DueOrder$Head"), (0, u "tick"), (0, u "J"), (0, .fieldref 2 14), (0, .nameAndType 15 16), (0, u "next"), (0, u "Lcom/example/admit_one/admitone/engine/DueOrder$Link;"), (0, .fieldref 2 18), (0, .nameAndType 19 16), (0, u "prev"), (0, u "(J)V"), (5, .class_ 27), (0, u "com/example/admit_one/admitone/engine/DueOrder")] 3

def k4c0 : Code := { maxStack := 3, maxLocals := 3, code := prog_5_method_1_code, exceptionTable := #[], attributes := #[] }
def k4m0 : Method := { name := "<init>", desc := "(J)V", sig := { parameters := [.long], returnType := none }, accessFlags := 0, code := some k4c0 }
/-- com/example/admit_one/admitone/engine/DueOrder$Head -/
def k4 : Class := { plain "com/example/admit_one/admitone/engine/DueOrder$Head" (some 3) with
  accessFlags := 32
  interfaces := #[]
  cf := some (fileOf pool4 8 #[.nestHost 26] #[{ accessFlags := 0, nameIndex := 5, descriptorIndex := 20, attributes := #[] }] 32 2 #[] #[{ accessFlags := 18, nameIndex := 11, descriptorIndex := 12, attributes := #[] }])
  fields := #[{ name := "tick", type := .long, accessFlags := 18, slot := 2, constantValue := 0 }]
  methods := #[k4m0]
  instanceTypes := #[(.object "com/example/admit_one/admitone/engine/DueOrder$Link"), (.object "com/example/admit_one/admitone/engine/DueOrder$Link"), .long]
  staticTypes := #[]
  resolved := Array.replicate 31 none
  statics := none }

def pool5 : Array CpInfo := pool [(2, .class_ 4), (1, u "java/lang/Object"), (0, u "<init>"), (0, u "()V"), (1, .class_ 10), (1, u "java/lang/System"), (0, u "allowSecurityManager"), (0, u "I"), (16, u "cons"), (0, u "Ljava/io/Console;"), (77, .class_ 110), (1, u "java/lang/System$CallersHolder"), (43, u "initialErrStream"), (0, u "Ljava/io/PrintStream;"), (19, u "security"), (0, u "Ljava/lang/SecurityManager;"), (31, .class_ 209), (0, u "java/lang/System$1"), (7, u "props"), (0, u "Ljava/util/Properties;"), (2, u "lineSeparator"), (0, u "Ljava/lang/String;"), (96, .class_ 321), (1, u "java/lang/System$LoggerFinder"), (5, .class_ 328), (0, u "java/lang/System$Logger"), (67, u "err"), (2, u "out"), (91, u "notSupportedJnuEncoding"), (15, u "in"), (17, u "initialIn"), (0, u "Ljava/io/InputStream;"), (35, u "bootLayer"), (0, u "Ljava/lang/ModuleLayer;"), (99, .class_ 664), (0, u "java/lang/System$2"), (9, u "NEVER"), (2, u "MAYBE"), (49, u "arraycopy"), (0, u "(Ljava/lang/Object;ILjava/lang/Object;II)V"), (72, .class_ 802), (0, u "java/lang/System$Logger$Level")] 31

def k5m0 : Method := { name := "<init>", desc := "()V", sig := { parameters := [], returnType := none }, accessFlags := 2, code := none }
def k5m1 : Method := { name := "arraycopy", desc := "(Ljava/lang/Object;ILjava/lang/Object;II)V", sig := { parameters := [(.object "java/lang/Object"), .int, (.object "java/lang/Object"), .int, .int], returnType := none }, accessFlags := 265, code := none }
/-- java/lang/System -/
def k5 : Class := { plain "java/lang/System" (some 0) with
  accessFlags := 49
  interfaces := #[]
  cf := some (fileOf pool5 8 #[.nestMembers #[319, 327, 801, 108, 663, 208]] #[{ accessFlags := 2, nameIndex := 5, descriptorIndex := 6, attributes := #[] }, { accessFlags := 265, nameIndex := 727, descriptorIndex := 728, attributes := #[] }] 49 2 #[] #[{ accessFlags := 25, nameIndex := 507, descriptorIndex := 526, attributes := #[] }, { accessFlags := 25, nameIndex := 399, descriptorIndex := 155, attributes := #[] }, { accessFlags := 25, nameIndex := 396, descriptorIndex := 155, attributes := #[] }, { accessFlags := 10, nameIndex := 525, descriptorIndex := 526, attributes := #[] }, { accessFlags := 26, nameIndex := 674, descriptorIndex := 12, attributes := #[] }, { accessFlags := 26, nameIndex := 677, descriptorIndex := 12, attributes := #[] }, { accessFlags := 10, nameIndex := 11, descriptorIndex := 12, attributes := #[] }, { accessFlags := 74, nameIndex := 175, descriptorIndex := 176, attributes := #[] }, { accessFlags := 10, nameIndex := 491, descriptorIndex := 222, attributes := #[] }, { accessFlags := 74, nameIndex := 29, descriptorIndex := 30, attributes := #[] }, { accessFlags := 74, nameIndex := 154, descriptorIndex := 155, attributes := #[] }, { accessFlags := 10, nameIndex := 217, descriptorIndex := 218, attributes := #[] }, { accessFlags := 10, nameIndex := 221, descriptorIndex := 222, attributes := #[] }, { accessFlags := 8, nameIndex := 562, descriptorIndex := 563, attributes := #[] }])
  fields := #[{ name := "in", type := (.object "java/io/InputStream"), accessFlags := 25, slot := 0, constantValue := 0 }, { name := "out", type := (.object "java/io/PrintStream"), accessFlags := 25, slot := 1, constantValue := 0 }, { name := "err", type := (.object "java/io/PrintStream"), accessFlags := 25, slot := 2, constantValue := 0 }, { name := "initialIn", type := (.object "java/io/InputStream"), accessFlags := 10, slot := 3, constantValue := 0 }, { name := "NEVER", type := .int, accessFlags := 26, slot := 4, constantValue := 0 }, { name := "MAYBE", type := .int, accessFlags := 26, slot := 5, constantValue := 0 }, { name := "allowSecurityManager", type := .int, accessFlags := 10, slot := 6, constantValue := 0 }, { name := "security", type := (.object "java/lang/SecurityManager"), accessFlags := 74, slot := 7, constantValue := 0 }, { name := "notSupportedJnuEncoding", type := (.object "java/lang/String"), accessFlags := 10, slot := 8, constantValue := 0 }, { name := "cons", type := (.object "java/io/Console"), accessFlags := 74, slot := 9, constantValue := 0 }, { name := "initialErrStream", type := (.object "java/io/PrintStream"), accessFlags := 74, slot := 10, constantValue := 0 }, { name := "props", type := (.object "java/util/Properties"), accessFlags := 10, slot := 11, constantValue := 0 }, { name := "lineSeparator", type := (.object "java/lang/String"), accessFlags := 10, slot := 12, constantValue := 0 }, { name := "bootLayer", type := (.object "java/lang/ModuleLayer"), accessFlags := 8, slot := 13, constantValue := 0 }]
  methods := #[k5m0, k5m1]
  instanceTypes := #[]
  staticTypes := #[(.object "java/io/InputStream"), (.object "java/io/PrintStream"), (.object "java/io/PrintStream"), (.object "java/io/InputStream"), .int, .int, .int, (.object "java/lang/SecurityManager"), (.object "java/lang/String"), (.object "java/io/Console"), (.object "java/io/PrintStream"), (.object "java/util/Properties"), (.object "java/lang/String"), (.object "java/lang/ModuleLayer")]
  resolved := Array.replicate 834 none
  statics := none }

def pool6 : Array CpInfo := pool [(1, .class_ 2), (0, u "java/lang/Math"), (1, .class_ 6), (1, u "java/lang/Object"), (0, u "<init>"), (0, u "()V"), (89, .class_ 100), (1, u "java/lang/Math$RandomNumberGeneratorHolder"), (20, u "(JJ)J"), (50, u "negativeZeroFloatBits"), (0, u "J"), (2, u "negativeZeroDoubleBits"), (24, u "min"), (43, u "$assertionsDisabled"), (0, u "Z"), (91, u "twoToTheDoubleScaleDown"), (0, u "D"), (4, u "twoToTheDoubleScaleUp"), (9, u "E"), (3, u "PI"), (2, u "TAU"), (2, u "DEGREES_TO_RADIANS"), (0, u "RADIANS_TO_DEGREES")] 94

def k6m0 : Method := { name := "<init>", desc := "()V", sig := { parameters := [], returnType := none }, accessFlags := 2, code := none }
def k6c1 : Code := { maxStack := 4, maxLocals := 4, code := jdk_29_method_70_code, exceptionTable := #[], attributes := #[] }
def k6m1 : Method := { name := "min", desc := "(JJ)J", sig := { parameters := [.long, .long], returnType := some .long }, accessFlags := 9, code := some k6c1 }
/-- java/lang/Math -/
def k6 : Class := { plain "java/lang/Math" (some 0) with
  accessFlags := 49
  interfaces := #[]
  cf := some (fileOf pool6 1 #[.nestMembers #[98]] #[{ accessFlags := 2, nameIndex := 7, descriptorIndex := 8, attributes := #[] }, { accessFlags := 9, nameIndex := 201, descriptorIndex := 121, attributes := #[] }] 49 4 #[] #[{ accessFlags := 25, nameIndex := 354, descriptorIndex := 339, attributes := #[] }, { accessFlags := 25, nameIndex := 358, descriptorIndex := 339, attributes := #[] }, { accessFlags := 25, nameIndex := 361, descriptorIndex := 339, attributes := #[] }, { accessFlags := 26, nameIndex := 364, descriptorIndex := 339, attributes := #[] }, { accessFlags := 26, nameIndex := 365, descriptorIndex := 339, attributes := #[] }, { accessFlags := 26, nameIndex := 172, descriptorIndex := 173, attributes := #[] }, { accessFlags := 26, nameIndex := 176, descriptorIndex := 173, attributes := #[] }, { accessFlags := 8, nameIndex := 344, descriptorIndex := 339, attributes := #[] }, { accessFlags := 8, nameIndex := 338, descriptorIndex := 339, attributes := #[] }, { accessFlags := 4120, nameIndex := 245, descriptorIndex := 246, attributes := #[] }])
  fields := #[{ name := "E", type := .double, accessFlags := 25, slot := 0, constantValue := 0 }, { name := "PI", type := .double, accessFlags := 25, slot := 1, constantValue := 0 }, { name := "TAU", type := .double, accessFlags := 25, slot := 2, constantValue := 0 }, { name := "DEGREES_TO_RADIANS", type := .double, accessFlags := 26, slot := 3, constantValue := 0 }, { name := "RADIANS_TO_DEGREES", type := .double, accessFlags := 26, slot := 4, constantValue := 0 }, { name := "negativeZeroFloatBits", type := .long, accessFlags := 26, slot := 5, constantValue := 0 }, { name := "negativeZeroDoubleBits", type := .long, accessFlags := 26, slot := 6, constantValue := 0 }, { name := "twoToTheDoubleScaleUp", type := .double, accessFlags := 8, slot := 7, constantValue := 0 }, { name := "twoToTheDoubleScaleDown", type := .double, accessFlags := 8, slot := 8, constantValue := 0 }, { name := "$assertionsDisabled", type := .boolean, accessFlags := 4120, slot := 9, constantValue := 0 }]
  methods := #[k6m0, k6m1]
  instanceTypes := #[]
  staticTypes := #[.double, .double, .double, .double, .double, .long, .long, .double, .double, .boolean]
  resolved := Array.replicate 460 none
  statics := none }

def pool7 : Array CpInfo := pool [(1, u "java/lang/Cloneable"), (0, .class_ 1), (0, u "java/lang/Object"), (0, .class_ 3)] 3

/-- java/lang/Cloneable -/
def k7 : Class := { plain "java/lang/Cloneable" (some 0) with
  accessFlags := 1537
  interfaces := #[]
  cf := some (fileOf pool7 2 #[] #[] 1537 4 #[] #[])
  fields := #[]
  methods := #[]
  instanceTypes := #[]
  staticTypes := #[]
  resolved := Array.replicate 8 none
  statics := none }

def pool8 : Array CpInfo := pool [(1, u "java/io/Serializable"), (0, .class_ 1), (0, u "java/lang/Object"), (0, .class_ 3)] 3

/-- java/io/Serializable -/
def k8 : Class := { plain "java/io/Serializable" (some 0) with
  accessFlags := 1537
  interfaces := #[]
  cf := some (fileOf pool8 2 #[] #[] 1537 4 #[] #[])
  fields := #[]
  methods := #[]
  instanceTypes := #[]
  staticTypes := #[]
  resolved := Array.replicate 8 none
  statics := none }

/-- the primitive byte -/
def k9 : Class := { plain "byte" none with kind := .primitive 'B', accessFlags := 0x411 }
/-- [B -/
def k10 : Class := { plain "[B" (some 0) with kind := .array 9 .byte, interfaces := #[7, 8], accessFlags := 1041 }

/-- the primitive int -/
def k11 : Class := { plain "int" none with kind := .primitive 'I', accessFlags := 0x411 }
/-- [I -/
def k12 : Class := { plain "[I" (some 0) with kind := .array 11 .int, interfaces := #[7, 8], accessFlags := 1041 }

/-- [Lcom/example/admit_one/admitone/engine/DueOrder$Head; -/
def k13 : Class := { plain "[Lcom/example/admit_one/admitone/engine/DueOrder$Head;" (some 0) with kind := .array 4 (.object "com/example/admit_one/admitone/engine/DueOrder$Head"), interfaces := #[7, 8], accessFlags := 1041 }

def heap : Heap := #[]
def classes : Array Class := #[k0, k1, k2, k3, k4, k5, k6, k7, k8, k9, k10, k11, k12, k13]
def interned : List (Array UInt16 × Addr) := []
def slotsUsed : Nat := 0
def theMethod : MethodId := ⟨1, 2⟩
def args0 : Array Value := #[.long 5, .long 7, .long 9, .long 11, .int 3]
def aboutOver (below : List Frame) : State where
  vm := { classes := classes, interned := interned.toArray }
  heap := heap
  slotsUsed := slotsUsed
  threads := #[{ frames := .invoking theMethod args0 :: below }]
def below0 : List Frame := [.native { method := ⟨0, 0⟩, args := #[] }]
def about1 : State := aboutOver below0
def p0 : Program := .bare "" "" ""
def e0 : Env := launch0.env 0 0 0
theorem w_frames : about1.frames = Frame.invoking theMethod args0 :: below0 := rfl
set_option maxRecDepth 65536 in
theorem w_args : argsFit about1.vm theMethod args0 = true := by decide +kernel
set_option maxRecDepth 65536 in
theorem w_heap : heapFits about1 = true := by decide +kernel
set_option maxRecDepth 65536 in
theorem w_runnable : about1.curStatus? = some .runnable := by decide +kernel
set_option maxRecDepth 65536 in
theorem w_alone : about1.alone = true := by decide +kernel
set_option maxRecDepth 65536 in
theorem w_named : about1.methodNamed? x = some theMethod := by decide +kernel
set_option maxRecDepth 65536 in
theorem w_hears : about1.hears theMethod below0 = true := by decide +kernel
set_option maxRecDepth 65536 in
theorem w_ripe : about1.ripe theMethod args0 below0 = true := by decide +kernel
theorem w_running : about1.status = .running := rfl
set_option maxRecDepth 65536 in
theorem w_room : about1.hasRoom e0.platform room_1 = true :=
  launch0.hasRoom_least _ room_1 (by decide +kernel) (by decide +kernel) (by decide +kernel) (by decide +kernel) (by decide +kernel) (by decide +kernel)
theorem allAtoms_all (ts : List Jvm.Cond) (a : Array Jvm.Value) (st : Jvm.State) : (allAtoms ts).before a st = ts.all (fun c => c.before a st) := by
  induction ts with
  | nil => rfl
  | cons c t ih =>
    show (Jvm.Cond.and c (allAtoms t)).before a st = _
    rw [Jvm.Cond.before_and, ih, List.all_cons]
def words1 : List Jvm.Cond := Jvm.Cond.code x code maxLocals ret :: tables_1
/-- a 'code' word, met by the world's own term for the bytes: nothing is compared byte by byte -/
theorem code_word {y : MethodName} {bytes : ByteArray} {mx : Nat} {rt : Option FieldType} {a : Array Value} {s : State} {m : MethodId} {meth : Method} {c : Code} (h1 : s.methodNamed? y = some m) (h2 : s.vm.method? m = some meth) (h3 : meth.code = some c) (h4 : c.code = bytes)
    (h5 : (c.maxLocals == mx && c.exceptionTable.isEmpty && decide (c.maxStack ≤ mostOperands) && decide (meth.sig.returnType = rt) && !meth.locks && decide (parseMethodDescriptor y.desc = some meth.sig)) = true) : (Jvm.Cond.code y bytes mx rt).before a s = true := by
  simp only [Bool.and_eq_true, beq_iff_eq, Bool.not_eq_true', decide_eq_true_eq] at h5
  obtain ⟨⟨⟨⟨⟨g1, g2⟩, g3⟩, g4⟩, g5⟩, g6⟩ := h5
  simp [Cond.before, Cond.holds, Cond.value, h1, h2, h3, h4, g1, g2, g3, g4, g5, g6]
def isCode : Jvm.Cond → Bool
  | .code _ _ _ _ => true
  | _ => false
theorem all_split {L : List Jvm.Cond} {P : Jvm.Cond → Bool} (h1 : L.all (fun c => isCode c || P c) = true) (h2 : ∀ c ∈ L.filter isCode, P c = true) : L.all P = true := by
  refine List.all_eq_true.mpr fun c hc => ?_
  have h := List.all_eq_true.mp h1 c hc
  rcases Bool.eq_false_or_eq_true (isCode c) with hi | hi
  · exact h2 c (List.mem_filter.mpr ⟨hc, hi⟩)
  · simpa [hi] using h
set_option maxRecDepth 65536 in
theorem w_c0 : (Jvm.Cond.code x code maxLocals ret).before args0 about1 = true := code_word (m := ⟨1, 2⟩) (meth := k1m2) (c := k1c2) (by decide +kernel) rfl rfl rfl (by decide +kernel)
set_option maxRecDepth 65536 in
theorem w_c1 : (Jvm.Cond.code ({ cls := "com/example/admit_one/admitone/engine/DueOrder", name := "<init>", desc := "()V" } : Jvm.MethodName) prog_4_method_1_code (1 : Nat) (Option.none : Option Jvm.ClassFile.FieldType)).before args0 about1 = true := code_word (m := ⟨2, 0⟩) (meth := k2m0) (c := k2c0) (by decide +kernel) rfl rfl rfl (by decide +kernel)
set_option maxRecDepth 65536 in
theorem w_c2 : (Jvm.Cond.code ({ cls := "java/lang/Object", name := "<init>", desc := "()V" } : Jvm.MethodName) object_method_1_code (1 : Nat) (Option.none : Option Jvm.ClassFile.FieldType)).before args0 about1 = true := code_word (m := ⟨0, 0⟩) (meth := k0m0) (c := k0c0) (by decide +kernel) rfl rfl rfl (by decide +kernel)
set_option maxRecDepth 65536 in
theorem w_c3 : (Jvm.Cond.code ({ cls := "com/example/admit_one/admitone/engine/DueOrder$Link", name := "<init>", desc := "()V" } : Jvm.MethodName) prog_6_method_1_code (1 : Nat) (Option.none : Option Jvm.ClassFile.FieldType)).before args0 about1 = true := code_word (m := ⟨3, 0⟩) (meth := k3m0) (c := k3c0) (by decide +kernel) rfl rfl rfl (by decide +kernel)
set_option maxRecDepth 65536 in
theorem w_c4 : (Jvm.Cond.code ({ cls := "com/example/admit_one/admitone/engine/DueOrder", name := "file", desc := "(Lcom/example/admit_one/admitone/engine/DueOrder$Link;J)V" } : Jvm.MethodName) prog_4_method_5_code (5 : Nat) (Option.none : Option Jvm.ClassFile.FieldType)).before args0 about1 = true := code_word (m := ⟨2, 2⟩) (meth := k2m2) (c := k2c2) (by decide +kernel) rfl rfl rfl (by decide +kernel)
set_option maxRecDepth 65536 in
theorem w_c5 : (Jvm.Cond.code ({ cls := "com/example/admit_one/admitone/engine/DueOrder", name := "headOf", desc := "(J)Lcom/example/admit_one/admitone/engine/DueOrder$Head;" } : Jvm.MethodName) prog_4_method_8_code (5 : Nat) (Option.some (Jvm.ClassFile.FieldType.object "com/example/admit_one/admitone/engine/DueOrder$Head"))).before args0 about1 = true := code_word (m := ⟨2, 4⟩) (meth := k2m4) (c := k2c4) (by decide +kernel) rfl rfl rfl (by decide +kernel)
set_option maxRecDepth 65536 in
theorem w_c6 : (Jvm.Cond.code ({ cls := "com/example/admit_one/admitone/engine/DueOrder", name := "dueBy", desc := "(J)I" } : Jvm.MethodName) prog_4_method_10_code (6 : Nat) (Option.some Jvm.ClassFile.FieldType.int)).before args0 about1 = true := code_word (m := ⟨2, 6⟩) (meth := k2m6) (c := k2c6) (by decide +kernel) rfl rfl rfl (by decide +kernel)
set_option maxRecDepth 65536 in
theorem w_c7 : (Jvm.Cond.code ({ cls := "com/example/admit_one/admitone/engine/DueOrder$Head", name := "<init>", desc := "(J)V" } : Jvm.MethodName) prog_5_method_1_code (3 : Nat) (Option.none : Option Jvm.ClassFile.FieldType)).before args0 about1 = true := code_word (m := ⟨4, 0⟩) (meth := k4m0) (c := k4c0) (by decide +kernel) rfl rfl rfl (by decide +kernel)
set_option maxRecDepth 65536 in
theorem w_c8 : (Jvm.Cond.code ({ cls := "com/example/admit_one/admitone/engine/DueOrder", name := "firstTick", desc := "()J" } : Jvm.MethodName) prog_4_method_3_code (1 : Nat) (Option.some Jvm.ClassFile.FieldType.long)).before args0 about1 = true := code_word (m := ⟨2, 1⟩) (meth := k2m1) (c := k2c1) (by decide +kernel) rfl rfl rfl (by decide +kernel)
set_option maxRecDepth 65536 in
theorem w_c9 : (Jvm.Cond.code ({ cls := "com/example/admit_one/admitone/engine/DueOrderFirstTickPinLaw", name := "minOf", desc := "(JJJJII)J" } : Jvm.MethodName) method_2_code (12 : Nat) (Option.some Jvm.ClassFile.FieldType.long)).before args0 about1 = true := code_word (m := ⟨1, 1⟩) (meth := k1m1) (c := k1c1) (by decide +kernel) rfl rfl rfl (by decide +kernel)
set_option maxRecDepth 65536 in
theorem w_c10 : (Jvm.Cond.code ({ cls := "java/lang/Math", name := "min", desc := "(JJ)J" } : Jvm.MethodName) jdk_29_method_70_code (4 : Nat) (Option.some Jvm.ClassFile.FieldType.long)).before args0 about1 = true := code_word (m := ⟨6, 1⟩) (meth := k6m1) (c := k6c1) (by decide +kernel) rfl rfl rfl (by decide +kernel)
set_option maxRecDepth 65536 in
theorem w_c11 : (Jvm.Cond.code ({ cls := "com/example/admit_one/admitone/engine/DueOrder", name := "remove", desc := "(Lcom/example/admit_one/admitone/engine/DueOrder$Link;)V" } : Jvm.MethodName) prog_4_method_6_code (3 : Nat) (Option.none : Option Jvm.ClassFile.FieldType)).before args0 about1 = true := code_word (m := ⟨2, 3⟩) (meth := k2m3) (c := k2c3) (by decide +kernel) rfl rfl rfl (by decide +kernel)
set_option maxRecDepth 65536 in
theorem w_c12 : (Jvm.Cond.code ({ cls := "com/example/admit_one/admitone/engine/DueOrder", name := "drop", desc := "(Lcom/example/admit_one/admitone/engine/DueOrder$Head;)V" } : Jvm.MethodName) prog_4_method_9_code (3 : Nat) (Option.none : Option Jvm.ClassFile.FieldType)).before args0 about1 = true := code_word (m := ⟨2, 5⟩) (meth := k2m5) (c := k2c5) (by decide +kernel) rfl rfl rfl (by decide +kernel)
set_option maxRecDepth 65536 in
theorem w_c13 : (Jvm.Cond.code ({ cls := "com/example/admit_one/admitone/engine/DueOrder", name := "shrinkIfSparse", desc := "()V" } : Jvm.MethodName) prog_4_method_11_code (2 : Nat) (Option.none : Option Jvm.ClassFile.FieldType)).before args0 about1 = true := code_word (m := ⟨2, 7⟩) (meth := k2m7) (c := k2c7) (by decide +kernel) rfl rfl rfl (by decide +kernel)
def codes1 : List Jvm.Cond := [Jvm.Cond.code x code maxLocals ret, Jvm.Cond.code ({ cls := "com/example/admit_one/admitone/engine/DueOrder", name := "<init>", desc := "()V" } : Jvm.MethodName) prog_4_method_1_code (1 : Nat) (Option.none : Option Jvm.ClassFile.FieldType), Jvm.Cond.code ({ cls := "java/lang/Object", name := "<init>", desc := "()V" } : Jvm.MethodName) object_method_1_code (1 : Nat) (Option.none : Option Jvm.ClassFile.FieldType), Jvm.Cond.code ({ cls := "com/example/admit_one/admitone/engine/DueOrder$Link", name := "<init>", desc := "()V" } : Jvm.MethodName) prog_6_method_1_code (1 : Nat) (Option.none : Option Jvm.ClassFile.FieldType), Jvm.Cond.code ({ cls := "com/example/admit_one/admitone/engine/DueOrder", name := "file", desc := "(Lcom/example/admit_one/admitone/engine/DueOrder$Link;J)V" } : Jvm.MethodName) prog_4_method_5_code (5 : Nat) (Option.none : Option Jvm.ClassFile.FieldType), Jvm.Cond.code ({ cls := "com/example/admit_one/admitone/engine/DueOrder", name := "headOf", desc := "(J)Lcom/example/admit_one/admitone/engine/DueOrder$Head;" } : Jvm.MethodName) prog_4_method_8_code (5 : Nat) (Option.some (Jvm.ClassFile.FieldType.object "com/example/admit_one/admitone/engine/DueOrder$Head")), Jvm.Cond.code ({ cls := "com/example/admit_one/admitone/engine/DueOrder", name := "dueBy", desc := "(J)I" } : Jvm.MethodName) prog_4_method_10_code (6 : Nat) (Option.some Jvm.ClassFile.FieldType.int), Jvm.Cond.code ({ cls := "com/example/admit_one/admitone/engine/DueOrder$Head", name := "<init>", desc := "(J)V" } : Jvm.MethodName) prog_5_method_1_code (3 : Nat) (Option.none : Option Jvm.ClassFile.FieldType), Jvm.Cond.code ({ cls := "com/example/admit_one/admitone/engine/DueOrder", name := "firstTick", desc := "()J" } : Jvm.MethodName) prog_4_method_3_code (1 : Nat) (Option.some Jvm.ClassFile.FieldType.long), Jvm.Cond.code ({ cls := "com/example/admit_one/admitone/engine/DueOrderFirstTickPinLaw", name := "minOf", desc := "(JJJJII)J" } : Jvm.MethodName) method_2_code (12 : Nat) (Option.some Jvm.ClassFile.FieldType.long), Jvm.Cond.code ({ cls := "java/lang/Math", name := "min", desc := "(JJ)J" } : Jvm.MethodName) jdk_29_method_70_code (4 : Nat) (Option.some Jvm.ClassFile.FieldType.long), Jvm.Cond.code ({ cls := "com/example/admit_one/admitone/engine/DueOrder", name := "remove", desc := "(Lcom/example/admit_one/admitone/engine/DueOrder$Link;)V" } : Jvm.MethodName) prog_4_method_6_code (3 : Nat) (Option.none : Option Jvm.ClassFile.FieldType), Jvm.Cond.code ({ cls := "com/example/admit_one/admitone/engine/DueOrder", name := "drop", desc := "(Lcom/example/admit_one/admitone/engine/DueOrder$Head;)V" } : Jvm.MethodName) prog_4_method_9_code (3 : Nat) (Option.none : Option Jvm.ClassFile.FieldType), Jvm.Cond.code ({ cls := "com/example/admit_one/admitone/engine/DueOrder", name := "shrinkIfSparse", desc := "()V" } : Jvm.MethodName) prog_4_method_11_code (2 : Nat) (Option.none : Option Jvm.ClassFile.FieldType)]
set_option maxRecDepth 65536 in
theorem codes_eq : words1.filter isCode = codes1 := rfl
theorem w_codes : ∀ c ∈ words1.filter isCode, c.before args0 about1 = true := by
  rw [codes_eq]
  intro c hc
  simp only [codes1, List.mem_cons, List.not_mem_nil, or_false] at hc
  rcases hc with rfl | rfl | rfl | rfl | rfl | rfl | rfl | rfl | rfl | rfl | rfl | rfl | rfl | rfl
  · exact w_c0
  · exact w_c1
  · exact w_c2
  · exact w_c3
  · exact w_c4
  · exact w_c5
  · exact w_c6
  · exact w_c7
  · exact w_c8
  · exact w_c9
  · exact w_c10
  · exact w_c11
  · exact w_c12
  · exact w_c13
set_option maxRecDepth 65536 in
theorem w_t1 : (words1.take 24).all (fun c => isCode c || c.before args0 about1) = true := by decide +kernel
set_option maxRecDepth 65536 in
theorem w_t2 : ((words1.drop 24).take 24).all (fun c => isCode c || c.before args0 about1) = true := by decide +kernel
set_option maxRecDepth 65536 in
theorem w_t3 : (((words1.drop 24).drop 24).take 24).all (fun c => isCode c || c.before args0 about1) = true := by decide +kernel
set_option maxRecDepth 65536 in
theorem w_t4 : (((words1.drop 24).drop 24).drop 24).all (fun c => isCode c || c.before args0 about1) = true := by decide +kernel
theorem w_tables : (allAtoms (Jvm.Cond.code x code maxLocals ret :: tables_1)).before args0 about1 = true := by
  rw [allAtoms_all]
  show words1.all (fun c => c.before args0 about1) = true
  refine all_split ?_ w_codes
  rw [← List.take_append_drop 24 words1, List.all_append, w_t1, ← List.take_append_drop 24 (words1.drop 24), List.all_append, w_t2, ← List.take_append_drop 24 ((words1.drop 24).drop 24), List.all_append, w_t3, w_t4]
  rfl
set_option maxRecDepth 65536 in
theorem w_case : (Jvm.Cond.and given_1 narrow_1).before args0 about1 = true := by decide +kernel
theorem w_applies : (headSpec (Jvm.Cond.code x code maxLocals ret :: tables_1) room_1).applies x e0.platform about1 = true :=
  (Spec.applies_iff w_frames).mpr ⟨w_running, w_runnable, w_alone, w_named, w_hears, w_ripe, w_room, w_tables⟩
theorem atStart : AtStart classFile x code maxLocals ret World_1 tables_1 room_1 Calls_1 rest_1 Pre_1 launch0 p0 e0 about1 theMethod args0 below0 :=
  ⟨lists_1, trivial, launch0.admits_env _ _ _, launch0.least_env, fairChoices_fair.cas, fairChoices_fair.clock, w_frames, w_args, w_heap, w_applies, trivial, trivial, w_case⟩
end start1
theorem witness_1 : WitnessClaimed_1 := ⟨start1.p0, start1.e0, start1.about1, start1.theMethod, start1.args0, start1.below0, start1.atStart⟩
end Jvm.Pilot.@@N@@
