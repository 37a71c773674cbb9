import JvmDerived
import JvmDerived.Pilot.@@N@@Statement
import JvmDerived.Pilot.@@N@@Code
set_option linter.unusedVariables false
set_option linter.unusedSimpArgs false
namespace Jvm.RoadKit
open Sem ClassFile Op Lib Jvm.Stand Jvm.Free Jvm.LawKit
section New
variable {p : Program} {l : Launch} {e : Env} {R : Room} {s : State} {m : MethodId} {args : Array Value} {below : List Frame} {meth : Method} {c : Code} {T : State} {locs : List Loc} {cells slots : Nat}
theorem retI (X : Stand p l e R s m args below meth c T locs cells slots) (hx : p.tables.exec = Jvm.exec) {pc : Nat} {Ls : Array Slot} {z : Int32} {rest : List Value} (hret : meth.sig.returnType = some .int) (hd : decode c.code pc = .ok (.ireturn, 1)) {fs : List Frame}
    (hl : ∀ (f : JFrame) (acts : List Action), f.method = m → f.locked = none → f.entered = [] → (doReturn e (T.setTop f) acts (some (.int z))).1 = T.setFrames fs) : Steps p.tables e below (T.setTop (mkF m pc Ls (.int z :: rest))) (T.setFrames fs) :=
  retOut X hx hret rfl (Or.inl ⟨rfl, Or.inl rfl, _, rfl⟩) hd hl
def Elt (Z : State) (h : Heap) (a : Addr) (ty : FieldType) (j : Int32) (v : Value) : Prop := ∃ cl : Cell, Arr Z h a cl ty ∧ ¬ (j < 0 ∨ cl.slots.size ≤ j.toNatClampNeg) ∧ cl.slots[j.toNatClampNeg]? = some v
theorem Elt.of {Z : State} {h : Heap} {a : Addr} {k : ClassId} {ty : FieldType} {n j : Int32} {vs : List Value} {d v : Value} (F : Arv Z h a k ty n vs d) (q : ¬ j < 0 ∧ j < n) (u : vs.getD j.toNatClampNeg d = v) : Elt Z h a ty j v := by
  obtain ⟨c, A, _, S, _, H, _⟩ := F
  exact ⟨c, A, inb_of S q, H.at (inb_of S q) u⟩
def Goes (tb : Tables) (e : Env) (below : List Frame) (P : State → Outcome → Prop) (A : State) : Prop := ∃ s₂ o, Steps tb e below A s₂ ∧ P s₂ o
theorem Goes.start {tb : Tables} {e : Env} {below : List Frame} {P : State → Outcome → Prop} {A : State} (h : Goes tb e below P A) : ∃ s₂ o, Steps tb e below A s₂ ∧ P s₂ o := h
theorem Goes.by {tb : Tables} {e : Env} {below : List Frame} {P : State → Outcome → Prop} {A B : State} (h : ∀ t, Steps tb e below B t → Steps tb e below A t) (g : Goes tb e below P B) : Goes tb e below P A := by
  obtain ⟨s₂, o, h1, h2⟩ := g
  exact ⟨s₂, o, h _ h1, h2⟩
theorem Goes.mk {tb : Tables} {e : Env} {below : List Frame} {P : State → Outcome → Prop} {A : State} (s₂ : State) (o : Outcome) (h : Steps tb e below A s₂) (hp : P s₂ o) : Goes tb e below P A := ⟨s₂, o, h, hp⟩
end New
end Jvm.RoadKit
namespace Jvm.RoadKit
open Sem ClassFile Op Lib Jvm.Stand Jvm.Free Jvm.LawKit
section Ref
variable {p : Program} {l : Launch} {e : Env} {R : Room} {s : State} {m : MethodId} {args : Array Value} {below : List Frame} {meth : Method} {c : Code} {T : State} {locs : List Loc} {cells slots : Nat} {Z : State} {a0 : Array Value} {h : Heap}
theorem own_ready (X : Stand p l e R s m args below meth c T locs cells slots) (hZ : Z.Warmed39 s.vm) {own O n d : String} {index : Nat} (hown : s.vm.findClass own = some m.cls) (w : (Cond.fieldRef own index O n d).before a0 Z = true)
    {cf i : Nat} {k : Class} {f : Field} (h2 : Z.fieldFound? O n d = some (cf, k, i, f)) : T.vm.fieldReady m.cls index cf f := by
  have hU : Z.Warmed39 T.vm := wtrans hZ X.warmed
  have w' := Cond.fieldRef_warmed39 hU w
  have hc : (Z.setVm T.vm).vm.findClass own = some m.cls := by
    show T.vm.findClass own = some m.cls
    rw [X.warmed.alike.findClass]; exact hown
  obtain ⟨c1, k1, i1, f1, e1, e2⟩ := Cond.fieldRef_spec hc w'
  obtain ⟨k', e3, -⟩ := State.fieldFound?_setVm (s := Z) hU.alike h2
  cases e1.symm.trans e3
  exact e2
theorem getFR (X : Stand p l e R s m args below meth c T locs cells slots) (hx : p.tables.exec = Jvm.exec) (hZ : Z.Warmed39 s.vm) {own O n d : String} {index : Nat} (hown : s.vm.findClass own = some m.cls) (w : (Cond.fieldRef own index O n d).before a0 Z = true)
    (eT : T.heap = h) {a : Addr} {v : Value} (F : Fld Z h a O n d v) {g : JFrame} (hg : g.method = m) {rest : List Value} (hs : g.stack = .ref a :: rest) (hd : decode c.code g.pc = .ok (.getfield index, 3)) {target : State}
    (hr : Steps p.tables e below (T.setTop { g with pc := g.pc + 3, stack := v :: rest }) target) : Steps p.tables e below (T.setTop g) target := by
  obtain ⟨cell, cf, k, i, f, h1, h2, h3, h4, -, -, h7⟩ := F
  exact (X.getfieldR hx hg (own_ready X hZ hown w h2) h3 hs (by rw [eT]; exact h1) h4 h7 hd (Steps.refl _)).trans hr
theorem putFR (X : Stand p l e R s m args below meth c T locs cells slots) (hx : p.tables.exec = Jvm.exec) (hZ : Z.Warmed39 s.vm) {own O n d C : String} {index kk : Nat} {ty : FieldType} (hown : s.vm.findClass own = some m.cls) (w : (Cond.fieldRef own index O n d).before a0 Z = true)
    (eT : T.heap = h) {a : Addr} {v old : Value} (F : Fld Z h a O n d old) (E : Exa Z h a C) (L : (Cond.lays C O n d).before a0 Z = true) (wi : (Cond.instantiable C kk).before a0 Z = true)
    (hty : parseFieldDescriptor d = some ty) (hn : narrow ty v = v) (hf : fits ty v = true) {g : JFrame} (hg : g.method = m) {rest : List Value} (hs : g.stack = v :: .ref a :: rest) (hd : decode c.code g.pc = .ok (.putfield index, 3)) :
    ∃ T' h', Stand p l e R s m args below meth c T' (locs ++ [⟨a, slotOf Z O n d⟩]) cells slots ∧ T'.heap = h' ∧ Wr h h' a (slotOf Z O n d) v ∧ ∀ target, Steps p.tables e below (T'.setTop { g with pc := g.pc + 3, stack := rest }) target → Steps p.tables e below (T.setTop g) target := by
  obtain ⟨cell, cf, k, i, f, h1, h2, h3, h4, h5, -, h7⟩ := F
  obtain ⟨cell', kc, e1, e2, e3, -⟩ := E
  cases h1.symm.trans e1
  obtain ⟨c1, k1, cf1, kf1, i1, f1, a1, a2, a3, -, a5, -, a6, -⟩ := Cond.lays_spec L
  cases h2.symm.trans a3
  cases e2.symm.trans a1
  obtain ⟨c2, k2, i1, i2, i3, -⟩ := Cond.instantiable_spec wi
  cases e2.symm.trans i1
  cases a2.symm.trans i2
  have ht := (State.fieldFound?_type h2 hty).2
  have hfit : Z.fitsSlot cell.cls cell.vm f.slot v = true := by
    have q : Z.slotType? cell.cls cell.vm f.slot = some ty := by
      simp only [State.slotType?, a2, Option.bind_eq_bind, Option.bind_some, i3]
      cases hq : cell.vm <;> first | (rw [hq] at h5; exact Bool.noConfusion h5) | (rw [a6, ht])
    simp [State.fitsSlot, q, hf]
  have hal := (wtrans hZ X.warmed : Z.Warmed39 T.vm).alike
  have hfit' : T.fitsSlot cell.cls cell.vm f.slot v = true := by
    have hq := hfit
    rw [← State.fitsSlot_setVm hal] at hq; exact hq
  have hlt := (Array.getElem?_eq_some_iff.mp h7).1
  have es : slotOf Z O n d = f.slot := by simp [slotOf, h2]
  rw [es]
  obtain ⟨X', st⟩ := X.putfieldReady hx (own_ready X hZ hown w h2) h3 (Or.inl a5) (by rw [eT]; exact h1) h4 hlt (by rw [ht]; exact hn) hfit' hg hs hd
  exact ⟨_, _, X', rfl, ⟨cell, h1, h5, hlt, by rw [← eT]; rfl⟩, st⟩
theorem own_sel {y : MethodName} {kk : Nat} (hZ : Z.Warmed39 s.vm) (wi : (Cond.instantiable y.cls kk).before a0 Z = true) (wp : (Cond.privateMethod y).before a0 Z = true) (wm : (Cond.instanceMethod y).before a0 Z = true) (hy : y.cls ≠ "java/lang/invoke/MethodHandle" ∧ y.cls ≠ "java/lang/invoke/VarHandle") : (Cond.selects y.cls y y).before args s = true := by
  obtain ⟨c, k, h1, h2, -, h4, -, -⟩ := Cond.instantiable_spec (mvT (args := args) hZ wi)
  exact selects_self_of_private h1 h2 (Bool.or_eq_false_iff.mp h4).1 (Cond.privateMethod_at (mvP hZ wp (args := args))) (mvT hZ wm) hy
end Ref
end Jvm.RoadKit
namespace Jvm.RoadKit
open Sem ClassFile Op Lib Jvm.Stand Jvm.Free Jvm.LawKit
section Calls
variable {p : Program} {l : Launch} {e : Env} {R : Room} {s : State} {m : MethodId} {args : Array Value} {below : List Frame} {meth : Method} {c : Code} {T : State} {locs : List Loc} {cells slots : Nat} {Z : State} {a0 : Array Value} {h : Heap}
theorem own_cs (X : Stand p l e R s m args below meth c T locs cells slots) (hx : p.tables.exec = Jvm.exec) (hZ : Z.Warmed39 s.vm) {own : String} {index : Nat} {y : MethodName} {bytes : ByteArray} {maxL : Nat} {ret : Option FieldType} {rm : Room} {W : Nat} {as' : Array Value} {Q : Option Value → Heap → List Loc → Prop} (hown : s.vm.findClass own = some m.cls)
    (w1 : (Cond.methodLink own index y).before a0 Z = true) (w2 : (Cond.static y).before a0 Z = true) (w3 : (Cond.initialized y.cls).before a0 Z = true) (w4 : (Cond.code y bytes maxL ret).before a0 Z = true)
    (hM : MetFree l y (head1 [Cond.code y bytes maxL ret] rm) (fun a U => a = as' ∧ Z.Warmed39 U.vm ∧ U.heap = h) (fun _ _ _ _ _ => True) (fun _ U o U' => ∃ v L, o = .returned v ∧ Q v U'.heap L ∧ FrameEnd U o U' L rm.cells rm.slots))
    {g : JFrame} (hg : g.method = m) (hsize : g.locals.size = c.maxLocals) {argsL rest : List Value} (ha : argsL.toArray = as') (hlen : ∀ sig, parseMethodDescriptor y.desc = some sig → argsL.length = sig.parameters.length) (hstack : g.stack = argsL.reverse ++ rest)
    (hdg : decode c.code g.pc = .ok (.invokestatic index, 3)) (eT : T.heap = h) {n0 : Nat} (N : Fr n0 locs) {c' s' : Nat} (hy : y.cls ≠ "java/lang/invoke/MethodHandle" ∧ y.cls ≠ "java/lang/invoke/VarHandle" := by decide) (hf : rm.frames + 1 ≤ R.frames := by decide) (hl : W + (maxL + 11) + rm.locals ≤ R.locals := by decide) (hW : 2 * g.monitorRoom + (rest.map fun v => v.category).sum ≤ W := by show 2 * 0 + _ ≤ _; exact Nat.le_of_eq rfl)
    (hc : cells + rm.cells ≤ R.cells := by decide) (hs : slots + rm.slots ≤ R.slots := by decide) (ec : cells + rm.cells = c' := by rfl) (es : slots + rm.slots = s' := by rfl) :
    ∃ (v : Option Value) (T' : State) (L' L : List Loc), Stand p l e R s m args below meth c T' L' c' s' ∧ (Fr n0 L → Fr n0 L') ∧ Q v T'.heap L ∧ ∀ target, Steps p.tables e below (T'.setTop { g with pc := g.pc + 3, stack := v.toList ++ rest }) target → Steps p.tables e below (T.setTop g) target := by
  obtain ⟨v, vm1, ⟨T', L', k', n'⟩, -, X', ⟨L, hQ, l1, y1, z1⟩, st⟩ := Jvm.LawKit.callS X hx (y := y) hown (mvT hZ w1) (mvT hZ w2) (mvT hZ w3) (mvT hZ w4) hy (backOf (W := W) hM hZ w4 w3 hf hl) (g := g) hg hsize (argsL := argsL) (rest := rest) hlen hstack hW hdg (fun _ _ => ⟨ha, eT, hc, hs⟩)
  dsimp only [Pt.U, Pt.locs, Pt.cells, Pt.slots] at X' l1 y1 z1 st hQ
  subst l1 y1 z1 ec es
  exact ⟨v, T', _, L, X', fun q => N.app q, hQ, st⟩
theorem own_ci (X : Stand p l e R s m args below meth c T locs cells slots) (hx : p.tables.exec = Jvm.exec) (hZ : Z.Warmed39 s.vm) {own : String} {index : Nat} {y : MethodName} {bytes : ByteArray} {maxL : Nat} {rm : Room} {W : Nat} {as' : Array Value} {Q : Option Value → Heap → List Loc → Prop} (hy1 : y.name = "<init>") (hown : s.vm.findClass own = some m.cls)
    (w1 : (Cond.methodLink own index y).before a0 Z = true) (w2 : (Cond.instanceMethod y).before a0 Z = true) (w3 : (Cond.initialized y.cls).before a0 Z = true) (w4 : (Cond.code y bytes maxL none).before a0 Z = true)
    (hM : MetFree l y (head1 [Cond.code y bytes maxL none] rm) (fun a U => a = as' ∧ Z.Warmed39 U.vm ∧ U.heap = h) (fun _ _ _ _ _ => True) (fun _ U o U' => ∃ v L, o = .returned v ∧ Q v U'.heap L ∧ FrameEnd U o U' L rm.cells rm.slots))
    {g : JFrame} (hg : g.method = m) (hsize : g.locals.size = c.maxLocals) {a : Addr} {argsL rest : List Value} (ha : (Value.ref a :: argsL).toArray = as') (hlen : ∀ sig, parseMethodDescriptor y.desc = some sig → argsL.length = sig.parameters.length) (hstack : g.stack = argsL.reverse ++ .ref a :: rest)
    (hdg : decode c.code g.pc = .ok (.invokespecial index, 3)) (eT : T.heap = h) {n0 : Nat} (N : Fr n0 locs) {c' s' : Nat} (hy : y.cls ≠ "java/lang/invoke/MethodHandle" ∧ y.cls ≠ "java/lang/invoke/VarHandle" := by decide) (hf : rm.frames + 1 ≤ R.frames := by decide) (hl : W + (maxL + 11) + rm.locals ≤ R.locals := by decide) (hW : 2 * g.monitorRoom + (rest.map fun v => v.category).sum ≤ W := by show 2 * 0 + _ ≤ _; exact Nat.le_of_eq rfl)
    (hc : cells + rm.cells ≤ R.cells := by decide) (hs : slots + rm.slots ≤ R.slots := by decide) (ec : cells + rm.cells = c' := by rfl) (es : slots + rm.slots = s' := by rfl) :
    ∃ (v : Option Value) (T' : State) (L' L : List Loc), Stand p l e R s m args below meth c T' L' c' s' ∧ (Fr n0 L → Fr n0 L') ∧ Q v T'.heap L ∧ ∀ target, Steps p.tables e below (T'.setTop { g with pc := g.pc + 3, stack := v.toList ++ rest }) target → Steps p.tables e below (T.setTop g) target := by
  obtain ⟨v, vm1, ⟨T', L', k', n'⟩, -, X', ⟨L, hQ, l1, y1, z1⟩, st⟩ := X.specialBack hx (y := y) hy1 hown (mvT hZ w1) (mvT hZ w2) (mvT hZ w4) hy (backOf (W := W) hM hZ w4 w3 hf hl) (g := g) hg hsize (Steps.refl _) (a := a) (argsL := argsL) (rest := rest) hlen hstack hW hdg (fun _ _ => ⟨ha, eT, hc, hs⟩)
  dsimp only [Pt.U, Pt.locs, Pt.cells, Pt.slots] at X' l1 y1 z1 st hQ
  subst l1 y1 z1 ec es
  exact ⟨v, T', _, L, X', fun q => N.app q, hQ, fun _ k => st.trans k⟩
theorem own_cv (X : Stand p l e R s m args below meth c T locs cells slots) (hx : p.tables.exec = Jvm.exec) (hZ : Z.Warmed39 s.vm) {own C : String} {index : Nat} {y : MethodName} {bytes : ByteArray} {maxL : Nat} {ret : Option FieldType} {rm : Room} {W : Nat} {as' : Array Value} {Q : Option Value → Heap → List Loc → Prop} (hown : s.vm.findClass own = some m.cls)
    (w1 : (Cond.methodLink own index y).before a0 Z = true) (w2 : (Cond.declares y).before a0 Z = true) (w5 : (Cond.selects C y y).before a0 Z = true) (w6 : (Cond.instanceMethod y).before a0 Z = true) (w3 : (Cond.initialized y.cls).before a0 Z = true) (w4 : (Cond.code y bytes maxL ret).before a0 Z = true)
    (hM : MetFree l y (head1 [Cond.code y bytes maxL ret] rm) (fun a U => a = as' ∧ Z.Warmed39 U.vm ∧ U.heap = h) (fun _ _ _ _ _ => True) (fun _ U o U' => ∃ v L, o = .returned v ∧ Q v U'.heap L ∧ FrameEnd U o U' L rm.cells rm.slots))
    {g : JFrame} (hg : g.method = m) (hsize : g.locals.size = c.maxLocals) {a : Addr} (E : Exa Z h a C) {argsL rest : List Value} (ha : (Value.ref a :: argsL).toArray = as') (hlen : ∀ sig, parseMethodDescriptor y.desc = some sig → argsL.length = sig.parameters.length) (hstack : g.stack = argsL.reverse ++ .ref a :: rest)
    (hdg : decode c.code g.pc = .ok (.invokevirtual index, 3)) (eT : T.heap = h) {n0 : Nat} (N : Fr n0 locs) {c' s' : Nat} (hy : y.cls ≠ "java/lang/invoke/MethodHandle" ∧ y.cls ≠ "java/lang/invoke/VarHandle" := by decide) (hf : rm.frames + 1 ≤ R.frames := by decide) (hl : W + (maxL + 11) + rm.locals ≤ R.locals := by decide) (hW : 2 * g.monitorRoom + (rest.map fun v => v.category).sum ≤ W := by show 2 * 0 + _ ≤ _; exact Nat.le_of_eq rfl)
    (hc : cells + rm.cells ≤ R.cells := by decide) (hs : slots + rm.slots ≤ R.slots := by decide) (ec : cells + rm.cells = c' := by rfl) (es : slots + rm.slots = s' := by rfl) :
    ∃ (v : Option Value) (T' : State) (L' L : List Loc), Stand p l e R s m args below meth c T' L' c' s' ∧ (Fr n0 L → Fr n0 L') ∧ Q v T'.heap L ∧ ∀ target, Steps p.tables e below (T'.setTop { g with pc := g.pc + 3, stack := v.toList ++ rest }) target → Steps p.tables e below (T.setTop g) target := by
  obtain ⟨cq, kq, qa, qb, qc⟩ := isOf hZ eT E
  obtain ⟨v, vm1, ⟨T', L', k', n'⟩, -, X', ⟨L, hQ, l1, y1, z1⟩, st⟩ := X.virtualBack hx (y := y) (z := y) hown (mvT hZ w1) (mvT hZ w2) (notFace_of_selects (args := #[]) (mvT hZ w5)) (mvT hZ w5) (mvT hZ w6) hy (backOf (W := W) hM hZ w4 w3 hf hl) qa qc (g := g) hg hsize (Steps.refl _) (argsL := argsL) (rest := rest) hlen hstack hW hdg (fun _ _ => ⟨ha, eT, hc, hs⟩)
  dsimp only [Pt.U, Pt.locs, Pt.cells, Pt.slots] at X' l1 y1 z1 st hQ
  subst l1 y1 z1 ec es
  exact ⟨v, T', _, L, X', fun q => N.app q, hQ, fun _ k => st.trans k⟩
theorem own_cp (X : Stand p l e R s m args below meth c T locs cells slots) (hx : p.tables.exec = Jvm.exec) (hZ : Z.Warmed39 s.vm) {own C : String} {index kk : Nat} {y : MethodName} {bytes : ByteArray} {maxL : Nat} {ret : Option FieldType} {rm : Room} {W : Nat} {as' : Array Value} {Q : Option Value → Heap → List Loc → Prop} (hown : s.vm.findClass own = some m.cls)
    (w1 : (Cond.methodLink own index y).before a0 Z = true) (w2 : (Cond.privateMethod y).before a0 Z = true) (w5 : (Cond.instantiable y.cls kk).before a0 Z = true) (w6 : (Cond.instanceMethod y).before a0 Z = true) (w3 : (Cond.initialized y.cls).before a0 Z = true) (w4 : (Cond.code y bytes maxL ret).before a0 Z = true)
    (hM : MetFree l y (head1 [Cond.code y bytes maxL ret] rm) (fun a U => a = as' ∧ Z.Warmed39 U.vm ∧ U.heap = h) (fun _ _ _ _ _ => True) (fun _ U o U' => ∃ v L, o = .returned v ∧ Q v U'.heap L ∧ FrameEnd U o U' L rm.cells rm.slots))
    {g : JFrame} (hg : g.method = m) (hsize : g.locals.size = c.maxLocals) {a : Addr} (E : Exa Z h a C) {argsL rest : List Value} (ha : (Value.ref a :: argsL).toArray = as') (hlen : ∀ sig, parseMethodDescriptor y.desc = some sig → argsL.length = sig.parameters.length) (hstack : g.stack = argsL.reverse ++ .ref a :: rest)
    (hdg : decode c.code g.pc = .ok (.invokevirtual index, 3)) (eT : T.heap = h) {n0 : Nat} (N : Fr n0 locs) {c' s' : Nat} (hy : y.cls ≠ "java/lang/invoke/MethodHandle" ∧ y.cls ≠ "java/lang/invoke/VarHandle" := by decide) (hf : rm.frames + 1 ≤ R.frames := by decide) (hl : W + (maxL + 11) + rm.locals ≤ R.locals := by decide) (hW : 2 * g.monitorRoom + (rest.map fun v => v.category).sum ≤ W := by show 2 * 0 + _ ≤ _; exact Nat.le_of_eq rfl)
    (hc : cells + rm.cells ≤ R.cells := by decide) (hs : slots + rm.slots ≤ R.slots := by decide) (ec : cells + rm.cells = c' := by rfl) (es : slots + rm.slots = s' := by rfl) :
    ∃ (v : Option Value) (T' : State) (L' L : List Loc), Stand p l e R s m args below meth c T' L' c' s' ∧ (Fr n0 L → Fr n0 L') ∧ Q v T'.heap L ∧ ∀ target, Steps p.tables e below (T'.setTop { g with pc := g.pc + 3, stack := v.toList ++ rest }) target → Steps p.tables e below (T.setTop g) target := by
  obtain ⟨cq, q, q'⟩ := E.cell
  obtain ⟨v, vm1, ⟨T', L', k', n'⟩, -, X', ⟨L, hQ, l1, y1, z1⟩, st⟩ := X.privateBack hx (y := y) hown (mvT hZ w1) (mvT hZ w6) (own_sel hZ w5 w2 w6 hy) (Cond.privateMethod_at (mvP hZ w2 (args := #[]))) (mvT hZ w4) hy (backOf (W := W) hM hZ w4 w3 hf hl) (g := g) hg hsize (Steps.refl _) (a := a) (by rw [eT]; exact q) q' (argsL := argsL) (rest := rest) hlen hstack hW hdg (fun _ _ => ⟨ha, eT, hc, hs⟩)
  dsimp only [Pt.U, Pt.locs, Pt.cells, Pt.slots] at X' l1 y1 z1 st hQ
  subst l1 y1 z1 ec es
  exact ⟨v, T', _, L, X', fun q => N.app q, hQ, fun _ k => st.trans k⟩
theorem om0 {α : Type} {a : α} {l : List α} : a ∈ a :: l := List.mem_cons_self
theorem om1 {α : Type} {a b : α} {l : List α} : a ∈ b :: a :: l := List.mem_cons_of_mem _ om0
theorem om2 {α : Type} {a b c : α} {l : List α} : a ∈ b :: c :: a :: l := List.mem_cons_of_mem _ om1
theorem om3 {α : Type} {a b c d : α} {l : List α} : a ∈ b :: c :: d :: a :: l := List.mem_cons_of_mem _ om2
end Calls
end Jvm.RoadKit
namespace Jvm.Pilot.@@N@@
open Jvm Jvm.ClassFile Sem Op Lib Jvm.Free Jvm.Stand Jvm.LawKit Jvm.RoadKit Bundle Jvm.Pilot.@@N@@.Jvm.D
abbrev cH : String := "com/example/admit_one/admitone/engine/DueOrder$Head"
abbrev cL : String := "com/example/admit_one/admitone/engine/DueOrder$Link"
abbrev cD : String := "com/example/admit_one/admitone/engine/DueOrder"
abbrev dA : String := "[Lcom/example/admit_one/admitone/engine/DueOrder$Head;"
abbrev dL : String := "Lcom/example/admit_one/admitone/engine/DueOrder$Link;"
abbrev y0 : MethodName := ⟨"com/example/admit_one/admitone/engine/DueOrder", "<init>", "()V"⟩
abbrev y1 : MethodName := ⟨"com/example/admit_one/admitone/engine/DueOrder$Link", "<init>", "()V"⟩
abbrev y2 : MethodName := ⟨"com/example/admit_one/admitone/engine/DueOrder", "file", "(Lcom/example/admit_one/admitone/engine/DueOrder$Link;J)V"⟩
abbrev y3 : MethodName := ⟨"com/example/admit_one/admitone/engine/DueOrder", "headOf", "(J)Lcom/example/admit_one/admitone/engine/DueOrder$Head;"⟩
abbrev y4 : MethodName := ⟨"com/example/admit_one/admitone/engine/DueOrder", "dueBy", "(J)I"⟩
abbrev y5 : MethodName := ⟨"com/example/admit_one/admitone/engine/DueOrder$Head", "<init>", "(J)V"⟩
abbrev y6 : MethodName := ⟨"com/example/admit_one/admitone/engine/DueOrderRemovePinLaw", "pick", "(Lcom/example/admit_one/admitone/engine/DueOrder$Link;Lcom/example/admit_one/admitone/engine/DueOrder$Link;Lcom/example/admit_one/admitone/engine/DueOrder$Link;I)Lcom/example/admit_one/admitone/engine/DueOrder$Link;"⟩
abbrev y7 : MethodName := ⟨"com/example/admit_one/admitone/engine/DueOrder", "remove", "(Lcom/example/admit_one/admitone/engine/DueOrder$Link;)V"⟩
abbrev y8 : MethodName := ⟨"com/example/admit_one/admitone/engine/DueOrder", "isFiled", "(Lcom/example/admit_one/admitone/engine/DueOrder$Link;)Z"⟩
abbrev y9 : MethodName := ⟨"com/example/admit_one/admitone/engine/DueOrder", "ticks", "()I"⟩
abbrev y10 : MethodName := ⟨"com/example/admit_one/admitone/engine/DueOrder", "firstTick", "()J"⟩
abbrev y11 : MethodName := ⟨"com/example/admit_one/admitone/engine/DueOrder", "drop", "(Lcom/example/admit_one/admitone/engine/DueOrder$Head;)V"⟩
abbrev y12 : MethodName := ⟨"com/example/admit_one/admitone/engine/DueOrder", "shrinkIfSparse", "()V"⟩
theorem wq {Z : State} {az : Array Value} (hw : ∀ d ∈ tables_1, d.before az Z = true) (i : Nat) {d : Jvm.Cond} (h : tables_1[i]? = some d) : d.before az Z = true := hw _ (List.mem_of_getElem? h)
abbrev sh0 (v0 : Int64) (v2 : Int64) (v4 : Int64) (v6 : Int32) : Array Slot := #[.val (.long v0), .second, .val (.long v2), .second, .val (.long v4), .second, .val (.int v6), .unset, .unset, .unset, .unset, .unset, .unset, .unset, .unset, .unset, .unset, .unset, .unset, .unset, .unset, .unset, .unset, .unset, .unset, .unset, .unset, .unset, .unset, .unset, .unset, .unset]
abbrev sh1 (v0 : Int64) (v2 : Int64) (v4 : Int64) (v6 : Int32) (v7 : Int64) : Array Slot := #[.val (.long v0), .second, .val (.long v2), .second, .val (.long v4), .second, .val (.int v6), .val (.long v7), .second, .unset, .unset, .unset, .unset, .unset, .unset, .unset, .unset, .unset, .unset, .unset, .unset, .unset, .unset, .unset, .unset, .unset, .unset, .unset, .unset, .unset, .unset, .unset]
abbrev sh2 (v0 : Int64) (v2 : Int64) (v4 : Int64) (v6 : Int32) (v7 : Int64) (v9 : Int64) : Array Slot := #[.val (.long v0), .second, .val (.long v2), .second, .val (.long v4), .second, .val (.int v6), .val (.long v7), .second, .val (.long v9), .second, .unset, .unset, .unset, .unset, .unset, .unset, .unset, .unset, .unset, .unset, .unset, .unset, .unset, .unset, .unset, .unset, .unset, .unset, .unset, .unset, .unset]
abbrev sh3 (v0 : Int64) (v2 : Int64) (v4 : Int64) (v6 : Int32) (v7 : Int64) (v9 : Int64) (v11 : Int32) : Array Slot := #[.val (.long v0), .second, .val (.long v2), .second, .val (.long v4), .second, .val (.int v6), .val (.long v7), .second, .val (.long v9), .second, .val (.int v11), .unset, .unset, .unset, .unset, .unset, .unset, .unset, .unset, .unset, .unset, .unset, .unset, .unset, .unset, .unset, .unset, .unset, .unset, .unset, .unset]
abbrev sh4 (v0 : Int64) (v2 : Int64) (v4 : Int64) (v6 : Int32) (v7 : Int64) (v9 : Int64) (v11 : Int32) (v12 : Int64) : Array Slot := #[.val (.long v0), .second, .val (.long v2), .second, .val (.long v4), .second, .val (.int v6), .val (.long v7), .second, .val (.long v9), .second, .val (.int v11), .val (.long v12), .second, .unset, .unset, .unset, .unset, .unset, .unset, .unset, .unset, .unset, .unset, .unset, .unset, .unset, .unset, .unset, .unset, .unset, .unset]
abbrev sh5 (v0 : Int64) (v2 : Int64) (v4 : Int64) (v6 : Int32) (v7 : Int64) (v9 : Int64) (v11 : Int32) (v12 : Int64) (v14 : Int32) : Array Slot := #[.val (.long v0), .second, .val (.long v2), .second, .val (.long v4), .second, .val (.int v6), .val (.long v7), .second, .val (.long v9), .second, .val (.int v11), .val (.long v12), .second, .val (.int v14), .unset, .unset, .unset, .unset, .unset, .unset, .unset, .unset, .unset, .unset, .unset, .unset, .unset, .unset, .unset, .unset, .unset]
abbrev sh6 (v0 : Int64) (v2 : Int64) (v4 : Int64) (v6 : Int32) (v7 : Int64) (v9 : Int64) (v11 : Int32) (v12 : Int64) (v14 : Int32) (v15 : Int32) : Array Slot := #[.val (.long v0), .second, .val (.long v2), .second, .val (.long v4), .second, .val (.int v6), .val (.long v7), .second, .val (.long v9), .second, .val (.int v11), .val (.long v12), .second, .val (.int v14), .val (.int v15), .unset, .unset, .unset, .unset, .unset, .unset, .unset, .unset, .unset, .unset, .unset, .unset, .unset, .unset, .unset, .unset]
abbrev sh7 (v0 : Int64) (v2 : Int64) (v4 : Int64) (v6 : Int32) (v7 : Int64) (v9 : Int64) (v11 : Int32) (v12 : Int64) (v14 : Int32) (v15 : Int32) (v16 : Int32) : Array Slot := #[.val (.long v0), .second, .val (.long v2), .second, .val (.long v4), .second, .val (.int v6), .val (.long v7), .second, .val (.long v9), .second, .val (.int v11), .val (.long v12), .second, .val (.int v14), .val (.int v15), .val (.int v16), .unset, .unset, .unset, .unset, .unset, .unset, .unset, .unset, .unset, .unset, .unset, .unset, .unset, .unset, .unset]
abbrev sh8 (v0 : Int64) (v2 : Int64) (v4 : Int64) (v6 : Int32) (v7 : Int64) (v9 : Int64) (v11 : Int32) (v12 : Int64) (v14 : Int32) (v15 : Int32) (v16 : Int32) (v17 : Int32) : Array Slot := #[.val (.long v0), .second, .val (.long v2), .second, .val (.long v4), .second, .val (.int v6), .val (.long v7), .second, .val (.long v9), .second, .val (.int v11), .val (.long v12), .second, .val (.int v14), .val (.int v15), .val (.int v16), .val (.int v17), .unset, .unset, .unset, .unset, .unset, .unset, .unset, .unset, .unset, .unset, .unset, .unset, .unset, .unset]
abbrev sh9 (v0 : Int64) (v2 : Int64) (v4 : Int64) (v6 : Int32) (v7 : Int64) (v9 : Int64) (v11 : Int32) (v12 : Int64) (v14 : Int32) (v15 : Int32) (v16 : Int32) (v17 : Int32) (v18 : Int32) : Array Slot := #[.val (.long v0), .second, .val (.long v2), .second, .val (.long v4), .second, .val (.int v6), .val (.long v7), .second, .val (.long v9), .second, .val (.int v11), .val (.long v12), .second, .val (.int v14), .val (.int v15), .val (.int v16), .val (.int v17), .val (.int v18), .unset, .unset, .unset, .unset, .unset, .unset, .unset, .unset, .unset, .unset, .unset, .unset, .unset]
abbrev sh10 (v0 : Int64) (v2 : Int64) (v4 : Int64) (v6 : Int32) (v7 : Int64) (v9 : Int64) (v11 : Int32) (v12 : Int64) (v14 : Int32) (v15 : Int32) (v16 : Int32) (v17 : Int32) (v18 : Int32) (v19 : Addr) (v20 : Addr) (v21 : Addr) (v22 : Addr) (v23 : Int32) (v24 : Int32) (v25 : Int32) : Array Slot := #[.val (.long v0), .second, .val (.long v2), .second, .val (.long v4), .second, .val (.int v6), .val (.long v7), .second, .val (.long v9), .second, .val (.int v11), .val (.long v12), .second, .val (.int v14), .val (.int v15), .val (.int v16), .val (.int v17), .val (.int v18), .val (.ref v19), .val (.ref v20), .val (.ref v21), .val (.ref v22), .val (.int v23), .val (.int v24), .val (.int v25), .unset, .unset, .unset, .unset, .unset, .unset]
abbrev sh11 (v0 : Int64) (v2 : Int64) (v4 : Int64) (v6 : Int32) (v7 : Int64) (v9 : Int64) (v11 : Int32) (v12 : Int64) (v14 : Int32) (v15 : Int32) (v16 : Int32) (v17 : Int32) (v18 : Int32) (v19 : Addr) (v20 : Addr) (v21 : Addr) (v22 : Addr) (v23 : Int32) (v24 : Int32) (v25 : Int32) (v26 : Int32) : Array Slot := #[.val (.long v0), .second, .val (.long v2), .second, .val (.long v4), .second, .val (.int v6), .val (.long v7), .second, .val (.long v9), .second, .val (.int v11), .val (.long v12), .second, .val (.int v14), .val (.int v15), .val (.int v16), .val (.int v17), .val (.int v18), .val (.ref v19), .val (.ref v20), .val (.ref v21), .val (.ref v22), .val (.int v23), .val (.int v24), .val (.int v25), .val (.int v26), .unset, .unset, .unset, .unset, .unset]
abbrev sh12 (v0 : Int64) (v2 : Int64) (v4 : Int64) (v6 : Int32) (v7 : Int64) (v9 : Int64) (v11 : Int32) (v12 : Int64) (v14 : Int32) (v15 : Int32) (v16 : Int32) (v17 : Int32) (v18 : Int32) (v19 : Addr) (v20 : Addr) (v21 : Addr) (v22 : Addr) (v23 : Int32) (v24 : Int32) (v25 : Int32) (v26 : Int32) (v27 : Int64) : Array Slot := #[.val (.long v0), .second, .val (.long v2), .second, .val (.long v4), .second, .val (.int v6), .val (.long v7), .second, .val (.long v9), .second, .val (.int v11), .val (.long v12), .second, .val (.int v14), .val (.int v15), .val (.int v16), .val (.int v17), .val (.int v18), .val (.ref v19), .val (.ref v20), .val (.ref v21), .val (.ref v22), .val (.int v23), .val (.int v24), .val (.int v25), .val (.int v26), .val (.long v27), .second, .unset, .unset, .unset]
abbrev sh13 (v0 : Int64) (v2 : Int64) (v4 : Int64) (v6 : Int32) (v7 : Int64) (v9 : Int64) (v11 : Int32) (v12 : Int64) (v14 : Int32) (v15 : Int32) (v16 : Int32) (v17 : Int32) (v18 : Int32) (v19 : Addr) (v20 : Addr) (v21 : Addr) (v22 : Addr) (v23 : Int32) (v24 : Int32) (v25 : Int32) (v26 : Int32) (v27 : Int64) (v29 : Int32) : Array Slot := #[.val (.long v0), .second, .val (.long v2), .second, .val (.long v4), .second, .val (.int v6), .val (.long v7), .second, .val (.long v9), .second, .val (.int v11), .val (.long v12), .second, .val (.int v14), .val (.int v15), .val (.int v16), .val (.int v17), .val (.int v18), .val (.ref v19), .val (.ref v20), .val (.ref v21), .val (.ref v22), .val (.int v23), .val (.int v24), .val (.int v25), .val (.int v26), .val (.long v27), .second, .val (.int v29), .unset, .unset]
abbrev sh14 (v0 : Int64) (v2 : Int64) (v4 : Int64) (v6 : Int32) (v7 : Int64) (v9 : Int64) (v11 : Int32) (v12 : Int64) (v14 : Int32) (v15 : Int32) (v16 : Int32) (v17 : Int32) (v18 : Int32) (v19 : Addr) (v20 : Addr) (v21 : Addr) (v22 : Addr) (v23 : Int32) (v24 : Int32) (v25 : Int32) (v26 : Int32) (v27 : Int64) (v29 : Int32) (v30 : Int32) : Array Slot := #[.val (.long v0), .second, .val (.long v2), .second, .val (.long v4), .second, .val (.int v6), .val (.long v7), .second, .val (.long v9), .second, .val (.int v11), .val (.long v12), .second, .val (.int v14), .val (.int v15), .val (.int v16), .val (.int v17), .val (.int v18), .val (.ref v19), .val (.ref v20), .val (.ref v21), .val (.ref v22), .val (.int v23), .val (.int v24), .val (.int v25), .val (.int v26), .val (.long v27), .second, .val (.int v29), .val (.int v30), .unset]
abbrev sh15 (v0 : Int64) (v2 : Int64) (v4 : Int64) (v6 : Int32) (v7 : Int64) (v9 : Int64) (v11 : Int32) (v12 : Int64) (v14 : Int32) (v15 : Int32) (v16 : Int32) (v17 : Int32) (v18 : Int32) (v19 : Addr) (v20 : Addr) (v21 : Addr) (v22 : Addr) (v23 : Int32) (v24 : Int32) (v25 : Int32) (v26 : Int32) (v27 : Int64) (v29 : Int32) (v30 : Int32) (v31 : Int32) : Array Slot := #[.val (.long v0), .second, .val (.long v2), .second, .val (.long v4), .second, .val (.int v6), .val (.long v7), .second, .val (.long v9), .second, .val (.int v11), .val (.long v12), .second, .val (.int v14), .val (.int v15), .val (.int v16), .val (.int v17), .val (.int v18), .val (.ref v19), .val (.ref v20), .val (.ref v21), .val (.ref v22), .val (.int v23), .val (.int v24), .val (.int v25), .val (.int v26), .val (.long v27), .second, .val (.int v29), .val (.int v30), .val (.int v31)]
abbrev sh16 (v0 : Int64) (v2 : Int64) (v4 : Int64) (v6 : Int32) (v7 : Int64) (v9 : Int64) (v11 : Int32) (v12 : Int64) (v14 : Int32) (v15 : Int32) (v16 : Int32) (v17 : Int32) (v18 : Int32) (v19 : Addr) (v20 : Addr) (v21 : Addr) (v22 : Addr) : Array Slot := #[.val (.long v0), .second, .val (.long v2), .second, .val (.long v4), .second, .val (.int v6), .val (.long v7), .second, .val (.long v9), .second, .val (.int v11), .val (.long v12), .second, .val (.int v14), .val (.int v15), .val (.int v16), .val (.int v17), .val (.int v18), .val (.ref v19), .val (.ref v20), .val (.ref v21), .val (.ref v22), .unset, .unset, .unset, .unset, .unset, .unset, .unset, .unset, .unset]
abbrev sh17 (v0 : Int64) (v2 : Int64) (v4 : Int64) (v6 : Int32) (v7 : Int64) (v9 : Int64) (v11 : Int32) (v12 : Int64) (v14 : Int32) (v15 : Int32) (v16 : Int32) (v17 : Int32) (v18 : Int32) (v19 : Addr) (v20 : Addr) (v21 : Addr) (v22 : Addr) (v23 : Int32) : Array Slot := #[.val (.long v0), .second, .val (.long v2), .second, .val (.long v4), .second, .val (.int v6), .val (.long v7), .second, .val (.long v9), .second, .val (.int v11), .val (.long v12), .second, .val (.int v14), .val (.int v15), .val (.int v16), .val (.int v17), .val (.int v18), .val (.ref v19), .val (.ref v20), .val (.ref v21), .val (.ref v22), .val (.int v23), .unset, .unset, .unset, .unset, .unset, .unset, .unset, .unset]
abbrev sh18 (v0 : Int64) (v2 : Int64) (v4 : Int64) (v6 : Int32) (v7 : Int64) (v9 : Int64) (v11 : Int32) (v12 : Int64) (v14 : Int32) (v15 : Int32) (v16 : Int32) (v17 : Int32) (v18 : Int32) (v19 : Addr) (v20 : Addr) (v21 : Addr) (v22 : Addr) (v23 : Int32) (v24 : Int32) : Array Slot := #[.val (.long v0), .second, .val (.long v2), .second, .val (.long v4), .second, .val (.int v6), .val (.long v7), .second, .val (.long v9), .second, .val (.int v11), .val (.long v12), .second, .val (.int v14), .val (.int v15), .val (.int v16), .val (.int v17), .val (.int v18), .val (.ref v19), .val (.ref v20), .val (.ref v21), .val (.ref v22), .val (.int v23), .val (.int v24), .unset, .unset, .unset, .unset, .unset, .unset, .unset]
abbrev sh19 (v0 : Int64) (v2 : Int64) (v4 : Int64) (v6 : Int32) (v7 : Int64) (v9 : Int64) (v11 : Int32) (v12 : Int64) (v14 : Int32) (v15 : Int32) (v16 : Int32) (v17 : Int32) (v18 : Int32) (v19 : Addr) : Array Slot := #[.val (.long v0), .second, .val (.long v2), .second, .val (.long v4), .second, .val (.int v6), .val (.long v7), .second, .val (.long v9), .second, .val (.int v11), .val (.long v12), .second, .val (.int v14), .val (.int v15), .val (.int v16), .val (.int v17), .val (.int v18), .val (.ref v19), .unset, .unset, .unset, .unset, .unset, .unset, .unset, .unset, .unset, .unset, .unset, .unset]
abbrev sh20 (v0 : Int64) (v2 : Int64) (v4 : Int64) (v6 : Int32) (v7 : Int64) (v9 : Int64) (v11 : Int32) (v12 : Int64) (v14 : Int32) (v15 : Int32) (v16 : Int32) (v17 : Int32) (v18 : Int32) (v19 : Addr) (v20 : Addr) : Array Slot := #[.val (.long v0), .second, .val (.long v2), .second, .val (.long v4), .second, .val (.int v6), .val (.long v7), .second, .val (.long v9), .second, .val (.int v11), .val (.long v12), .second, .val (.int v14), .val (.int v15), .val (.int v16), .val (.int v17), .val (.int v18), .val (.ref v19), .val (.ref v20), .unset, .unset, .unset, .unset, .unset, .unset, .unset, .unset, .unset, .unset, .unset]
abbrev sh21 (v0 : Int64) (v2 : Int64) (v4 : Int64) (v6 : Int32) (v7 : Int64) (v9 : Int64) (v11 : Int32) (v12 : Int64) (v14 : Int32) (v15 : Int32) (v16 : Int32) (v17 : Int32) (v18 : Int32) (v19 : Addr) (v20 : Addr) (v21 : Addr) : Array Slot := #[.val (.long v0), .second, .val (.long v2), .second, .val (.long v4), .second, .val (.int v6), .val (.long v7), .second, .val (.long v9), .second, .val (.int v11), .val (.long v12), .second, .val (.int v14), .val (.int v15), .val (.int v16), .val (.int v17), .val (.int v18), .val (.ref v19), .val (.ref v20), .val (.ref v21), .unset, .unset, .unset, .unset, .unset, .unset, .unset, .unset, .unset, .unset]
theorem d3_0 : decode prog_6_method_1_code 0 = .ok (.aload_n 0, 1) := by decide +kernel
theorem d3_1 : decode prog_6_method_1_code 1 = .ok (.invokespecial 1, 3) := by decide +kernel
theorem d3_4 : decode prog_6_method_1_code 4 = .ok (.return_, 1) := by decide +kernel
def QLinkI (Z : State) (a0 : Addr) (h0 : Heap) (n0 : Nat) (v : Option Value) (h : Heap) (L : List Loc) : Prop := v = none ∧ Fr n0 L ∧ h = h0
theorem own_pn_com_example_admit_one_admitone_engine_DueOrder_Link : plainName cL = true := by first | (simp [plainName, overriddenIn]; done) | decide +kernel
theorem efLinkI (m : MethodId) (x0 : Addr) : entryFrame m #[(.ref x0)] 1 = mkF m 0 #[.val (.ref x0)] [] := by first | (simp [entryFrame, mkF, argsToLocals, Value.category]; done) | rfl
set_option maxRecDepth 65536 in
set_option maxHeartbeats 40000000 in
theorem rmLinkI (l : Launch) (Z : State) (az : Array Value) (hw : ∀ d ∈ tables_1, d.before az Z = true) (ws : List Jvm.Cond) (a0 : Addr) (h0 : Heap) (n0 : Nat) (Z0 : n0 ≤ h0.size) :
    MetFree l y1 (head1 (Jvm.Cond.code y1 prog_6_method_1_code 1 none :: ws) ({ frames := 1, cells := 0, slots := 0, locals := 12 } : Room)) (fun a U => a = #[(.ref a0)] ∧ Z.Warmed39 U.vm ∧ U.heap = h0) (fun _ _ _ _ _ => True) (fun _ U o U' => ∃ v L, o = .returned v ∧ QLinkI Z a0 h0 n0 v U'.heap L ∧ FrameEnd U o U' L ({ frames := 1, cells := 0, slots := 0, locals := 12 } : Room).cells ({ frames := 1, cells := 0, slots := 0, locals := 12 } : Room).slots) := by
  refine MetFree.of_bodySF (plainFor_of_name own_pn_com_example_admit_one_admitone_engine_DueOrder_Link) hisR ?_
  intro p e s m args below meth c s₁ Bd hml0 hP hK
  obtain ⟨rfl, hZ, hh⟩ := hP
  have hx := Bd.exec
  have hby := Bd.bytes
  have hml : c.maxLocals = 1 := hml0
  have hown : s.vm.findClass cL = some m.cls := findClass_of_methodNamed Bd.named
  have hnm := (name_of_methodNamed Bd.named Bd.method).1
  have X0 : Stand p l e ({ frames := 1, cells := 0, slots := 0, locals := 12 } : Room) s m #[(.ref a0)] below meth c s₁ [] 0 0 := Stand.of_body Bd
  have e0 : s₁.heap = h0 := by rw [← hh, Bd.state]; rfl
  have N0 := Fr.nil n0
  have Kp0 : Keep h0 h0 [] := Keep.refl _ _
  refine Goes.start ?_
  refine Goes.by (B := s₁.setTop (mkF m 0 #[.val (.ref a0)] [])) (fun t k => castTop (efLinkI m a0) k) ?_
  refine Goes.by (fun _ => XS.aloadN X0.here hx rfl (hb hby d3_0) rfl rfl) ?_
  obtain ⟨T1, X1, e1, st1⟩ := initO X0 hx hZ hown (wq hw 19 rfl) (wq hw 7 rfl) (wq hw 8 rfl) e0 (g := (mkF m 1 #[.val (.ref a0)] [(.ref a0)])) rfl (by rw [hml]; rfl) rfl (hb hby d3_1) (by decide) (W := 0) (by show 2 * 0 + _ ≤ _; exact Nat.le_of_eq rfl) (by decide)
  refine Goes.by st1 ?_
  obtain ⟨fs, hr, hrun, hended, hW, hsame⟩ := X1.leave (v := none) (fun _ => rfl)
  refine Goes.mk _ _ ?_ ⟨hrun, hended, _, _, rfl, ?_, ⟨_, rfl⟩, hW, hsame.mono (by decide) (by decide)⟩
  · exact X1.returnOut hx Bd.returns (hb hby d3_4) hr
  · show QLinkI Z a0 h0 n0 _ T1.heap _
    rw [e1]
    exact ⟨rfl, N0, rfl⟩
theorem d1_0 : decode prog_4_method_1_code 0 = .ok (.aload_n 0, 1) := by decide +kernel
theorem d1_1 : decode prog_4_method_1_code 1 = .ok (.invokespecial 1, 3) := by decide +kernel
theorem d1_4 : decode prog_4_method_1_code 4 = .ok (.aload_n 0, 1) := by decide +kernel
theorem d1_5 : decode prog_4_method_1_code 5 = .ok (.iconst 4, 1) := by decide +kernel
theorem d1_6 : decode prog_4_method_1_code 6 = .ok (.anewarray 9, 3) := by decide +kernel
theorem d1_9 : decode prog_4_method_1_code 9 = .ok (.putfield 11, 3) := by decide +kernel
theorem d1_12 : decode prog_4_method_1_code 12 = .ok (.return_, 1) := by decide +kernel
def QDueI (Z : State) (a0 : Addr) (h0 : Heap) (n0 : Nat) (v : Option Value) (h : Heap) (L : List Loc) : Prop := ∃ ar : Addr, ∃ kA : ClassId, v = none ∧ Fr n0 L ∧ Keep h0 h [a0] ∧ h0.size ≤ ar ∧ Exa Z h a0 cD ∧ Fld Z h a0 cD "heads" dA (.ref ar) ∧ Fld Z h a0 cD "count" "I" (.int (0 : Int32)) ∧ Arv Z h ar kA (.object cH) (4 : Int32) [.null, .null, .null, .null] .null ∧ Ovr Z kA cH
theorem own_pn_com_example_admit_one_admitone_engine_DueOrder : plainName cD = true := by first | (simp [plainName, overriddenIn]; done) | decide +kernel
theorem efDueI (m : MethodId) (x0 : Addr) : entryFrame m #[(.ref x0)] 1 = mkF m 0 #[.val (.ref x0)] [] := by first | (simp [entryFrame, mkF, argsToLocals, Value.category]; done) | rfl
set_option maxRecDepth 65536 in
set_option maxHeartbeats 40000000 in
theorem rmDueI (l : Launch) (Z : State) (az : Array Value) (hw : ∀ d ∈ tables_1, d.before az Z = true) (ws : List Jvm.Cond) (a0 : Addr) (h0 : Heap) (n0 : Nat) (Z0 : n0 ≤ h0.size) (F0 : Exa Z h0 a0 cD) (F1 : Fld Z h0 a0 cD "heads" dA .null) (F2 : Fld Z h0 a0 cD "count" "I" (.int (0 : Int32))) (Ge0 : n0 ≤ a0) :
    MetFree l y0 (head1 (Jvm.Cond.code y0 prog_4_method_1_code 1 none :: ws) ({ frames := 1, cells := 1, slots := 4, locals := 12 } : Room)) (fun a U => a = #[(.ref a0)] ∧ Z.Warmed39 U.vm ∧ U.heap = h0) (fun _ _ _ _ _ => True) (fun _ U o U' => ∃ v L, o = .returned v ∧ QDueI Z a0 h0 n0 v U'.heap L ∧ FrameEnd U o U' L ({ frames := 1, cells := 1, slots := 4, locals := 12 } : Room).cells ({ frames := 1, cells := 1, slots := 4, locals := 12 } : Room).slots) := by
  refine MetFree.of_bodySF (plainFor_of_name own_pn_com_example_admit_one_admitone_engine_DueOrder) hisR ?_
  intro p e s m args below meth c s₁ Bd hml0 hP hK
  obtain ⟨rfl, hZ, hh⟩ := hP
  have hx := Bd.exec
  have hby := Bd.bytes
  have hml : c.maxLocals = 1 := hml0
  have hown : s.vm.findClass cD = some m.cls := findClass_of_methodNamed Bd.named
  have hnm := (name_of_methodNamed Bd.named Bd.method).1
  have X0 : Stand p l e ({ frames := 1, cells := 1, slots := 4, locals := 12 } : Room) s m #[(.ref a0)] below meth c s₁ [] 0 0 := Stand.of_body Bd
  have e0 : s₁.heap = h0 := by rw [← hh, Bd.state]; rfl
  have N0 := Fr.nil n0
  have Kp0 : Keep h0 h0 [a0] := Keep.refl _ _
  refine Goes.start ?_
  refine Goes.by (B := s₁.setTop (mkF m 0 #[.val (.ref a0)] [])) (fun t k => castTop (efDueI m a0) k) ?_
  refine Goes.by (fun _ => XS.aloadN X0.here hx rfl (hb hby d1_0) rfl rfl) ?_
  obtain ⟨T1, X1, e1, st1⟩ := initO X0 hx hZ hown (wq hw 6 rfl) (wq hw 7 rfl) (wq hw 8 rfl) e0 (g := (mkF m 1 #[.val (.ref a0)] [(.ref a0)])) rfl (by rw [hml]; rfl) rfl (hb hby d1_1) (by decide) (W := 0) (by show 2 * 0 + _ ≤ _; exact Nat.le_of_eq rfl) (by decide)
  refine Goes.by st1 ?_
  refine Goes.by (fun _ => XS.aloadN X1.here hx rfl (hb hby d1_4) rfl rfl) ?_
  refine Goes.by (fun _ => XS.iconst X1.here hx rfl (hb hby d1_5)) ?_
  obtain ⟨T2, h2, k2, X2, e2, E2, A2, O2, st2⟩ := newR X1 hx hZ hown (wq hw 9 rfl) (wq hw 10 rfl) e1 (g := (mkF m 6 #[.val (.ref a0)] [(.int (4 : Int32)), (.ref a0)])) rfl (hb hby d1_6) rfl (by decide) (cap := 4) (by decide) (by decide) (by decide) (by decide)
  obtain ⟨b3, g2⟩ : ∃ z, z = h0.size := ⟨_, rfl⟩
  rw [← g2] at A2 st2
  have ne4 : a0 ≠ b3 := Nat.ne_of_lt (Nat.lt_of_lt_of_le F0.lt (Nat.le_of_eq g2.symm))
  have ge5 : n0 ≤ b3 := Nat.le_trans Z0 (Nat.le_of_eq g2.symm)
  have sz6 : h0.size ≤ b3 := Nat.le_trans Kp0.1 (Nat.le_of_eq g2.symm)
  have f7 := F0.ext E2
  have f8 := F1.ext E2
  have f9 := F2.ext E2
  have f10 : Arv Z h2 b3 k2 (.object cH) (4 : Int32) [.null, .null, .null, .null] .null := (Arv.new A2 (by decide)).pad (pad_rep [] .null 4)
  have Kp2 : Keep h0 h2 [a0] := Kp0.ext E2
  have Z11 := Nat.le_trans Z0 E2.1
  refine Goes.by st2 ?_
  obtain ⟨T12, h12, X12, e12, W12, st12⟩ := putF X2 hx hZ hown (host := "") (Or.inl (wq hw 11 rfl)) Via.refl e2 f8 f7 (Or.inl (wq hw 12 rfl)) (wq hw 1 rfl) (ty := (.array (.object cH))) (by decide) rfl rfl (g := (mkF m 9 #[.val (.ref a0)] [(.ref b3), (.ref a0)])) rfl rfl (hb hby d1_9)
  have f13 := f7.wr W12
  have f14 := f9.other W12 (Or.inr (slot_ne (Or.inl (wq hw 30 rfl)) (Or.inl (wq hw 12 rfl)) (by decide) (t := .int) (t' := (.array (.object cH))) (by decide) (by decide)))
  have f15 := f10.other W12 (Ne.symm ne4)
  have f16 : Fld Z h12 a0 cD "heads" dA (.ref b3) := f8.same W12
  have Kp12 : Keep h0 h12 [a0] := Kp2.wr W12 (Or.inl om0)
  have Z17 := Nat.le_trans Z11 (Nat.le_of_eq W12.size.symm)
  have N18 := Fr.snoc X12 N0 Ge0
  refine Goes.by st12 ?_
  obtain ⟨fs, hr, hrun, hended, hW, hsame⟩ := X12.leave (v := none) (fun _ => rfl)
  refine Goes.mk _ _ ?_ ⟨hrun, hended, _, _, rfl, ?_, ⟨_, rfl⟩, hW, hsame.mono (by decide) (by decide)⟩
  · exact X12.returnOut hx Bd.returns (hb hby d1_12) hr
  · show QDueI Z a0 h0 n0 _ T12.heap _
    rw [e12]
    exact ⟨b3, k2, rfl, N18, Kp12, sz6, f13, f16, f14, f15, O2⟩
theorem d7_0 : decode prog_5_method_1_code 0 = .ok (.aload_n 0, 1) := by decide +kernel
theorem d7_1 : decode prog_5_method_1_code 1 = .ok (.invokespecial 1, 3) := by decide +kernel
theorem own_pd0 : parseMethodDescriptor "()V" = some ⟨[], none⟩ := by decide +kernel
theorem d7_4 : decode prog_5_method_1_code 4 = .ok (.aload_n 0, 1) := by decide +kernel
theorem d7_5 : decode prog_5_method_1_code 5 = .ok (.lload_n 1, 1) := by decide +kernel
theorem d7_6 : decode prog_5_method_1_code 6 = .ok (.putfield 7, 3) := by decide +kernel
theorem d7_9 : decode prog_5_method_1_code 9 = .ok (.aload_n 0, 1) := by decide +kernel
theorem d7_10 : decode prog_5_method_1_code 10 = .ok (.aload_n 0, 1) := by decide +kernel
theorem d7_11 : decode prog_5_method_1_code 11 = .ok (.putfield 13, 3) := by decide +kernel
theorem d7_14 : decode prog_5_method_1_code 14 = .ok (.aload_n 0, 1) := by decide +kernel
theorem d7_15 : decode prog_5_method_1_code 15 = .ok (.aload_n 0, 1) := by decide +kernel
theorem d7_16 : decode prog_5_method_1_code 16 = .ok (.putfield 17, 3) := by decide +kernel
theorem d7_19 : decode prog_5_method_1_code 19 = .ok (.return_, 1) := by decide +kernel
def QHeadI (Z : State) (a0 : Addr) (q1 : Int64) (h0 : Heap) (n0 : Nat) (v : Option Value) (h : Heap) (L : List Loc) : Prop := v = none ∧ Fr n0 L ∧ Keep h0 h [a0] ∧ Exa Z h a0 cH ∧ Fld Z h a0 cH "tick" "J" (.long q1) ∧ Fld Z h a0 cL "next" dL (.ref a0) ∧ Fld Z h a0 cL "prev" dL (.ref a0)
theorem own_pn_com_example_admit_one_admitone_engine_DueOrder_Head : plainName cH = true := by first | (simp [plainName, overriddenIn]; done) | decide +kernel
theorem efHeadI (m : MethodId) (x0 : Addr) (x1 : Int64) : entryFrame m #[(.ref x0), (.long x1)] 3 = mkF m 0 #[.val (.ref x0), .val (.long x1), .second] [] := by first | (simp [entryFrame, mkF, argsToLocals, Value.category]; done) | rfl
set_option maxRecDepth 65536 in
set_option maxHeartbeats 40000000 in
theorem rmHeadI (l : Launch) (Z : State) (az : Array Value) (hw : ∀ d ∈ tables_1, d.before az Z = true) (ws : List Jvm.Cond) (a0 : Addr) (q1 : Int64) (h0 : Heap) (n0 : Nat) (Z0 : n0 ≤ h0.size) (F0 : Exa Z h0 a0 cH) (F1 : Fld Z h0 a0 cH "tick" "J" (.long (0 : Int64))) (F2 : Fld Z h0 a0 cL "next" dL .null) (F3 : Fld Z h0 a0 cL "prev" dL .null) (Ge0 : n0 ≤ a0) :
    MetFree l y5 (head1 (Jvm.Cond.code y5 prog_5_method_1_code 3 none :: ws) ({ frames := 2, cells := 0, slots := 0, locals := 24 } : Room)) (fun a U => a = #[(.ref a0), (.long q1)] ∧ Z.Warmed39 U.vm ∧ U.heap = h0) (fun _ _ _ _ _ => True) (fun _ U o U' => ∃ v L, o = .returned v ∧ QHeadI Z a0 q1 h0 n0 v U'.heap L ∧ FrameEnd U o U' L ({ frames := 2, cells := 0, slots := 0, locals := 24 } : Room).cells ({ frames := 2, cells := 0, slots := 0, locals := 24 } : Room).slots) := by
  refine MetFree.of_bodySF (plainFor_of_name own_pn_com_example_admit_one_admitone_engine_DueOrder_Head) hisR ?_
  intro p e s m args below meth c s₁ Bd hml0 hP hK
  obtain ⟨rfl, hZ, hh⟩ := hP
  have hx := Bd.exec
  have hby := Bd.bytes
  have hml : c.maxLocals = 3 := hml0
  have hown : s.vm.findClass cH = some m.cls := findClass_of_methodNamed Bd.named
  have hnm := (name_of_methodNamed Bd.named Bd.method).1
  have X0 : Stand p l e ({ frames := 2, cells := 0, slots := 0, locals := 24 } : Room) s m #[(.ref a0), (.long q1)] below meth c s₁ [] 0 0 := Stand.of_body Bd
  have e0 : s₁.heap = h0 := by rw [← hh, Bd.state]; rfl
  have N0 := Fr.nil n0
  have Kp0 : Keep h0 h0 [a0] := Keep.refl _ _
  refine Goes.start ?_
  refine Goes.by (B := s₁.setTop (mkF m 0 #[.val (.ref a0), .val (.long q1), .second] [])) (fun t k => castTop (efHeadI m a0 q1) k) ?_
  refine Goes.by (fun _ => XS.aloadN X0.here hx rfl (hb hby d7_0) rfl rfl) ?_
  obtain ⟨_, T1, L1, Lc1, X1, hF1, hQ1, st1⟩ := own_ci X0 hx hZ rfl hown (wq hw 44 rfl) (wq hw 17 rfl) (wq hw 15 rfl) (wq hw 18 rfl) (rmLinkI l Z az hw [] a0 h0 n0 Z0 ) (W := 0) (g := (mkF m 1 #[.val (.ref a0), .val (.long q1), .second] [(.ref a0)])) rfl (by rw [hml]; rfl) (argsL := []) (rest := []) rfl (lenOf own_pd0 rfl) rfl (hb hby d7_1) e0 N0 (c' := 0) (s' := 0)
  obtain ⟨rfl, N1q, e1⟩ := hQ1
  have N2 := hF1 N1q
  refine Goes.by st1 ?_
  refine Goes.by (fun _ => XS.aloadN X1.here hx rfl (hb hby d7_4) rfl rfl) ?_
  refine Goes.by (fun _ => XS.lloadN X1.here hx rfl (hb hby d7_5) rfl) ?_
  obtain ⟨T3, h3, X3, e3, W3, st3⟩ := putF X1 hx hZ hown (host := "") (Or.inl (wq hw 46 rfl)) Via.refl e1 F1 F0 (Or.inr ⟨(wq hw 47 rfl), rfl, hnm⟩) (wq hw 39 rfl) (ty := .long) (by decide) rfl rfl (g := (mkF m 6 #[.val (.ref a0), .val (.long q1), .second] [(.long q1), (.ref a0)])) rfl rfl (hb hby d7_6)
  have f4 := F0.wr W3
  have f5 := F2.other W3 (Or.inr (slot_ne (Or.inl (wq hw 49 rfl)) (Or.inr (wq hw 47 rfl)) (by decide) (t := (.object cL)) (t' := .long) (by decide) (by decide)))
  have f6 := F3.other W3 (Or.inr (slot_ne (Or.inl (wq hw 51 rfl)) (Or.inr (wq hw 47 rfl)) (by decide) (t := (.object cL)) (t' := .long) (by decide) (by decide)))
  have f7 : Fld Z h3 a0 cH "tick" "J" (.long q1) := F1.same W3
  have Kp3 : Keep h0 h3 [a0] := Kp0.wr W3 (Or.inl om0)
  have Z8 := Nat.le_trans Z0 (Nat.le_of_eq W3.size.symm)
  have N9 := Fr.snoc X3 N2 Ge0
  refine Goes.by st3 ?_
  refine Goes.by (fun _ => XS.aloadN X3.here hx rfl (hb hby d7_9) rfl rfl) ?_
  refine Goes.by (fun _ => XS.aloadN X3.here hx rfl (hb hby d7_10) rfl rfl) ?_
  obtain ⟨T10, h10, X10, e10, W10, st10⟩ := putF X3 hx hZ hown (Or.inr (wq hw 48 rfl)) Via.refl e3 f5 f4 (Or.inl (wq hw 49 rfl)) (wq hw 39 rfl) (ty := (.object cL)) (by decide) rfl rfl (g := (mkF m 11 #[.val (.ref a0), .val (.long q1), .second] [(.ref a0), (.ref a0)])) rfl rfl (hb hby d7_11)
  have f11 := f4.wr W10
  have f12 := f6.other W10 (Or.inr (slot_ne (Or.inl (wq hw 51 rfl)) (Or.inl (wq hw 49 rfl)) (by decide) (t := (.object cL)) (t' := (.object cL)) (by decide) (by decide)))
  have f13 := f7.other W10 (Or.inr (slot_ne (Or.inr (wq hw 47 rfl)) (Or.inl (wq hw 49 rfl)) (by decide) (t := .long) (t' := (.object cL)) (by decide) (by decide)))
  have f14 : Fld Z h10 a0 cL "next" dL (.ref a0) := f5.same W10
  have Kp10 : Keep h0 h10 [a0] := Kp3.wr W10 (Or.inl om0)
  have Z15 := Nat.le_trans Z8 (Nat.le_of_eq W10.size.symm)
  have N16 := Fr.snoc X10 N9 Ge0
  refine Goes.by st10 ?_
  refine Goes.by (fun _ => XS.aloadN X10.here hx rfl (hb hby d7_14) rfl rfl) ?_
  refine Goes.by (fun _ => XS.aloadN X10.here hx rfl (hb hby d7_15) rfl rfl) ?_
  obtain ⟨T17, h17, X17, e17, W17, st17⟩ := putF X10 hx hZ hown (Or.inr (wq hw 50 rfl)) Via.refl e10 f12 f11 (Or.inl (wq hw 51 rfl)) (wq hw 39 rfl) (ty := (.object cL)) (by decide) rfl rfl (g := (mkF m 16 #[.val (.ref a0), .val (.long q1), .second] [(.ref a0), (.ref a0)])) rfl rfl (hb hby d7_16)
  have f18 := f11.wr W17
  have f19 := f13.other W17 (Or.inr (slot_ne (Or.inr (wq hw 47 rfl)) (Or.inl (wq hw 51 rfl)) (by decide) (t := .long) (t' := (.object cL)) (by decide) (by decide)))
  have f20 := f14.other W17 (Or.inr (slot_ne (Or.inl (wq hw 49 rfl)) (Or.inl (wq hw 51 rfl)) (by decide) (t := (.object cL)) (t' := (.object cL)) (by decide) (by decide)))
  have f21 : Fld Z h17 a0 cL "prev" dL (.ref a0) := f12.same W17
  have Kp17 : Keep h0 h17 [a0] := Kp10.wr W17 (Or.inl om0)
  have Z22 := Nat.le_trans Z15 (Nat.le_of_eq W17.size.symm)
  have N23 := Fr.snoc X17 N16 Ge0
  refine Goes.by st17 ?_
  obtain ⟨fs, hr, hrun, hended, hW, hsame⟩ := X17.leave (v := none) (fun _ => rfl)
  refine Goes.mk _ _ ?_ ⟨hrun, hended, _, _, rfl, ?_, ⟨_, rfl⟩, hW, hsame.mono (by decide) (by decide)⟩
  · exact X17.returnOut hx Bd.returns (hb hby d7_19) hr
  · show QHeadI Z a0 q1 h0 n0 _ T17.heap _
    rw [e17]
    exact ⟨rfl, N23, Kp17, f18, f19, f20, f21⟩
theorem d6_0 : decode prog_4_method_10_code 0 = .ok (.iconst 0, 1) := by decide +kernel
theorem d6_1 : decode prog_4_method_10_code 1 = .ok (.istore_n 3, 1) := by decide +kernel
theorem d6_2 : decode prog_4_method_10_code 2 = .ok (.aload_n 0, 1) := by decide +kernel
theorem d6_3 : decode prog_4_method_10_code 3 = .ok (.getfield 15, 3) := by decide +kernel
theorem d6_6 : decode prog_4_method_10_code 6 = .ok (.istore 4, 2) := by decide +kernel
theorem d6_8 : decode prog_4_method_10_code 8 = .ok (.iload_n 3, 1) := by decide +kernel
theorem d6_9 : decode prog_4_method_10_code 9 = .ok (.iload 4, 2) := by decide +kernel
theorem d6_11 : decode prog_4_method_10_code 11 = .ok (.if_icmp .ge 41, 3) := by decide +kernel
theorem d6_52 : decode prog_4_method_10_code 52 = .ok (.iload_n 3, 1) := by decide +kernel
theorem d6_53 : decode prog_4_method_10_code 53 = .ok (.ireturn, 1) := by decide +kernel
def QDue0 (Z : State) (a0 : Addr) (q1 : Int64) (ar : Addr) (h0 : Heap) (n0 : Nat) (v : Option Value) (h : Heap) (L : List Loc) : Prop := v = some (.int (0 : Int32)) ∧ Fr n0 L ∧ h = h0
theorem efDue0 (m : MethodId) (x0 : Addr) (x1 : Int64) : entryFrame m #[(.ref x0), (.long x1)] 6 = mkF m 0 #[.val (.ref x0), .val (.long x1), .second, .unset, .unset, .unset] [] := by first | (simp [entryFrame, mkF, argsToLocals, Value.category]; done) | rfl
set_option maxRecDepth 65536 in
set_option maxHeartbeats 40000000 in
theorem rmDue0 (l : Launch) (Z : State) (az : Array Value) (hw : ∀ d ∈ tables_1, d.before az Z = true) (ws : List Jvm.Cond) (a0 : Addr) (q1 : Int64) (ar : Addr) (h0 : Heap) (n0 : Nat) (Z0 : n0 ≤ h0.size) (F0 : Exa Z h0 a0 cD) (F1 : Fld Z h0 a0 cD "heads" dA (.ref ar)) (F2 : Fld Z h0 a0 cD "count" "I" (.int (0 : Int32))) :
    MetFree l y4 (head1 (Jvm.Cond.code y4 prog_4_method_10_code 6 (some .int) :: ws) ({ frames := 0, cells := 0, slots := 0, locals := 0 } : Room)) (fun a U => a = #[(.ref a0), (.long q1)] ∧ Z.Warmed39 U.vm ∧ U.heap = h0) (fun _ _ _ _ _ => True) (fun _ U o U' => ∃ v L, o = .returned v ∧ QDue0 Z a0 q1 ar h0 n0 v U'.heap L ∧ FrameEnd U o U' L ({ frames := 0, cells := 0, slots := 0, locals := 0 } : Room).cells ({ frames := 0, cells := 0, slots := 0, locals := 0 } : Room).slots) := by
  refine MetFree.of_bodySF (plainFor_of_name own_pn_com_example_admit_one_admitone_engine_DueOrder) hisR ?_
  intro p e s m args below meth c s₁ Bd hml0 hP hK
  obtain ⟨rfl, hZ, hh⟩ := hP
  have hx := Bd.exec
  have hby := Bd.bytes
  have hml : c.maxLocals = 6 := hml0
  have hown : s.vm.findClass cD = some m.cls := findClass_of_methodNamed Bd.named
  have hnm := (name_of_methodNamed Bd.named Bd.method).1
  have X0 : Stand p l e ({ frames := 0, cells := 0, slots := 0, locals := 0 } : Room) s m #[(.ref a0), (.long q1)] below meth c s₁ [] 0 0 := Stand.of_body Bd
  have e0 : s₁.heap = h0 := by rw [← hh, Bd.state]; rfl
  have N0 := Fr.nil n0
  have Kp0 : Keep h0 h0 [] := Keep.refl _ _
  refine Goes.start ?_
  refine Goes.by (B := s₁.setTop (mkF m 0 #[.val (.ref a0), .val (.long q1), .second, .unset, .unset, .unset] [])) (fun t k => castTop (efDue0 m a0 q1) k) ?_
  refine Goes.by (fun _ => XS.iconst X0.here hx rfl (hb hby d6_0)) ?_
  refine Goes.by (fun _ => XS.istoreN X0.here hx rfl (hb hby d6_1) rfl (l' := #[.val (.ref a0), .val (.long q1), .second, .val (.int (0 : Int32)), .unset, .unset]) rfl) ?_
  refine Goes.by (fun _ => XS.aloadN X0.here hx rfl (hb hby d6_2) rfl rfl) ?_
  obtain ⟨T1, X1, e1, st1⟩ := getF X0 hx hZ hown (host := "") (Or.inl (wq hw 29 rfl)) Via.refl e0 F2 (g := (mkF m 3 #[.val (.ref a0), .val (.long q1), .second, .val (.int (0 : Int32)), .unset, .unset] [(.ref a0)])) rfl rfl (hb hby d6_3)
  refine Goes.by st1 ?_
  refine Goes.by (B := T1.setTop (mkF m 53 #[.val (.ref a0), .val (.long q1), .second, .val (.int (0 : Int32)), .val (.int (0 : Int32)), .unset] [(.int (0 : Int32))])) (fun t k => ?_) ?_
  · refine XS.istore X1.here hx rfl (hb hby d6_6) rfl (l' := #[.val (.ref a0), .val (.long q1), .second, .val (.int (0 : Int32)), .val (.int (0 : Int32)), .unset]) rfl ?_
    refine XS.iloadN X1.here hx rfl (hb hby d6_8) rfl ?_
    refine XS.iload X1.here hx rfl (hb hby d6_9) rfl ?_
    refine XS.icmpYes X1.here hx rfl (pc0 := 11) (pc' := 52) rfl (hb hby d6_11) rfl (flt (by decide : ¬ ((0 : Int32) < (0 : Int32)))).2.1 (by decide) (by decide) ?_
    refine XS.iloadN X1.here hx rfl (hb hby d6_52) rfl ?_
    exact k
  obtain ⟨fs, hr, hrun, hended, hW, hsame⟩ := X1.leave (v := some (.int (0 : Int32))) (fun h => by rw [Bd.returns] at h; cases h)
  refine Goes.mk _ _ ?_ ⟨hrun, hended, _, _, rfl, ?_, ⟨_, rfl⟩, hW, hsame.mono (by decide) (by decide)⟩
  · exact retI X1 hx Bd.returns (hb hby d6_53) hr
  · show QDue0 Z a0 q1 ar h0 n0 _ T1.heap _
    rw [e1]
    exact ⟨rfl, N0, rfl⟩
theorem d6_14 : decode prog_4_method_10_code 14 = .ok (.iload_n 3, 1) := by decide +kernel
theorem d6_15 : decode prog_4_method_10_code 15 = .ok (.iload 4, 2) := by decide +kernel
theorem d6_17 : decode prog_4_method_10_code 17 = .ok (.iadd, 1) := by decide +kernel
theorem d6_18 : decode prog_4_method_10_code 18 = .ok (.iconst 1, 1) := by decide +kernel
theorem d6_19 : decode prog_4_method_10_code 19 = .ok (.iushr, 1) := by decide +kernel
theorem d6_20 : decode prog_4_method_10_code 20 = .ok (.istore 5, 2) := by decide +kernel
theorem d6_22 : decode prog_4_method_10_code 22 = .ok (.aload_n 0, 1) := by decide +kernel
theorem d6_23 : decode prog_4_method_10_code 23 = .ok (.getfield 11, 3) := by decide +kernel
theorem d6_26 : decode prog_4_method_10_code 26 = .ok (.iload 5, 2) := by decide +kernel
theorem d6_28 : decode prog_4_method_10_code 28 = .ok (.aaload, 1) := by decide +kernel
theorem d6_29 : decode prog_4_method_10_code 29 = .ok (.getfield 23, 3) := by decide +kernel
theorem d6_32 : decode prog_4_method_10_code 32 = .ok (.lload_n 1, 1) := by decide +kernel
theorem d6_33 : decode prog_4_method_10_code 33 = .ok (.lcmp, 1) := by decide +kernel
theorem d6_34 : decode prog_4_method_10_code 34 = .ok (.ifCond .gt 11, 3) := by decide +kernel
theorem d6_45 : decode prog_4_method_10_code 45 = .ok (.iload 5, 2) := by decide +kernel
theorem d6_47 : decode prog_4_method_10_code 47 = .ok (.istore 4, 2) := by decide +kernel
theorem d6_49 : decode prog_4_method_10_code 49 = .ok (.goto (-41), 3) := by decide +kernel
theorem d6_37 : decode prog_4_method_10_code 37 = .ok (.iload 5, 2) := by decide +kernel
theorem d6_39 : decode prog_4_method_10_code 39 = .ok (.iconst 1, 1) := by decide +kernel
theorem d6_40 : decode prog_4_method_10_code 40 = .ok (.iadd, 1) := by decide +kernel
theorem d6_41 : decode prog_4_method_10_code 41 = .ok (.istore_n 3, 1) := by decide +kernel
theorem d6_42 : decode prog_4_method_10_code 42 = .ok (.goto 7, 3) := by decide +kernel
def fDue1 (q1 : Int64) (t1 : Int64) : Int32 := (if q1 < t1 then (0 : Int32) else (1 : Int32))
def QDue1 (Z : State) (a0 : Addr) (q1 : Int64) (ar : Addr) (kA : ClassId) (x1 : Addr) (t1 : Int64) (h0 : Heap) (n0 : Nat) (v : Option Value) (h : Heap) (L : List Loc) : Prop := v = some (.int (fDue1 q1 t1)) ∧ Fr n0 L ∧ h = h0
theorem efDue1 (m : MethodId) (x0 : Addr) (x1 : Int64) : entryFrame m #[(.ref x0), (.long x1)] 6 = mkF m 0 #[.val (.ref x0), .val (.long x1), .second, .unset, .unset, .unset] [] := by first | (simp [entryFrame, mkF, argsToLocals, Value.category]; done) | rfl
set_option maxRecDepth 65536 in
set_option maxHeartbeats 40000000 in
theorem rmDue1 (l : Launch) (Z : State) (az : Array Value) (hw : ∀ d ∈ tables_1, d.before az Z = true) (ws : List Jvm.Cond) (a0 : Addr) (q1 : Int64) (ar : Addr) (kA : ClassId) (x1 : Addr) (t1 : Int64) (h0 : Heap) (n0 : Nat) (Z0 : n0 ≤ h0.size) (F0 : Exa Z h0 a0 cD) (F1 : Fld Z h0 a0 cD "heads" dA (.ref ar)) (F2 : Fld Z h0 a0 cD "count" "I" (.int (1 : Int32))) (F3 : Arv Z h0 ar kA (.object cH) (4 : Int32) [(.ref x1), .null, .null, .null] .null) (F4 : Ovr Z kA cH) (F5 : Exa Z h0 x1 cH) (F6 : Fld Z h0 x1 cH "tick" "J" (.long t1)) :
    MetFree l y4 (head1 (Jvm.Cond.code y4 prog_4_method_10_code 6 (some .int) :: ws) ({ frames := 0, cells := 0, slots := 0, locals := 0 } : Room)) (fun a U => a = #[(.ref a0), (.long q1)] ∧ Z.Warmed39 U.vm ∧ U.heap = h0) (fun _ _ _ _ _ => True) (fun _ U o U' => ∃ v L, o = .returned v ∧ QDue1 Z a0 q1 ar kA x1 t1 h0 n0 v U'.heap L ∧ FrameEnd U o U' L ({ frames := 0, cells := 0, slots := 0, locals := 0 } : Room).cells ({ frames := 0, cells := 0, slots := 0, locals := 0 } : Room).slots) := by
  refine MetFree.of_bodySF (plainFor_of_name own_pn_com_example_admit_one_admitone_engine_DueOrder) hisR ?_
  intro p e s m args below meth c s₁ Bd hml0 hP hK
  obtain ⟨rfl, hZ, hh⟩ := hP
  have hx := Bd.exec
  have hby := Bd.bytes
  have hml : c.maxLocals = 6 := hml0
  have hown : s.vm.findClass cD = some m.cls := findClass_of_methodNamed Bd.named
  have hnm := (name_of_methodNamed Bd.named Bd.method).1
  have X0 : Stand p l e ({ frames := 0, cells := 0, slots := 0, locals := 0 } : Room) s m #[(.ref a0), (.long q1)] below meth c s₁ [] 0 0 := Stand.of_body Bd
  have e0 : s₁.heap = h0 := by rw [← hh, Bd.state]; rfl
  have N0 := Fr.nil n0
  have Kp0 : Keep h0 h0 [] := Keep.refl _ _
  refine Goes.start ?_
  refine Goes.by (B := s₁.setTop (mkF m 0 #[.val (.ref a0), .val (.long q1), .second, .unset, .unset, .unset] [])) (fun t k => castTop (efDue1 m a0 q1) k) ?_
  refine Goes.by (fun _ => XS.iconst X0.here hx rfl (hb hby d6_0)) ?_
  refine Goes.by (fun _ => XS.istoreN X0.here hx rfl (hb hby d6_1) rfl (l' := #[.val (.ref a0), .val (.long q1), .second, .val (.int (0 : Int32)), .unset, .unset]) rfl) ?_
  refine Goes.by (fun _ => XS.aloadN X0.here hx rfl (hb hby d6_2) rfl rfl) ?_
  obtain ⟨T1, X1, e1, st1⟩ := getF X0 hx hZ hown (host := "") (Or.inl (wq hw 29 rfl)) Via.refl e0 F2 (g := (mkF m 3 #[.val (.ref a0), .val (.long q1), .second, .val (.int (0 : Int32)), .unset, .unset] [(.ref a0)])) rfl rfl (hb hby d6_3)
  refine Goes.by st1 ?_
  refine Goes.by (B := T1.setTop (mkF m 23 #[.val (.ref a0), .val (.long q1), .second, .val (.int (0 : Int32)), .val (.int (1 : Int32)), .val (.int (0 : Int32))] [(.ref a0)])) (fun t k => ?_) ?_
  · refine XS.istore X1.here hx rfl (hb hby d6_6) rfl (l' := #[.val (.ref a0), .val (.long q1), .second, .val (.int (0 : Int32)), .val (.int (1 : Int32)), .unset]) rfl ?_
    refine XS.iloadN X1.here hx rfl (hb hby d6_8) rfl ?_
    refine XS.iload X1.here hx rfl (hb hby d6_9) rfl ?_
    refine XS.icmpNo X1.here hx rfl (hb hby d6_11) rfl (tlt (by decide : (0 : Int32) < (1 : Int32))).2.1 ?_
    refine XS.iloadN X1.here hx rfl (hb hby d6_14) rfl ?_
    refine XS.iload X1.here hx rfl (hb hby d6_15) rfl ?_
    refine XS.iadd X1.here hx rfl (hb hby d6_17) rfl ?_
    refine XS.iconst X1.here hx rfl (hb hby d6_18) ?_
    refine XS.iushr X1.here hx rfl (hb hby d6_19) rfl ?_
    refine XS.istore X1.here hx rfl (hb hby d6_20) rfl (l' := #[.val (.ref a0), .val (.long q1), .second, .val (.int (0 : Int32)), .val (.int (1 : Int32)), .val (.int (0 : Int32))]) rfl ?_
    refine XS.aloadN X1.here hx rfl (hb hby d6_22) rfl rfl ?_
    exact k
  obtain ⟨T2, X2, e2, st2⟩ := getF X1 hx hZ hown (host := "") (Or.inl (wq hw 11 rfl)) Via.refl e1 F1 (g := (mkF m 23 #[.val (.ref a0), .val (.long q1), .second, .val (.int (0 : Int32)), .val (.int (1 : Int32)), .val (.int (0 : Int32))] [(.ref a0)])) rfl rfl (hb hby d6_23)
  refine Goes.by st2 ?_
  refine Goes.by (fun _ => XS.iload X2.here hx rfl (hb hby d6_26) rfl) ?_
  obtain ⟨cl3, cl3A, cl3q, cl3S, cl3N, cl3H, cl3G⟩ := id F3
  have cl3I : ¬ ((0 : Int32) < 0 ∨ cl3.slots.size ≤ ((0 : Int32)).toNatClampNeg) := inb_of cl3S ⟨by decide, by decide⟩
  have cl3T : cl3.slots[((0 : Int32)).toNatClampNeg]? = some (.ref x1) := cl3H.at cl3I rfl
  refine Goes.by (X2.aaload hx (j := (0 : Int32)) (v := (.ref x1)) (by rw [e2]; exact cl3A.1) (State.isArrayOf_alike hZ.alike cl3A.2.1) rfl cl3A.2.2 cl3I cl3T (g := (mkF m 28 #[.val (.ref a0), .val (.long q1), .second, .val (.int (0 : Int32)), .val (.int (1 : Int32)), .val (.int (0 : Int32))] [(.int (0 : Int32)), (.ref ar)])) rfl rfl (hb hby d6_28)) ?_
  refine Goes.by (B := T2.setTop (mkF m 34 #[.val (.ref a0), .val (.long q1), .second, .val (.int (0 : Int32)), .val (.int (1 : Int32)), .val (.int (0 : Int32))] [(.int (lcmpW t1 q1))])) (fun t k => ?_) ?_
  · refine getFR X2 hx hZ hown (wq hw 57 rfl) e2 F6 (g := (mkF m 29 #[.val (.ref a0), .val (.long q1), .second, .val (.int (0 : Int32)), .val (.int (1 : Int32)), .val (.int (0 : Int32))] [(.ref x1)])) rfl rfl (hb hby d6_29) ?_
    refine XS.lloadN X2.here hx rfl (hb hby d6_32) rfl ?_
    refine XS.lcmp X2.here hx rfl (hb hby d6_33) rfl ?_
    exact k
  by_cases hc5 : q1 < t1
  · refine Goes.by (B := T2.setTop (mkF m 53 #[.val (.ref a0), .val (.long q1), .second, .val (.int (0 : Int32)), .val (.int (0 : Int32)), .val (.int (0 : Int32))] [(.int (0 : Int32))])) (fun t k => ?_) ?_
    · refine XS.ifYes X2.here hx rfl (pc0 := 34) (pc' := 45) rfl (hb hby d6_34) rfl ((if0 _ _).trans (tlt ((lw_gt t1 q1).mpr hc5)).2.2.1) (by decide) (by decide) ?_
      refine XS.iload X2.here hx rfl (hb hby d6_45) rfl ?_
      refine XS.istore X2.here hx rfl (hb hby d6_47) rfl (l' := #[.val (.ref a0), .val (.long q1), .second, .val (.int (0 : Int32)), .val (.int (0 : Int32)), .val (.int (0 : Int32))]) rfl ?_
      refine XS.goto X2.here hx rfl (pc0 := 49) (pc' := 8) rfl (hb hby d6_49) (by decide) (by decide) ?_
      refine XS.iloadN X2.here hx rfl (hb hby d6_8) rfl ?_
      refine XS.iload X2.here hx rfl (hb hby d6_9) rfl ?_
      refine XS.icmpYes X2.here hx rfl (pc0 := 11) (pc' := 52) rfl (hb hby d6_11) rfl (flt (by decide : ¬ ((0 : Int32) < (0 : Int32)))).2.1 (by decide) (by decide) ?_
      refine XS.iloadN X2.here hx rfl (hb hby d6_52) rfl ?_
      exact k
    obtain ⟨fs, hr, hrun, hended, hW, hsame⟩ := X2.leave (v := some (.int (0 : Int32))) (fun h => by rw [Bd.returns] at h; cases h)
    refine Goes.mk _ _ ?_ ⟨hrun, hended, _, _, rfl, ?_, ⟨_, rfl⟩, hW, hsame.mono (by decide) (by decide)⟩
    · exact retI X2 hx Bd.returns (hb hby d6_53) hr
    · show QDue1 Z a0 q1 ar kA x1 t1 h0 n0 _ T2.heap _
      rw [e2]
      exact ⟨(by simp only [fDue1, if_pos hc5]), N0, rfl⟩
  · refine Goes.by (B := T2.setTop (mkF m 53 #[.val (.ref a0), .val (.long q1), .second, .val (.int (1 : Int32)), .val (.int (1 : Int32)), .val (.int (0 : Int32))] [(.int (1 : Int32))])) (fun t k => ?_) ?_
    · refine XS.ifNo X2.here hx rfl (hb hby d6_34) rfl ((if0 _ _).trans (flt (fun z => hc5 ((lw_gt t1 q1).mp z))).2.2.1) ?_
      refine XS.iload X2.here hx rfl (hb hby d6_37) rfl ?_
      refine XS.iconst X2.here hx rfl (hb hby d6_39) ?_
      refine XS.iadd X2.here hx rfl (hb hby d6_40) rfl ?_
      refine XS.istoreN X2.here hx rfl (hb hby d6_41) rfl (l' := #[.val (.ref a0), .val (.long q1), .second, .val (.int (1 : Int32)), .val (.int (1 : Int32)), .val (.int (0 : Int32))]) rfl ?_
      refine XS.goto X2.here hx rfl (pc0 := 42) (pc' := 49) rfl (hb hby d6_42) (by decide) (by decide) ?_
      refine XS.goto X2.here hx rfl (pc0 := 49) (pc' := 8) rfl (hb hby d6_49) (by decide) (by decide) ?_
      refine XS.iloadN X2.here hx rfl (hb hby d6_8) rfl ?_
      refine XS.iload X2.here hx rfl (hb hby d6_9) rfl ?_
      refine XS.icmpYes X2.here hx rfl (pc0 := 11) (pc' := 52) rfl (hb hby d6_11) rfl (flt (by decide : ¬ ((1 : Int32) < (1 : Int32)))).2.1 (by decide) (by decide) ?_
      refine XS.iloadN X2.here hx rfl (hb hby d6_52) rfl ?_
      exact k
    obtain ⟨fs, hr, hrun, hended, hW, hsame⟩ := X2.leave (v := some (.int (1 : Int32))) (fun h => by rw [Bd.returns] at h; cases h)
    refine Goes.mk _ _ ?_ ⟨hrun, hended, _, _, rfl, ?_, ⟨_, rfl⟩, hW, hsame.mono (by decide) (by decide)⟩
    · exact retI X2 hx Bd.returns (hb hby d6_53) hr
    · show QDue1 Z a0 q1 ar kA x1 t1 h0 n0 _ T2.heap _
      rw [e2]
      exact ⟨(by simp only [fDue1, if_neg hc5]), N0, rfl⟩
theorem own_due1 (q1 t1 : Int64) : fDue1 q1 t1 = (0 : Int32) ∨ fDue1 q1 t1 = (1 : Int32) := by
  unfold fDue1
  repeat' split
  all_goals simp
def fDue2 (q1 : Int64) (t1 : Int64) (t2 : Int64) : Int32 := (if q1 < t2 then (if q1 < t1 then (0 : Int32) else (1 : Int32)) else (2 : Int32))
def QDue2 (Z : State) (a0 : Addr) (q1 : Int64) (ar : Addr) (kA : ClassId) (x1 : Addr) (x2 : Addr) (t1 : Int64) (t2 : Int64) (h0 : Heap) (n0 : Nat) (v : Option Value) (h : Heap) (L : List Loc) : Prop := v = some (.int (fDue2 q1 t1 t2)) ∧ Fr n0 L ∧ h = h0
theorem efDue2 (m : MethodId) (x0 : Addr) (x1 : Int64) : entryFrame m #[(.ref x0), (.long x1)] 6 = mkF m 0 #[.val (.ref x0), .val (.long x1), .second, .unset, .unset, .unset] [] := by first | (simp [entryFrame, mkF, argsToLocals, Value.category]; done) | rfl
set_option maxRecDepth 65536 in
set_option maxHeartbeats 40000000 in
theorem rmDue2 (l : Launch) (Z : State) (az : Array Value) (hw : ∀ d ∈ tables_1, d.before az Z = true) (ws : List Jvm.Cond) (a0 : Addr) (q1 : Int64) (ar : Addr) (kA : ClassId) (x1 : Addr) (x2 : Addr) (t1 : Int64) (t2 : Int64) (h0 : Heap) (n0 : Nat) (Z0 : n0 ≤ h0.size) (F0 : Exa Z h0 a0 cD) (F1 : Fld Z h0 a0 cD "heads" dA (.ref ar)) (F2 : Fld Z h0 a0 cD "count" "I" (.int (2 : Int32))) (F3 : Arv Z h0 ar kA (.object cH) (4 : Int32) [(.ref x1), (.ref x2), .null, .null] .null) (F4 : Ovr Z kA cH) (F5 : Exa Z h0 x1 cH) (F6 : Fld Z h0 x1 cH "tick" "J" (.long t1)) (F7 : Exa Z h0 x2 cH) (F8 : Fld Z h0 x2 cH "tick" "J" (.long t2)) :
    MetFree l y4 (head1 (Jvm.Cond.code y4 prog_4_method_10_code 6 (some .int) :: ws) ({ frames := 0, cells := 0, slots := 0, locals := 0 } : Room)) (fun a U => a = #[(.ref a0), (.long q1)] ∧ Z.Warmed39 U.vm ∧ U.heap = h0) (fun _ _ _ _ _ => True) (fun _ U o U' => ∃ v L, o = .returned v ∧ QDue2 Z a0 q1 ar kA x1 x2 t1 t2 h0 n0 v U'.heap L ∧ FrameEnd U o U' L ({ frames := 0, cells := 0, slots := 0, locals := 0 } : Room).cells ({ frames := 0, cells := 0, slots := 0, locals := 0 } : Room).slots) := by
  refine MetFree.of_bodySF (plainFor_of_name own_pn_com_example_admit_one_admitone_engine_DueOrder) hisR ?_
  intro p e s m args below meth c s₁ Bd hml0 hP hK
  obtain ⟨rfl, hZ, hh⟩ := hP
  have hx := Bd.exec
  have hby := Bd.bytes
  have hml : c.maxLocals = 6 := hml0
  have hown : s.vm.findClass cD = some m.cls := findClass_of_methodNamed Bd.named
  have hnm := (name_of_methodNamed Bd.named Bd.method).1
  have X0 : Stand p l e ({ frames := 0, cells := 0, slots := 0, locals := 0 } : Room) s m #[(.ref a0), (.long q1)] below meth c s₁ [] 0 0 := Stand.of_body Bd
  have e0 : s₁.heap = h0 := by rw [← hh, Bd.state]; rfl
  have N0 := Fr.nil n0
  have Kp0 : Keep h0 h0 [] := Keep.refl _ _
  refine Goes.start ?_
  refine Goes.by (B := s₁.setTop (mkF m 0 #[.val (.ref a0), .val (.long q1), .second, .unset, .unset, .unset] [])) (fun t k => castTop (efDue2 m a0 q1) k) ?_
  refine Goes.by (fun _ => XS.iconst X0.here hx rfl (hb hby d6_0)) ?_
  refine Goes.by (fun _ => XS.istoreN X0.here hx rfl (hb hby d6_1) rfl (l' := #[.val (.ref a0), .val (.long q1), .second, .val (.int (0 : Int32)), .unset, .unset]) rfl) ?_
  refine Goes.by (fun _ => XS.aloadN X0.here hx rfl (hb hby d6_2) rfl rfl) ?_
  obtain ⟨T1, X1, e1, st1⟩ := getF X0 hx hZ hown (host := "") (Or.inl (wq hw 29 rfl)) Via.refl e0 F2 (g := (mkF m 3 #[.val (.ref a0), .val (.long q1), .second, .val (.int (0 : Int32)), .unset, .unset] [(.ref a0)])) rfl rfl (hb hby d6_3)
  refine Goes.by st1 ?_
  refine Goes.by (B := T1.setTop (mkF m 23 #[.val (.ref a0), .val (.long q1), .second, .val (.int (0 : Int32)), .val (.int (2 : Int32)), .val (.int (1 : Int32))] [(.ref a0)])) (fun t k => ?_) ?_
  · refine XS.istore X1.here hx rfl (hb hby d6_6) rfl (l' := #[.val (.ref a0), .val (.long q1), .second, .val (.int (0 : Int32)), .val (.int (2 : Int32)), .unset]) rfl ?_
    refine XS.iloadN X1.here hx rfl (hb hby d6_8) rfl ?_
    refine XS.iload X1.here hx rfl (hb hby d6_9) rfl ?_
    refine XS.icmpNo X1.here hx rfl (hb hby d6_11) rfl (tlt (by decide : (0 : Int32) < (2 : Int32))).2.1 ?_
    refine XS.iloadN X1.here hx rfl (hb hby d6_14) rfl ?_
    refine XS.iload X1.here hx rfl (hb hby d6_15) rfl ?_
    refine XS.iadd X1.here hx rfl (hb hby d6_17) rfl ?_
    refine XS.iconst X1.here hx rfl (hb hby d6_18) ?_
    refine XS.iushr X1.here hx rfl (hb hby d6_19) rfl ?_
    refine XS.istore X1.here hx rfl (hb hby d6_20) rfl (l' := #[.val (.ref a0), .val (.long q1), .second, .val (.int (0 : Int32)), .val (.int (2 : Int32)), .val (.int (1 : Int32))]) rfl ?_
    refine XS.aloadN X1.here hx rfl (hb hby d6_22) rfl rfl ?_
    exact k
  obtain ⟨T2, X2, e2, st2⟩ := getF X1 hx hZ hown (host := "") (Or.inl (wq hw 11 rfl)) Via.refl e1 F1 (g := (mkF m 23 #[.val (.ref a0), .val (.long q1), .second, .val (.int (0 : Int32)), .val (.int (2 : Int32)), .val (.int (1 : Int32))] [(.ref a0)])) rfl rfl (hb hby d6_23)
  refine Goes.by st2 ?_
  refine Goes.by (fun _ => XS.iload X2.here hx rfl (hb hby d6_26) rfl) ?_
  obtain ⟨cl3, cl3A, cl3q, cl3S, cl3N, cl3H, cl3G⟩ := id F3
  have cl3I : ¬ ((1 : Int32) < 0 ∨ cl3.slots.size ≤ ((1 : Int32)).toNatClampNeg) := inb_of cl3S ⟨by decide, by decide⟩
  have cl3T : cl3.slots[((1 : Int32)).toNatClampNeg]? = some (.ref x2) := cl3H.at cl3I rfl
  refine Goes.by (X2.aaload hx (j := (1 : Int32)) (v := (.ref x2)) (by rw [e2]; exact cl3A.1) (State.isArrayOf_alike hZ.alike cl3A.2.1) rfl cl3A.2.2 cl3I cl3T (g := (mkF m 28 #[.val (.ref a0), .val (.long q1), .second, .val (.int (0 : Int32)), .val (.int (2 : Int32)), .val (.int (1 : Int32))] [(.int (1 : Int32)), (.ref ar)])) rfl rfl (hb hby d6_28)) ?_
  refine Goes.by (B := T2.setTop (mkF m 34 #[.val (.ref a0), .val (.long q1), .second, .val (.int (0 : Int32)), .val (.int (2 : Int32)), .val (.int (1 : Int32))] [(.int (lcmpW t2 q1))])) (fun t k => ?_) ?_
  · refine getFR X2 hx hZ hown (wq hw 57 rfl) e2 F8 (g := (mkF m 29 #[.val (.ref a0), .val (.long q1), .second, .val (.int (0 : Int32)), .val (.int (2 : Int32)), .val (.int (1 : Int32))] [(.ref x2)])) rfl rfl (hb hby d6_29) ?_
    refine XS.lloadN X2.here hx rfl (hb hby d6_32) rfl ?_
    refine XS.lcmp X2.here hx rfl (hb hby d6_33) rfl ?_
    exact k
  by_cases hc5 : q1 < t2
  · refine Goes.by (B := T2.setTop (mkF m 18 #[.val (.ref a0), .val (.long q1), .second, .val (.int (0 : Int32)), .val (.int (1 : Int32)), .val (.int (1 : Int32))] [(.int (1 : Int32))])) (fun t k => ?_) ?_
    · refine XS.ifYes X2.here hx rfl (pc0 := 34) (pc' := 45) rfl (hb hby d6_34) rfl ((if0 _ _).trans (tlt ((lw_gt t2 q1).mpr hc5)).2.2.1) (by decide) (by decide) ?_
      refine XS.iload X2.here hx rfl (hb hby d6_45) rfl ?_
      refine XS.istore X2.here hx rfl (hb hby d6_47) rfl (l' := #[.val (.ref a0), .val (.long q1), .second, .val (.int (0 : Int32)), .val (.int (1 : Int32)), .val (.int (1 : Int32))]) rfl ?_
      refine XS.goto X2.here hx rfl (pc0 := 49) (pc' := 8) rfl (hb hby d6_49) (by decide) (by decide) ?_
      refine XS.iloadN X2.here hx rfl (hb hby d6_8) rfl ?_
      refine XS.iload X2.here hx rfl (hb hby d6_9) rfl ?_
      refine XS.icmpNo X2.here hx rfl (hb hby d6_11) rfl (tlt (by decide : (0 : Int32) < (1 : Int32))).2.1 ?_
      refine XS.iloadN X2.here hx rfl (hb hby d6_14) rfl ?_
      refine XS.iload X2.here hx rfl (hb hby d6_15) rfl ?_
      refine XS.iadd X2.here hx rfl (hb hby d6_17) rfl ?_
      exact k
    refine Goes.by (B := T2.setTop (mkF m 23 #[.val (.ref a0), .val (.long q1), .second, .val (.int (0 : Int32)), .val (.int (1 : Int32)), .val (.int (0 : Int32))] [(.ref a0)])) (fun t k => ?_) ?_
    · refine XS.iconst X2.here hx rfl (hb hby d6_18) ?_
      refine XS.iushr X2.here hx rfl (hb hby d6_19) rfl ?_
      refine XS.istore X2.here hx rfl (hb hby d6_20) rfl (l' := #[.val (.ref a0), .val (.long q1), .second, .val (.int (0 : Int32)), .val (.int (1 : Int32)), .val (.int (0 : Int32))]) rfl ?_
      refine XS.aloadN X2.here hx rfl (hb hby d6_22) rfl rfl ?_
      exact k
    obtain ⟨T6, X6, e6, st6⟩ := getF X2 hx hZ hown (host := "") (Or.inl (wq hw 11 rfl)) Via.refl e2 F1 (g := (mkF m 23 #[.val (.ref a0), .val (.long q1), .second, .val (.int (0 : Int32)), .val (.int (1 : Int32)), .val (.int (0 : Int32))] [(.ref a0)])) rfl rfl (hb hby d6_23)
    refine Goes.by st6 ?_
    refine Goes.by (fun _ => XS.iload X6.here hx rfl (hb hby d6_26) rfl) ?_
    obtain ⟨cl7, cl7A, cl7q, cl7S, cl7N, cl7H, cl7G⟩ := id F3
    have cl7I : ¬ ((0 : Int32) < 0 ∨ cl7.slots.size ≤ ((0 : Int32)).toNatClampNeg) := inb_of cl7S ⟨by decide, by decide⟩
    have cl7T : cl7.slots[((0 : Int32)).toNatClampNeg]? = some (.ref x1) := cl7H.at cl7I rfl
    refine Goes.by (X6.aaload hx (j := (0 : Int32)) (v := (.ref x1)) (by rw [e6]; exact cl7A.1) (State.isArrayOf_alike hZ.alike cl7A.2.1) rfl cl7A.2.2 cl7I cl7T (g := (mkF m 28 #[.val (.ref a0), .val (.long q1), .second, .val (.int (0 : Int32)), .val (.int (1 : Int32)), .val (.int (0 : Int32))] [(.int (0 : Int32)), (.ref ar)])) rfl rfl (hb hby d6_28)) ?_
    refine Goes.by (B := T6.setTop (mkF m 34 #[.val (.ref a0), .val (.long q1), .second, .val (.int (0 : Int32)), .val (.int (1 : Int32)), .val (.int (0 : Int32))] [(.int (lcmpW t1 q1))])) (fun t k => ?_) ?_
    · refine getFR X6 hx hZ hown (wq hw 57 rfl) e6 F6 (g := (mkF m 29 #[.val (.ref a0), .val (.long q1), .second, .val (.int (0 : Int32)), .val (.int (1 : Int32)), .val (.int (0 : Int32))] [(.ref x1)])) rfl rfl (hb hby d6_29) ?_
      refine XS.lloadN X6.here hx rfl (hb hby d6_32) rfl ?_
      refine XS.lcmp X6.here hx rfl (hb hby d6_33) rfl ?_
      exact k
    by_cases hc9 : q1 < t1
    · refine Goes.by (B := T6.setTop (mkF m 53 #[.val (.ref a0), .val (.long q1), .second, .val (.int (0 : Int32)), .val (.int (0 : Int32)), .val (.int (0 : Int32))] [(.int (0 : Int32))])) (fun t k => ?_) ?_
      · refine XS.ifYes X6.here hx rfl (pc0 := 34) (pc' := 45) rfl (hb hby d6_34) rfl ((if0 _ _).trans (tlt ((lw_gt t1 q1).mpr hc9)).2.2.1) (by decide) (by decide) ?_
        refine XS.iload X6.here hx rfl (hb hby d6_45) rfl ?_
        refine XS.istore X6.here hx rfl (hb hby d6_47) rfl (l' := #[.val (.ref a0), .val (.long q1), .second, .val (.int (0 : Int32)), .val (.int (0 : Int32)), .val (.int (0 : Int32))]) rfl ?_
        refine XS.goto X6.here hx rfl (pc0 := 49) (pc' := 8) rfl (hb hby d6_49) (by decide) (by decide) ?_
        refine XS.iloadN X6.here hx rfl (hb hby d6_8) rfl ?_
        refine XS.iload X6.here hx rfl (hb hby d6_9) rfl ?_
        refine XS.icmpYes X6.here hx rfl (pc0 := 11) (pc' := 52) rfl (hb hby d6_11) rfl (flt (by decide : ¬ ((0 : Int32) < (0 : Int32)))).2.1 (by decide) (by decide) ?_
        refine XS.iloadN X6.here hx rfl (hb hby d6_52) rfl ?_
        exact k
      obtain ⟨fs, hr, hrun, hended, hW, hsame⟩ := X6.leave (v := some (.int (0 : Int32))) (fun h => by rw [Bd.returns] at h; cases h)
      refine Goes.mk _ _ ?_ ⟨hrun, hended, _, _, rfl, ?_, ⟨_, rfl⟩, hW, hsame.mono (by decide) (by decide)⟩
      · exact retI X6 hx Bd.returns (hb hby d6_53) hr
      · show QDue2 Z a0 q1 ar kA x1 x2 t1 t2 h0 n0 _ T6.heap _
        rw [e6]
        exact ⟨(by simp only [fDue2, if_pos hc5, if_pos hc9]), N0, rfl⟩
    · refine Goes.by (B := T6.setTop (mkF m 53 #[.val (.ref a0), .val (.long q1), .second, .val (.int (1 : Int32)), .val (.int (1 : Int32)), .val (.int (0 : Int32))] [(.int (1 : Int32))])) (fun t k => ?_) ?_
      · refine XS.ifNo X6.here hx rfl (hb hby d6_34) rfl ((if0 _ _).trans (flt (fun z => hc9 ((lw_gt t1 q1).mp z))).2.2.1) ?_
        refine XS.iload X6.here hx rfl (hb hby d6_37) rfl ?_
        refine XS.iconst X6.here hx rfl (hb hby d6_39) ?_
        refine XS.iadd X6.here hx rfl (hb hby d6_40) rfl ?_
        refine XS.istoreN X6.here hx rfl (hb hby d6_41) rfl (l' := #[.val (.ref a0), .val (.long q1), .second, .val (.int (1 : Int32)), .val (.int (1 : Int32)), .val (.int (0 : Int32))]) rfl ?_
        refine XS.goto X6.here hx rfl (pc0 := 42) (pc' := 49) rfl (hb hby d6_42) (by decide) (by decide) ?_
        refine XS.goto X6.here hx rfl (pc0 := 49) (pc' := 8) rfl (hb hby d6_49) (by decide) (by decide) ?_
        refine XS.iloadN X6.here hx rfl (hb hby d6_8) rfl ?_
        refine XS.iload X6.here hx rfl (hb hby d6_9) rfl ?_
        refine XS.icmpYes X6.here hx rfl (pc0 := 11) (pc' := 52) rfl (hb hby d6_11) rfl (flt (by decide : ¬ ((1 : Int32) < (1 : Int32)))).2.1 (by decide) (by decide) ?_
        refine XS.iloadN X6.here hx rfl (hb hby d6_52) rfl ?_
        exact k
      obtain ⟨fs, hr, hrun, hended, hW, hsame⟩ := X6.leave (v := some (.int (1 : Int32))) (fun h => by rw [Bd.returns] at h; cases h)
      refine Goes.mk _ _ ?_ ⟨hrun, hended, _, _, rfl, ?_, ⟨_, rfl⟩, hW, hsame.mono (by decide) (by decide)⟩
      · exact retI X6 hx Bd.returns (hb hby d6_53) hr
      · show QDue2 Z a0 q1 ar kA x1 x2 t1 t2 h0 n0 _ T6.heap _
        rw [e6]
        exact ⟨(by simp only [fDue2, if_pos hc5, if_neg hc9]), N0, rfl⟩
  · refine Goes.by (B := T2.setTop (mkF m 53 #[.val (.ref a0), .val (.long q1), .second, .val (.int (2 : Int32)), .val (.int (2 : Int32)), .val (.int (1 : Int32))] [(.int (2 : Int32))])) (fun t k => ?_) ?_
    · refine XS.ifNo X2.here hx rfl (hb hby d6_34) rfl ((if0 _ _).trans (flt (fun z => hc5 ((lw_gt t2 q1).mp z))).2.2.1) ?_
      refine XS.iload X2.here hx rfl (hb hby d6_37) rfl ?_
      refine XS.iconst X2.here hx rfl (hb hby d6_39) ?_
      refine XS.iadd X2.here hx rfl (hb hby d6_40) rfl ?_
      refine XS.istoreN X2.here hx rfl (hb hby d6_41) rfl (l' := #[.val (.ref a0), .val (.long q1), .second, .val (.int (2 : Int32)), .val (.int (2 : Int32)), .val (.int (1 : Int32))]) rfl ?_
      refine XS.goto X2.here hx rfl (pc0 := 42) (pc' := 49) rfl (hb hby d6_42) (by decide) (by decide) ?_
      refine XS.goto X2.here hx rfl (pc0 := 49) (pc' := 8) rfl (hb hby d6_49) (by decide) (by decide) ?_
      refine XS.iloadN X2.here hx rfl (hb hby d6_8) rfl ?_
      refine XS.iload X2.here hx rfl (hb hby d6_9) rfl ?_
      refine XS.icmpYes X2.here hx rfl (pc0 := 11) (pc' := 52) rfl (hb hby d6_11) rfl (flt (by decide : ¬ ((2 : Int32) < (2 : Int32)))).2.1 (by decide) (by decide) ?_
      refine XS.iloadN X2.here hx rfl (hb hby d6_52) rfl ?_
      exact k
    obtain ⟨fs, hr, hrun, hended, hW, hsame⟩ := X2.leave (v := some (.int (2 : Int32))) (fun h => by rw [Bd.returns] at h; cases h)
    refine Goes.mk _ _ ?_ ⟨hrun, hended, _, _, rfl, ?_, ⟨_, rfl⟩, hW, hsame.mono (by decide) (by decide)⟩
    · exact retI X2 hx Bd.returns (hb hby d6_53) hr
    · show QDue2 Z a0 q1 ar kA x1 x2 t1 t2 h0 n0 _ T2.heap _
      rw [e2]
      exact ⟨(by simp only [fDue2, if_neg hc5]), N0, rfl⟩
theorem own_due2 (q1 t1 t2 : Int64) : fDue2 q1 t1 t2 = (0 : Int32) ∨ fDue2 q1 t1 t2 = (1 : Int32) ∨ fDue2 q1 t1 t2 = (2 : Int32) := by
  unfold fDue2
  repeat' split
  all_goals simp
def fDue3 (q1 : Int64) (t1 : Int64) (t2 : Int64) (t3 : Int64) : Int32 := (if q1 < t2 then (if q1 < t1 then (0 : Int32) else (1 : Int32)) else (if q1 < t3 then (2 : Int32) else (3 : Int32)))
def QDue3 (Z : State) (a0 : Addr) (q1 : Int64) (ar : Addr) (kA : ClassId) (x1 : Addr) (x2 : Addr) (x3 : Addr) (t1 : Int64) (t2 : Int64) (t3 : Int64) (h0 : Heap) (n0 : Nat) (v : Option Value) (h : Heap) (L : List Loc) : Prop := v = some (.int (fDue3 q1 t1 t2 t3)) ∧ Fr n0 L ∧ h = h0
theorem efDue3 (m : MethodId) (x0 : Addr) (x1 : Int64) : entryFrame m #[(.ref x0), (.long x1)] 6 = mkF m 0 #[.val (.ref x0), .val (.long x1), .second, .unset, .unset, .unset] [] := by first | (simp [entryFrame, mkF, argsToLocals, Value.category]; done) | rfl
set_option maxRecDepth 65536 in
set_option maxHeartbeats 40000000 in
theorem rmDue3 (l : Launch) (Z : State) (az : Array Value) (hw : ∀ d ∈ tables_1, d.before az Z = true) (ws : List Jvm.Cond) (a0 : Addr) (q1 : Int64) (ar : Addr) (kA : ClassId) (x1 : Addr) (x2 : Addr) (x3 : Addr) (t1 : Int64) (t2 : Int64) (t3 : Int64) (h0 : Heap) (n0 : Nat) (Z0 : n0 ≤ h0.size) (F0 : Exa Z h0 a0 cD) (F1 : Fld Z h0 a0 cD "heads" dA (.ref ar)) (F2 : Fld Z h0 a0 cD "count" "I" (.int (3 : Int32))) (F3 : Arv Z h0 ar kA (.object cH) (4 : Int32) [(.ref x1), (.ref x2), (.ref x3), .null] .null) (F4 : Ovr Z kA cH) (F5 : Exa Z h0 x1 cH) (F6 : Fld Z h0 x1 cH "tick" "J" (.long t1)) (F7 : Exa Z h0 x2 cH) (F8 : Fld Z h0 x2 cH "tick" "J" (.long t2)) (F9 : Exa Z h0 x3 cH) (F10 : Fld Z h0 x3 cH "tick" "J" (.long t3)) :
    MetFree l y4 (head1 (Jvm.Cond.code y4 prog_4_method_10_code 6 (some .int) :: ws) ({ frames := 0, cells := 0, slots := 0, locals := 0 } : Room)) (fun a U => a = #[(.ref a0), (.long q1)] ∧ Z.Warmed39 U.vm ∧ U.heap = h0) (fun _ _ _ _ _ => True) (fun _ U o U' => ∃ v L, o = .returned v ∧ QDue3 Z a0 q1 ar kA x1 x2 x3 t1 t2 t3 h0 n0 v U'.heap L ∧ FrameEnd U o U' L ({ frames := 0, cells := 0, slots := 0, locals := 0 } : Room).cells ({ frames := 0, cells := 0, slots := 0, locals := 0 } : Room).slots) := by
  refine MetFree.of_bodySF (plainFor_of_name own_pn_com_example_admit_one_admitone_engine_DueOrder) hisR ?_
  intro p e s m args below meth c s₁ Bd hml0 hP hK
  obtain ⟨rfl, hZ, hh⟩ := hP
  have hx := Bd.exec
  have hby := Bd.bytes
  have hml : c.maxLocals = 6 := hml0
  have hown : s.vm.findClass cD = some m.cls := findClass_of_methodNamed Bd.named
  have hnm := (name_of_methodNamed Bd.named Bd.method).1
  have X0 : Stand p l e ({ frames := 0, cells := 0, slots := 0, locals := 0 } : Room) s m #[(.ref a0), (.long q1)] below meth c s₁ [] 0 0 := Stand.of_body Bd
  have e0 : s₁.heap = h0 := by rw [← hh, Bd.state]; rfl
  have N0 := Fr.nil n0
  have Kp0 : Keep h0 h0 [] := Keep.refl _ _
  refine Goes.start ?_
  refine Goes.by (B := s₁.setTop (mkF m 0 #[.val (.ref a0), .val (.long q1), .second, .unset, .unset, .unset] [])) (fun t k => castTop (efDue3 m a0 q1) k) ?_
  refine Goes.by (fun _ => XS.iconst X0.here hx rfl (hb hby d6_0)) ?_
  refine Goes.by (fun _ => XS.istoreN X0.here hx rfl (hb hby d6_1) rfl (l' := #[.val (.ref a0), .val (.long q1), .second, .val (.int (0 : Int32)), .unset, .unset]) rfl) ?_
  refine Goes.by (fun _ => XS.aloadN X0.here hx rfl (hb hby d6_2) rfl rfl) ?_
  obtain ⟨T1, X1, e1, st1⟩ := getF X0 hx hZ hown (host := "") (Or.inl (wq hw 29 rfl)) Via.refl e0 F2 (g := (mkF m 3 #[.val (.ref a0), .val (.long q1), .second, .val (.int (0 : Int32)), .unset, .unset] [(.ref a0)])) rfl rfl (hb hby d6_3)
  refine Goes.by st1 ?_
  refine Goes.by (B := T1.setTop (mkF m 23 #[.val (.ref a0), .val (.long q1), .second, .val (.int (0 : Int32)), .val (.int (3 : Int32)), .val (.int (1 : Int32))] [(.ref a0)])) (fun t k => ?_) ?_
  · refine XS.istore X1.here hx rfl (hb hby d6_6) rfl (l' := #[.val (.ref a0), .val (.long q1), .second, .val (.int (0 : Int32)), .val (.int (3 : Int32)), .unset]) rfl ?_
    refine XS.iloadN X1.here hx rfl (hb hby d6_8) rfl ?_
    refine XS.iload X1.here hx rfl (hb hby d6_9) rfl ?_
    refine XS.icmpNo X1.here hx rfl (hb hby d6_11) rfl (tlt (by decide : (0 : Int32) < (3 : Int32))).2.1 ?_
    refine XS.iloadN X1.here hx rfl (hb hby d6_14) rfl ?_
    refine XS.iload X1.here hx rfl (hb hby d6_15) rfl ?_
    refine XS.iadd X1.here hx rfl (hb hby d6_17) rfl ?_
    refine XS.iconst X1.here hx rfl (hb hby d6_18) ?_
    refine XS.iushr X1.here hx rfl (hb hby d6_19) rfl ?_
    refine XS.istore X1.here hx rfl (hb hby d6_20) rfl (l' := #[.val (.ref a0), .val (.long q1), .second, .val (.int (0 : Int32)), .val (.int (3 : Int32)), .val (.int (1 : Int32))]) rfl ?_
    refine XS.aloadN X1.here hx rfl (hb hby d6_22) rfl rfl ?_
    exact k
  obtain ⟨T2, X2, e2, st2⟩ := getF X1 hx hZ hown (host := "") (Or.inl (wq hw 11 rfl)) Via.refl e1 F1 (g := (mkF m 23 #[.val (.ref a0), .val (.long q1), .second, .val (.int (0 : Int32)), .val (.int (3 : Int32)), .val (.int (1 : Int32))] [(.ref a0)])) rfl rfl (hb hby d6_23)
  refine Goes.by st2 ?_
  refine Goes.by (fun _ => XS.iload X2.here hx rfl (hb hby d6_26) rfl) ?_
  obtain ⟨cl3, cl3A, cl3q, cl3S, cl3N, cl3H, cl3G⟩ := id F3
  have cl3I : ¬ ((1 : Int32) < 0 ∨ cl3.slots.size ≤ ((1 : Int32)).toNatClampNeg) := inb_of cl3S ⟨by decide, by decide⟩
  have cl3T : cl3.slots[((1 : Int32)).toNatClampNeg]? = some (.ref x2) := cl3H.at cl3I rfl
  refine Goes.by (X2.aaload hx (j := (1 : Int32)) (v := (.ref x2)) (by rw [e2]; exact cl3A.1) (State.isArrayOf_alike hZ.alike cl3A.2.1) rfl cl3A.2.2 cl3I cl3T (g := (mkF m 28 #[.val (.ref a0), .val (.long q1), .second, .val (.int (0 : Int32)), .val (.int (3 : Int32)), .val (.int (1 : Int32))] [(.int (1 : Int32)), (.ref ar)])) rfl rfl (hb hby d6_28)) ?_
  refine Goes.by (B := T2.setTop (mkF m 34 #[.val (.ref a0), .val (.long q1), .second, .val (.int (0 : Int32)), .val (.int (3 : Int32)), .val (.int (1 : Int32))] [(.int (lcmpW t2 q1))])) (fun t k => ?_) ?_
  · refine getFR X2 hx hZ hown (wq hw 57 rfl) e2 F8 (g := (mkF m 29 #[.val (.ref a0), .val (.long q1), .second, .val (.int (0 : Int32)), .val (.int (3 : Int32)), .val (.int (1 : Int32))] [(.ref x2)])) rfl rfl (hb hby d6_29) ?_
    refine XS.lloadN X2.here hx rfl (hb hby d6_32) rfl ?_
    refine XS.lcmp X2.here hx rfl (hb hby d6_33) rfl ?_
    exact k
  by_cases hc5 : q1 < t2
  · refine Goes.by (B := T2.setTop (mkF m 18 #[.val (.ref a0), .val (.long q1), .second, .val (.int (0 : Int32)), .val (.int (1 : Int32)), .val (.int (1 : Int32))] [(.int (1 : Int32))])) (fun t k => ?_) ?_
    · refine XS.ifYes X2.here hx rfl (pc0 := 34) (pc' := 45) rfl (hb hby d6_34) rfl ((if0 _ _).trans (tlt ((lw_gt t2 q1).mpr hc5)).2.2.1) (by decide) (by decide) ?_
      refine XS.iload X2.here hx rfl (hb hby d6_45) rfl ?_
      refine XS.istore X2.here hx rfl (hb hby d6_47) rfl (l' := #[.val (.ref a0), .val (.long q1), .second, .val (.int (0 : Int32)), .val (.int (1 : Int32)), .val (.int (1 : Int32))]) rfl ?_
      refine XS.goto X2.here hx rfl (pc0 := 49) (pc' := 8) rfl (hb hby d6_49) (by decide) (by decide) ?_
      refine XS.iloadN X2.here hx rfl (hb hby d6_8) rfl ?_
      refine XS.iload X2.here hx rfl (hb hby d6_9) rfl ?_
      refine XS.icmpNo X2.here hx rfl (hb hby d6_11) rfl (tlt (by decide : (0 : Int32) < (1 : Int32))).2.1 ?_
      refine XS.iloadN X2.here hx rfl (hb hby d6_14) rfl ?_
      refine XS.iload X2.here hx rfl (hb hby d6_15) rfl ?_
      refine XS.iadd X2.here hx rfl (hb hby d6_17) rfl ?_
      exact k
    refine Goes.by (B := T2.setTop (mkF m 23 #[.val (.ref a0), .val (.long q1), .second, .val (.int (0 : Int32)), .val (.int (1 : Int32)), .val (.int (0 : Int32))] [(.ref a0)])) (fun t k => ?_) ?_
    · refine XS.iconst X2.here hx rfl (hb hby d6_18) ?_
      refine XS.iushr X2.here hx rfl (hb hby d6_19) rfl ?_
      refine XS.istore X2.here hx rfl (hb hby d6_20) rfl (l' := #[.val (.ref a0), .val (.long q1), .second, .val (.int (0 : Int32)), .val (.int (1 : Int32)), .val (.int (0 : Int32))]) rfl ?_
      refine XS.aloadN X2.here hx rfl (hb hby d6_22) rfl rfl ?_
      exact k
    obtain ⟨T6, X6, e6, st6⟩ := getF X2 hx hZ hown (host := "") (Or.inl (wq hw 11 rfl)) Via.refl e2 F1 (g := (mkF m 23 #[.val (.ref a0), .val (.long q1), .second, .val (.int (0 : Int32)), .val (.int (1 : Int32)), .val (.int (0 : Int32))] [(.ref a0)])) rfl rfl (hb hby d6_23)
    refine Goes.by st6 ?_
    refine Goes.by (fun _ => XS.iload X6.here hx rfl (hb hby d6_26) rfl) ?_
    obtain ⟨cl7, cl7A, cl7q, cl7S, cl7N, cl7H, cl7G⟩ := id F3
    have cl7I : ¬ ((0 : Int32) < 0 ∨ cl7.slots.size ≤ ((0 : Int32)).toNatClampNeg) := inb_of cl7S ⟨by decide, by decide⟩
    have cl7T : cl7.slots[((0 : Int32)).toNatClampNeg]? = some (.ref x1) := cl7H.at cl7I rfl
    refine Goes.by (X6.aaload hx (j := (0 : Int32)) (v := (.ref x1)) (by rw [e6]; exact cl7A.1) (State.isArrayOf_alike hZ.alike cl7A.2.1) rfl cl7A.2.2 cl7I cl7T (g := (mkF m 28 #[.val (.ref a0), .val (.long q1), .second, .val (.int (0 : Int32)), .val (.int (1 : Int32)), .val (.int (0 : Int32))] [(.int (0 : Int32)), (.ref ar)])) rfl rfl (hb hby d6_28)) ?_
    refine Goes.by (B := T6.setTop (mkF m 34 #[.val (.ref a0), .val (.long q1), .second, .val (.int (0 : Int32)), .val (.int (1 : Int32)), .val (.int (0 : Int32))] [(.int (lcmpW t1 q1))])) (fun t k => ?_) ?_
    · refine getFR X6 hx hZ hown (wq hw 57 rfl) e6 F6 (g := (mkF m 29 #[.val (.ref a0), .val (.long q1), .second, .val (.int (0 : Int32)), .val (.int (1 : Int32)), .val (.int (0 : Int32))] [(.ref x1)])) rfl rfl (hb hby d6_29) ?_
      refine XS.lloadN X6.here hx rfl (hb hby d6_32) rfl ?_
      refine XS.lcmp X6.here hx rfl (hb hby d6_33) rfl ?_
      exact k
    by_cases hc9 : q1 < t1
    · refine Goes.by (B := T6.setTop (mkF m 53 #[.val (.ref a0), .val (.long q1), .second, .val (.int (0 : Int32)), .val (.int (0 : Int32)), .val (.int (0 : Int32))] [(.int (0 : Int32))])) (fun t k => ?_) ?_
      · refine XS.ifYes X6.here hx rfl (pc0 := 34) (pc' := 45) rfl (hb hby d6_34) rfl ((if0 _ _).trans (tlt ((lw_gt t1 q1).mpr hc9)).2.2.1) (by decide) (by decide) ?_
        refine XS.iload X6.here hx rfl (hb hby d6_45) rfl ?_
        refine XS.istore X6.here hx rfl (hb hby d6_47) rfl (l' := #[.val (.ref a0), .val (.long q1), .second, .val (.int (0 : Int32)), .val (.int (0 : Int32)), .val (.int (0 : Int32))]) rfl ?_
        refine XS.goto X6.here hx rfl (pc0 := 49) (pc' := 8) rfl (hb hby d6_49) (by decide) (by decide) ?_
        refine XS.iloadN X6.here hx rfl (hb hby d6_8) rfl ?_
        refine XS.iload X6.here hx rfl (hb hby d6_9) rfl ?_
        refine XS.icmpYes X6.here hx rfl (pc0 := 11) (pc' := 52) rfl (hb hby d6_11) rfl (flt (by decide : ¬ ((0 : Int32) < (0 : Int32)))).2.1 (by decide) (by decide) ?_
        refine XS.iloadN X6.here hx rfl (hb hby d6_52) rfl ?_
        exact k
      obtain ⟨fs, hr, hrun, hended, hW, hsame⟩ := X6.leave (v := some (.int (0 : Int32))) (fun h => by rw [Bd.returns] at h; cases h)
      refine Goes.mk _ _ ?_ ⟨hrun, hended, _, _, rfl, ?_, ⟨_, rfl⟩, hW, hsame.mono (by decide) (by decide)⟩
      · exact retI X6 hx Bd.returns (hb hby d6_53) hr
      · show QDue3 Z a0 q1 ar kA x1 x2 x3 t1 t2 t3 h0 n0 _ T6.heap _
        rw [e6]
        exact ⟨(by simp only [fDue3, if_pos hc5, if_pos hc9]), N0, rfl⟩
    · refine Goes.by (B := T6.setTop (mkF m 53 #[.val (.ref a0), .val (.long q1), .second, .val (.int (1 : Int32)), .val (.int (1 : Int32)), .val (.int (0 : Int32))] [(.int (1 : Int32))])) (fun t k => ?_) ?_
      · refine XS.ifNo X6.here hx rfl (hb hby d6_34) rfl ((if0 _ _).trans (flt (fun z => hc9 ((lw_gt t1 q1).mp z))).2.2.1) ?_
        refine XS.iload X6.here hx rfl (hb hby d6_37) rfl ?_
        refine XS.iconst X6.here hx rfl (hb hby d6_39) ?_
        refine XS.iadd X6.here hx rfl (hb hby d6_40) rfl ?_
        refine XS.istoreN X6.here hx rfl (hb hby d6_41) rfl (l' := #[.val (.ref a0), .val (.long q1), .second, .val (.int (1 : Int32)), .val (.int (1 : Int32)), .val (.int (0 : Int32))]) rfl ?_
        refine XS.goto X6.here hx rfl (pc0 := 42) (pc' := 49) rfl (hb hby d6_42) (by decide) (by decide) ?_
        refine XS.goto X6.here hx rfl (pc0 := 49) (pc' := 8) rfl (hb hby d6_49) (by decide) (by decide) ?_
        refine XS.iloadN X6.here hx rfl (hb hby d6_8) rfl ?_
        refine XS.iload X6.here hx rfl (hb hby d6_9) rfl ?_
        refine XS.icmpYes X6.here hx rfl (pc0 := 11) (pc' := 52) rfl (hb hby d6_11) rfl (flt (by decide : ¬ ((1 : Int32) < (1 : Int32)))).2.1 (by decide) (by decide) ?_
        refine XS.iloadN X6.here hx rfl (hb hby d6_52) rfl ?_
        exact k
      obtain ⟨fs, hr, hrun, hended, hW, hsame⟩ := X6.leave (v := some (.int (1 : Int32))) (fun h => by rw [Bd.returns] at h; cases h)
      refine Goes.mk _ _ ?_ ⟨hrun, hended, _, _, rfl, ?_, ⟨_, rfl⟩, hW, hsame.mono (by decide) (by decide)⟩
      · exact retI X6 hx Bd.returns (hb hby d6_53) hr
      · show QDue3 Z a0 q1 ar kA x1 x2 x3 t1 t2 t3 h0 n0 _ T6.heap _
        rw [e6]
        exact ⟨(by simp only [fDue3, if_pos hc5, if_neg hc9]), N0, rfl⟩
  · refine Goes.by (B := T2.setTop (mkF m 14 #[.val (.ref a0), .val (.long q1), .second, .val (.int (2 : Int32)), .val (.int (3 : Int32)), .val (.int (1 : Int32))] [])) (fun t k => ?_) ?_
    · refine XS.ifNo X2.here hx rfl (hb hby d6_34) rfl ((if0 _ _).trans (flt (fun z => hc5 ((lw_gt t2 q1).mp z))).2.2.1) ?_
      refine XS.iload X2.here hx rfl (hb hby d6_37) rfl ?_
      refine XS.iconst X2.here hx rfl (hb hby d6_39) ?_
      refine XS.iadd X2.here hx rfl (hb hby d6_40) rfl ?_
      refine XS.istoreN X2.here hx rfl (hb hby d6_41) rfl (l' := #[.val (.ref a0), .val (.long q1), .second, .val (.int (2 : Int32)), .val (.int (3 : Int32)), .val (.int (1 : Int32))]) rfl ?_
      refine XS.goto X2.here hx rfl (pc0 := 42) (pc' := 49) rfl (hb hby d6_42) (by decide) (by decide) ?_
      refine XS.goto X2.here hx rfl (pc0 := 49) (pc' := 8) rfl (hb hby d6_49) (by decide) (by decide) ?_
      refine XS.iloadN X2.here hx rfl (hb hby d6_8) rfl ?_
      refine XS.iload X2.here hx rfl (hb hby d6_9) rfl ?_
      refine XS.icmpNo X2.here hx rfl (hb hby d6_11) rfl (tlt (by decide : (2 : Int32) < (3 : Int32))).2.1 ?_
      exact k
    refine Goes.by (B := T2.setTop (mkF m 23 #[.val (.ref a0), .val (.long q1), .second, .val (.int (2 : Int32)), .val (.int (3 : Int32)), .val (.int (2 : Int32))] [(.ref a0)])) (fun t k => ?_) ?_
    · refine XS.iloadN X2.here hx rfl (hb hby d6_14) rfl ?_
      refine XS.iload X2.here hx rfl (hb hby d6_15) rfl ?_
      refine XS.iadd X2.here hx rfl (hb hby d6_17) rfl ?_
      refine XS.iconst X2.here hx rfl (hb hby d6_18) ?_
      refine XS.iushr X2.here hx rfl (hb hby d6_19) rfl ?_
      refine XS.istore X2.here hx rfl (hb hby d6_20) rfl (l' := #[.val (.ref a0), .val (.long q1), .second, .val (.int (2 : Int32)), .val (.int (3 : Int32)), .val (.int (2 : Int32))]) rfl ?_
      refine XS.aloadN X2.here hx rfl (hb hby d6_22) rfl rfl ?_
      exact k
    obtain ⟨T10, X10, e10, st10⟩ := getF X2 hx hZ hown (host := "") (Or.inl (wq hw 11 rfl)) Via.refl e2 F1 (g := (mkF m 23 #[.val (.ref a0), .val (.long q1), .second, .val (.int (2 : Int32)), .val (.int (3 : Int32)), .val (.int (2 : Int32))] [(.ref a0)])) rfl rfl (hb hby d6_23)
    refine Goes.by st10 ?_
    refine Goes.by (fun _ => XS.iload X10.here hx rfl (hb hby d6_26) rfl) ?_
    obtain ⟨cl11, cl11A, cl11q, cl11S, cl11N, cl11H, cl11G⟩ := id F3
    have cl11I : ¬ ((2 : Int32) < 0 ∨ cl11.slots.size ≤ ((2 : Int32)).toNatClampNeg) := inb_of cl11S ⟨by decide, by decide⟩
    have cl11T : cl11.slots[((2 : Int32)).toNatClampNeg]? = some (.ref x3) := cl11H.at cl11I rfl
    refine Goes.by (X10.aaload hx (j := (2 : Int32)) (v := (.ref x3)) (by rw [e10]; exact cl11A.1) (State.isArrayOf_alike hZ.alike cl11A.2.1) rfl cl11A.2.2 cl11I cl11T (g := (mkF m 28 #[.val (.ref a0), .val (.long q1), .second, .val (.int (2 : Int32)), .val (.int (3 : Int32)), .val (.int (2 : Int32))] [(.int (2 : Int32)), (.ref ar)])) rfl rfl (hb hby d6_28)) ?_
    refine Goes.by (B := T10.setTop (mkF m 34 #[.val (.ref a0), .val (.long q1), .second, .val (.int (2 : Int32)), .val (.int (3 : Int32)), .val (.int (2 : Int32))] [(.int (lcmpW t3 q1))])) (fun t k => ?_) ?_
    · refine getFR X10 hx hZ hown (wq hw 57 rfl) e10 F10 (g := (mkF m 29 #[.val (.ref a0), .val (.long q1), .second, .val (.int (2 : Int32)), .val (.int (3 : Int32)), .val (.int (2 : Int32))] [(.ref x3)])) rfl rfl (hb hby d6_29) ?_
      refine XS.lloadN X10.here hx rfl (hb hby d6_32) rfl ?_
      refine XS.lcmp X10.here hx rfl (hb hby d6_33) rfl ?_
      exact k
    by_cases hc13 : q1 < t3
    · refine Goes.by (B := T10.setTop (mkF m 53 #[.val (.ref a0), .val (.long q1), .second, .val (.int (2 : Int32)), .val (.int (2 : Int32)), .val (.int (2 : Int32))] [(.int (2 : Int32))])) (fun t k => ?_) ?_
      · refine XS.ifYes X10.here hx rfl (pc0 := 34) (pc' := 45) rfl (hb hby d6_34) rfl ((if0 _ _).trans (tlt ((lw_gt t3 q1).mpr hc13)).2.2.1) (by decide) (by decide) ?_
        refine XS.iload X10.here hx rfl (hb hby d6_45) rfl ?_
        refine XS.istore X10.here hx rfl (hb hby d6_47) rfl (l' := #[.val (.ref a0), .val (.long q1), .second, .val (.int (2 : Int32)), .val (.int (2 : Int32)), .val (.int (2 : Int32))]) rfl ?_
        refine XS.goto X10.here hx rfl (pc0 := 49) (pc' := 8) rfl (hb hby d6_49) (by decide) (by decide) ?_
        refine XS.iloadN X10.here hx rfl (hb hby d6_8) rfl ?_
        refine XS.iload X10.here hx rfl (hb hby d6_9) rfl ?_
        refine XS.icmpYes X10.here hx rfl (pc0 := 11) (pc' := 52) rfl (hb hby d6_11) rfl (flt (by decide : ¬ ((2 : Int32) < (2 : Int32)))).2.1 (by decide) (by decide) ?_
        refine XS.iloadN X10.here hx rfl (hb hby d6_52) rfl ?_
        exact k
      obtain ⟨fs, hr, hrun, hended, hW, hsame⟩ := X10.leave (v := some (.int (2 : Int32))) (fun h => by rw [Bd.returns] at h; cases h)
      refine Goes.mk _ _ ?_ ⟨hrun, hended, _, _, rfl, ?_, ⟨_, rfl⟩, hW, hsame.mono (by decide) (by decide)⟩
      · exact retI X10 hx Bd.returns (hb hby d6_53) hr
      · show QDue3 Z a0 q1 ar kA x1 x2 x3 t1 t2 t3 h0 n0 _ T10.heap _
        rw [e10]
        exact ⟨(by simp only [fDue3, if_neg hc5, if_pos hc13]), N0, rfl⟩
    · refine Goes.by (B := T10.setTop (mkF m 53 #[.val (.ref a0), .val (.long q1), .second, .val (.int (3 : Int32)), .val (.int (3 : Int32)), .val (.int (2 : Int32))] [(.int (3 : Int32))])) (fun t k => ?_) ?_
      · refine XS.ifNo X10.here hx rfl (hb hby d6_34) rfl ((if0 _ _).trans (flt (fun z => hc13 ((lw_gt t3 q1).mp z))).2.2.1) ?_
        refine XS.iload X10.here hx rfl (hb hby d6_37) rfl ?_
        refine XS.iconst X10.here hx rfl (hb hby d6_39) ?_
        refine XS.iadd X10.here hx rfl (hb hby d6_40) rfl ?_
        refine XS.istoreN X10.here hx rfl (hb hby d6_41) rfl (l' := #[.val (.ref a0), .val (.long q1), .second, .val (.int (3 : Int32)), .val (.int (3 : Int32)), .val (.int (2 : Int32))]) rfl ?_
        refine XS.goto X10.here hx rfl (pc0 := 42) (pc' := 49) rfl (hb hby d6_42) (by decide) (by decide) ?_
        refine XS.goto X10.here hx rfl (pc0 := 49) (pc' := 8) rfl (hb hby d6_49) (by decide) (by decide) ?_
        refine XS.iloadN X10.here hx rfl (hb hby d6_8) rfl ?_
        refine XS.iload X10.here hx rfl (hb hby d6_9) rfl ?_
        refine XS.icmpYes X10.here hx rfl (pc0 := 11) (pc' := 52) rfl (hb hby d6_11) rfl (flt (by decide : ¬ ((3 : Int32) < (3 : Int32)))).2.1 (by decide) (by decide) ?_
        refine XS.iloadN X10.here hx rfl (hb hby d6_52) rfl ?_
        exact k
      obtain ⟨fs, hr, hrun, hended, hW, hsame⟩ := X10.leave (v := some (.int (3 : Int32))) (fun h => by rw [Bd.returns] at h; cases h)
      refine Goes.mk _ _ ?_ ⟨hrun, hended, _, _, rfl, ?_, ⟨_, rfl⟩, hW, hsame.mono (by decide) (by decide)⟩
      · exact retI X10 hx Bd.returns (hb hby d6_53) hr
      · show QDue3 Z a0 q1 ar kA x1 x2 x3 t1 t2 t3 h0 n0 _ T10.heap _
        rw [e10]
        exact ⟨(by simp only [fDue3, if_neg hc5, if_neg hc13]), N0, rfl⟩
theorem own_due3 (q1 t1 t2 t3 : Int64) : fDue3 q1 t1 t2 t3 = (0 : Int32) ∨ fDue3 q1 t1 t2 t3 = (1 : Int32) ∨ fDue3 q1 t1 t2 t3 = (2 : Int32) ∨ fDue3 q1 t1 t2 t3 = (3 : Int32) := by
  unfold fDue3
  repeat' split
  all_goals simp
theorem d5_0 : decode prog_4_method_8_code 0 = .ok (.aload_n 0, 1) := by decide +kernel
theorem d5_1 : decode prog_4_method_8_code 1 = .ok (.getfield 15, 3) := by decide +kernel
theorem d5_4 : decode prog_4_method_8_code 4 = .ok (.ifCond .le 34, 3) := by decide +kernel
theorem d5_38 : decode prog_4_method_8_code 38 = .ok (.aload_n 0, 1) := by decide +kernel
theorem d5_39 : decode prog_4_method_8_code 39 = .ok (.lload_n 1, 1) := by decide +kernel
theorem d5_40 : decode prog_4_method_8_code 40 = .ok (.invokevirtual 44, 3) := by decide +kernel
theorem own_pd1 : parseMethodDescriptor "(J)I" = some ⟨[.long], some .int⟩ := by decide +kernel
theorem d5_43 : decode prog_4_method_8_code 43 = .ok (.istore_n 3, 1) := by decide +kernel
theorem d5_44 : decode prog_4_method_8_code 44 = .ok (.iload_n 3, 1) := by decide +kernel
theorem d5_45 : decode prog_4_method_8_code 45 = .ok (.ifCond .le 28, 3) := by decide +kernel
theorem d5_73 : decode prog_4_method_8_code 73 = .ok (.aload_n 0, 1) := by decide +kernel
theorem d5_74 : decode prog_4_method_8_code 74 = .ok (.getfield 15, 3) := by decide +kernel
theorem d5_77 : decode prog_4_method_8_code 77 = .ok (.aload_n 0, 1) := by decide +kernel
theorem d5_78 : decode prog_4_method_8_code 78 = .ok (.getfield 11, 3) := by decide +kernel
theorem d5_81 : decode prog_4_method_8_code 81 = .ok (.arraylength, 1) := by decide +kernel
theorem d5_82 : decode prog_4_method_8_code 82 = .ok (.if_icmp .ne 23, 3) := by decide +kernel
theorem d5_105 : decode prog_4_method_8_code 105 = .ok (.aload_n 0, 1) := by decide +kernel
theorem d5_106 : decode prog_4_method_8_code 106 = .ok (.getfield 11, 3) := by decide +kernel
theorem d5_109 : decode prog_4_method_8_code 109 = .ok (.iload_n 3, 1) := by decide +kernel
theorem d5_110 : decode prog_4_method_8_code 110 = .ok (.aload_n 0, 1) := by decide +kernel
theorem d5_111 : decode prog_4_method_8_code 111 = .ok (.getfield 11, 3) := by decide +kernel
theorem d5_114 : decode prog_4_method_8_code 114 = .ok (.iload_n 3, 1) := by decide +kernel
theorem d5_115 : decode prog_4_method_8_code 115 = .ok (.iconst 1, 1) := by decide +kernel
theorem d5_116 : decode prog_4_method_8_code 116 = .ok (.iadd, 1) := by decide +kernel
theorem d5_117 : decode prog_4_method_8_code 117 = .ok (.aload_n 0, 1) := by decide +kernel
theorem d5_118 : decode prog_4_method_8_code 118 = .ok (.getfield 15, 3) := by decide +kernel
theorem d5_121 : decode prog_4_method_8_code 121 = .ok (.iload_n 3, 1) := by decide +kernel
theorem d5_122 : decode prog_4_method_8_code 122 = .ok (.isub, 1) := by decide +kernel
theorem d5_123 : decode prog_4_method_8_code 123 = .ok (.invokestatic 55, 3) := by decide +kernel
theorem d5_126 : decode prog_4_method_8_code 126 = .ok (.new 9, 3) := by decide +kernel
theorem d5_129 : decode prog_4_method_8_code 129 = .ok (.dup, 1) := by decide +kernel
theorem d5_130 : decode prog_4_method_8_code 130 = .ok (.lload_n 1, 1) := by decide +kernel
theorem d5_131 : decode prog_4_method_8_code 131 = .ok (.invokespecial 74, 3) := by decide +kernel
theorem own_pd2 : parseMethodDescriptor "(J)V" = some ⟨[.long], none⟩ := by decide +kernel
theorem d5_134 : decode prog_4_method_8_code 134 = .ok (.astore 4, 2) := by decide +kernel
theorem d5_136 : decode prog_4_method_8_code 136 = .ok (.aload_n 0, 1) := by decide +kernel
theorem d5_137 : decode prog_4_method_8_code 137 = .ok (.getfield 11, 3) := by decide +kernel
theorem d5_140 : decode prog_4_method_8_code 140 = .ok (.iload_n 3, 1) := by decide +kernel
theorem d5_141 : decode prog_4_method_8_code 141 = .ok (.aload 4, 2) := by decide +kernel
theorem d5_143 : decode prog_4_method_8_code 143 = .ok (.aastore, 1) := by decide +kernel
theorem d5_144 : decode prog_4_method_8_code 144 = .ok (.aload_n 0, 1) := by decide +kernel
theorem d5_145 : decode prog_4_method_8_code 145 = .ok (.dup, 1) := by decide +kernel
theorem d5_146 : decode prog_4_method_8_code 146 = .ok (.getfield 15, 3) := by decide +kernel
theorem d5_149 : decode prog_4_method_8_code 149 = .ok (.iconst 1, 1) := by decide +kernel
theorem d5_150 : decode prog_4_method_8_code 150 = .ok (.iadd, 1) := by decide +kernel
theorem d5_151 : decode prog_4_method_8_code 151 = .ok (.putfield 15, 3) := by decide +kernel
theorem d5_154 : decode prog_4_method_8_code 154 = .ok (.aload 4, 2) := by decide +kernel
theorem d5_156 : decode prog_4_method_8_code 156 = .ok (.areturn, 1) := by decide +kernel
def QHeadOf0 (Z : State) (a0 : Addr) (q1 : Int64) (ar : Addr) (kA : ClassId) (h0 : Heap) (n0 : Nat) (v : Option Value) (h : Heap) (L : List Loc) : Prop := (∃ b17 : Addr, v = some (.ref b17) ∧ Fr n0 L ∧ Keep h0 h [a0, ar] ∧ h0.size ≤ b17 ∧ Fld Z h a0 cD "heads" dA (.ref ar) ∧ Fld Z h a0 cD "count" "I" (.int (1 : Int32)) ∧ Arv Z h ar kA (.object cH) (4 : Int32) [(.ref b17), .null, .null, .null] .null ∧ Exa Z h b17 cH ∧ Fld Z h b17 cH "tick" "J" (.long q1) ∧ Fld Z h b17 cL "next" dL (.ref b17) ∧ Fld Z h b17 cL "prev" dL (.ref b17))
theorem efHeadOf0 (m : MethodId) (x0 : Addr) (x1 : Int64) : entryFrame m #[(.ref x0), (.long x1)] 5 = mkF m 0 #[.val (.ref x0), .val (.long x1), .second, .unset, .unset] [] := by first | (simp [entryFrame, mkF, argsToLocals, Value.category]; done) | rfl
set_option maxRecDepth 65536 in
set_option maxHeartbeats 40000000 in
theorem rmHeadOf0 (l : Launch) (Z : State) (az : Array Value) (hw : ∀ d ∈ tables_1, d.before az Z = true) (ws : List Jvm.Cond) (a0 : Addr) (q1 : Int64) (ar : Addr) (kA : ClassId) (h0 : Heap) (n0 : Nat) (Z0 : n0 ≤ h0.size) (F0 : Exa Z h0 a0 cD) (F1 : Fld Z h0 a0 cD "heads" dA (.ref ar)) (F2 : Fld Z h0 a0 cD "count" "I" (.int (0 : Int32))) (F3 : Arv Z h0 ar kA (.object cH) (4 : Int32) [.null, .null, .null, .null] .null) (F4 : Ovr Z kA cH) (Ne0 : a0 ≠ ar) (Ge0 : n0 ≤ a0) (Ge1 : n0 ≤ ar) :
    MetFree l y3 (head1 (Jvm.Cond.code y3 prog_4_method_8_code 5 (some (.object cH)) :: ws) ({ frames := 3, cells := 1, slots := 3, locals := 39 } : Room)) (fun a U => a = #[(.ref a0), (.long q1)] ∧ Z.Warmed39 U.vm ∧ U.heap = h0) (fun _ _ _ _ _ => True) (fun _ U o U' => ∃ v L, o = .returned v ∧ QHeadOf0 Z a0 q1 ar kA h0 n0 v U'.heap L ∧ FrameEnd U o U' L ({ frames := 3, cells := 1, slots := 3, locals := 39 } : Room).cells ({ frames := 3, cells := 1, slots := 3, locals := 39 } : Room).slots) := by
  refine MetFree.of_bodySF (plainFor_of_name own_pn_com_example_admit_one_admitone_engine_DueOrder) hisR ?_
  intro p e s m args below meth c s₁ Bd hml0 hP hK
  obtain ⟨rfl, hZ, hh⟩ := hP
  have hx := Bd.exec
  have hby := Bd.bytes
  have hml : c.maxLocals = 5 := hml0
  have hown : s.vm.findClass cD = some m.cls := findClass_of_methodNamed Bd.named
  have hnm := (name_of_methodNamed Bd.named Bd.method).1
  have X0 : Stand p l e ({ frames := 3, cells := 1, slots := 3, locals := 39 } : Room) s m #[(.ref a0), (.long q1)] below meth c s₁ [] 0 0 := Stand.of_body Bd
  have e0 : s₁.heap = h0 := by rw [← hh, Bd.state]; rfl
  have N0 := Fr.nil n0
  have Kp0 : Keep h0 h0 [a0, ar] := Keep.refl _ _
  refine Goes.start ?_
  refine Goes.by (B := s₁.setTop (mkF m 0 #[.val (.ref a0), .val (.long q1), .second, .unset, .unset] [])) (fun t k => castTop (efHeadOf0 m a0 q1) k) ?_
  refine Goes.by (fun _ => XS.aloadN X0.here hx rfl (hb hby d5_0) rfl rfl) ?_
  obtain ⟨T1, X1, e1, st1⟩ := getF X0 hx hZ hown (host := "") (Or.inl (wq hw 29 rfl)) Via.refl e0 F2 (g := (mkF m 1 #[.val (.ref a0), .val (.long q1), .second, .unset, .unset] [(.ref a0)])) rfl rfl (hb hby d5_1)
  refine Goes.by st1 ?_
  refine Goes.by (fun _ => XS.ifYes X1.here hx rfl (pc0 := 4) (pc' := 38) rfl (hb hby d5_4) rfl ((if0 _ _).trans (flt (by decide : ¬ ((0 : Int32) < (0 : Int32)))).2.2.2) (by decide) (by decide)) ?_
  refine Goes.by (fun _ => XS.aloadN X1.here hx rfl (hb hby d5_38) rfl rfl) ?_
  refine Goes.by (fun _ => XS.lloadN X1.here hx rfl (hb hby d5_39) rfl) ?_
  obtain ⟨_, T2, L2, Lc2, X2, hF2, hQ2, st2⟩ := own_cp X1 hx hZ hown (wq hw 31 rfl) (wq hw 33 rfl) (wq hw 1 rfl) (wq hw 32 rfl) (wq hw 2 rfl) (wq hw 34 rfl) (rmDue0 l Z az hw [] a0 q1 ar h0 n0 Z0 F0 F1 F2) (W := 0) (g := (mkF m 40 #[.val (.ref a0), .val (.long q1), .second, .unset, .unset] [(.long q1), (.ref a0)])) rfl (by rw [hml]; rfl) F0 (argsL := [(.long q1)]) (rest := []) rfl (lenOf own_pd1 rfl) rfl (hb hby d5_40) e1 N0 (c' := 0) (s' := 0)
  obtain ⟨rfl, N2q, e2⟩ := hQ2
  have N3 := hF2 N2q
  refine Goes.by st2 ?_
  refine Goes.by (fun _ => XS.istoreN X2.here hx rfl (hb hby d5_43) rfl (l' := #[.val (.ref a0), .val (.long q1), .second, .val (.int (0 : Int32)), .unset]) rfl) ?_
  refine Goes.by (fun _ => XS.iloadN X2.here hx rfl (hb hby d5_44) rfl) ?_
  refine Goes.by (fun _ => XS.ifYes X2.here hx rfl (pc0 := 45) (pc' := 73) rfl (hb hby d5_45) rfl ((if0 _ _).trans (flt (by decide : ¬ ((0 : Int32) < (0 : Int32)))).2.2.2) (by decide) (by decide)) ?_
  refine Goes.by (fun _ => XS.aloadN X2.here hx rfl (hb hby d5_73) rfl rfl) ?_
  obtain ⟨T4, X4, e4, st4⟩ := getF X2 hx hZ hown (host := "") (Or.inl (wq hw 29 rfl)) Via.refl e2 F2 (g := (mkF m 74 #[.val (.ref a0), .val (.long q1), .second, .val (.int (0 : Int32)), .unset] [(.ref a0)])) rfl rfl (hb hby d5_74)
  refine Goes.by st4 ?_
  refine Goes.by (fun _ => XS.aloadN X4.here hx rfl (hb hby d5_77) rfl rfl) ?_
  obtain ⟨T5, X5, e5, st5⟩ := getF X4 hx hZ hown (host := "") (Or.inl (wq hw 11 rfl)) Via.refl e4 F1 (g := (mkF m 78 #[.val (.ref a0), .val (.long q1), .second, .val (.int (0 : Int32)), .unset] [(.ref a0), (.int (0 : Int32))])) rfl rfl (hb hby d5_78)
  refine Goes.by st5 ?_
  obtain ⟨cl6, cl6A, -, cl6S, cl6N, -, -⟩ := id F3
  refine Goes.by (B := T5.setTop (mkF m 105 #[.val (.ref a0), .val (.long q1), .second, .val (.int (0 : Int32)), .unset] [])) (fun t k => ?_) ?_
  · refine X5.arraylength hx (by rw [e5]; exact cl6A.1) (State.isArrayOf_alike hZ.alike cl6A.2.1) (g := (mkF m 81 #[.val (.ref a0), .val (.long q1), .second, .val (.int (0 : Int32)), .unset] [(.ref ar), (.int (0 : Int32))])) rfl rfl (hb hby d5_81) _ ?_
    rw [len_of cl6S cl6N]
    refine XS.icmpYes X5.here hx rfl (pc0 := 82) (pc' := 105) rfl (hb hby d5_82) rfl (feq (by decide : ¬ ((0 : Int32) = (4 : Int32)))).2 (by decide) (by decide) ?_
    exact k
  refine Goes.by (fun _ => XS.aloadN X5.here hx rfl (hb hby d5_105) rfl rfl) ?_
  obtain ⟨T7, X7, e7, st7⟩ := getF X5 hx hZ hown (host := "") (Or.inl (wq hw 11 rfl)) Via.refl e5 F1 (g := (mkF m 106 #[.val (.ref a0), .val (.long q1), .second, .val (.int (0 : Int32)), .unset] [(.ref a0)])) rfl rfl (hb hby d5_106)
  refine Goes.by st7 ?_
  refine Goes.by (fun _ => XS.iloadN X7.here hx rfl (hb hby d5_109) rfl) ?_
  refine Goes.by (fun _ => XS.aloadN X7.here hx rfl (hb hby d5_110) rfl rfl) ?_
  obtain ⟨T8, X8, e8, st8⟩ := getF X7 hx hZ hown (host := "") (Or.inl (wq hw 11 rfl)) Via.refl e7 F1 (g := (mkF m 111 #[.val (.ref a0), .val (.long q1), .second, .val (.int (0 : Int32)), .unset] [(.ref a0), (.int (0 : Int32)), (.ref ar)])) rfl rfl (hb hby d5_111)
  refine Goes.by st8 ?_
  refine Goes.by (fun _ => XS.iloadN X8.here hx rfl (hb hby d5_114) rfl) ?_
  refine Goes.by (fun _ => XS.iconst X8.here hx rfl (hb hby d5_115)) ?_
  refine Goes.by (fun _ => XS.iadd X8.here hx rfl (hb hby d5_116) rfl) ?_
  refine Goes.by (fun _ => XS.aloadN X8.here hx rfl (hb hby d5_117) rfl rfl) ?_
  obtain ⟨T9, X9, e9, st9⟩ := getF X8 hx hZ hown (host := "") (Or.inl (wq hw 29 rfl)) Via.refl e8 F2 (g := (mkF m 118 #[.val (.ref a0), .val (.long q1), .second, .val (.int (0 : Int32)), .unset] [(.ref a0), (.int (1 : Int32)), (.ref ar), (.int (0 : Int32)), (.ref ar)])) rfl rfl (hb hby d5_118)
  refine Goes.by st9 ?_
  refine Goes.by (fun _ => XS.iloadN X9.here hx rfl (hb hby d5_121) rfl) ?_
  refine Goes.by (fun _ => XS.isub X9.here hx rfl (hb hby d5_122) rfl) ?_
  obtain ⟨T10, h10, L10, X10, e10, Nn10, K10, V10, st10⟩ := cpA X9 hx hZ hown (wq hw 35 rfl) (wq hw 38 rfl) (wq hw 36 rfl) (wq hw 37 rfl) e9 (us := []) F3 F3 (Or.inr ⟨rfl, rfl, trivial⟩) (sp := (0 : Int32)) (dp := (1 : Int32)) (nn := (0 : Int32)) (by decide) (by decide) (by decide) (by decide) (by decide) rfl (Nat.le_of_ble_eq_true rfl) N3 Ge1 (g := (mkF m 123 #[.val (.ref a0), .val (.long q1), .second, .val (.int (0 : Int32)), .unset] [(.int (0 : Int32)), (.int (1 : Int32)), (.ref ar), (.int (0 : Int32)), (.ref ar)])) rfl (by rw [hml]; rfl) rfl (hb hby d5_123) (by decide) (W := 0) (by show 2 * 0 + _ ≤ _; exact Nat.le_of_eq rfl) (by decide)
  have f11 := F0.keep K10
  have f12 := F1.keep K10 (ninS Ne0 nin0)
  have f13 := F2.keep K10 (ninS Ne0 nin0)
  have f14 : Arv Z h10 ar kA (.object cH) (4 : Int32) [.null, .null, .null, .null] .null := V10
  have Kp10 : Keep h0 h10 [a0, ar] := Kp0.trans K10 (allS (Or.inl om1) all0)
  have Z15 := Nat.le_trans Z0 K10.1
  refine Goes.by st10 ?_
  obtain ⟨T16, h16, X16, e16, E16, A16, D16, -, st16⟩ := newO X10 hx hZ hown (wq hw 9 rfl) (wq hw 39 rfl) (wq hw 40 rfl) e10 (g := (mkF m 126 #[.val (.ref a0), .val (.long q1), .second, .val (.int (0 : Int32)), .unset] [])) rfl (hb hby d5_126) (by decide) (by decide)
  obtain ⟨b17, g16⟩ : ∃ z, z = h10.size := ⟨_, rfl⟩
  rw [← g16] at A16 D16 st16
  have ne18 : a0 ≠ b17 := Nat.ne_of_lt (Nat.lt_of_lt_of_le f11.lt (Nat.le_of_eq g16.symm))
  have ne19 : ar ≠ b17 := Nat.ne_of_lt (Nat.lt_of_lt_of_le f14.lt (Nat.le_of_eq g16.symm))
  have ge20 : n0 ≤ b17 := Nat.le_trans Z15 (Nat.le_of_eq g16.symm)
  have sz21 : h0.size ≤ b17 := Nat.le_trans Kp10.1 (Nat.le_of_eq g16.symm)
  have f22 := f11.ext E16
  have f23 := f12.ext E16
  have f24 := f13.ext E16
  have f25 := f14.ext E16
  have f26 : Fld Z h16 b17 cH "tick" "J" (.long (0 : Int64)) := D16 (Or.inr (wq hw 47 rfl)) (ty := .long) (by decide)
  have f27 : Fld Z h16 b17 cL "next" dL .null := D16 (Or.inl (wq hw 49 rfl)) (ty := (.object cL)) (by decide)
  have f28 : Fld Z h16 b17 cL "prev" dL .null := D16 (Or.inl (wq hw 51 rfl)) (ty := (.object cL)) (by decide)
  have Kp16 : Keep h0 h16 [a0, ar] := Kp10.ext E16
  have Z29 := Nat.le_trans Z15 E16.1
  refine Goes.by st16 ?_
  refine Goes.by (fun _ => XS.dup X16.here hx rfl (hb hby d5_129) rfl rfl) ?_
  refine Goes.by (fun _ => XS.lloadN X16.here hx rfl (hb hby d5_130) rfl) ?_
  obtain ⟨_, T30, L30, Lc30, X30, hF30, hQ30, st30⟩ := own_ci X16 hx hZ rfl hown (wq hw 41 rfl) (wq hw 42 rfl) (wq hw 40 rfl) (wq hw 43 rfl) (rmHeadI l Z az hw [] b17 q1 h16 n0 Z29 A16 f26 f27 f28 ge20) (W := 1) (g := (mkF m 131 #[.val (.ref a0), .val (.long q1), .second, .val (.int (0 : Int32)), .unset] [(.long q1), (.ref b17), (.ref b17)])) rfl (by rw [hml]; rfl) (argsL := [(.long q1)]) (rest := [(.ref b17)]) rfl (lenOf own_pd2 rfl) rfl (hb hby d5_131) e16 Nn10 (c' := 1) (s' := 3)
  obtain ⟨rfl, N30q, K30, f31, f32, f33, f34⟩ := hQ30
  have f35 := f22.keep K30
  have f36 := f23.keep K30 (ninS ne18 nin0)
  have f37 := f24.keep K30 (ninS ne18 nin0)
  have f38 := f25.keep K30 (ninS ne19 nin0)
  have f39 := A16.keep K30
  have Kp30 : Keep h0 T30.heap [a0, ar] := Kp16.trans K30 (allS (Or.inr sz21) all0)
  have Z40 := Nat.le_trans Z29 K30.1
  have N41 := hF30 N30q
  refine Goes.by st30 ?_
  refine Goes.by (fun _ => XS.astore X30.here hx rfl (hb hby d5_134) rfl rfl (l' := #[.val (.ref a0), .val (.long q1), .second, .val (.int (0 : Int32)), .val (.ref b17)]) rfl) ?_
  refine Goes.by (fun _ => XS.aloadN X30.here hx rfl (hb hby d5_136) rfl rfl) ?_
  obtain ⟨T42, X42, e42, st42⟩ := getF X30 hx hZ hown (host := "") (Or.inl (wq hw 11 rfl)) Via.refl rfl f36 (g := (mkF m 137 #[.val (.ref a0), .val (.long q1), .second, .val (.int (0 : Int32)), .val (.ref b17)] [(.ref a0)])) rfl rfl (hb hby d5_137)
  refine Goes.by st42 ?_
  refine Goes.by (fun _ => XS.iloadN X42.here hx rfl (hb hby d5_140) rfl) ?_
  refine Goes.by (fun _ => XS.aload X42.here hx rfl (hb hby d5_141) rfl rfl) ?_
  obtain ⟨cl43, cl43A, cl43q, cl43S, cl43N, cl43H, cl43G⟩ := id f38
  have cl43I : ¬ ((0 : Int32) < 0 ∨ cl43.slots.size ≤ ((0 : Int32)).toNatClampNeg) := inb_of cl43S ⟨by decide, by decide⟩
  obtain ⟨T43, h43, X43, e43, W43, st43⟩ := stR X42 hx hZ e42 cl43A (j := (0 : Int32)) cl43I rfl (Sto.ofV cl43A cl43q F4 (Ins.self f31)) (g := (mkF m 143 #[.val (.ref a0), .val (.long q1), .second, .val (.int (0 : Int32)), .val (.ref b17)] [(.ref b17), (.int (0 : Int32)), (.ref ar)])) rfl rfl (hb hby d5_143)
  have f44 := f35.wr W43
  have f45 := f36.other W43 (Or.inl Ne0)
  have f46 := f37.other W43 (Or.inl Ne0)
  have f47 := f31.wr W43
  have f48 := f32.other W43 (Or.inl (Ne.symm ne19))
  have f49 := f33.other W43 (Or.inl (Ne.symm ne19))
  have f50 := f34.other W43 (Or.inl (Ne.symm ne19))
  have f51 : Arv Z h43 ar kA (.object cH) (4 : Int32) [(.ref b17), .null, .null, .null] .null := Arv.set cl43A cl43q cl43S cl43N cl43H cl43G rfl W43 0 rfl (Nat.le_of_ble_eq_true rfl)
  have Kp43 : Keep h0 h43 [a0, ar] := Kp30.wr W43 (Or.inl om1)
  have Z52 := Nat.le_trans Z40 (Nat.le_of_eq W43.size.symm)
  have N53 := Fr.snoc X43 N41 Ge1
  refine Goes.by st43 ?_
  refine Goes.by (fun _ => XS.aloadN X43.here hx rfl (hb hby d5_144) rfl rfl) ?_
  refine Goes.by (fun _ => XS.dup X43.here hx rfl (hb hby d5_145) rfl rfl) ?_
  obtain ⟨T54, X54, e54, st54⟩ := getF X43 hx hZ hown (host := "") (Or.inl (wq hw 29 rfl)) Via.refl e43 f46 (g := (mkF m 146 #[.val (.ref a0), .val (.long q1), .second, .val (.int (0 : Int32)), .val (.ref b17)] [(.ref a0), (.ref a0)])) rfl rfl (hb hby d5_146)
  refine Goes.by st54 ?_
  refine Goes.by (fun _ => XS.iconst X54.here hx rfl (hb hby d5_149)) ?_
  refine Goes.by (fun _ => XS.iadd X54.here hx rfl (hb hby d5_150) rfl) ?_
  obtain ⟨T55, h55, X55, e55, W55, st55⟩ := putF X54 hx hZ hown (host := "") (Or.inl (wq hw 29 rfl)) Via.refl e54 f46 f44 (Or.inl (wq hw 30 rfl)) (wq hw 1 rfl) (ty := .int) (by decide) rfl rfl (g := (mkF m 151 #[.val (.ref a0), .val (.long q1), .second, .val (.int (0 : Int32)), .val (.ref b17)] [(.int (1 : Int32)), (.ref a0)])) rfl rfl (hb hby d5_151)
  have f56 := f44.wr W55
  have f57 := f45.other W55 (Or.inr (slot_ne (Or.inl (wq hw 12 rfl)) (Or.inl (wq hw 30 rfl)) (by decide) (t := (.array (.object cH))) (t' := .int) (by decide) (by decide)))
  have f58 := f47.wr W55
  have f59 := f48.other W55 (Or.inl (Ne.symm ne18))
  have f60 := f49.other W55 (Or.inl (Ne.symm ne18))
  have f61 := f50.other W55 (Or.inl (Ne.symm ne18))
  have f62 := f51.other W55 (Ne.symm Ne0)
  have f63 : Fld Z h55 a0 cD "count" "I" (.int (1 : Int32)) := f46.same W55
  have Kp55 : Keep h0 h55 [a0, ar] := Kp43.wr W55 (Or.inl om0)
  have Z64 := Nat.le_trans Z52 (Nat.le_of_eq W55.size.symm)
  have N65 := Fr.snoc X55 N53 Ge0
  refine Goes.by st55 ?_
  refine Goes.by (fun _ => XS.aload X55.here hx rfl (hb hby d5_154) rfl rfl) ?_
  obtain ⟨fs, hr, hrun, hended, hW, hsame⟩ := X55.leave (v := some (.ref b17)) (fun h => by rw [Bd.returns] at h; cases h)
  refine Goes.mk _ _ ?_ ⟨hrun, hended, _, _, rfl, ?_, ⟨_, rfl⟩, hW, hsame.mono (by decide) (by decide)⟩
  · exact retOut X55 hx Bd.returns rfl (Or.inr (Or.inr (Or.inr (Or.inr ⟨rfl, rfl, rfl⟩)))) (hb hby d5_156) hr
  · show QHeadOf0 Z a0 q1 ar kA h0 n0 _ T55.heap _
    rw [e55]
    exact ⟨b17, rfl, N65, Kp55, sz21, f57, f63, f62, f58, f59, f60, f61⟩
theorem d5_7 : decode prog_4_method_8_code 7 = .ok (.aload_n 0, 1) := by decide +kernel
theorem d5_8 : decode prog_4_method_8_code 8 = .ok (.getfield 11, 3) := by decide +kernel
theorem d5_11 : decode prog_4_method_8_code 11 = .ok (.aload_n 0, 1) := by decide +kernel
theorem d5_12 : decode prog_4_method_8_code 12 = .ok (.getfield 15, 3) := by decide +kernel
theorem d5_15 : decode prog_4_method_8_code 15 = .ok (.iconst 1, 1) := by decide +kernel
theorem d5_16 : decode prog_4_method_8_code 16 = .ok (.isub, 1) := by decide +kernel
theorem d5_17 : decode prog_4_method_8_code 17 = .ok (.aaload, 1) := by decide +kernel
theorem d5_18 : decode prog_4_method_8_code 18 = .ok (.getfield 23, 3) := by decide +kernel
theorem d5_21 : decode prog_4_method_8_code 21 = .ok (.lload_n 1, 1) := by decide +kernel
theorem d5_22 : decode prog_4_method_8_code 22 = .ok (.lcmp, 1) := by decide +kernel
theorem d5_23 : decode prog_4_method_8_code 23 = .ok (.ifCond .ne 15, 3) := by decide +kernel
theorem d5_26 : decode prog_4_method_8_code 26 = .ok (.aload_n 0, 1) := by decide +kernel
theorem d5_27 : decode prog_4_method_8_code 27 = .ok (.getfield 11, 3) := by decide +kernel
theorem d5_30 : decode prog_4_method_8_code 30 = .ok (.aload_n 0, 1) := by decide +kernel
theorem d5_31 : decode prog_4_method_8_code 31 = .ok (.getfield 15, 3) := by decide +kernel
theorem d5_34 : decode prog_4_method_8_code 34 = .ok (.iconst 1, 1) := by decide +kernel
theorem d5_35 : decode prog_4_method_8_code 35 = .ok (.isub, 1) := by decide +kernel
theorem d5_36 : decode prog_4_method_8_code 36 = .ok (.aaload, 1) := by decide +kernel
theorem d5_37 : decode prog_4_method_8_code 37 = .ok (.areturn, 1) := by decide +kernel
theorem d5_48 : decode prog_4_method_8_code 48 = .ok (.aload_n 0, 1) := by decide +kernel
theorem d5_49 : decode prog_4_method_8_code 49 = .ok (.getfield 11, 3) := by decide +kernel
theorem d5_52 : decode prog_4_method_8_code 52 = .ok (.iload_n 3, 1) := by decide +kernel
theorem d5_53 : decode prog_4_method_8_code 53 = .ok (.iconst 1, 1) := by decide +kernel
theorem d5_54 : decode prog_4_method_8_code 54 = .ok (.isub, 1) := by decide +kernel
theorem d5_55 : decode prog_4_method_8_code 55 = .ok (.aaload, 1) := by decide +kernel
theorem d5_56 : decode prog_4_method_8_code 56 = .ok (.getfield 23, 3) := by decide +kernel
theorem d5_59 : decode prog_4_method_8_code 59 = .ok (.lload_n 1, 1) := by decide +kernel
theorem d5_60 : decode prog_4_method_8_code 60 = .ok (.lcmp, 1) := by decide +kernel
theorem d5_61 : decode prog_4_method_8_code 61 = .ok (.ifCond .ne 12, 3) := by decide +kernel
def QHeadOf1 (Z : State) (a0 : Addr) (q1 : Int64) (ar : Addr) (kA : ClassId) (x1 : Addr) (t1 : Int64) (h0 : Heap) (n0 : Nat) (v : Option Value) (h : Heap) (L : List Loc) : Prop := (t1 = q1 ∧ v = some (.ref x1) ∧ Fr n0 L ∧ h = h0) ∨ (∃ b26 : Addr, ¬ (t1 = q1) ∧ fDue1 q1 t1 = (0 : Int32) ∧ v = some (.ref b26) ∧ Fr n0 L ∧ Keep h0 h [a0, ar] ∧ h0.size ≤ b26 ∧ Fld Z h a0 cD "heads" dA (.ref ar) ∧ Fld Z h a0 cD "count" "I" (.int (2 : Int32)) ∧ Arv Z h ar kA (.object cH) (4 : Int32) [(.ref b26), (.ref x1), .null, .null] .null ∧ Exa Z h b26 cH ∧ Fld Z h b26 cH "tick" "J" (.long q1) ∧ Fld Z h b26 cL "next" dL (.ref b26) ∧ Fld Z h b26 cL "prev" dL (.ref b26)) ∨ (∃ b97 : Addr, ¬ (t1 = q1) ∧ fDue1 q1 t1 = (1 : Int32) ∧ v = some (.ref b97) ∧ Fr n0 L ∧ Keep h0 h [a0, ar] ∧ h0.size ≤ b97 ∧ Fld Z h a0 cD "heads" dA (.ref ar) ∧ Fld Z h a0 cD "count" "I" (.int (2 : Int32)) ∧ Arv Z h ar kA (.object cH) (4 : Int32) [(.ref x1), (.ref b97), .null, .null] .null ∧ Exa Z h b97 cH ∧ Fld Z h b97 cH "tick" "J" (.long q1) ∧ Fld Z h b97 cL "next" dL (.ref b97) ∧ Fld Z h b97 cL "prev" dL (.ref b97))
theorem efHeadOf1 (m : MethodId) (x0 : Addr) (x1 : Int64) : entryFrame m #[(.ref x0), (.long x1)] 5 = mkF m 0 #[.val (.ref x0), .val (.long x1), .second, .unset, .unset] [] := by first | (simp [entryFrame, mkF, argsToLocals, Value.category]; done) | rfl
set_option maxRecDepth 65536 in
set_option maxHeartbeats 40000000 in
theorem rmHeadOf1 (l : Launch) (Z : State) (az : Array Value) (hw : ∀ d ∈ tables_1, d.before az Z = true) (ws : List Jvm.Cond) (a0 : Addr) (q1 : Int64) (ar : Addr) (kA : ClassId) (x1 : Addr) (t1 : Int64) (h0 : Heap) (n0 : Nat) (Z0 : n0 ≤ h0.size) (F0 : Exa Z h0 a0 cD) (F1 : Fld Z h0 a0 cD "heads" dA (.ref ar)) (F2 : Fld Z h0 a0 cD "count" "I" (.int (1 : Int32))) (F3 : Arv Z h0 ar kA (.object cH) (4 : Int32) [(.ref x1), .null, .null, .null] .null) (F4 : Ovr Z kA cH) (F5 : Exa Z h0 x1 cH) (F6 : Fld Z h0 x1 cH "tick" "J" (.long t1)) (Ne0 : a0 ≠ ar) (Ne1 : x1 ≠ a0) (Ne2 : x1 ≠ ar) (Ge0 : n0 ≤ a0) (Ge1 : n0 ≤ ar) :
    MetFree l y3 (head1 (Jvm.Cond.code y3 prog_4_method_8_code 5 (some (.object cH)) :: ws) ({ frames := 3, cells := 1, slots := 3, locals := 39 } : Room)) (fun a U => a = #[(.ref a0), (.long q1)] ∧ Z.Warmed39 U.vm ∧ U.heap = h0) (fun _ _ _ _ _ => True) (fun _ U o U' => ∃ v L, o = .returned v ∧ QHeadOf1 Z a0 q1 ar kA x1 t1 h0 n0 v U'.heap L ∧ FrameEnd U o U' L ({ frames := 3, cells := 1, slots := 3, locals := 39 } : Room).cells ({ frames := 3, cells := 1, slots := 3, locals := 39 } : Room).slots) := by
  refine MetFree.of_bodySF (plainFor_of_name own_pn_com_example_admit_one_admitone_engine_DueOrder) hisR ?_
  intro p e s m args below meth c s₁ Bd hml0 hP hK
  obtain ⟨rfl, hZ, hh⟩ := hP
  have hx := Bd.exec
  have hby := Bd.bytes
  have hml : c.maxLocals = 5 := hml0
  have hown : s.vm.findClass cD = some m.cls := findClass_of_methodNamed Bd.named
  have hnm := (name_of_methodNamed Bd.named Bd.method).1
  have X0 : Stand p l e ({ frames := 3, cells := 1, slots := 3, locals := 39 } : Room) s m #[(.ref a0), (.long q1)] below meth c s₁ [] 0 0 := Stand.of_body Bd
  have e0 : s₁.heap = h0 := by rw [← hh, Bd.state]; rfl
  have N0 := Fr.nil n0
  have Kp0 : Keep h0 h0 [a0, ar] := Keep.refl _ _
  refine Goes.start ?_
  refine Goes.by (B := s₁.setTop (mkF m 0 #[.val (.ref a0), .val (.long q1), .second, .unset, .unset] [])) (fun t k => castTop (efHeadOf1 m a0 q1) k) ?_
  refine Goes.by (fun _ => XS.aloadN X0.here hx rfl (hb hby d5_0) rfl rfl) ?_
  obtain ⟨T1, X1, e1, st1⟩ := getF X0 hx hZ hown (host := "") (Or.inl (wq hw 29 rfl)) Via.refl e0 F2 (g := (mkF m 1 #[.val (.ref a0), .val (.long q1), .second, .unset, .unset] [(.ref a0)])) rfl rfl (hb hby d5_1)
  refine Goes.by st1 ?_
  refine Goes.by (fun _ => XS.ifNo X1.here hx rfl (hb hby d5_4) rfl ((if0 _ _).trans (tlt (by decide : (0 : Int32) < (1 : Int32))).2.2.2)) ?_
  refine Goes.by (fun _ => XS.aloadN X1.here hx rfl (hb hby d5_7) rfl rfl) ?_
  obtain ⟨T2, X2, e2, st2⟩ := getF X1 hx hZ hown (host := "") (Or.inl (wq hw 11 rfl)) Via.refl e1 F1 (g := (mkF m 8 #[.val (.ref a0), .val (.long q1), .second, .unset, .unset] [(.ref a0)])) rfl rfl (hb hby d5_8)
  refine Goes.by st2 ?_
  refine Goes.by (fun _ => XS.aloadN X2.here hx rfl (hb hby d5_11) rfl rfl) ?_
  obtain ⟨T3, X3, e3, st3⟩ := getF X2 hx hZ hown (host := "") (Or.inl (wq hw 29 rfl)) Via.refl e2 F2 (g := (mkF m 12 #[.val (.ref a0), .val (.long q1), .second, .unset, .unset] [(.ref a0), (.ref ar)])) rfl rfl (hb hby d5_12)
  refine Goes.by st3 ?_
  refine Goes.by (fun _ => XS.iconst X3.here hx rfl (hb hby d5_15)) ?_
  refine Goes.by (fun _ => XS.isub X3.here hx rfl (hb hby d5_16) rfl) ?_
  obtain ⟨cl4, cl4A, cl4q, cl4S, cl4N, cl4H, cl4G⟩ := id F3
  have cl4I : ¬ ((0 : Int32) < 0 ∨ cl4.slots.size ≤ ((0 : Int32)).toNatClampNeg) := inb_of cl4S ⟨by decide, by decide⟩
  have cl4T : cl4.slots[((0 : Int32)).toNatClampNeg]? = some (.ref x1) := cl4H.at cl4I rfl
  refine Goes.by (X3.aaload hx (j := (0 : Int32)) (v := (.ref x1)) (by rw [e3]; exact cl4A.1) (State.isArrayOf_alike hZ.alike cl4A.2.1) rfl cl4A.2.2 cl4I cl4T (g := (mkF m 17 #[.val (.ref a0), .val (.long q1), .second, .unset, .unset] [(.int (0 : Int32)), (.ref ar)])) rfl rfl (hb hby d5_17)) ?_
  refine Goes.by (B := T3.setTop (mkF m 23 #[.val (.ref a0), .val (.long q1), .second, .unset, .unset] [(.int (lcmpW t1 q1))])) (fun t k => ?_) ?_
  · refine getFR X3 hx hZ hown (wq hw 57 rfl) e3 F6 (g := (mkF m 18 #[.val (.ref a0), .val (.long q1), .second, .unset, .unset] [(.ref x1)])) rfl rfl (hb hby d5_18) ?_
    refine XS.lloadN X3.here hx rfl (hb hby d5_21) rfl ?_
    refine XS.lcmp X3.here hx rfl (hb hby d5_22) rfl ?_
    exact k
  by_cases hc6 : t1 = q1
  · refine Goes.by (fun _ => XS.ifNo X3.here hx rfl (hb hby d5_23) rfl ((if0 _ _).trans (teq ((lw_eq t1 q1).mpr hc6)).2)) ?_
    refine Goes.by (fun _ => XS.aloadN X3.here hx rfl (hb hby d5_26) rfl rfl) ?_
    obtain ⟨T7, X7, e7, st7⟩ := getF X3 hx hZ hown (host := "") (Or.inl (wq hw 11 rfl)) Via.refl e3 F1 (g := (mkF m 27 #[.val (.ref a0), .val (.long q1), .second, .unset, .unset] [(.ref a0)])) rfl rfl (hb hby d5_27)
    refine Goes.by st7 ?_
    refine Goes.by (fun _ => XS.aloadN X7.here hx rfl (hb hby d5_30) rfl rfl) ?_
    obtain ⟨T8, X8, e8, st8⟩ := getF X7 hx hZ hown (host := "") (Or.inl (wq hw 29 rfl)) Via.refl e7 F2 (g := (mkF m 31 #[.val (.ref a0), .val (.long q1), .second, .unset, .unset] [(.ref a0), (.ref ar)])) rfl rfl (hb hby d5_31)
    refine Goes.by st8 ?_
    refine Goes.by (fun _ => XS.iconst X8.here hx rfl (hb hby d5_34)) ?_
    refine Goes.by (fun _ => XS.isub X8.here hx rfl (hb hby d5_35) rfl) ?_
    obtain ⟨cl9, cl9A, cl9q, cl9S, cl9N, cl9H, cl9G⟩ := id F3
    have cl9I : ¬ ((0 : Int32) < 0 ∨ cl9.slots.size ≤ ((0 : Int32)).toNatClampNeg) := inb_of cl9S ⟨by decide, by decide⟩
    have cl9T : cl9.slots[((0 : Int32)).toNatClampNeg]? = some (.ref x1) := cl9H.at cl9I rfl
    refine Goes.by (X8.aaload hx (j := (0 : Int32)) (v := (.ref x1)) (by rw [e8]; exact cl9A.1) (State.isArrayOf_alike hZ.alike cl9A.2.1) rfl cl9A.2.2 cl9I cl9T (g := (mkF m 36 #[.val (.ref a0), .val (.long q1), .second, .unset, .unset] [(.int (0 : Int32)), (.ref ar)])) rfl rfl (hb hby d5_36)) ?_
    obtain ⟨fs, hr, hrun, hended, hW, hsame⟩ := X8.leave (v := some (.ref x1)) (fun h => by rw [Bd.returns] at h; cases h)
    refine Goes.mk _ _ ?_ ⟨hrun, hended, _, _, rfl, ?_, ⟨_, rfl⟩, hW, hsame.mono (by decide) (by decide)⟩
    · exact retOut X8 hx Bd.returns rfl (Or.inr (Or.inr (Or.inr (Or.inr ⟨rfl, rfl, rfl⟩)))) (hb hby d5_37) hr
    · show QHeadOf1 Z a0 q1 ar kA x1 t1 h0 n0 _ T8.heap _
      rw [e8]
      exact (Or.inl ⟨hc6, rfl, N0, rfl⟩)
  · refine Goes.by (fun _ => XS.ifYes X3.here hx rfl (pc0 := 23) (pc' := 38) rfl (hb hby d5_23) rfl ((if0 _ _).trans (feq (fun z => hc6 ((lw_eq t1 q1).mp z))).2) (by decide) (by decide)) ?_
    refine Goes.by (fun _ => XS.aloadN X3.here hx rfl (hb hby d5_38) rfl rfl) ?_
    refine Goes.by (fun _ => XS.lloadN X3.here hx rfl (hb hby d5_39) rfl) ?_
    obtain ⟨_, T10, L10, Lc10, X10, hF10, hQ10, st10⟩ := own_cp X3 hx hZ hown (wq hw 31 rfl) (wq hw 33 rfl) (wq hw 1 rfl) (wq hw 32 rfl) (wq hw 2 rfl) (wq hw 34 rfl) (rmDue1 l Z az hw [] a0 q1 ar kA x1 t1 h0 n0 Z0 F0 F1 F2 F3 F4 F5 F6) (W := 0) (g := (mkF m 40 #[.val (.ref a0), .val (.long q1), .second, .unset, .unset] [(.long q1), (.ref a0)])) rfl (by rw [hml]; rfl) F0 (argsL := [(.long q1)]) (rest := []) rfl (lenOf own_pd1 rfl) rfl (hb hby d5_40) e3 N0 (c' := 0) (s' := 0)
    obtain ⟨rfl, N10q, e10⟩ := hQ10
    have N11 := hF10 N10q
    refine Goes.by st10 ?_
    rcases own_due1 q1 t1 with he | he
    · rw [he]
      show Goes p.tables e below _ (T10.setTop (mkF m 43 #[.val (.ref a0), .val (.long q1), .second, .unset, .unset] [(.int (0 : Int32))]))
      refine Goes.by (fun _ => XS.istoreN X10.here hx rfl (hb hby d5_43) rfl (l' := #[.val (.ref a0), .val (.long q1), .second, .val (.int (0 : Int32)), .unset]) rfl) ?_
      refine Goes.by (fun _ => XS.iloadN X10.here hx rfl (hb hby d5_44) rfl) ?_
      refine Goes.by (fun _ => XS.ifYes X10.here hx rfl (pc0 := 45) (pc' := 73) rfl (hb hby d5_45) rfl ((if0 _ _).trans (flt (by decide : ¬ ((0 : Int32) < (0 : Int32)))).2.2.2) (by decide) (by decide)) ?_
      refine Goes.by (fun _ => XS.aloadN X10.here hx rfl (hb hby d5_73) rfl rfl) ?_
      obtain ⟨T12, X12, e12, st12⟩ := getF X10 hx hZ hown (host := "") (Or.inl (wq hw 29 rfl)) Via.refl e10 F2 (g := (mkF m 74 #[.val (.ref a0), .val (.long q1), .second, .val (.int (0 : Int32)), .unset] [(.ref a0)])) rfl rfl (hb hby d5_74)
      refine Goes.by st12 ?_
      refine Goes.by (fun _ => XS.aloadN X12.here hx rfl (hb hby d5_77) rfl rfl) ?_
      obtain ⟨T13, X13, e13, st13⟩ := getF X12 hx hZ hown (host := "") (Or.inl (wq hw 11 rfl)) Via.refl e12 F1 (g := (mkF m 78 #[.val (.ref a0), .val (.long q1), .second, .val (.int (0 : Int32)), .unset] [(.ref a0), (.int (1 : Int32))])) rfl rfl (hb hby d5_78)
      refine Goes.by st13 ?_
      obtain ⟨cl14, cl14A, -, cl14S, cl14N, -, -⟩ := id F3
      refine Goes.by (B := T13.setTop (mkF m 105 #[.val (.ref a0), .val (.long q1), .second, .val (.int (0 : Int32)), .unset] [])) (fun t k => ?_) ?_
      · refine X13.arraylength hx (by rw [e13]; exact cl14A.1) (State.isArrayOf_alike hZ.alike cl14A.2.1) (g := (mkF m 81 #[.val (.ref a0), .val (.long q1), .second, .val (.int (0 : Int32)), .unset] [(.ref ar), (.int (1 : Int32))])) rfl rfl (hb hby d5_81) _ ?_
        rw [len_of cl14S cl14N]
        refine XS.icmpYes X13.here hx rfl (pc0 := 82) (pc' := 105) rfl (hb hby d5_82) rfl (feq (by decide : ¬ ((1 : Int32) = (4 : Int32)))).2 (by decide) (by decide) ?_
        exact k
      refine Goes.by (fun _ => XS.aloadN X13.here hx rfl (hb hby d5_105) rfl rfl) ?_
      obtain ⟨T15, X15, e15, st15⟩ := getF X13 hx hZ hown (host := "") (Or.inl (wq hw 11 rfl)) Via.refl e13 F1 (g := (mkF m 106 #[.val (.ref a0), .val (.long q1), .second, .val (.int (0 : Int32)), .unset] [(.ref a0)])) rfl rfl (hb hby d5_106)
      refine Goes.by st15 ?_
      refine Goes.by (fun _ => XS.iloadN X15.here hx rfl (hb hby d5_109) rfl) ?_
      refine Goes.by (fun _ => XS.aloadN X15.here hx rfl (hb hby d5_110) rfl rfl) ?_
      obtain ⟨T16, X16, e16, st16⟩ := getF X15 hx hZ hown (host := "") (Or.inl (wq hw 11 rfl)) Via.refl e15 F1 (g := (mkF m 111 #[.val (.ref a0), .val (.long q1), .second, .val (.int (0 : Int32)), .unset] [(.ref a0), (.int (0 : Int32)), (.ref ar)])) rfl rfl (hb hby d5_111)
      refine Goes.by st16 ?_
      refine Goes.by (fun _ => XS.iloadN X16.here hx rfl (hb hby d5_114) rfl) ?_
      refine Goes.by (fun _ => XS.iconst X16.here hx rfl (hb hby d5_115)) ?_
      refine Goes.by (fun _ => XS.iadd X16.here hx rfl (hb hby d5_116) rfl) ?_
      refine Goes.by (fun _ => XS.aloadN X16.here hx rfl (hb hby d5_117) rfl rfl) ?_
      obtain ⟨T17, X17, e17, st17⟩ := getF X16 hx hZ hown (host := "") (Or.inl (wq hw 29 rfl)) Via.refl e16 F2 (g := (mkF m 118 #[.val (.ref a0), .val (.long q1), .second, .val (.int (0 : Int32)), .unset] [(.ref a0), (.int (1 : Int32)), (.ref ar), (.int (0 : Int32)), (.ref ar)])) rfl rfl (hb hby d5_118)
      refine Goes.by st17 ?_
      refine Goes.by (fun _ => XS.iloadN X17.here hx rfl (hb hby d5_121) rfl) ?_
      refine Goes.by (fun _ => XS.isub X17.here hx rfl (hb hby d5_122) rfl) ?_
      obtain ⟨cl18, cl18A, cl18q, -, -, -, -⟩ := id F3
      obtain ⟨T18, h18, L18, X18, e18, Nn18, K18, V18, st18⟩ := cpA X17 hx hZ hown (wq hw 35 rfl) (wq hw 38 rfl) (wq hw 36 rfl) (wq hw 37 rfl) e17 (us := [(.ref x1)]) F3 F3 (Or.inr ⟨rfl, rfl, ⟨Sto.ofV cl18A cl18q F4 (Ins.self F5), trivial⟩⟩) (sp := (0 : Int32)) (dp := (1 : Int32)) (nn := (1 : Int32)) (by decide) (by decide) (by decide) (by decide) (by decide) rfl (Nat.le_of_ble_eq_true rfl) N11 Ge1 (g := (mkF m 123 #[.val (.ref a0), .val (.long q1), .second, .val (.int (0 : Int32)), .unset] [(.int (1 : Int32)), (.int (1 : Int32)), (.ref ar), (.int (0 : Int32)), (.ref ar)])) rfl (by rw [hml]; rfl) rfl (hb hby d5_123) (by decide) (W := 0) (by show 2 * 0 + _ ≤ _; exact Nat.le_of_eq rfl) (by decide)
      have f19 := F0.keep K18
      have f20 := F1.keep K18 (ninS Ne0 nin0)
      have f21 := F2.keep K18 (ninS Ne0 nin0)
      have f22 := F5.keep K18
      have f23 : Arv Z h18 ar kA (.object cH) (4 : Int32) [(.ref x1), (.ref x1), .null, .null] .null := V18
      have Kp18 : Keep h0 h18 [a0, ar] := Kp0.trans K18 (allS (Or.inl om1) all0)
      have Z24 := Nat.le_trans Z0 K18.1
      refine Goes.by st18 ?_
      obtain ⟨T25, h25, X25, e25, E25, A25, D25, -, st25⟩ := newO X18 hx hZ hown (wq hw 9 rfl) (wq hw 39 rfl) (wq hw 40 rfl) e18 (g := (mkF m 126 #[.val (.ref a0), .val (.long q1), .second, .val (.int (0 : Int32)), .unset] [])) rfl (hb hby d5_126) (by decide) (by decide)
      obtain ⟨b26, g25⟩ : ∃ z, z = h18.size := ⟨_, rfl⟩
      rw [← g25] at A25 D25 st25
      have ne27 : a0 ≠ b26 := Nat.ne_of_lt (Nat.lt_of_lt_of_le f19.lt (Nat.le_of_eq g25.symm))
      have ne28 : ar ≠ b26 := Nat.ne_of_lt (Nat.lt_of_lt_of_le f23.lt (Nat.le_of_eq g25.symm))
      have ne29 : x1 ≠ b26 := Nat.ne_of_lt (Nat.lt_of_lt_of_le f22.lt (Nat.le_of_eq g25.symm))
      have ge30 : n0 ≤ b26 := Nat.le_trans Z24 (Nat.le_of_eq g25.symm)
      have sz31 : h0.size ≤ b26 := Nat.le_trans Kp18.1 (Nat.le_of_eq g25.symm)
      have f32 := f19.ext E25
      have f33 := f20.ext E25
      have f34 := f21.ext E25
      have f35 := f22.ext E25
      have f36 := f23.ext E25
      have f37 : Fld Z h25 b26 cH "tick" "J" (.long (0 : Int64)) := D25 (Or.inr (wq hw 47 rfl)) (ty := .long) (by decide)
      have f38 : Fld Z h25 b26 cL "next" dL .null := D25 (Or.inl (wq hw 49 rfl)) (ty := (.object cL)) (by decide)
      have f39 : Fld Z h25 b26 cL "prev" dL .null := D25 (Or.inl (wq hw 51 rfl)) (ty := (.object cL)) (by decide)
      have Kp25 : Keep h0 h25 [a0, ar] := Kp18.ext E25
      have Z40 := Nat.le_trans Z24 E25.1
      refine Goes.by st25 ?_
      refine Goes.by (fun _ => XS.dup X25.here hx rfl (hb hby d5_129) rfl rfl) ?_
      refine Goes.by (fun _ => XS.lloadN X25.here hx rfl (hb hby d5_130) rfl) ?_
      obtain ⟨_, T41, L41, Lc41, X41, hF41, hQ41, st41⟩ := own_ci X25 hx hZ rfl hown (wq hw 41 rfl) (wq hw 42 rfl) (wq hw 40 rfl) (wq hw 43 rfl) (rmHeadI l Z az hw [] b26 q1 h25 n0 Z40 A25 f37 f38 f39 ge30) (W := 1) (g := (mkF m 131 #[.val (.ref a0), .val (.long q1), .second, .val (.int (0 : Int32)), .unset] [(.long q1), (.ref b26), (.ref b26)])) rfl (by rw [hml]; rfl) (argsL := [(.long q1)]) (rest := [(.ref b26)]) rfl (lenOf own_pd2 rfl) rfl (hb hby d5_131) e25 Nn18 (c' := 1) (s' := 3)
      obtain ⟨rfl, N41q, K41, f42, f43, f44, f45⟩ := hQ41
      have f46 := f32.keep K41
      have f47 := f33.keep K41 (ninS ne27 nin0)
      have f48 := f34.keep K41 (ninS ne27 nin0)
      have f49 := f35.keep K41
      have f50 := f36.keep K41 (ninS ne28 nin0)
      have f51 := A25.keep K41
      have Kp41 : Keep h0 T41.heap [a0, ar] := Kp25.trans K41 (allS (Or.inr sz31) all0)
      have Z52 := Nat.le_trans Z40 K41.1
      have N53 := hF41 N41q
      refine Goes.by st41 ?_
      refine Goes.by (fun _ => XS.astore X41.here hx rfl (hb hby d5_134) rfl rfl (l' := #[.val (.ref a0), .val (.long q1), .second, .val (.int (0 : Int32)), .val (.ref b26)]) rfl) ?_
      refine Goes.by (fun _ => XS.aloadN X41.here hx rfl (hb hby d5_136) rfl rfl) ?_
      obtain ⟨T54, X54, e54, st54⟩ := getF X41 hx hZ hown (host := "") (Or.inl (wq hw 11 rfl)) Via.refl rfl f47 (g := (mkF m 137 #[.val (.ref a0), .val (.long q1), .second, .val (.int (0 : Int32)), .val (.ref b26)] [(.ref a0)])) rfl rfl (hb hby d5_137)
      refine Goes.by st54 ?_
      refine Goes.by (fun _ => XS.iloadN X54.here hx rfl (hb hby d5_140) rfl) ?_
      refine Goes.by (fun _ => XS.aload X54.here hx rfl (hb hby d5_141) rfl rfl) ?_
      obtain ⟨cl55, cl55A, cl55q, cl55S, cl55N, cl55H, cl55G⟩ := id f50
      have cl55I : ¬ ((0 : Int32) < 0 ∨ cl55.slots.size ≤ ((0 : Int32)).toNatClampNeg) := inb_of cl55S ⟨by decide, by decide⟩
      obtain ⟨T55, h55, X55, e55, W55, st55⟩ := stR X54 hx hZ e54 cl55A (j := (0 : Int32)) cl55I rfl (Sto.ofV cl55A cl55q F4 (Ins.self f42)) (g := (mkF m 143 #[.val (.ref a0), .val (.long q1), .second, .val (.int (0 : Int32)), .val (.ref b26)] [(.ref b26), (.int (0 : Int32)), (.ref ar)])) rfl rfl (hb hby d5_143)
      have f56 := f46.wr W55
      have f57 := f47.other W55 (Or.inl Ne0)
      have f58 := f48.other W55 (Or.inl Ne0)
      have f59 := f49.wr W55
      have f60 := f42.wr W55
      have f61 := f43.other W55 (Or.inl (Ne.symm ne28))
      have f62 := f44.other W55 (Or.inl (Ne.symm ne28))
      have f63 := f45.other W55 (Or.inl (Ne.symm ne28))
      have f64 : Arv Z h55 ar kA (.object cH) (4 : Int32) [(.ref b26), (.ref x1), .null, .null] .null := Arv.set cl55A cl55q cl55S cl55N cl55H cl55G rfl W55 0 rfl (Nat.le_of_ble_eq_true rfl)
      have Kp55 : Keep h0 h55 [a0, ar] := Kp41.wr W55 (Or.inl om1)
      have Z65 := Nat.le_trans Z52 (Nat.le_of_eq W55.size.symm)
      have N66 := Fr.snoc X55 N53 Ge1
      refine Goes.by st55 ?_
      refine Goes.by (fun _ => XS.aloadN X55.here hx rfl (hb hby d5_144) rfl rfl) ?_
      refine Goes.by (fun _ => XS.dup X55.here hx rfl (hb hby d5_145) rfl rfl) ?_
      obtain ⟨T67, X67, e67, st67⟩ := getF X55 hx hZ hown (host := "") (Or.inl (wq hw 29 rfl)) Via.refl e55 f58 (g := (mkF m 146 #[.val (.ref a0), .val (.long q1), .second, .val (.int (0 : Int32)), .val (.ref b26)] [(.ref a0), (.ref a0)])) rfl rfl (hb hby d5_146)
      refine Goes.by st67 ?_
      refine Goes.by (fun _ => XS.iconst X67.here hx rfl (hb hby d5_149)) ?_
      refine Goes.by (fun _ => XS.iadd X67.here hx rfl (hb hby d5_150) rfl) ?_
      obtain ⟨T68, h68, X68, e68, W68, st68⟩ := putF X67 hx hZ hown (host := "") (Or.inl (wq hw 29 rfl)) Via.refl e67 f58 f56 (Or.inl (wq hw 30 rfl)) (wq hw 1 rfl) (ty := .int) (by decide) rfl rfl (g := (mkF m 151 #[.val (.ref a0), .val (.long q1), .second, .val (.int (0 : Int32)), .val (.ref b26)] [(.int (2 : Int32)), (.ref a0)])) rfl rfl (hb hby d5_151)
      have f69 := f56.wr W68
      have f70 := f57.other W68 (Or.inr (slot_ne (Or.inl (wq hw 12 rfl)) (Or.inl (wq hw 30 rfl)) (by decide) (t := (.array (.object cH))) (t' := .int) (by decide) (by decide)))
      have f71 := f59.wr W68
      have f72 := f60.wr W68
      have f73 := f61.other W68 (Or.inl (Ne.symm ne27))
      have f74 := f62.other W68 (Or.inl (Ne.symm ne27))
      have f75 := f63.other W68 (Or.inl (Ne.symm ne27))
      have f76 := f64.other W68 (Ne.symm Ne0)
      have f77 : Fld Z h68 a0 cD "count" "I" (.int (2 : Int32)) := f58.same W68
      have Kp68 : Keep h0 h68 [a0, ar] := Kp55.wr W68 (Or.inl om0)
      have Z78 := Nat.le_trans Z65 (Nat.le_of_eq W68.size.symm)
      have N79 := Fr.snoc X68 N66 Ge0
      refine Goes.by st68 ?_
      refine Goes.by (fun _ => XS.aload X68.here hx rfl (hb hby d5_154) rfl rfl) ?_
      obtain ⟨fs, hr, hrun, hended, hW, hsame⟩ := X68.leave (v := some (.ref b26)) (fun h => by rw [Bd.returns] at h; cases h)
      refine Goes.mk _ _ ?_ ⟨hrun, hended, _, _, rfl, ?_, ⟨_, rfl⟩, hW, hsame.mono (by decide) (by decide)⟩
      · exact retOut X68 hx Bd.returns rfl (Or.inr (Or.inr (Or.inr (Or.inr ⟨rfl, rfl, rfl⟩)))) (hb hby d5_156) hr
      · show QHeadOf1 Z a0 q1 ar kA x1 t1 h0 n0 _ T68.heap _
        rw [e68]
        exact (Or.inr (Or.inl ⟨b26, hc6, he, rfl, N79, Kp68, sz31, f70, f77, f76, f72, f73, f74, f75⟩))
    · rw [he]
      show Goes p.tables e below _ (T10.setTop (mkF m 43 #[.val (.ref a0), .val (.long q1), .second, .unset, .unset] [(.int (1 : Int32))]))
      refine Goes.by (fun _ => XS.istoreN X10.here hx rfl (hb hby d5_43) rfl (l' := #[.val (.ref a0), .val (.long q1), .second, .val (.int (1 : Int32)), .unset]) rfl) ?_
      refine Goes.by (fun _ => XS.iloadN X10.here hx rfl (hb hby d5_44) rfl) ?_
      refine Goes.by (fun _ => XS.ifNo X10.here hx rfl (hb hby d5_45) rfl ((if0 _ _).trans (tlt (by decide : (0 : Int32) < (1 : Int32))).2.2.2)) ?_
      refine Goes.by (fun _ => XS.aloadN X10.here hx rfl (hb hby d5_48) rfl rfl) ?_
      obtain ⟨T80, X80, e80, st80⟩ := getF X10 hx hZ hown (host := "") (Or.inl (wq hw 11 rfl)) Via.refl e10 F1 (g := (mkF m 49 #[.val (.ref a0), .val (.long q1), .second, .val (.int (1 : Int32)), .unset] [(.ref a0)])) rfl rfl (hb hby d5_49)
      refine Goes.by st80 ?_
      refine Goes.by (fun _ => XS.iloadN X80.here hx rfl (hb hby d5_52) rfl) ?_
      refine Goes.by (fun _ => XS.iconst X80.here hx rfl (hb hby d5_53)) ?_
      refine Goes.by (fun _ => XS.isub X80.here hx rfl (hb hby d5_54) rfl) ?_
      obtain ⟨cl81, cl81A, cl81q, cl81S, cl81N, cl81H, cl81G⟩ := id F3
      have cl81I : ¬ ((0 : Int32) < 0 ∨ cl81.slots.size ≤ ((0 : Int32)).toNatClampNeg) := inb_of cl81S ⟨by decide, by decide⟩
      have cl81T : cl81.slots[((0 : Int32)).toNatClampNeg]? = some (.ref x1) := cl81H.at cl81I rfl
      refine Goes.by (X80.aaload hx (j := (0 : Int32)) (v := (.ref x1)) (by rw [e80]; exact cl81A.1) (State.isArrayOf_alike hZ.alike cl81A.2.1) rfl cl81A.2.2 cl81I cl81T (g := (mkF m 55 #[.val (.ref a0), .val (.long q1), .second, .val (.int (1 : Int32)), .unset] [(.int (0 : Int32)), (.ref ar)])) rfl rfl (hb hby d5_55)) ?_
      refine Goes.by (B := T80.setTop (mkF m 74 #[.val (.ref a0), .val (.long q1), .second, .val (.int (1 : Int32)), .unset] [(.ref a0)])) (fun t k => ?_) ?_
      · refine getFR X80 hx hZ hown (wq hw 57 rfl) e80 F6 (g := (mkF m 56 #[.val (.ref a0), .val (.long q1), .second, .val (.int (1 : Int32)), .unset] [(.ref x1)])) rfl rfl (hb hby d5_56) ?_
        refine XS.lloadN X80.here hx rfl (hb hby d5_59) rfl ?_
        refine XS.lcmp X80.here hx rfl (hb hby d5_60) rfl ?_
        refine XS.ifYes X80.here hx rfl (pc0 := 61) (pc' := 73) rfl (hb hby d5_61) rfl ((if0 _ _).trans (feq (fun z => hc6 ((lw_eq t1 q1).mp z))).2) (by decide) (by decide) ?_
        refine XS.aloadN X80.here hx rfl (hb hby d5_73) rfl rfl ?_
        exact k
      obtain ⟨T83, X83, e83, st83⟩ := getF X80 hx hZ hown (host := "") (Or.inl (wq hw 29 rfl)) Via.refl e80 F2 (g := (mkF m 74 #[.val (.ref a0), .val (.long q1), .second, .val (.int (1 : Int32)), .unset] [(.ref a0)])) rfl rfl (hb hby d5_74)
      refine Goes.by st83 ?_
      refine Goes.by (fun _ => XS.aloadN X83.here hx rfl (hb hby d5_77) rfl rfl) ?_
      obtain ⟨T84, X84, e84, st84⟩ := getF X83 hx hZ hown (host := "") (Or.inl (wq hw 11 rfl)) Via.refl e83 F1 (g := (mkF m 78 #[.val (.ref a0), .val (.long q1), .second, .val (.int (1 : Int32)), .unset] [(.ref a0), (.int (1 : Int32))])) rfl rfl (hb hby d5_78)
      refine Goes.by st84 ?_
      obtain ⟨cl85, cl85A, -, cl85S, cl85N, -, -⟩ := id F3
      refine Goes.by (B := T84.setTop (mkF m 105 #[.val (.ref a0), .val (.long q1), .second, .val (.int (1 : Int32)), .unset] [])) (fun t k => ?_) ?_
      · refine X84.arraylength hx (by rw [e84]; exact cl85A.1) (State.isArrayOf_alike hZ.alike cl85A.2.1) (g := (mkF m 81 #[.val (.ref a0), .val (.long q1), .second, .val (.int (1 : Int32)), .unset] [(.ref ar), (.int (1 : Int32))])) rfl rfl (hb hby d5_81) _ ?_
        rw [len_of cl85S cl85N]
        refine XS.icmpYes X84.here hx rfl (pc0 := 82) (pc' := 105) rfl (hb hby d5_82) rfl (feq (by decide : ¬ ((1 : Int32) = (4 : Int32)))).2 (by decide) (by decide) ?_
        exact k
      refine Goes.by (fun _ => XS.aloadN X84.here hx rfl (hb hby d5_105) rfl rfl) ?_
      obtain ⟨T86, X86, e86, st86⟩ := getF X84 hx hZ hown (host := "") (Or.inl (wq hw 11 rfl)) Via.refl e84 F1 (g := (mkF m 106 #[.val (.ref a0), .val (.long q1), .second, .val (.int (1 : Int32)), .unset] [(.ref a0)])) rfl rfl (hb hby d5_106)
      refine Goes.by st86 ?_
      refine Goes.by (fun _ => XS.iloadN X86.here hx rfl (hb hby d5_109) rfl) ?_
      refine Goes.by (fun _ => XS.aloadN X86.here hx rfl (hb hby d5_110) rfl rfl) ?_
      obtain ⟨T87, X87, e87, st87⟩ := getF X86 hx hZ hown (host := "") (Or.inl (wq hw 11 rfl)) Via.refl e86 F1 (g := (mkF m 111 #[.val (.ref a0), .val (.long q1), .second, .val (.int (1 : Int32)), .unset] [(.ref a0), (.int (1 : Int32)), (.ref ar)])) rfl rfl (hb hby d5_111)
      refine Goes.by st87 ?_
      refine Goes.by (fun _ => XS.iloadN X87.here hx rfl (hb hby d5_114) rfl) ?_
      refine Goes.by (fun _ => XS.iconst X87.here hx rfl (hb hby d5_115)) ?_
      refine Goes.by (fun _ => XS.iadd X87.here hx rfl (hb hby d5_116) rfl) ?_
      refine Goes.by (fun _ => XS.aloadN X87.here hx rfl (hb hby d5_117) rfl rfl) ?_
      obtain ⟨T88, X88, e88, st88⟩ := getF X87 hx hZ hown (host := "") (Or.inl (wq hw 29 rfl)) Via.refl e87 F2 (g := (mkF m 118 #[.val (.ref a0), .val (.long q1), .second, .val (.int (1 : Int32)), .unset] [(.ref a0), (.int (2 : Int32)), (.ref ar), (.int (1 : Int32)), (.ref ar)])) rfl rfl (hb hby d5_118)
      refine Goes.by st88 ?_
      refine Goes.by (fun _ => XS.iloadN X88.here hx rfl (hb hby d5_121) rfl) ?_
      refine Goes.by (fun _ => XS.isub X88.here hx rfl (hb hby d5_122) rfl) ?_
      obtain ⟨T89, h89, L89, X89, e89, Nn89, K89, V89, st89⟩ := cpA X88 hx hZ hown (wq hw 35 rfl) (wq hw 38 rfl) (wq hw 36 rfl) (wq hw 37 rfl) e88 (us := []) F3 F3 (Or.inr ⟨rfl, rfl, trivial⟩) (sp := (1 : Int32)) (dp := (2 : Int32)) (nn := (0 : Int32)) (by decide) (by decide) (by decide) (by decide) (by decide) rfl (Nat.le_of_ble_eq_true rfl) N11 Ge1 (g := (mkF m 123 #[.val (.ref a0), .val (.long q1), .second, .val (.int (1 : Int32)), .unset] [(.int (0 : Int32)), (.int (2 : Int32)), (.ref ar), (.int (1 : Int32)), (.ref ar)])) rfl (by rw [hml]; rfl) rfl (hb hby d5_123) (by decide) (W := 0) (by show 2 * 0 + _ ≤ _; exact Nat.le_of_eq rfl) (by decide)
      have f90 := F0.keep K89
      have f91 := F1.keep K89 (ninS Ne0 nin0)
      have f92 := F2.keep K89 (ninS Ne0 nin0)
      have f93 := F5.keep K89
      have f94 : Arv Z h89 ar kA (.object cH) (4 : Int32) [(.ref x1), .null, .null, .null] .null := V89
      have Kp89 : Keep h0 h89 [a0, ar] := Kp0.trans K89 (allS (Or.inl om1) all0)
      have Z95 := Nat.le_trans Z0 K89.1
      refine Goes.by st89 ?_
      obtain ⟨T96, h96, X96, e96, E96, A96, D96, -, st96⟩ := newO X89 hx hZ hown (wq hw 9 rfl) (wq hw 39 rfl) (wq hw 40 rfl) e89 (g := (mkF m 126 #[.val (.ref a0), .val (.long q1), .second, .val (.int (1 : Int32)), .unset] [])) rfl (hb hby d5_126) (by decide) (by decide)
      obtain ⟨b97, g96⟩ : ∃ z, z = h89.size := ⟨_, rfl⟩
      rw [← g96] at A96 D96 st96
      have ne98 : a0 ≠ b97 := Nat.ne_of_lt (Nat.lt_of_lt_of_le f90.lt (Nat.le_of_eq g96.symm))
      have ne99 : ar ≠ b97 := Nat.ne_of_lt (Nat.lt_of_lt_of_le f94.lt (Nat.le_of_eq g96.symm))
      have ne100 : x1 ≠ b97 := Nat.ne_of_lt (Nat.lt_of_lt_of_le f93.lt (Nat.le_of_eq g96.symm))
      have ge101 : n0 ≤ b97 := Nat.le_trans Z95 (Nat.le_of_eq g96.symm)
      have sz102 : h0.size ≤ b97 := Nat.le_trans Kp89.1 (Nat.le_of_eq g96.symm)
      have f103 := f90.ext E96
      have f104 := f91.ext E96
      have f105 := f92.ext E96
      have f106 := f93.ext E96
      have f107 := f94.ext E96
      have f108 : Fld Z h96 b97 cH "tick" "J" (.long (0 : Int64)) := D96 (Or.inr (wq hw 47 rfl)) (ty := .long) (by decide)
      have f109 : Fld Z h96 b97 cL "next" dL .null := D96 (Or.inl (wq hw 49 rfl)) (ty := (.object cL)) (by decide)
      have f110 : Fld Z h96 b97 cL "prev" dL .null := D96 (Or.inl (wq hw 51 rfl)) (ty := (.object cL)) (by decide)
      have Kp96 : Keep h0 h96 [a0, ar] := Kp89.ext E96
      have Z111 := Nat.le_trans Z95 E96.1
      refine Goes.by st96 ?_
      refine Goes.by (fun _ => XS.dup X96.here hx rfl (hb hby d5_129) rfl rfl) ?_
      refine Goes.by (fun _ => XS.lloadN X96.here hx rfl (hb hby d5_130) rfl) ?_
      obtain ⟨_, T112, L112, Lc112, X112, hF112, hQ112, st112⟩ := own_ci X96 hx hZ rfl hown (wq hw 41 rfl) (wq hw 42 rfl) (wq hw 40 rfl) (wq hw 43 rfl) (rmHeadI l Z az hw [] b97 q1 h96 n0 Z111 A96 f108 f109 f110 ge101) (W := 1) (g := (mkF m 131 #[.val (.ref a0), .val (.long q1), .second, .val (.int (1 : Int32)), .unset] [(.long q1), (.ref b97), (.ref b97)])) rfl (by rw [hml]; rfl) (argsL := [(.long q1)]) (rest := [(.ref b97)]) rfl (lenOf own_pd2 rfl) rfl (hb hby d5_131) e96 Nn89 (c' := 1) (s' := 3)
      obtain ⟨rfl, N112q, K112, f113, f114, f115, f116⟩ := hQ112
      have f117 := f103.keep K112
      have f118 := f104.keep K112 (ninS ne98 nin0)
      have f119 := f105.keep K112 (ninS ne98 nin0)
      have f120 := f106.keep K112
      have f121 := f107.keep K112 (ninS ne99 nin0)
      have f122 := A96.keep K112
      have Kp112 : Keep h0 T112.heap [a0, ar] := Kp96.trans K112 (allS (Or.inr sz102) all0)
      have Z123 := Nat.le_trans Z111 K112.1
      have N124 := hF112 N112q
      refine Goes.by st112 ?_
      refine Goes.by (fun _ => XS.astore X112.here hx rfl (hb hby d5_134) rfl rfl (l' := #[.val (.ref a0), .val (.long q1), .second, .val (.int (1 : Int32)), .val (.ref b97)]) rfl) ?_
      refine Goes.by (fun _ => XS.aloadN X112.here hx rfl (hb hby d5_136) rfl rfl) ?_
      obtain ⟨T125, X125, e125, st125⟩ := getF X112 hx hZ hown (host := "") (Or.inl (wq hw 11 rfl)) Via.refl rfl f118 (g := (mkF m 137 #[.val (.ref a0), .val (.long q1), .second, .val (.int (1 : Int32)), .val (.ref b97)] [(.ref a0)])) rfl rfl (hb hby d5_137)
      refine Goes.by st125 ?_
      refine Goes.by (fun _ => XS.iloadN X125.here hx rfl (hb hby d5_140) rfl) ?_
      refine Goes.by (fun _ => XS.aload X125.here hx rfl (hb hby d5_141) rfl rfl) ?_
      obtain ⟨cl126, cl126A, cl126q, cl126S, cl126N, cl126H, cl126G⟩ := id f121
      have cl126I : ¬ ((1 : Int32) < 0 ∨ cl126.slots.size ≤ ((1 : Int32)).toNatClampNeg) := inb_of cl126S ⟨by decide, by decide⟩
      obtain ⟨T126, h126, X126, e126, W126, st126⟩ := stR X125 hx hZ e125 cl126A (j := (1 : Int32)) cl126I rfl (Sto.ofV cl126A cl126q F4 (Ins.self f113)) (g := (mkF m 143 #[.val (.ref a0), .val (.long q1), .second, .val (.int (1 : Int32)), .val (.ref b97)] [(.ref b97), (.int (1 : Int32)), (.ref ar)])) rfl rfl (hb hby d5_143)
      have f127 := f117.wr W126
      have f128 := f118.other W126 (Or.inl Ne0)
      have f129 := f119.other W126 (Or.inl Ne0)
      have f130 := f120.wr W126
      have f131 := f113.wr W126
      have f132 := f114.other W126 (Or.inl (Ne.symm ne99))
      have f133 := f115.other W126 (Or.inl (Ne.symm ne99))
      have f134 := f116.other W126 (Or.inl (Ne.symm ne99))
      have f135 : Arv Z h126 ar kA (.object cH) (4 : Int32) [(.ref x1), (.ref b97), .null, .null] .null := Arv.set cl126A cl126q cl126S cl126N cl126H cl126G rfl W126 1 rfl (Nat.le_of_ble_eq_true rfl)
      have Kp126 : Keep h0 h126 [a0, ar] := Kp112.wr W126 (Or.inl om1)
      have Z136 := Nat.le_trans Z123 (Nat.le_of_eq W126.size.symm)
      have N137 := Fr.snoc X126 N124 Ge1
      refine Goes.by st126 ?_
      refine Goes.by (fun _ => XS.aloadN X126.here hx rfl (hb hby d5_144) rfl rfl) ?_
      refine Goes.by (fun _ => XS.dup X126.here hx rfl (hb hby d5_145) rfl rfl) ?_
      obtain ⟨T138, X138, e138, st138⟩ := getF X126 hx hZ hown (host := "") (Or.inl (wq hw 29 rfl)) Via.refl e126 f129 (g := (mkF m 146 #[.val (.ref a0), .val (.long q1), .second, .val (.int (1 : Int32)), .val (.ref b97)] [(.ref a0), (.ref a0)])) rfl rfl (hb hby d5_146)
      refine Goes.by st138 ?_
      refine Goes.by (fun _ => XS.iconst X138.here hx rfl (hb hby d5_149)) ?_
      refine Goes.by (fun _ => XS.iadd X138.here hx rfl (hb hby d5_150) rfl) ?_
      obtain ⟨T139, h139, X139, e139, W139, st139⟩ := putF X138 hx hZ hown (host := "") (Or.inl (wq hw 29 rfl)) Via.refl e138 f129 f127 (Or.inl (wq hw 30 rfl)) (wq hw 1 rfl) (ty := .int) (by decide) rfl rfl (g := (mkF m 151 #[.val (.ref a0), .val (.long q1), .second, .val (.int (1 : Int32)), .val (.ref b97)] [(.int (2 : Int32)), (.ref a0)])) rfl rfl (hb hby d5_151)
      have f140 := f127.wr W139
      have f141 := f128.other W139 (Or.inr (slot_ne (Or.inl (wq hw 12 rfl)) (Or.inl (wq hw 30 rfl)) (by decide) (t := (.array (.object cH))) (t' := .int) (by decide) (by decide)))
      have f142 := f130.wr W139
      have f143 := f131.wr W139
      have f144 := f132.other W139 (Or.inl (Ne.symm ne98))
      have f145 := f133.other W139 (Or.inl (Ne.symm ne98))
      have f146 := f134.other W139 (Or.inl (Ne.symm ne98))
      have f147 := f135.other W139 (Ne.symm Ne0)
      have f148 : Fld Z h139 a0 cD "count" "I" (.int (2 : Int32)) := f129.same W139
      have Kp139 : Keep h0 h139 [a0, ar] := Kp126.wr W139 (Or.inl om0)
      have Z149 := Nat.le_trans Z136 (Nat.le_of_eq W139.size.symm)
      have N150 := Fr.snoc X139 N137 Ge0
      refine Goes.by st139 ?_
      refine Goes.by (fun _ => XS.aload X139.here hx rfl (hb hby d5_154) rfl rfl) ?_
      obtain ⟨fs, hr, hrun, hended, hW, hsame⟩ := X139.leave (v := some (.ref b97)) (fun h => by rw [Bd.returns] at h; cases h)
      refine Goes.mk _ _ ?_ ⟨hrun, hended, _, _, rfl, ?_, ⟨_, rfl⟩, hW, hsame.mono (by decide) (by decide)⟩
      · exact retOut X139 hx Bd.returns rfl (Or.inr (Or.inr (Or.inr (Or.inr ⟨rfl, rfl, rfl⟩)))) (hb hby d5_156) hr
      · show QHeadOf1 Z a0 q1 ar kA x1 t1 h0 n0 _ T139.heap _
        rw [e139]
        exact (Or.inr (Or.inr ⟨b97, hc6, he, rfl, N150, Kp139, sz102, f141, f148, f147, f143, f144, f145, f146⟩))
theorem d5_64 : decode prog_4_method_8_code 64 = .ok (.aload_n 0, 1) := by decide +kernel
theorem d5_65 : decode prog_4_method_8_code 65 = .ok (.getfield 11, 3) := by decide +kernel
theorem d5_68 : decode prog_4_method_8_code 68 = .ok (.iload_n 3, 1) := by decide +kernel
theorem d5_69 : decode prog_4_method_8_code 69 = .ok (.iconst 1, 1) := by decide +kernel
theorem d5_70 : decode prog_4_method_8_code 70 = .ok (.isub, 1) := by decide +kernel
theorem d5_71 : decode prog_4_method_8_code 71 = .ok (.aaload, 1) := by decide +kernel
theorem d5_72 : decode prog_4_method_8_code 72 = .ok (.areturn, 1) := by decide +kernel
def QHeadOf2 (Z : State) (a0 : Addr) (q1 : Int64) (ar : Addr) (kA : ClassId) (x1 : Addr) (x2 : Addr) (t1 : Int64) (t2 : Int64) (h0 : Heap) (n0 : Nat) (v : Option Value) (h : Heap) (L : List Loc) : Prop := (t2 = q1 ∧ v = some (.ref x2) ∧ Fr n0 L ∧ h = h0) ∨ (∃ b27 : Addr, ¬ (t2 = q1) ∧ fDue2 q1 t1 t2 = (0 : Int32) ∧ v = some (.ref b27) ∧ Fr n0 L ∧ Keep h0 h [a0, ar] ∧ h0.size ≤ b27 ∧ Fld Z h a0 cD "heads" dA (.ref ar) ∧ Fld Z h a0 cD "count" "I" (.int (3 : Int32)) ∧ Arv Z h ar kA (.object cH) (4 : Int32) [(.ref b27), (.ref x1), (.ref x2), .null] .null ∧ Exa Z h b27 cH ∧ Fld Z h b27 cH "tick" "J" (.long q1) ∧ Fld Z h b27 cL "next" dL (.ref b27) ∧ Fld Z h b27 cL "prev" dL (.ref b27)) ∨ (¬ (t2 = q1) ∧ fDue2 q1 t1 t2 = (1 : Int32) ∧ t1 = q1 ∧ v = some (.ref x1) ∧ Fr n0 L ∧ h = h0) ∨ (∃ b107 : Addr, ¬ (t2 = q1) ∧ fDue2 q1 t1 t2 = (1 : Int32) ∧ ¬ (t1 = q1) ∧ v = some (.ref b107) ∧ Fr n0 L ∧ Keep h0 h [a0, ar] ∧ h0.size ≤ b107 ∧ Fld Z h a0 cD "heads" dA (.ref ar) ∧ Fld Z h a0 cD "count" "I" (.int (3 : Int32)) ∧ Arv Z h ar kA (.object cH) (4 : Int32) [(.ref x1), (.ref b107), (.ref x2), .null] .null ∧ Exa Z h b107 cH ∧ Fld Z h b107 cH "tick" "J" (.long q1) ∧ Fld Z h b107 cL "next" dL (.ref b107) ∧ Fld Z h b107 cL "prev" dL (.ref b107)) ∨ (∃ b184 : Addr, ¬ (t2 = q1) ∧ fDue2 q1 t1 t2 = (2 : Int32) ∧ v = some (.ref b184) ∧ Fr n0 L ∧ Keep h0 h [a0, ar] ∧ h0.size ≤ b184 ∧ Fld Z h a0 cD "heads" dA (.ref ar) ∧ Fld Z h a0 cD "count" "I" (.int (3 : Int32)) ∧ Arv Z h ar kA (.object cH) (4 : Int32) [(.ref x1), (.ref x2), (.ref b184), .null] .null ∧ Exa Z h b184 cH ∧ Fld Z h b184 cH "tick" "J" (.long q1) ∧ Fld Z h b184 cL "next" dL (.ref b184) ∧ Fld Z h b184 cL "prev" dL (.ref b184))
theorem efHeadOf2 (m : MethodId) (x0 : Addr) (x1 : Int64) : entryFrame m #[(.ref x0), (.long x1)] 5 = mkF m 0 #[.val (.ref x0), .val (.long x1), .second, .unset, .unset] [] := by first | (simp [entryFrame, mkF, argsToLocals, Value.category]; done) | rfl
set_option maxRecDepth 65536 in
set_option maxHeartbeats 40000000 in
theorem rmHeadOf2 (l : Launch) (Z : State) (az : Array Value) (hw : ∀ d ∈ tables_1, d.before az Z = true) (ws : List Jvm.Cond) (a0 : Addr) (q1 : Int64) (ar : Addr) (kA : ClassId) (x1 : Addr) (x2 : Addr) (t1 : Int64) (t2 : Int64) (h0 : Heap) (n0 : Nat) (Z0 : n0 ≤ h0.size) (F0 : Exa Z h0 a0 cD) (F1 : Fld Z h0 a0 cD "heads" dA (.ref ar)) (F2 : Fld Z h0 a0 cD "count" "I" (.int (2 : Int32))) (F3 : Arv Z h0 ar kA (.object cH) (4 : Int32) [(.ref x1), (.ref x2), .null, .null] .null) (F4 : Ovr Z kA cH) (F5 : Exa Z h0 x1 cH) (F6 : Fld Z h0 x1 cH "tick" "J" (.long t1)) (F7 : Exa Z h0 x2 cH) (F8 : Fld Z h0 x2 cH "tick" "J" (.long t2)) (Ne0 : a0 ≠ ar) (Ne1 : x1 ≠ a0) (Ne2 : x2 ≠ a0) (Ne3 : x1 ≠ ar) (Ne4 : x2 ≠ ar) (Ge0 : n0 ≤ a0) (Ge1 : n0 ≤ ar) :
    MetFree l y3 (head1 (Jvm.Cond.code y3 prog_4_method_8_code 5 (some (.object cH)) :: ws) ({ frames := 3, cells := 1, slots := 3, locals := 39 } : Room)) (fun a U => a = #[(.ref a0), (.long q1)] ∧ Z.Warmed39 U.vm ∧ U.heap = h0) (fun _ _ _ _ _ => True) (fun _ U o U' => ∃ v L, o = .returned v ∧ QHeadOf2 Z a0 q1 ar kA x1 x2 t1 t2 h0 n0 v U'.heap L ∧ FrameEnd U o U' L ({ frames := 3, cells := 1, slots := 3, locals := 39 } : Room).cells ({ frames := 3, cells := 1, slots := 3, locals := 39 } : Room).slots) := by
  refine MetFree.of_bodySF (plainFor_of_name own_pn_com_example_admit_one_admitone_engine_DueOrder) hisR ?_
  intro p e s m args below meth c s₁ Bd hml0 hP hK
  obtain ⟨rfl, hZ, hh⟩ := hP
  have hx := Bd.exec
  have hby := Bd.bytes
  have hml : c.maxLocals = 5 := hml0
  have hown : s.vm.findClass cD = some m.cls := findClass_of_methodNamed Bd.named
  have hnm := (name_of_methodNamed Bd.named Bd.method).1
  have X0 : Stand p l e ({ frames := 3, cells := 1, slots := 3, locals := 39 } : Room) s m #[(.ref a0), (.long q1)] below meth c s₁ [] 0 0 := Stand.of_body Bd
  have e0 : s₁.heap = h0 := by rw [← hh, Bd.state]; rfl
  have N0 := Fr.nil n0
  have Kp0 : Keep h0 h0 [a0, ar] := Keep.refl _ _
  refine Goes.start ?_
  refine Goes.by (B := s₁.setTop (mkF m 0 #[.val (.ref a0), .val (.long q1), .second, .unset, .unset] [])) (fun t k => castTop (efHeadOf2 m a0 q1) k) ?_
  refine Goes.by (fun _ => XS.aloadN X0.here hx rfl (hb hby d5_0) rfl rfl) ?_
  obtain ⟨T1, X1, e1, st1⟩ := getF X0 hx hZ hown (host := "") (Or.inl (wq hw 29 rfl)) Via.refl e0 F2 (g := (mkF m 1 #[.val (.ref a0), .val (.long q1), .second, .unset, .unset] [(.ref a0)])) rfl rfl (hb hby d5_1)
  refine Goes.by st1 ?_
  refine Goes.by (fun _ => XS.ifNo X1.here hx rfl (hb hby d5_4) rfl ((if0 _ _).trans (tlt (by decide : (0 : Int32) < (2 : Int32))).2.2.2)) ?_
  refine Goes.by (fun _ => XS.aloadN X1.here hx rfl (hb hby d5_7) rfl rfl) ?_
  obtain ⟨T2, X2, e2, st2⟩ := getF X1 hx hZ hown (host := "") (Or.inl (wq hw 11 rfl)) Via.refl e1 F1 (g := (mkF m 8 #[.val (.ref a0), .val (.long q1), .second, .unset, .unset] [(.ref a0)])) rfl rfl (hb hby d5_8)
  refine Goes.by st2 ?_
  refine Goes.by (fun _ => XS.aloadN X2.here hx rfl (hb hby d5_11) rfl rfl) ?_
  obtain ⟨T3, X3, e3, st3⟩ := getF X2 hx hZ hown (host := "") (Or.inl (wq hw 29 rfl)) Via.refl e2 F2 (g := (mkF m 12 #[.val (.ref a0), .val (.long q1), .second, .unset, .unset] [(.ref a0), (.ref ar)])) rfl rfl (hb hby d5_12)
  refine Goes.by st3 ?_
  refine Goes.by (fun _ => XS.iconst X3.here hx rfl (hb hby d5_15)) ?_
  refine Goes.by (fun _ => XS.isub X3.here hx rfl (hb hby d5_16) rfl) ?_
  obtain ⟨cl4, cl4A, cl4q, cl4S, cl4N, cl4H, cl4G⟩ := id F3
  have cl4I : ¬ ((1 : Int32) < 0 ∨ cl4.slots.size ≤ ((1 : Int32)).toNatClampNeg) := inb_of cl4S ⟨by decide, by decide⟩
  have cl4T : cl4.slots[((1 : Int32)).toNatClampNeg]? = some (.ref x2) := cl4H.at cl4I rfl
  refine Goes.by (X3.aaload hx (j := (1 : Int32)) (v := (.ref x2)) (by rw [e3]; exact cl4A.1) (State.isArrayOf_alike hZ.alike cl4A.2.1) rfl cl4A.2.2 cl4I cl4T (g := (mkF m 17 #[.val (.ref a0), .val (.long q1), .second, .unset, .unset] [(.int (1 : Int32)), (.ref ar)])) rfl rfl (hb hby d5_17)) ?_
  refine Goes.by (B := T3.setTop (mkF m 23 #[.val (.ref a0), .val (.long q1), .second, .unset, .unset] [(.int (lcmpW t2 q1))])) (fun t k => ?_) ?_
  · refine getFR X3 hx hZ hown (wq hw 57 rfl) e3 F8 (g := (mkF m 18 #[.val (.ref a0), .val (.long q1), .second, .unset, .unset] [(.ref x2)])) rfl rfl (hb hby d5_18) ?_
    refine XS.lloadN X3.here hx rfl (hb hby d5_21) rfl ?_
    refine XS.lcmp X3.here hx rfl (hb hby d5_22) rfl ?_
    exact k
  by_cases hc6 : t2 = q1
  · refine Goes.by (fun _ => XS.ifNo X3.here hx rfl (hb hby d5_23) rfl ((if0 _ _).trans (teq ((lw_eq t2 q1).mpr hc6)).2)) ?_
    refine Goes.by (fun _ => XS.aloadN X3.here hx rfl (hb hby d5_26) rfl rfl) ?_
    obtain ⟨T7, X7, e7, st7⟩ := getF X3 hx hZ hown (host := "") (Or.inl (wq hw 11 rfl)) Via.refl e3 F1 (g := (mkF m 27 #[.val (.ref a0), .val (.long q1), .second, .unset, .unset] [(.ref a0)])) rfl rfl (hb hby d5_27)
    refine Goes.by st7 ?_
    refine Goes.by (fun _ => XS.aloadN X7.here hx rfl (hb hby d5_30) rfl rfl) ?_
    obtain ⟨T8, X8, e8, st8⟩ := getF X7 hx hZ hown (host := "") (Or.inl (wq hw 29 rfl)) Via.refl e7 F2 (g := (mkF m 31 #[.val (.ref a0), .val (.long q1), .second, .unset, .unset] [(.ref a0), (.ref ar)])) rfl rfl (hb hby d5_31)
    refine Goes.by st8 ?_
    refine Goes.by (fun _ => XS.iconst X8.here hx rfl (hb hby d5_34)) ?_
    refine Goes.by (fun _ => XS.isub X8.here hx rfl (hb hby d5_35) rfl) ?_
    obtain ⟨cl9, cl9A, cl9q, cl9S, cl9N, cl9H, cl9G⟩ := id F3
    have cl9I : ¬ ((1 : Int32) < 0 ∨ cl9.slots.size ≤ ((1 : Int32)).toNatClampNeg) := inb_of cl9S ⟨by decide, by decide⟩
    have cl9T : cl9.slots[((1 : Int32)).toNatClampNeg]? = some (.ref x2) := cl9H.at cl9I rfl
    refine Goes.by (X8.aaload hx (j := (1 : Int32)) (v := (.ref x2)) (by rw [e8]; exact cl9A.1) (State.isArrayOf_alike hZ.alike cl9A.2.1) rfl cl9A.2.2 cl9I cl9T (g := (mkF m 36 #[.val (.ref a0), .val (.long q1), .second, .unset, .unset] [(.int (1 : Int32)), (.ref ar)])) rfl rfl (hb hby d5_36)) ?_
    obtain ⟨fs, hr, hrun, hended, hW, hsame⟩ := X8.leave (v := some (.ref x2)) (fun h => by rw [Bd.returns] at h; cases h)
    refine Goes.mk _ _ ?_ ⟨hrun, hended, _, _, rfl, ?_, ⟨_, rfl⟩, hW, hsame.mono (by decide) (by decide)⟩
    · exact retOut X8 hx Bd.returns rfl (Or.inr (Or.inr (Or.inr (Or.inr ⟨rfl, rfl, rfl⟩)))) (hb hby d5_37) hr
    · show QHeadOf2 Z a0 q1 ar kA x1 x2 t1 t2 h0 n0 _ T8.heap _
      rw [e8]
      exact (Or.inl ⟨hc6, rfl, N0, rfl⟩)
  · refine Goes.by (fun _ => XS.ifYes X3.here hx rfl (pc0 := 23) (pc' := 38) rfl (hb hby d5_23) rfl ((if0 _ _).trans (feq (fun z => hc6 ((lw_eq t2 q1).mp z))).2) (by decide) (by decide)) ?_
    refine Goes.by (fun _ => XS.aloadN X3.here hx rfl (hb hby d5_38) rfl rfl) ?_
    refine Goes.by (fun _ => XS.lloadN X3.here hx rfl (hb hby d5_39) rfl) ?_
    obtain ⟨_, T10, L10, Lc10, X10, hF10, hQ10, st10⟩ := own_cp X3 hx hZ hown (wq hw 31 rfl) (wq hw 33 rfl) (wq hw 1 rfl) (wq hw 32 rfl) (wq hw 2 rfl) (wq hw 34 rfl) (rmDue2 l Z az hw [] a0 q1 ar kA x1 x2 t1 t2 h0 n0 Z0 F0 F1 F2 F3 F4 F5 F6 F7 F8) (W := 0) (g := (mkF m 40 #[.val (.ref a0), .val (.long q1), .second, .unset, .unset] [(.long q1), (.ref a0)])) rfl (by rw [hml]; rfl) F0 (argsL := [(.long q1)]) (rest := []) rfl (lenOf own_pd1 rfl) rfl (hb hby d5_40) e3 N0 (c' := 0) (s' := 0)
    obtain ⟨rfl, N10q, e10⟩ := hQ10
    have N11 := hF10 N10q
    refine Goes.by st10 ?_
    rcases own_due2 q1 t1 t2 with he | he | he
    · rw [he]
      show Goes p.tables e below _ (T10.setTop (mkF m 43 #[.val (.ref a0), .val (.long q1), .second, .unset, .unset] [(.int (0 : Int32))]))
      refine Goes.by (fun _ => XS.istoreN X10.here hx rfl (hb hby d5_43) rfl (l' := #[.val (.ref a0), .val (.long q1), .second, .val (.int (0 : Int32)), .unset]) rfl) ?_
      refine Goes.by (fun _ => XS.iloadN X10.here hx rfl (hb hby d5_44) rfl) ?_
      refine Goes.by (fun _ => XS.ifYes X10.here hx rfl (pc0 := 45) (pc' := 73) rfl (hb hby d5_45) rfl ((if0 _ _).trans (flt (by decide : ¬ ((0 : Int32) < (0 : Int32)))).2.2.2) (by decide) (by decide)) ?_
      refine Goes.by (fun _ => XS.aloadN X10.here hx rfl (hb hby d5_73) rfl rfl) ?_
      obtain ⟨T12, X12, e12, st12⟩ := getF X10 hx hZ hown (host := "") (Or.inl (wq hw 29 rfl)) Via.refl e10 F2 (g := (mkF m 74 #[.val (.ref a0), .val (.long q1), .second, .val (.int (0 : Int32)), .unset] [(.ref a0)])) rfl rfl (hb hby d5_74)
      refine Goes.by st12 ?_
      refine Goes.by (fun _ => XS.aloadN X12.here hx rfl (hb hby d5_77) rfl rfl) ?_
      obtain ⟨T13, X13, e13, st13⟩ := getF X12 hx hZ hown (host := "") (Or.inl (wq hw 11 rfl)) Via.refl e12 F1 (g := (mkF m 78 #[.val (.ref a0), .val (.long q1), .second, .val (.int (0 : Int32)), .unset] [(.ref a0), (.int (2 : Int32))])) rfl rfl (hb hby d5_78)
      refine Goes.by st13 ?_
      obtain ⟨cl14, cl14A, -, cl14S, cl14N, -, -⟩ := id F3
      refine Goes.by (B := T13.setTop (mkF m 105 #[.val (.ref a0), .val (.long q1), .second, .val (.int (0 : Int32)), .unset] [])) (fun t k => ?_) ?_
      · refine X13.arraylength hx (by rw [e13]; exact cl14A.1) (State.isArrayOf_alike hZ.alike cl14A.2.1) (g := (mkF m 81 #[.val (.ref a0), .val (.long q1), .second, .val (.int (0 : Int32)), .unset] [(.ref ar), (.int (2 : Int32))])) rfl rfl (hb hby d5_81) _ ?_
        rw [len_of cl14S cl14N]
        refine XS.icmpYes X13.here hx rfl (pc0 := 82) (pc' := 105) rfl (hb hby d5_82) rfl (feq (by decide : ¬ ((2 : Int32) = (4 : Int32)))).2 (by decide) (by decide) ?_
        exact k
      refine Goes.by (fun _ => XS.aloadN X13.here hx rfl (hb hby d5_105) rfl rfl) ?_
      obtain ⟨T15, X15, e15, st15⟩ := getF X13 hx hZ hown (host := "") (Or.inl (wq hw 11 rfl)) Via.refl e13 F1 (g := (mkF m 106 #[.val (.ref a0), .val (.long q1), .second, .val (.int (0 : Int32)), .unset] [(.ref a0)])) rfl rfl (hb hby d5_106)
      refine Goes.by st15 ?_
      refine Goes.by (fun _ => XS.iloadN X15.here hx rfl (hb hby d5_109) rfl) ?_
      refine Goes.by (fun _ => XS.aloadN X15.here hx rfl (hb hby d5_110) rfl rfl) ?_
      obtain ⟨T16, X16, e16, st16⟩ := getF X15 hx hZ hown (host := "") (Or.inl (wq hw 11 rfl)) Via.refl e15 F1 (g := (mkF m 111 #[.val (.ref a0), .val (.long q1), .second, .val (.int (0 : Int32)), .unset] [(.ref a0), (.int (0 : Int32)), (.ref ar)])) rfl rfl (hb hby d5_111)
      refine Goes.by st16 ?_
      refine Goes.by (fun _ => XS.iloadN X16.here hx rfl (hb hby d5_114) rfl) ?_
      refine Goes.by (fun _ => XS.iconst X16.here hx rfl (hb hby d5_115)) ?_
      refine Goes.by (fun _ => XS.iadd X16.here hx rfl (hb hby d5_116) rfl) ?_
      refine Goes.by (fun _ => XS.aloadN X16.here hx rfl (hb hby d5_117) rfl rfl) ?_
      obtain ⟨T17, X17, e17, st17⟩ := getF X16 hx hZ hown (host := "") (Or.inl (wq hw 29 rfl)) Via.refl e16 F2 (g := (mkF m 118 #[.val (.ref a0), .val (.long q1), .second, .val (.int (0 : Int32)), .unset] [(.ref a0), (.int (1 : Int32)), (.ref ar), (.int (0 : Int32)), (.ref ar)])) rfl rfl (hb hby d5_118)
      refine Goes.by st17 ?_
      refine Goes.by (fun _ => XS.iloadN X17.here hx rfl (hb hby d5_121) rfl) ?_
      refine Goes.by (fun _ => XS.isub X17.here hx rfl (hb hby d5_122) rfl) ?_
      obtain ⟨cl18, cl18A, cl18q, -, -, -, -⟩ := id F3
      obtain ⟨T18, h18, L18, X18, e18, Nn18, K18, V18, st18⟩ := cpA X17 hx hZ hown (wq hw 35 rfl) (wq hw 38 rfl) (wq hw 36 rfl) (wq hw 37 rfl) e17 (us := [(.ref x1), (.ref x2)]) F3 F3 (Or.inr ⟨rfl, rfl, ⟨Sto.ofV cl18A cl18q F4 (Ins.self F5), ⟨Sto.ofV cl18A cl18q F4 (Ins.self F7), trivial⟩⟩⟩) (sp := (0 : Int32)) (dp := (1 : Int32)) (nn := (2 : Int32)) (by decide) (by decide) (by decide) (by decide) (by decide) rfl (Nat.le_of_ble_eq_true rfl) N11 Ge1 (g := (mkF m 123 #[.val (.ref a0), .val (.long q1), .second, .val (.int (0 : Int32)), .unset] [(.int (2 : Int32)), (.int (1 : Int32)), (.ref ar), (.int (0 : Int32)), (.ref ar)])) rfl (by rw [hml]; rfl) rfl (hb hby d5_123) (by decide) (W := 0) (by show 2 * 0 + _ ≤ _; exact Nat.le_of_eq rfl) (by decide)
      have f19 := F0.keep K18
      have f20 := F1.keep K18 (ninS Ne0 nin0)
      have f21 := F2.keep K18 (ninS Ne0 nin0)
      have f22 := F5.keep K18
      have f23 := F7.keep K18
      have f24 : Arv Z h18 ar kA (.object cH) (4 : Int32) [(.ref x1), (.ref x1), (.ref x2), .null] .null := V18
      have Kp18 : Keep h0 h18 [a0, ar] := Kp0.trans K18 (allS (Or.inl om1) all0)
      have Z25 := Nat.le_trans Z0 K18.1
      refine Goes.by st18 ?_
      obtain ⟨T26, h26, X26, e26, E26, A26, D26, -, st26⟩ := newO X18 hx hZ hown (wq hw 9 rfl) (wq hw 39 rfl) (wq hw 40 rfl) e18 (g := (mkF m 126 #[.val (.ref a0), .val (.long q1), .second, .val (.int (0 : Int32)), .unset] [])) rfl (hb hby d5_126) (by decide) (by decide)
      obtain ⟨b27, g26⟩ : ∃ z, z = h18.size := ⟨_, rfl⟩
      rw [← g26] at A26 D26 st26
      have ne28 : a0 ≠ b27 := Nat.ne_of_lt (Nat.lt_of_lt_of_le f19.lt (Nat.le_of_eq g26.symm))
      have ne29 : ar ≠ b27 := Nat.ne_of_lt (Nat.lt_of_lt_of_le f24.lt (Nat.le_of_eq g26.symm))
      have ne30 : x1 ≠ b27 := Nat.ne_of_lt (Nat.lt_of_lt_of_le f22.lt (Nat.le_of_eq g26.symm))
      have ne31 : x2 ≠ b27 := Nat.ne_of_lt (Nat.lt_of_lt_of_le f23.lt (Nat.le_of_eq g26.symm))
      have ge32 : n0 ≤ b27 := Nat.le_trans Z25 (Nat.le_of_eq g26.symm)
      have sz33 : h0.size ≤ b27 := Nat.le_trans Kp18.1 (Nat.le_of_eq g26.symm)
      have f34 := f19.ext E26
      have f35 := f20.ext E26
      have f36 := f21.ext E26
      have f37 := f22.ext E26
      have f38 := f23.ext E26
      have f39 := f24.ext E26
      have f40 : Fld Z h26 b27 cH "tick" "J" (.long (0 : Int64)) := D26 (Or.inr (wq hw 47 rfl)) (ty := .long) (by decide)
      have f41 : Fld Z h26 b27 cL "next" dL .null := D26 (Or.inl (wq hw 49 rfl)) (ty := (.object cL)) (by decide)
      have f42 : Fld Z h26 b27 cL "prev" dL .null := D26 (Or.inl (wq hw 51 rfl)) (ty := (.object cL)) (by decide)
      have Kp26 : Keep h0 h26 [a0, ar] := Kp18.ext E26
      have Z43 := Nat.le_trans Z25 E26.1
      refine Goes.by st26 ?_
      refine Goes.by (fun _ => XS.dup X26.here hx rfl (hb hby d5_129) rfl rfl) ?_
      refine Goes.by (fun _ => XS.lloadN X26.here hx rfl (hb hby d5_130) rfl) ?_
      obtain ⟨_, T44, L44, Lc44, X44, hF44, hQ44, st44⟩ := own_ci X26 hx hZ rfl hown (wq hw 41 rfl) (wq hw 42 rfl) (wq hw 40 rfl) (wq hw 43 rfl) (rmHeadI l Z az hw [] b27 q1 h26 n0 Z43 A26 f40 f41 f42 ge32) (W := 1) (g := (mkF m 131 #[.val (.ref a0), .val (.long q1), .second, .val (.int (0 : Int32)), .unset] [(.long q1), (.ref b27), (.ref b27)])) rfl (by rw [hml]; rfl) (argsL := [(.long q1)]) (rest := [(.ref b27)]) rfl (lenOf own_pd2 rfl) rfl (hb hby d5_131) e26 Nn18 (c' := 1) (s' := 3)
      obtain ⟨rfl, N44q, K44, f45, f46, f47, f48⟩ := hQ44
      have f49 := f34.keep K44
      have f50 := f35.keep K44 (ninS ne28 nin0)
      have f51 := f36.keep K44 (ninS ne28 nin0)
      have f52 := f37.keep K44
      have f53 := f38.keep K44
      have f54 := f39.keep K44 (ninS ne29 nin0)
      have f55 := A26.keep K44
      have Kp44 : Keep h0 T44.heap [a0, ar] := Kp26.trans K44 (allS (Or.inr sz33) all0)
      have Z56 := Nat.le_trans Z43 K44.1
      have N57 := hF44 N44q
      refine Goes.by st44 ?_
      refine Goes.by (fun _ => XS.astore X44.here hx rfl (hb hby d5_134) rfl rfl (l' := #[.val (.ref a0), .val (.long q1), .second, .val (.int (0 : Int32)), .val (.ref b27)]) rfl) ?_
      refine Goes.by (fun _ => XS.aloadN X44.here hx rfl (hb hby d5_136) rfl rfl) ?_
      obtain ⟨T58, X58, e58, st58⟩ := getF X44 hx hZ hown (host := "") (Or.inl (wq hw 11 rfl)) Via.refl rfl f50 (g := (mkF m 137 #[.val (.ref a0), .val (.long q1), .second, .val (.int (0 : Int32)), .val (.ref b27)] [(.ref a0)])) rfl rfl (hb hby d5_137)
      refine Goes.by st58 ?_
      refine Goes.by (fun _ => XS.iloadN X58.here hx rfl (hb hby d5_140) rfl) ?_
      refine Goes.by (fun _ => XS.aload X58.here hx rfl (hb hby d5_141) rfl rfl) ?_
      obtain ⟨cl59, cl59A, cl59q, cl59S, cl59N, cl59H, cl59G⟩ := id f54
      have cl59I : ¬ ((0 : Int32) < 0 ∨ cl59.slots.size ≤ ((0 : Int32)).toNatClampNeg) := inb_of cl59S ⟨by decide, by decide⟩
      obtain ⟨T59, h59, X59, e59, W59, st59⟩ := stR X58 hx hZ e58 cl59A (j := (0 : Int32)) cl59I rfl (Sto.ofV cl59A cl59q F4 (Ins.self f45)) (g := (mkF m 143 #[.val (.ref a0), .val (.long q1), .second, .val (.int (0 : Int32)), .val (.ref b27)] [(.ref b27), (.int (0 : Int32)), (.ref ar)])) rfl rfl (hb hby d5_143)
      have f60 := f49.wr W59
      have f61 := f50.other W59 (Or.inl Ne0)
      have f62 := f51.other W59 (Or.inl Ne0)
      have f63 := f52.wr W59
      have f64 := f53.wr W59
      have f65 := f45.wr W59
      have f66 := f46.other W59 (Or.inl (Ne.symm ne29))
      have f67 := f47.other W59 (Or.inl (Ne.symm ne29))
      have f68 := f48.other W59 (Or.inl (Ne.symm ne29))
      have f69 : Arv Z h59 ar kA (.object cH) (4 : Int32) [(.ref b27), (.ref x1), (.ref x2), .null] .null := Arv.set cl59A cl59q cl59S cl59N cl59H cl59G rfl W59 0 rfl (Nat.le_of_ble_eq_true rfl)
      have Kp59 : Keep h0 h59 [a0, ar] := Kp44.wr W59 (Or.inl om1)
      have Z70 := Nat.le_trans Z56 (Nat.le_of_eq W59.size.symm)
      have N71 := Fr.snoc X59 N57 Ge1
      refine Goes.by st59 ?_
      refine Goes.by (fun _ => XS.aloadN X59.here hx rfl (hb hby d5_144) rfl rfl) ?_
      refine Goes.by (fun _ => XS.dup X59.here hx rfl (hb hby d5_145) rfl rfl) ?_
      obtain ⟨T72, X72, e72, st72⟩ := getF X59 hx hZ hown (host := "") (Or.inl (wq hw 29 rfl)) Via.refl e59 f62 (g := (mkF m 146 #[.val (.ref a0), .val (.long q1), .second, .val (.int (0 : Int32)), .val (.ref b27)] [(.ref a0), (.ref a0)])) rfl rfl (hb hby d5_146)
      refine Goes.by st72 ?_
      refine Goes.by (fun _ => XS.iconst X72.here hx rfl (hb hby d5_149)) ?_
      refine Goes.by (fun _ => XS.iadd X72.here hx rfl (hb hby d5_150) rfl) ?_
      obtain ⟨T73, h73, X73, e73, W73, st73⟩ := putF X72 hx hZ hown (host := "") (Or.inl (wq hw 29 rfl)) Via.refl e72 f62 f60 (Or.inl (wq hw 30 rfl)) (wq hw 1 rfl) (ty := .int) (by decide) rfl rfl (g := (mkF m 151 #[.val (.ref a0), .val (.long q1), .second, .val (.int (0 : Int32)), .val (.ref b27)] [(.int (3 : Int32)), (.ref a0)])) rfl rfl (hb hby d5_151)
      have f74 := f60.wr W73
      have f75 := f61.other W73 (Or.inr (slot_ne (Or.inl (wq hw 12 rfl)) (Or.inl (wq hw 30 rfl)) (by decide) (t := (.array (.object cH))) (t' := .int) (by decide) (by decide)))
      have f76 := f63.wr W73
      have f77 := f64.wr W73
      have f78 := f65.wr W73
      have f79 := f66.other W73 (Or.inl (Ne.symm ne28))
      have f80 := f67.other W73 (Or.inl (Ne.symm ne28))
      have f81 := f68.other W73 (Or.inl (Ne.symm ne28))
      have f82 := f69.other W73 (Ne.symm Ne0)
      have f83 : Fld Z h73 a0 cD "count" "I" (.int (3 : Int32)) := f62.same W73
      have Kp73 : Keep h0 h73 [a0, ar] := Kp59.wr W73 (Or.inl om0)
      have Z84 := Nat.le_trans Z70 (Nat.le_of_eq W73.size.symm)
      have N85 := Fr.snoc X73 N71 Ge0
      refine Goes.by st73 ?_
      refine Goes.by (fun _ => XS.aload X73.here hx rfl (hb hby d5_154) rfl rfl) ?_
      obtain ⟨fs, hr, hrun, hended, hW, hsame⟩ := X73.leave (v := some (.ref b27)) (fun h => by rw [Bd.returns] at h; cases h)
      refine Goes.mk _ _ ?_ ⟨hrun, hended, _, _, rfl, ?_, ⟨_, rfl⟩, hW, hsame.mono (by decide) (by decide)⟩
      · exact retOut X73 hx Bd.returns rfl (Or.inr (Or.inr (Or.inr (Or.inr ⟨rfl, rfl, rfl⟩)))) (hb hby d5_156) hr
      · show QHeadOf2 Z a0 q1 ar kA x1 x2 t1 t2 h0 n0 _ T73.heap _
        rw [e73]
        exact (Or.inr (Or.inl ⟨b27, hc6, he, rfl, N85, Kp73, sz33, f75, f83, f82, f78, f79, f80, f81⟩))
    · rw [he]
      show Goes p.tables e below _ (T10.setTop (mkF m 43 #[.val (.ref a0), .val (.long q1), .second, .unset, .unset] [(.int (1 : Int32))]))
      refine Goes.by (fun _ => XS.istoreN X10.here hx rfl (hb hby d5_43) rfl (l' := #[.val (.ref a0), .val (.long q1), .second, .val (.int (1 : Int32)), .unset]) rfl) ?_
      refine Goes.by (fun _ => XS.iloadN X10.here hx rfl (hb hby d5_44) rfl) ?_
      refine Goes.by (fun _ => XS.ifNo X10.here hx rfl (hb hby d5_45) rfl ((if0 _ _).trans (tlt (by decide : (0 : Int32) < (1 : Int32))).2.2.2)) ?_
      refine Goes.by (fun _ => XS.aloadN X10.here hx rfl (hb hby d5_48) rfl rfl) ?_
      obtain ⟨T86, X86, e86, st86⟩ := getF X10 hx hZ hown (host := "") (Or.inl (wq hw 11 rfl)) Via.refl e10 F1 (g := (mkF m 49 #[.val (.ref a0), .val (.long q1), .second, .val (.int (1 : Int32)), .unset] [(.ref a0)])) rfl rfl (hb hby d5_49)
      refine Goes.by st86 ?_
      refine Goes.by (fun _ => XS.iloadN X86.here hx rfl (hb hby d5_52) rfl) ?_
      refine Goes.by (fun _ => XS.iconst X86.here hx rfl (hb hby d5_53)) ?_
      refine Goes.by (fun _ => XS.isub X86.here hx rfl (hb hby d5_54) rfl) ?_
      obtain ⟨cl87, cl87A, cl87q, cl87S, cl87N, cl87H, cl87G⟩ := id F3
      have cl87I : ¬ ((0 : Int32) < 0 ∨ cl87.slots.size ≤ ((0 : Int32)).toNatClampNeg) := inb_of cl87S ⟨by decide, by decide⟩
      have cl87T : cl87.slots[((0 : Int32)).toNatClampNeg]? = some (.ref x1) := cl87H.at cl87I rfl
      refine Goes.by (X86.aaload hx (j := (0 : Int32)) (v := (.ref x1)) (by rw [e86]; exact cl87A.1) (State.isArrayOf_alike hZ.alike cl87A.2.1) rfl cl87A.2.2 cl87I cl87T (g := (mkF m 55 #[.val (.ref a0), .val (.long q1), .second, .val (.int (1 : Int32)), .unset] [(.int (0 : Int32)), (.ref ar)])) rfl rfl (hb hby d5_55)) ?_
      refine Goes.by (B := T86.setTop (mkF m 61 #[.val (.ref a0), .val (.long q1), .second, .val (.int (1 : Int32)), .unset] [(.int (lcmpW t1 q1))])) (fun t k => ?_) ?_
      · refine getFR X86 hx hZ hown (wq hw 57 rfl) e86 F6 (g := (mkF m 56 #[.val (.ref a0), .val (.long q1), .second, .val (.int (1 : Int32)), .unset] [(.ref x1)])) rfl rfl (hb hby d5_56) ?_
        refine XS.lloadN X86.here hx rfl (hb hby d5_59) rfl ?_
        refine XS.lcmp X86.here hx rfl (hb hby d5_60) rfl ?_
        exact k
      by_cases hc89 : t1 = q1
      · refine Goes.by (fun _ => XS.ifNo X86.here hx rfl (hb hby d5_61) rfl ((if0 _ _).trans (teq ((lw_eq t1 q1).mpr hc89)).2)) ?_
        refine Goes.by (fun _ => XS.aloadN X86.here hx rfl (hb hby d5_64) rfl rfl) ?_
        obtain ⟨T90, X90, e90, st90⟩ := getF X86 hx hZ hown (host := "") (Or.inl (wq hw 11 rfl)) Via.refl e86 F1 (g := (mkF m 65 #[.val (.ref a0), .val (.long q1), .second, .val (.int (1 : Int32)), .unset] [(.ref a0)])) rfl rfl (hb hby d5_65)
        refine Goes.by st90 ?_
        refine Goes.by (fun _ => XS.iloadN X90.here hx rfl (hb hby d5_68) rfl) ?_
        refine Goes.by (fun _ => XS.iconst X90.here hx rfl (hb hby d5_69)) ?_
        refine Goes.by (fun _ => XS.isub X90.here hx rfl (hb hby d5_70) rfl) ?_
        obtain ⟨cl91, cl91A, cl91q, cl91S, cl91N, cl91H, cl91G⟩ := id F3
        have cl91I : ¬ ((0 : Int32) < 0 ∨ cl91.slots.size ≤ ((0 : Int32)).toNatClampNeg) := inb_of cl91S ⟨by decide, by decide⟩
        have cl91T : cl91.slots[((0 : Int32)).toNatClampNeg]? = some (.ref x1) := cl91H.at cl91I rfl
        refine Goes.by (X90.aaload hx (j := (0 : Int32)) (v := (.ref x1)) (by rw [e90]; exact cl91A.1) (State.isArrayOf_alike hZ.alike cl91A.2.1) rfl cl91A.2.2 cl91I cl91T (g := (mkF m 71 #[.val (.ref a0), .val (.long q1), .second, .val (.int (1 : Int32)), .unset] [(.int (0 : Int32)), (.ref ar)])) rfl rfl (hb hby d5_71)) ?_
        obtain ⟨fs, hr, hrun, hended, hW, hsame⟩ := X90.leave (v := some (.ref x1)) (fun h => by rw [Bd.returns] at h; cases h)
        refine Goes.mk _ _ ?_ ⟨hrun, hended, _, _, rfl, ?_, ⟨_, rfl⟩, hW, hsame.mono (by decide) (by decide)⟩
        · exact retOut X90 hx Bd.returns rfl (Or.inr (Or.inr (Or.inr (Or.inr ⟨rfl, rfl, rfl⟩)))) (hb hby d5_72) hr
        · show QHeadOf2 Z a0 q1 ar kA x1 x2 t1 t2 h0 n0 _ T90.heap _
          rw [e90]
          exact (Or.inr (Or.inr (Or.inl ⟨hc6, he, hc89, rfl, N11, rfl⟩)))
      · refine Goes.by (fun _ => XS.ifYes X86.here hx rfl (pc0 := 61) (pc' := 73) rfl (hb hby d5_61) rfl ((if0 _ _).trans (feq (fun z => hc89 ((lw_eq t1 q1).mp z))).2) (by decide) (by decide)) ?_
        refine Goes.by (fun _ => XS.aloadN X86.here hx rfl (hb hby d5_73) rfl rfl) ?_
        obtain ⟨T92, X92, e92, st92⟩ := getF X86 hx hZ hown (host := "") (Or.inl (wq hw 29 rfl)) Via.refl e86 F2 (g := (mkF m 74 #[.val (.ref a0), .val (.long q1), .second, .val (.int (1 : Int32)), .unset] [(.ref a0)])) rfl rfl (hb hby d5_74)
        refine Goes.by st92 ?_
        refine Goes.by (fun _ => XS.aloadN X92.here hx rfl (hb hby d5_77) rfl rfl) ?_
        obtain ⟨T93, X93, e93, st93⟩ := getF X92 hx hZ hown (host := "") (Or.inl (wq hw 11 rfl)) Via.refl e92 F1 (g := (mkF m 78 #[.val (.ref a0), .val (.long q1), .second, .val (.int (1 : Int32)), .unset] [(.ref a0), (.int (2 : Int32))])) rfl rfl (hb hby d5_78)
        refine Goes.by st93 ?_
        obtain ⟨cl94, cl94A, -, cl94S, cl94N, -, -⟩ := id F3
        refine Goes.by (B := T93.setTop (mkF m 105 #[.val (.ref a0), .val (.long q1), .second, .val (.int (1 : Int32)), .unset] [])) (fun t k => ?_) ?_
        · refine X93.arraylength hx (by rw [e93]; exact cl94A.1) (State.isArrayOf_alike hZ.alike cl94A.2.1) (g := (mkF m 81 #[.val (.ref a0), .val (.long q1), .second, .val (.int (1 : Int32)), .unset] [(.ref ar), (.int (2 : Int32))])) rfl rfl (hb hby d5_81) _ ?_
          rw [len_of cl94S cl94N]
          refine XS.icmpYes X93.here hx rfl (pc0 := 82) (pc' := 105) rfl (hb hby d5_82) rfl (feq (by decide : ¬ ((2 : Int32) = (4 : Int32)))).2 (by decide) (by decide) ?_
          exact k
        refine Goes.by (fun _ => XS.aloadN X93.here hx rfl (hb hby d5_105) rfl rfl) ?_
        obtain ⟨T95, X95, e95, st95⟩ := getF X93 hx hZ hown (host := "") (Or.inl (wq hw 11 rfl)) Via.refl e93 F1 (g := (mkF m 106 #[.val (.ref a0), .val (.long q1), .second, .val (.int (1 : Int32)), .unset] [(.ref a0)])) rfl rfl (hb hby d5_106)
        refine Goes.by st95 ?_
        refine Goes.by (fun _ => XS.iloadN X95.here hx rfl (hb hby d5_109) rfl) ?_
        refine Goes.by (fun _ => XS.aloadN X95.here hx rfl (hb hby d5_110) rfl rfl) ?_
        obtain ⟨T96, X96, e96, st96⟩ := getF X95 hx hZ hown (host := "") (Or.inl (wq hw 11 rfl)) Via.refl e95 F1 (g := (mkF m 111 #[.val (.ref a0), .val (.long q1), .second, .val (.int (1 : Int32)), .unset] [(.ref a0), (.int (1 : Int32)), (.ref ar)])) rfl rfl (hb hby d5_111)
        refine Goes.by st96 ?_
        refine Goes.by (fun _ => XS.iloadN X96.here hx rfl (hb hby d5_114) rfl) ?_
        refine Goes.by (fun _ => XS.iconst X96.here hx rfl (hb hby d5_115)) ?_
        refine Goes.by (fun _ => XS.iadd X96.here hx rfl (hb hby d5_116) rfl) ?_
        refine Goes.by (fun _ => XS.aloadN X96.here hx rfl (hb hby d5_117) rfl rfl) ?_
        obtain ⟨T97, X97, e97, st97⟩ := getF X96 hx hZ hown (host := "") (Or.inl (wq hw 29 rfl)) Via.refl e96 F2 (g := (mkF m 118 #[.val (.ref a0), .val (.long q1), .second, .val (.int (1 : Int32)), .unset] [(.ref a0), (.int (2 : Int32)), (.ref ar), (.int (1 : Int32)), (.ref ar)])) rfl rfl (hb hby d5_118)
        refine Goes.by st97 ?_
        refine Goes.by (fun _ => XS.iloadN X97.here hx rfl (hb hby d5_121) rfl) ?_
        refine Goes.by (fun _ => XS.isub X97.here hx rfl (hb hby d5_122) rfl) ?_
        obtain ⟨cl98, cl98A, cl98q, -, -, -, -⟩ := id F3
        obtain ⟨T98, h98, L98, X98, e98, Nn98, K98, V98, st98⟩ := cpA X97 hx hZ hown (wq hw 35 rfl) (wq hw 38 rfl) (wq hw 36 rfl) (wq hw 37 rfl) e97 (us := [(.ref x2)]) F3 F3 (Or.inr ⟨rfl, rfl, ⟨Sto.ofV cl98A cl98q F4 (Ins.self F7), trivial⟩⟩) (sp := (1 : Int32)) (dp := (2 : Int32)) (nn := (1 : Int32)) (by decide) (by decide) (by decide) (by decide) (by decide) rfl (Nat.le_of_ble_eq_true rfl) N11 Ge1 (g := (mkF m 123 #[.val (.ref a0), .val (.long q1), .second, .val (.int (1 : Int32)), .unset] [(.int (1 : Int32)), (.int (2 : Int32)), (.ref ar), (.int (1 : Int32)), (.ref ar)])) rfl (by rw [hml]; rfl) rfl (hb hby d5_123) (by decide) (W := 0) (by show 2 * 0 + _ ≤ _; exact Nat.le_of_eq rfl) (by decide)
        have f99 := F0.keep K98
        have f100 := F1.keep K98 (ninS Ne0 nin0)
        have f101 := F2.keep K98 (ninS Ne0 nin0)
        have f102 := F5.keep K98
        have f103 := F7.keep K98
        have f104 : Arv Z h98 ar kA (.object cH) (4 : Int32) [(.ref x1), (.ref x2), (.ref x2), .null] .null := V98
        have Kp98 : Keep h0 h98 [a0, ar] := Kp0.trans K98 (allS (Or.inl om1) all0)
        have Z105 := Nat.le_trans Z0 K98.1
        refine Goes.by st98 ?_
        obtain ⟨T106, h106, X106, e106, E106, A106, D106, -, st106⟩ := newO X98 hx hZ hown (wq hw 9 rfl) (wq hw 39 rfl) (wq hw 40 rfl) e98 (g := (mkF m 126 #[.val (.ref a0), .val (.long q1), .second, .val (.int (1 : Int32)), .unset] [])) rfl (hb hby d5_126) (by decide) (by decide)
        obtain ⟨b107, g106⟩ : ∃ z, z = h98.size := ⟨_, rfl⟩
        rw [← g106] at A106 D106 st106
        have ne108 : a0 ≠ b107 := Nat.ne_of_lt (Nat.lt_of_lt_of_le f99.lt (Nat.le_of_eq g106.symm))
        have ne109 : ar ≠ b107 := Nat.ne_of_lt (Nat.lt_of_lt_of_le f104.lt (Nat.le_of_eq g106.symm))
        have ne110 : x1 ≠ b107 := Nat.ne_of_lt (Nat.lt_of_lt_of_le f102.lt (Nat.le_of_eq g106.symm))
        have ne111 : x2 ≠ b107 := Nat.ne_of_lt (Nat.lt_of_lt_of_le f103.lt (Nat.le_of_eq g106.symm))
        have ge112 : n0 ≤ b107 := Nat.le_trans Z105 (Nat.le_of_eq g106.symm)
        have sz113 : h0.size ≤ b107 := Nat.le_trans Kp98.1 (Nat.le_of_eq g106.symm)
        have f114 := f99.ext E106
        have f115 := f100.ext E106
        have f116 := f101.ext E106
        have f117 := f102.ext E106
        have f118 := f103.ext E106
        have f119 := f104.ext E106
        have f120 : Fld Z h106 b107 cH "tick" "J" (.long (0 : Int64)) := D106 (Or.inr (wq hw 47 rfl)) (ty := .long) (by decide)
        have f121 : Fld Z h106 b107 cL "next" dL .null := D106 (Or.inl (wq hw 49 rfl)) (ty := (.object cL)) (by decide)
        have f122 : Fld Z h106 b107 cL "prev" dL .null := D106 (Or.inl (wq hw 51 rfl)) (ty := (.object cL)) (by decide)
        have Kp106 : Keep h0 h106 [a0, ar] := Kp98.ext E106
        have Z123 := Nat.le_trans Z105 E106.1
        refine Goes.by st106 ?_
        refine Goes.by (fun _ => XS.dup X106.here hx rfl (hb hby d5_129) rfl rfl) ?_
        refine Goes.by (fun _ => XS.lloadN X106.here hx rfl (hb hby d5_130) rfl) ?_
        obtain ⟨_, T124, L124, Lc124, X124, hF124, hQ124, st124⟩ := own_ci X106 hx hZ rfl hown (wq hw 41 rfl) (wq hw 42 rfl) (wq hw 40 rfl) (wq hw 43 rfl) (rmHeadI l Z az hw [] b107 q1 h106 n0 Z123 A106 f120 f121 f122 ge112) (W := 1) (g := (mkF m 131 #[.val (.ref a0), .val (.long q1), .second, .val (.int (1 : Int32)), .unset] [(.long q1), (.ref b107), (.ref b107)])) rfl (by rw [hml]; rfl) (argsL := [(.long q1)]) (rest := [(.ref b107)]) rfl (lenOf own_pd2 rfl) rfl (hb hby d5_131) e106 Nn98 (c' := 1) (s' := 3)
        obtain ⟨rfl, N124q, K124, f125, f126, f127, f128⟩ := hQ124
        have f129 := f114.keep K124
        have f130 := f115.keep K124 (ninS ne108 nin0)
        have f131 := f116.keep K124 (ninS ne108 nin0)
        have f132 := f117.keep K124
        have f133 := f118.keep K124
        have f134 := f119.keep K124 (ninS ne109 nin0)
        have f135 := A106.keep K124
        have Kp124 : Keep h0 T124.heap [a0, ar] := Kp106.trans K124 (allS (Or.inr sz113) all0)
        have Z136 := Nat.le_trans Z123 K124.1
        have N137 := hF124 N124q
        refine Goes.by st124 ?_
        refine Goes.by (fun _ => XS.astore X124.here hx rfl (hb hby d5_134) rfl rfl (l' := #[.val (.ref a0), .val (.long q1), .second, .val (.int (1 : Int32)), .val (.ref b107)]) rfl) ?_
        refine Goes.by (fun _ => XS.aloadN X124.here hx rfl (hb hby d5_136) rfl rfl) ?_
        obtain ⟨T138, X138, e138, st138⟩ := getF X124 hx hZ hown (host := "") (Or.inl (wq hw 11 rfl)) Via.refl rfl f130 (g := (mkF m 137 #[.val (.ref a0), .val (.long q1), .second, .val (.int (1 : Int32)), .val (.ref b107)] [(.ref a0)])) rfl rfl (hb hby d5_137)
        refine Goes.by st138 ?_
        refine Goes.by (fun _ => XS.iloadN X138.here hx rfl (hb hby d5_140) rfl) ?_
        refine Goes.by (fun _ => XS.aload X138.here hx rfl (hb hby d5_141) rfl rfl) ?_
        obtain ⟨cl139, cl139A, cl139q, cl139S, cl139N, cl139H, cl139G⟩ := id f134
        have cl139I : ¬ ((1 : Int32) < 0 ∨ cl139.slots.size ≤ ((1 : Int32)).toNatClampNeg) := inb_of cl139S ⟨by decide, by decide⟩
        obtain ⟨T139, h139, X139, e139, W139, st139⟩ := stR X138 hx hZ e138 cl139A (j := (1 : Int32)) cl139I rfl (Sto.ofV cl139A cl139q F4 (Ins.self f125)) (g := (mkF m 143 #[.val (.ref a0), .val (.long q1), .second, .val (.int (1 : Int32)), .val (.ref b107)] [(.ref b107), (.int (1 : Int32)), (.ref ar)])) rfl rfl (hb hby d5_143)
        have f140 := f129.wr W139
        have f141 := f130.other W139 (Or.inl Ne0)
        have f142 := f131.other W139 (Or.inl Ne0)
        have f143 := f132.wr W139
        have f144 := f133.wr W139
        have f145 := f125.wr W139
        have f146 := f126.other W139 (Or.inl (Ne.symm ne109))
        have f147 := f127.other W139 (Or.inl (Ne.symm ne109))
        have f148 := f128.other W139 (Or.inl (Ne.symm ne109))
        have f149 : Arv Z h139 ar kA (.object cH) (4 : Int32) [(.ref x1), (.ref b107), (.ref x2), .null] .null := Arv.set cl139A cl139q cl139S cl139N cl139H cl139G rfl W139 1 rfl (Nat.le_of_ble_eq_true rfl)
        have Kp139 : Keep h0 h139 [a0, ar] := Kp124.wr W139 (Or.inl om1)
        have Z150 := Nat.le_trans Z136 (Nat.le_of_eq W139.size.symm)
        have N151 := Fr.snoc X139 N137 Ge1
        refine Goes.by st139 ?_
        refine Goes.by (fun _ => XS.aloadN X139.here hx rfl (hb hby d5_144) rfl rfl) ?_
        refine Goes.by (fun _ => XS.dup X139.here hx rfl (hb hby d5_145) rfl rfl) ?_
        obtain ⟨T152, X152, e152, st152⟩ := getF X139 hx hZ hown (host := "") (Or.inl (wq hw 29 rfl)) Via.refl e139 f142 (g := (mkF m 146 #[.val (.ref a0), .val (.long q1), .second, .val (.int (1 : Int32)), .val (.ref b107)] [(.ref a0), (.ref a0)])) rfl rfl (hb hby d5_146)
        refine Goes.by st152 ?_
        refine Goes.by (fun _ => XS.iconst X152.here hx rfl (hb hby d5_149)) ?_
        refine Goes.by (fun _ => XS.iadd X152.here hx rfl (hb hby d5_150) rfl) ?_
        obtain ⟨T153, h153, X153, e153, W153, st153⟩ := putF X152 hx hZ hown (host := "") (Or.inl (wq hw 29 rfl)) Via.refl e152 f142 f140 (Or.inl (wq hw 30 rfl)) (wq hw 1 rfl) (ty := .int) (by decide) rfl rfl (g := (mkF m 151 #[.val (.ref a0), .val (.long q1), .second, .val (.int (1 : Int32)), .val (.ref b107)] [(.int (3 : Int32)), (.ref a0)])) rfl rfl (hb hby d5_151)
        have f154 := f140.wr W153
        have f155 := f141.other W153 (Or.inr (slot_ne (Or.inl (wq hw 12 rfl)) (Or.inl (wq hw 30 rfl)) (by decide) (t := (.array (.object cH))) (t' := .int) (by decide) (by decide)))
        have f156 := f143.wr W153
        have f157 := f144.wr W153
        have f158 := f145.wr W153
        have f159 := f146.other W153 (Or.inl (Ne.symm ne108))
        have f160 := f147.other W153 (Or.inl (Ne.symm ne108))
        have f161 := f148.other W153 (Or.inl (Ne.symm ne108))
        have f162 := f149.other W153 (Ne.symm Ne0)
        have f163 : Fld Z h153 a0 cD "count" "I" (.int (3 : Int32)) := f142.same W153
        have Kp153 : Keep h0 h153 [a0, ar] := Kp139.wr W153 (Or.inl om0)
        have Z164 := Nat.le_trans Z150 (Nat.le_of_eq W153.size.symm)
        have N165 := Fr.snoc X153 N151 Ge0
        refine Goes.by st153 ?_
        refine Goes.by (fun _ => XS.aload X153.here hx rfl (hb hby d5_154) rfl rfl) ?_
        obtain ⟨fs, hr, hrun, hended, hW, hsame⟩ := X153.leave (v := some (.ref b107)) (fun h => by rw [Bd.returns] at h; cases h)
        refine Goes.mk _ _ ?_ ⟨hrun, hended, _, _, rfl, ?_, ⟨_, rfl⟩, hW, hsame.mono (by decide) (by decide)⟩
        · exact retOut X153 hx Bd.returns rfl (Or.inr (Or.inr (Or.inr (Or.inr ⟨rfl, rfl, rfl⟩)))) (hb hby d5_156) hr
        · show QHeadOf2 Z a0 q1 ar kA x1 x2 t1 t2 h0 n0 _ T153.heap _
          rw [e153]
          exact (Or.inr (Or.inr (Or.inr (Or.inl ⟨b107, hc6, he, hc89, rfl, N165, Kp153, sz113, f155, f163, f162, f158, f159, f160, f161⟩))))
    · rw [he]
      show Goes p.tables e below _ (T10.setTop (mkF m 43 #[.val (.ref a0), .val (.long q1), .second, .unset, .unset] [(.int (2 : Int32))]))
      refine Goes.by (fun _ => XS.istoreN X10.here hx rfl (hb hby d5_43) rfl (l' := #[.val (.ref a0), .val (.long q1), .second, .val (.int (2 : Int32)), .unset]) rfl) ?_
      refine Goes.by (fun _ => XS.iloadN X10.here hx rfl (hb hby d5_44) rfl) ?_
      refine Goes.by (fun _ => XS.ifNo X10.here hx rfl (hb hby d5_45) rfl ((if0 _ _).trans (tlt (by decide : (0 : Int32) < (2 : Int32))).2.2.2)) ?_
      refine Goes.by (fun _ => XS.aloadN X10.here hx rfl (hb hby d5_48) rfl rfl) ?_
      obtain ⟨T166, X166, e166, st166⟩ := getF X10 hx hZ hown (host := "") (Or.inl (wq hw 11 rfl)) Via.refl e10 F1 (g := (mkF m 49 #[.val (.ref a0), .val (.long q1), .second, .val (.int (2 : Int32)), .unset] [(.ref a0)])) rfl rfl (hb hby d5_49)
      refine Goes.by st166 ?_
      refine Goes.by (fun _ => XS.iloadN X166.here hx rfl (hb hby d5_52) rfl) ?_
      refine Goes.by (fun _ => XS.iconst X166.here hx rfl (hb hby d5_53)) ?_
      refine Goes.by (fun _ => XS.isub X166.here hx rfl (hb hby d5_54) rfl) ?_
      obtain ⟨cl167, cl167A, cl167q, cl167S, cl167N, cl167H, cl167G⟩ := id F3
      have cl167I : ¬ ((1 : Int32) < 0 ∨ cl167.slots.size ≤ ((1 : Int32)).toNatClampNeg) := inb_of cl167S ⟨by decide, by decide⟩
      have cl167T : cl167.slots[((1 : Int32)).toNatClampNeg]? = some (.ref x2) := cl167H.at cl167I rfl
      refine Goes.by (X166.aaload hx (j := (1 : Int32)) (v := (.ref x2)) (by rw [e166]; exact cl167A.1) (State.isArrayOf_alike hZ.alike cl167A.2.1) rfl cl167A.2.2 cl167I cl167T (g := (mkF m 55 #[.val (.ref a0), .val (.long q1), .second, .val (.int (2 : Int32)), .unset] [(.int (1 : Int32)), (.ref ar)])) rfl rfl (hb hby d5_55)) ?_
      refine Goes.by (B := T166.setTop (mkF m 74 #[.val (.ref a0), .val (.long q1), .second, .val (.int (2 : Int32)), .unset] [(.ref a0)])) (fun t k => ?_) ?_
      · refine getFR X166 hx hZ hown (wq hw 57 rfl) e166 F8 (g := (mkF m 56 #[.val (.ref a0), .val (.long q1), .second, .val (.int (2 : Int32)), .unset] [(.ref x2)])) rfl rfl (hb hby d5_56) ?_
        refine XS.lloadN X166.here hx rfl (hb hby d5_59) rfl ?_
        refine XS.lcmp X166.here hx rfl (hb hby d5_60) rfl ?_
        refine XS.ifYes X166.here hx rfl (pc0 := 61) (pc' := 73) rfl (hb hby d5_61) rfl ((if0 _ _).trans (feq (fun z => hc6 ((lw_eq t2 q1).mp z))).2) (by decide) (by decide) ?_
        refine XS.aloadN X166.here hx rfl (hb hby d5_73) rfl rfl ?_
        exact k
      obtain ⟨T169, X169, e169, st169⟩ := getF X166 hx hZ hown (host := "") (Or.inl (wq hw 29 rfl)) Via.refl e166 F2 (g := (mkF m 74 #[.val (.ref a0), .val (.long q1), .second, .val (.int (2 : Int32)), .unset] [(.ref a0)])) rfl rfl (hb hby d5_74)
      refine Goes.by st169 ?_
      refine Goes.by (fun _ => XS.aloadN X169.here hx rfl (hb hby d5_77) rfl rfl) ?_
      obtain ⟨T170, X170, e170, st170⟩ := getF X169 hx hZ hown (host := "") (Or.inl (wq hw 11 rfl)) Via.refl e169 F1 (g := (mkF m 78 #[.val (.ref a0), .val (.long q1), .second, .val (.int (2 : Int32)), .unset] [(.ref a0), (.int (2 : Int32))])) rfl rfl (hb hby d5_78)
      refine Goes.by st170 ?_
      obtain ⟨cl171, cl171A, -, cl171S, cl171N, -, -⟩ := id F3
      refine Goes.by (B := T170.setTop (mkF m 105 #[.val (.ref a0), .val (.long q1), .second, .val (.int (2 : Int32)), .unset] [])) (fun t k => ?_) ?_
      · refine X170.arraylength hx (by rw [e170]; exact cl171A.1) (State.isArrayOf_alike hZ.alike cl171A.2.1) (g := (mkF m 81 #[.val (.ref a0), .val (.long q1), .second, .val (.int (2 : Int32)), .unset] [(.ref ar), (.int (2 : Int32))])) rfl rfl (hb hby d5_81) _ ?_
        rw [len_of cl171S cl171N]
        refine XS.icmpYes X170.here hx rfl (pc0 := 82) (pc' := 105) rfl (hb hby d5_82) rfl (feq (by decide : ¬ ((2 : Int32) = (4 : Int32)))).2 (by decide) (by decide) ?_
        exact k
      refine Goes.by (fun _ => XS.aloadN X170.here hx rfl (hb hby d5_105) rfl rfl) ?_
      obtain ⟨T172, X172, e172, st172⟩ := getF X170 hx hZ hown (host := "") (Or.inl (wq hw 11 rfl)) Via.refl e170 F1 (g := (mkF m 106 #[.val (.ref a0), .val (.long q1), .second, .val (.int (2 : Int32)), .unset] [(.ref a0)])) rfl rfl (hb hby d5_106)
      refine Goes.by st172 ?_
      refine Goes.by (fun _ => XS.iloadN X172.here hx rfl (hb hby d5_109) rfl) ?_
      refine Goes.by (fun _ => XS.aloadN X172.here hx rfl (hb hby d5_110) rfl rfl) ?_
      obtain ⟨T173, X173, e173, st173⟩ := getF X172 hx hZ hown (host := "") (Or.inl (wq hw 11 rfl)) Via.refl e172 F1 (g := (mkF m 111 #[.val (.ref a0), .val (.long q1), .second, .val (.int (2 : Int32)), .unset] [(.ref a0), (.int (2 : Int32)), (.ref ar)])) rfl rfl (hb hby d5_111)
      refine Goes.by st173 ?_
      refine Goes.by (fun _ => XS.iloadN X173.here hx rfl (hb hby d5_114) rfl) ?_
      refine Goes.by (fun _ => XS.iconst X173.here hx rfl (hb hby d5_115)) ?_
      refine Goes.by (fun _ => XS.iadd X173.here hx rfl (hb hby d5_116) rfl) ?_
      refine Goes.by (fun _ => XS.aloadN X173.here hx rfl (hb hby d5_117) rfl rfl) ?_
      obtain ⟨T174, X174, e174, st174⟩ := getF X173 hx hZ hown (host := "") (Or.inl (wq hw 29 rfl)) Via.refl e173 F2 (g := (mkF m 118 #[.val (.ref a0), .val (.long q1), .second, .val (.int (2 : Int32)), .unset] [(.ref a0), (.int (3 : Int32)), (.ref ar), (.int (2 : Int32)), (.ref ar)])) rfl rfl (hb hby d5_118)
      refine Goes.by st174 ?_
      refine Goes.by (fun _ => XS.iloadN X174.here hx rfl (hb hby d5_121) rfl) ?_
      refine Goes.by (fun _ => XS.isub X174.here hx rfl (hb hby d5_122) rfl) ?_
      obtain ⟨T175, h175, L175, X175, e175, Nn175, K175, V175, st175⟩ := cpA X174 hx hZ hown (wq hw 35 rfl) (wq hw 38 rfl) (wq hw 36 rfl) (wq hw 37 rfl) e174 (us := []) F3 F3 (Or.inr ⟨rfl, rfl, trivial⟩) (sp := (2 : Int32)) (dp := (3 : Int32)) (nn := (0 : Int32)) (by decide) (by decide) (by decide) (by decide) (by decide) rfl (Nat.le_of_ble_eq_true rfl) N11 Ge1 (g := (mkF m 123 #[.val (.ref a0), .val (.long q1), .second, .val (.int (2 : Int32)), .unset] [(.int (0 : Int32)), (.int (3 : Int32)), (.ref ar), (.int (2 : Int32)), (.ref ar)])) rfl (by rw [hml]; rfl) rfl (hb hby d5_123) (by decide) (W := 0) (by show 2 * 0 + _ ≤ _; exact Nat.le_of_eq rfl) (by decide)
      have f176 := F0.keep K175
      have f177 := F1.keep K175 (ninS Ne0 nin0)
      have f178 := F2.keep K175 (ninS Ne0 nin0)
      have f179 := F5.keep K175
      have f180 := F7.keep K175
      have f181 : Arv Z h175 ar kA (.object cH) (4 : Int32) [(.ref x1), (.ref x2), .null, .null] .null := V175
      have Kp175 : Keep h0 h175 [a0, ar] := Kp0.trans K175 (allS (Or.inl om1) all0)
      have Z182 := Nat.le_trans Z0 K175.1
      refine Goes.by st175 ?_
      obtain ⟨T183, h183, X183, e183, E183, A183, D183, -, st183⟩ := newO X175 hx hZ hown (wq hw 9 rfl) (wq hw 39 rfl) (wq hw 40 rfl) e175 (g := (mkF m 126 #[.val (.ref a0), .val (.long q1), .second, .val (.int (2 : Int32)), .unset] [])) rfl (hb hby d5_126) (by decide) (by decide)
      obtain ⟨b184, g183⟩ : ∃ z, z = h175.size := ⟨_, rfl⟩
      rw [← g183] at A183 D183 st183
      have ne185 : a0 ≠ b184 := Nat.ne_of_lt (Nat.lt_of_lt_of_le f176.lt (Nat.le_of_eq g183.symm))
      have ne186 : ar ≠ b184 := Nat.ne_of_lt (Nat.lt_of_lt_of_le f181.lt (Nat.le_of_eq g183.symm))
      have ne187 : x1 ≠ b184 := Nat.ne_of_lt (Nat.lt_of_lt_of_le f179.lt (Nat.le_of_eq g183.symm))
      have ne188 : x2 ≠ b184 := Nat.ne_of_lt (Nat.lt_of_lt_of_le f180.lt (Nat.le_of_eq g183.symm))
      have ge189 : n0 ≤ b184 := Nat.le_trans Z182 (Nat.le_of_eq g183.symm)
      have sz190 : h0.size ≤ b184 := Nat.le_trans Kp175.1 (Nat.le_of_eq g183.symm)
      have f191 := f176.ext E183
      have f192 := f177.ext E183
      have f193 := f178.ext E183
      have f194 := f179.ext E183
      have f195 := f180.ext E183
      have f196 := f181.ext E183
      have f197 : Fld Z h183 b184 cH "tick" "J" (.long (0 : Int64)) := D183 (Or.inr (wq hw 47 rfl)) (ty := .long) (by decide)
      have f198 : Fld Z h183 b184 cL "next" dL .null := D183 (Or.inl (wq hw 49 rfl)) (ty := (.object cL)) (by decide)
      have f199 : Fld Z h183 b184 cL "prev" dL .null := D183 (Or.inl (wq hw 51 rfl)) (ty := (.object cL)) (by decide)
      have Kp183 : Keep h0 h183 [a0, ar] := Kp175.ext E183
      have Z200 := Nat.le_trans Z182 E183.1
      refine Goes.by st183 ?_
      refine Goes.by (fun _ => XS.dup X183.here hx rfl (hb hby d5_129) rfl rfl) ?_
      refine Goes.by (fun _ => XS.lloadN X183.here hx rfl (hb hby d5_130) rfl) ?_
      obtain ⟨_, T201, L201, Lc201, X201, hF201, hQ201, st201⟩ := own_ci X183 hx hZ rfl hown (wq hw 41 rfl) (wq hw 42 rfl) (wq hw 40 rfl) (wq hw 43 rfl) (rmHeadI l Z az hw [] b184 q1 h183 n0 Z200 A183 f197 f198 f199 ge189) (W := 1) (g := (mkF m 131 #[.val (.ref a0), .val (.long q1), .second, .val (.int (2 : Int32)), .unset] [(.long q1), (.ref b184), (.ref b184)])) rfl (by rw [hml]; rfl) (argsL := [(.long q1)]) (rest := [(.ref b184)]) rfl (lenOf own_pd2 rfl) rfl (hb hby d5_131) e183 Nn175 (c' := 1) (s' := 3)
      obtain ⟨rfl, N201q, K201, f202, f203, f204, f205⟩ := hQ201
      have f206 := f191.keep K201
      have f207 := f192.keep K201 (ninS ne185 nin0)
      have f208 := f193.keep K201 (ninS ne185 nin0)
      have f209 := f194.keep K201
      have f210 := f195.keep K201
      have f211 := f196.keep K201 (ninS ne186 nin0)
      have f212 := A183.keep K201
      have Kp201 : Keep h0 T201.heap [a0, ar] := Kp183.trans K201 (allS (Or.inr sz190) all0)
      have Z213 := Nat.le_trans Z200 K201.1
      have N214 := hF201 N201q
      refine Goes.by st201 ?_
      refine Goes.by (fun _ => XS.astore X201.here hx rfl (hb hby d5_134) rfl rfl (l' := #[.val (.ref a0), .val (.long q1), .second, .val (.int (2 : Int32)), .val (.ref b184)]) rfl) ?_
      refine Goes.by (fun _ => XS.aloadN X201.here hx rfl (hb hby d5_136) rfl rfl) ?_
      obtain ⟨T215, X215, e215, st215⟩ := getF X201 hx hZ hown (host := "") (Or.inl (wq hw 11 rfl)) Via.refl rfl f207 (g := (mkF m 137 #[.val (.ref a0), .val (.long q1), .second, .val (.int (2 : Int32)), .val (.ref b184)] [(.ref a0)])) rfl rfl (hb hby d5_137)
      refine Goes.by st215 ?_
      refine Goes.by (fun _ => XS.iloadN X215.here hx rfl (hb hby d5_140) rfl) ?_
      refine Goes.by (fun _ => XS.aload X215.here hx rfl (hb hby d5_141) rfl rfl) ?_
      obtain ⟨cl216, cl216A, cl216q, cl216S, cl216N, cl216H, cl216G⟩ := id f211
      have cl216I : ¬ ((2 : Int32) < 0 ∨ cl216.slots.size ≤ ((2 : Int32)).toNatClampNeg) := inb_of cl216S ⟨by decide, by decide⟩
      obtain ⟨T216, h216, X216, e216, W216, st216⟩ := stR X215 hx hZ e215 cl216A (j := (2 : Int32)) cl216I rfl (Sto.ofV cl216A cl216q F4 (Ins.self f202)) (g := (mkF m 143 #[.val (.ref a0), .val (.long q1), .second, .val (.int (2 : Int32)), .val (.ref b184)] [(.ref b184), (.int (2 : Int32)), (.ref ar)])) rfl rfl (hb hby d5_143)
      have f217 := f206.wr W216
      have f218 := f207.other W216 (Or.inl Ne0)
      have f219 := f208.other W216 (Or.inl Ne0)
      have f220 := f209.wr W216
      have f221 := f210.wr W216
      have f222 := f202.wr W216
      have f223 := f203.other W216 (Or.inl (Ne.symm ne186))
      have f224 := f204.other W216 (Or.inl (Ne.symm ne186))
      have f225 := f205.other W216 (Or.inl (Ne.symm ne186))
      have f226 : Arv Z h216 ar kA (.object cH) (4 : Int32) [(.ref x1), (.ref x2), (.ref b184), .null] .null := Arv.set cl216A cl216q cl216S cl216N cl216H cl216G rfl W216 2 rfl (Nat.le_of_ble_eq_true rfl)
      have Kp216 : Keep h0 h216 [a0, ar] := Kp201.wr W216 (Or.inl om1)
      have Z227 := Nat.le_trans Z213 (Nat.le_of_eq W216.size.symm)
      have N228 := Fr.snoc X216 N214 Ge1
      refine Goes.by st216 ?_
      refine Goes.by (fun _ => XS.aloadN X216.here hx rfl (hb hby d5_144) rfl rfl) ?_
      refine Goes.by (fun _ => XS.dup X216.here hx rfl (hb hby d5_145) rfl rfl) ?_
      obtain ⟨T229, X229, e229, st229⟩ := getF X216 hx hZ hown (host := "") (Or.inl (wq hw 29 rfl)) Via.refl e216 f219 (g := (mkF m 146 #[.val (.ref a0), .val (.long q1), .second, .val (.int (2 : Int32)), .val (.ref b184)] [(.ref a0), (.ref a0)])) rfl rfl (hb hby d5_146)
      refine Goes.by st229 ?_
      refine Goes.by (fun _ => XS.iconst X229.here hx rfl (hb hby d5_149)) ?_
      refine Goes.by (fun _ => XS.iadd X229.here hx rfl (hb hby d5_150) rfl) ?_
      obtain ⟨T230, h230, X230, e230, W230, st230⟩ := putF X229 hx hZ hown (host := "") (Or.inl (wq hw 29 rfl)) Via.refl e229 f219 f217 (Or.inl (wq hw 30 rfl)) (wq hw 1 rfl) (ty := .int) (by decide) rfl rfl (g := (mkF m 151 #[.val (.ref a0), .val (.long q1), .second, .val (.int (2 : Int32)), .val (.ref b184)] [(.int (3 : Int32)), (.ref a0)])) rfl rfl (hb hby d5_151)
      have f231 := f217.wr W230
      have f232 := f218.other W230 (Or.inr (slot_ne (Or.inl (wq hw 12 rfl)) (Or.inl (wq hw 30 rfl)) (by decide) (t := (.array (.object cH))) (t' := .int) (by decide) (by decide)))
      have f233 := f220.wr W230
      have f234 := f221.wr W230
      have f235 := f222.wr W230
      have f236 := f223.other W230 (Or.inl (Ne.symm ne185))
      have f237 := f224.other W230 (Or.inl (Ne.symm ne185))
      have f238 := f225.other W230 (Or.inl (Ne.symm ne185))
      have f239 := f226.other W230 (Ne.symm Ne0)
      have f240 : Fld Z h230 a0 cD "count" "I" (.int (3 : Int32)) := f219.same W230
      have Kp230 : Keep h0 h230 [a0, ar] := Kp216.wr W230 (Or.inl om0)
      have Z241 := Nat.le_trans Z227 (Nat.le_of_eq W230.size.symm)
      have N242 := Fr.snoc X230 N228 Ge0
      refine Goes.by st230 ?_
      refine Goes.by (fun _ => XS.aload X230.here hx rfl (hb hby d5_154) rfl rfl) ?_
      obtain ⟨fs, hr, hrun, hended, hW, hsame⟩ := X230.leave (v := some (.ref b184)) (fun h => by rw [Bd.returns] at h; cases h)
      refine Goes.mk _ _ ?_ ⟨hrun, hended, _, _, rfl, ?_, ⟨_, rfl⟩, hW, hsame.mono (by decide) (by decide)⟩
      · exact retOut X230 hx Bd.returns rfl (Or.inr (Or.inr (Or.inr (Or.inr ⟨rfl, rfl, rfl⟩)))) (hb hby d5_156) hr
      · show QHeadOf2 Z a0 q1 ar kA x1 x2 t1 t2 h0 n0 _ T230.heap _
        rw [e230]
        exact (Or.inr (Or.inr (Or.inr (Or.inr ⟨b184, hc6, he, rfl, N242, Kp230, sz190, f232, f240, f239, f235, f236, f237, f238⟩))))
theorem d15_0 : decode prog_4_method_11_code 0 = .ok (.aload_n 0, 1) := by decide +kernel
theorem d15_1 : decode prog_4_method_11_code 1 = .ok (.getfield 11, 3) := by decide +kernel
theorem d15_4 : decode prog_4_method_11_code 4 = .ok (.arraylength, 1) := by decide +kernel
theorem d15_5 : decode prog_4_method_11_code 5 = .ok (.istore_n 1, 1) := by decide +kernel
theorem d15_6 : decode prog_4_method_11_code 6 = .ok (.iload_n 1, 1) := by decide +kernel
theorem d15_7 : decode prog_4_method_11_code 7 = .ok (.iconst 4, 1) := by decide +kernel
theorem d15_8 : decode prog_4_method_11_code 8 = .ok (.if_icmp .le 20, 3) := by decide +kernel
theorem d15_28 : decode prog_4_method_11_code 28 = .ok (.iload_n 1, 1) := by decide +kernel
theorem d15_29 : decode prog_4_method_11_code 29 = .ok (.aload_n 0, 1) := by decide +kernel
theorem d15_30 : decode prog_4_method_11_code 30 = .ok (.getfield 11, 3) := by decide +kernel
theorem d15_33 : decode prog_4_method_11_code 33 = .ok (.arraylength, 1) := by decide +kernel
theorem d15_34 : decode prog_4_method_11_code 34 = .ok (.if_icmp .eq 18, 3) := by decide +kernel
theorem d15_52 : decode prog_4_method_11_code 52 = .ok (.return_, 1) := by decide +kernel
def QShrink (Z : State) (a0 : Addr) (ar : Addr) (kA : ClassId) (vs : (List Value)) (h0 : Heap) (n0 : Nat) (v : Option Value) (h : Heap) (L : List Loc) : Prop := v = none ∧ Fr n0 L ∧ h = h0
theorem efShrink (m : MethodId) (x0 : Addr) : entryFrame m #[(.ref x0)] 2 = mkF m 0 #[.val (.ref x0), .unset] [] := by first | (simp [entryFrame, mkF, argsToLocals, Value.category]; done) | rfl
set_option maxRecDepth 65536 in
set_option maxHeartbeats 40000000 in
theorem rmShrink (l : Launch) (Z : State) (az : Array Value) (hw : ∀ d ∈ tables_1, d.before az Z = true) (ws : List Jvm.Cond) (a0 : Addr) (ar : Addr) (kA : ClassId) (vs : (List Value)) (h0 : Heap) (n0 : Nat) (Z0 : n0 ≤ h0.size) (F0 : Fld Z h0 a0 cD "heads" dA (.ref ar)) (F1 : Arv Z h0 ar kA (.object cH) (4 : Int32) vs .null) :
    MetFree l y12 (head1 (Jvm.Cond.code y12 prog_4_method_11_code 2 none :: ws) ({ frames := 0, cells := 0, slots := 0, locals := 0 } : Room)) (fun a U => a = #[(.ref a0)] ∧ Z.Warmed39 U.vm ∧ U.heap = h0) (fun _ _ _ _ _ => True) (fun _ U o U' => ∃ v L, o = .returned v ∧ QShrink Z a0 ar kA vs h0 n0 v U'.heap L ∧ FrameEnd U o U' L ({ frames := 0, cells := 0, slots := 0, locals := 0 } : Room).cells ({ frames := 0, cells := 0, slots := 0, locals := 0 } : Room).slots) := by
  refine MetFree.of_bodySF (plainFor_of_name own_pn_com_example_admit_one_admitone_engine_DueOrder) hisR ?_
  intro p e s m args below meth c s₁ Bd hml0 hP hK
  obtain ⟨rfl, hZ, hh⟩ := hP
  have hx := Bd.exec
  have hby := Bd.bytes
  have hml : c.maxLocals = 2 := hml0
  have hown : s.vm.findClass cD = some m.cls := findClass_of_methodNamed Bd.named
  have hnm := (name_of_methodNamed Bd.named Bd.method).1
  have X0 : Stand p l e ({ frames := 0, cells := 0, slots := 0, locals := 0 } : Room) s m #[(.ref a0)] below meth c s₁ [] 0 0 := Stand.of_body Bd
  have e0 : s₁.heap = h0 := by rw [← hh, Bd.state]; rfl
  have N0 := Fr.nil n0
  have Kp0 : Keep h0 h0 [] := Keep.refl _ _
  refine Goes.start ?_
  refine Goes.by (B := s₁.setTop (mkF m 0 #[.val (.ref a0), .unset] [])) (fun t k => castTop (efShrink m a0) k) ?_
  refine Goes.by (fun _ => XS.aloadN X0.here hx rfl (hb hby d15_0) rfl rfl) ?_
  obtain ⟨T1, X1, e1, st1⟩ := getF X0 hx hZ hown (host := "") (Or.inl (wq hw 11 rfl)) Via.refl e0 F0 (g := (mkF m 1 #[.val (.ref a0), .unset] [(.ref a0)])) rfl rfl (hb hby d15_1)
  refine Goes.by st1 ?_
  obtain ⟨cl2, cl2A, -, cl2S, cl2N, -, -⟩ := id F1
  refine Goes.by (B := T1.setTop (mkF m 30 #[.val (.ref a0), .val (.int (4 : Int32))] [(.ref a0), (.int (4 : Int32))])) (fun t k => ?_) ?_
  · refine X1.arraylength hx (by rw [e1]; exact cl2A.1) (State.isArrayOf_alike hZ.alike cl2A.2.1) (g := (mkF m 4 #[.val (.ref a0), .unset] [(.ref ar)])) rfl rfl (hb hby d15_4) _ ?_
    rw [len_of cl2S cl2N]
    refine XS.istoreN X1.here hx rfl (hb hby d15_5) rfl (l' := #[.val (.ref a0), .val (.int (4 : Int32))]) rfl ?_
    refine XS.iloadN X1.here hx rfl (hb hby d15_6) rfl ?_
    refine XS.iconst X1.here hx rfl (hb hby d15_7) ?_
    refine XS.icmpYes X1.here hx rfl (pc0 := 8) (pc' := 28) rfl (hb hby d15_8) rfl (flt (by decide : ¬ ((4 : Int32) < (4 : Int32)))).2.2.2 (by decide) (by decide) ?_
    refine XS.iloadN X1.here hx rfl (hb hby d15_28) rfl ?_
    refine XS.aloadN X1.here hx rfl (hb hby d15_29) rfl rfl ?_
    exact k
  obtain ⟨T3, X3, e3, st3⟩ := getF X1 hx hZ hown (host := "") (Or.inl (wq hw 11 rfl)) Via.refl e1 F0 (g := (mkF m 30 #[.val (.ref a0), .val (.int (4 : Int32))] [(.ref a0), (.int (4 : Int32))])) rfl rfl (hb hby d15_30)
  refine Goes.by st3 ?_
  obtain ⟨cl4, cl4A, -, cl4S, cl4N, -, -⟩ := id F1
  refine Goes.by (B := T3.setTop (mkF m 52 #[.val (.ref a0), .val (.int (4 : Int32))] [])) (fun t k => ?_) ?_
  · refine X3.arraylength hx (by rw [e3]; exact cl4A.1) (State.isArrayOf_alike hZ.alike cl4A.2.1) (g := (mkF m 33 #[.val (.ref a0), .val (.int (4 : Int32))] [(.ref ar), (.int (4 : Int32))])) rfl rfl (hb hby d15_33) _ ?_
    rw [len_of cl4S cl4N]
    refine XS.icmpYes X3.here hx rfl (pc0 := 34) (pc' := 52) rfl (hb hby d15_34) rfl (teq (by decide : (4 : Int32) = (4 : Int32))).1 (by decide) (by decide) ?_
    exact k
  obtain ⟨fs, hr, hrun, hended, hW, hsame⟩ := X3.leave (v := none) (fun _ => rfl)
  refine Goes.mk _ _ ?_ ⟨hrun, hended, _, _, rfl, ?_, ⟨_, rfl⟩, hW, hsame.mono (by decide) (by decide)⟩
  · exact X3.returnOut hx Bd.returns (hb hby d15_52) hr
  · show QShrink Z a0 ar kA vs h0 n0 _ T3.heap _
    rw [e3]
    exact ⟨rfl, N0, rfl⟩
theorem d14_0 : decode prog_4_method_9_code 0 = .ok (.aload_n 0, 1) := by decide +kernel
theorem d14_1 : decode prog_4_method_9_code 1 = .ok (.aload_n 1, 1) := by decide +kernel
theorem d14_2 : decode prog_4_method_9_code 2 = .ok (.getfield 23, 3) := by decide +kernel
theorem d14_5 : decode prog_4_method_9_code 5 = .ok (.invokevirtual 44, 3) := by decide +kernel
theorem d14_8 : decode prog_4_method_9_code 8 = .ok (.iconst 1, 1) := by decide +kernel
theorem d14_9 : decode prog_4_method_9_code 9 = .ok (.isub, 1) := by decide +kernel
theorem d14_10 : decode prog_4_method_9_code 10 = .ok (.istore_n 2, 1) := by decide +kernel
theorem d14_11 : decode prog_4_method_9_code 11 = .ok (.aload_n 0, 1) := by decide +kernel
theorem d14_12 : decode prog_4_method_9_code 12 = .ok (.getfield 11, 3) := by decide +kernel
theorem d14_15 : decode prog_4_method_9_code 15 = .ok (.iload_n 2, 1) := by decide +kernel
theorem d14_16 : decode prog_4_method_9_code 16 = .ok (.iconst 1, 1) := by decide +kernel
theorem d14_17 : decode prog_4_method_9_code 17 = .ok (.iadd, 1) := by decide +kernel
theorem d14_18 : decode prog_4_method_9_code 18 = .ok (.aload_n 0, 1) := by decide +kernel
theorem d14_19 : decode prog_4_method_9_code 19 = .ok (.getfield 11, 3) := by decide +kernel
theorem d14_22 : decode prog_4_method_9_code 22 = .ok (.iload_n 2, 1) := by decide +kernel
theorem d14_23 : decode prog_4_method_9_code 23 = .ok (.aload_n 0, 1) := by decide +kernel
theorem d14_24 : decode prog_4_method_9_code 24 = .ok (.getfield 15, 3) := by decide +kernel
theorem d14_27 : decode prog_4_method_9_code 27 = .ok (.iload_n 2, 1) := by decide +kernel
theorem d14_28 : decode prog_4_method_9_code 28 = .ok (.isub, 1) := by decide +kernel
theorem d14_29 : decode prog_4_method_9_code 29 = .ok (.iconst 1, 1) := by decide +kernel
theorem d14_30 : decode prog_4_method_9_code 30 = .ok (.isub, 1) := by decide +kernel
theorem d14_31 : decode prog_4_method_9_code 31 = .ok (.invokestatic 55, 3) := by decide +kernel
theorem d14_34 : decode prog_4_method_9_code 34 = .ok (.aload_n 0, 1) := by decide +kernel
theorem d14_35 : decode prog_4_method_9_code 35 = .ok (.dup, 1) := by decide +kernel
theorem d14_36 : decode prog_4_method_9_code 36 = .ok (.getfield 15, 3) := by decide +kernel
theorem d14_39 : decode prog_4_method_9_code 39 = .ok (.iconst 1, 1) := by decide +kernel
theorem d14_40 : decode prog_4_method_9_code 40 = .ok (.isub, 1) := by decide +kernel
theorem d14_41 : decode prog_4_method_9_code 41 = .ok (.putfield 15, 3) := by decide +kernel
theorem d14_44 : decode prog_4_method_9_code 44 = .ok (.aload_n 0, 1) := by decide +kernel
theorem d14_45 : decode prog_4_method_9_code 45 = .ok (.getfield 11, 3) := by decide +kernel
theorem d14_48 : decode prog_4_method_9_code 48 = .ok (.aload_n 0, 1) := by decide +kernel
theorem d14_49 : decode prog_4_method_9_code 49 = .ok (.getfield 15, 3) := by decide +kernel
theorem d14_52 : decode prog_4_method_9_code 52 = .ok (.aconst_null, 1) := by decide +kernel
theorem d14_53 : decode prog_4_method_9_code 53 = .ok (.aastore, 1) := by decide +kernel
theorem d14_54 : decode prog_4_method_9_code 54 = .ok (.aload_n 0, 1) := by decide +kernel
theorem d14_55 : decode prog_4_method_9_code 55 = .ok (.invokevirtual 65, 3) := by decide +kernel
theorem d14_58 : decode prog_4_method_9_code 58 = .ok (.return_, 1) := by decide +kernel
def QDrop1_1 (Z : State) (a0 : Addr) (x1 : Addr) (ar : Addr) (kA : ClassId) (t1 : Int64) (h0 : Heap) (n0 : Nat) (v : Option Value) (h : Heap) (L : List Loc) : Prop := v = none ∧ Fr n0 L ∧ Keep h0 h [ar, a0] ∧ Fld Z h a0 cD "heads" dA (.ref ar) ∧ Fld Z h a0 cD "count" "I" (.int (0 : Int32)) ∧ Arv Z h ar kA (.object cH) (4 : Int32) [.null, .null, .null, .null] .null
theorem efDrop1_1 (m : MethodId) (x0 : Addr) (x1 : Addr) : entryFrame m #[(.ref x0), (.ref x1)] 3 = mkF m 0 #[.val (.ref x0), .val (.ref x1), .unset] [] := by first | (simp [entryFrame, mkF, argsToLocals, Value.category]; done) | rfl
set_option maxRecDepth 65536 in
set_option maxHeartbeats 40000000 in
theorem rmDrop1_1 (l : Launch) (Z : State) (az : Array Value) (hw : ∀ d ∈ tables_1, d.before az Z = true) (ws : List Jvm.Cond) (a0 : Addr) (x1 : Addr) (ar : Addr) (kA : ClassId) (t1 : Int64) (h0 : Heap) (n0 : Nat) (Z0 : n0 ≤ h0.size) (F0 : Exa Z h0 a0 cD) (F1 : Fld Z h0 a0 cD "heads" dA (.ref ar)) (F2 : Fld Z h0 a0 cD "count" "I" (.int (1 : Int32))) (F3 : Arv Z h0 ar kA (.object cH) (4 : Int32) [(.ref x1), .null, .null, .null] .null) (F4 : Ovr Z kA cH) (F5 : Exa Z h0 x1 cH) (F6 : Fld Z h0 x1 cH "tick" "J" (.long t1)) (Ne0 : a0 ≠ ar) (Ne1 : x1 ≠ a0) (Ne2 : x1 ≠ ar) (Ge0 : n0 ≤ a0) (Ge1 : n0 ≤ ar) (HD : fDue1 t1 t1 = (1 : Int32)) :
    MetFree l y11 (head1 (Jvm.Cond.code y11 prog_4_method_9_code 3 none :: ws) ({ frames := 1, cells := 0, slots := 0, locals := 18 } : Room)) (fun a U => a = #[(.ref a0), (.ref x1)] ∧ Z.Warmed39 U.vm ∧ U.heap = h0) (fun _ _ _ _ _ => True) (fun _ U o U' => ∃ v L, o = .returned v ∧ QDrop1_1 Z a0 x1 ar kA t1 h0 n0 v U'.heap L ∧ FrameEnd U o U' L ({ frames := 1, cells := 0, slots := 0, locals := 18 } : Room).cells ({ frames := 1, cells := 0, slots := 0, locals := 18 } : Room).slots) := by
  refine MetFree.of_bodySF (plainFor_of_name own_pn_com_example_admit_one_admitone_engine_DueOrder) hisR ?_
  intro p e s m args below meth c s₁ Bd hml0 hP hK
  obtain ⟨rfl, hZ, hh⟩ := hP
  have hx := Bd.exec
  have hby := Bd.bytes
  have hml : c.maxLocals = 3 := hml0
  have hown : s.vm.findClass cD = some m.cls := findClass_of_methodNamed Bd.named
  have hnm := (name_of_methodNamed Bd.named Bd.method).1
  have X0 : Stand p l e ({ frames := 1, cells := 0, slots := 0, locals := 18 } : Room) s m #[(.ref a0), (.ref x1)] below meth c s₁ [] 0 0 := Stand.of_body Bd
  have e0 : s₁.heap = h0 := by rw [← hh, Bd.state]; rfl
  have N0 := Fr.nil n0
  have Kp0 : Keep h0 h0 [ar, a0] := Keep.refl _ _
  refine Goes.start ?_
  refine Goes.by (B := s₁.setTop (mkF m 0 #[.val (.ref a0), .val (.ref x1), .unset] [])) (fun t k => castTop (efDrop1_1 m a0 x1) k) ?_
  refine Goes.by (fun _ => XS.aloadN X0.here hx rfl (hb hby d14_0) rfl rfl) ?_
  refine Goes.by (fun _ => XS.aloadN X0.here hx rfl (hb hby d14_1) rfl rfl) ?_
  refine Goes.by (fun _ => getFR X0 hx hZ hown (wq hw 57 rfl) e0 F6 (g := (mkF m 2 #[.val (.ref a0), .val (.ref x1), .unset] [(.ref x1), (.ref a0)])) rfl rfl (hb hby d14_2)) ?_
  obtain ⟨_, T2, L2, Lc2, X2, hF2, hQ2, st2⟩ := own_cp X0 hx hZ hown (wq hw 31 rfl) (wq hw 33 rfl) (wq hw 1 rfl) (wq hw 32 rfl) (wq hw 2 rfl) (wq hw 34 rfl) (rmDue1 l Z az hw [] a0 t1 ar kA x1 t1 h0 n0 Z0 F0 F1 F2 F3 F4 F5 F6) (W := 0) (g := (mkF m 5 #[.val (.ref a0), .val (.ref x1), .unset] [(.long t1), (.ref a0)])) rfl (by rw [hml]; rfl) F0 (argsL := [(.long t1)]) (rest := []) rfl (lenOf own_pd1 rfl) rfl (hb hby d14_5) e0 N0 (c' := 0) (s' := 0)
  obtain ⟨rfl, N2q, e2⟩ := hQ2
  have N3 := hF2 N2q
  refine Goes.by st2 ?_
  rw [HD]
  show Goes p.tables e below _ (T2.setTop (mkF m 8 #[.val (.ref a0), .val (.ref x1), .unset] [(.int (1 : Int32))]))
  refine Goes.by (fun _ => XS.iconst X2.here hx rfl (hb hby d14_8)) ?_
  refine Goes.by (fun _ => XS.isub X2.here hx rfl (hb hby d14_9) rfl) ?_
  refine Goes.by (fun _ => XS.istoreN X2.here hx rfl (hb hby d14_10) rfl (l' := #[.val (.ref a0), .val (.ref x1), .val (.int (0 : Int32))]) rfl) ?_
  refine Goes.by (fun _ => XS.aloadN X2.here hx rfl (hb hby d14_11) rfl rfl) ?_
  obtain ⟨T4, X4, e4, st4⟩ := getF X2 hx hZ hown (host := "") (Or.inl (wq hw 11 rfl)) Via.refl e2 F1 (g := (mkF m 12 #[.val (.ref a0), .val (.ref x1), .val (.int (0 : Int32))] [(.ref a0)])) rfl rfl (hb hby d14_12)
  refine Goes.by st4 ?_
  refine Goes.by (fun _ => XS.iloadN X4.here hx rfl (hb hby d14_15) rfl) ?_
  refine Goes.by (fun _ => XS.iconst X4.here hx rfl (hb hby d14_16)) ?_
  refine Goes.by (fun _ => XS.iadd X4.here hx rfl (hb hby d14_17) rfl) ?_
  refine Goes.by (fun _ => XS.aloadN X4.here hx rfl (hb hby d14_18) rfl rfl) ?_
  obtain ⟨T5, X5, e5, st5⟩ := getF X4 hx hZ hown (host := "") (Or.inl (wq hw 11 rfl)) Via.refl e4 F1 (g := (mkF m 19 #[.val (.ref a0), .val (.ref x1), .val (.int (0 : Int32))] [(.ref a0), (.int (1 : Int32)), (.ref ar)])) rfl rfl (hb hby d14_19)
  refine Goes.by st5 ?_
  refine Goes.by (fun _ => XS.iloadN X5.here hx rfl (hb hby d14_22) rfl) ?_
  refine Goes.by (fun _ => XS.aloadN X5.here hx rfl (hb hby d14_23) rfl rfl) ?_
  obtain ⟨T6, X6, e6, st6⟩ := getF X5 hx hZ hown (host := "") (Or.inl (wq hw 29 rfl)) Via.refl e5 F2 (g := (mkF m 24 #[.val (.ref a0), .val (.ref x1), .val (.int (0 : Int32))] [(.ref a0), (.int (0 : Int32)), (.ref ar), (.int (1 : Int32)), (.ref ar)])) rfl rfl (hb hby d14_24)
  refine Goes.by st6 ?_
  refine Goes.by (fun _ => XS.iloadN X6.here hx rfl (hb hby d14_27) rfl) ?_
  refine Goes.by (fun _ => XS.isub X6.here hx rfl (hb hby d14_28) rfl) ?_
  refine Goes.by (fun _ => XS.iconst X6.here hx rfl (hb hby d14_29)) ?_
  refine Goes.by (fun _ => XS.isub X6.here hx rfl (hb hby d14_30) rfl) ?_
  obtain ⟨T7, h7, L7, X7, e7, Nn7, K7, V7, st7⟩ := cpA X6 hx hZ hown (wq hw 35 rfl) (wq hw 38 rfl) (wq hw 36 rfl) (wq hw 37 rfl) e6 (us := []) F3 F3 (Or.inr ⟨rfl, rfl, trivial⟩) (sp := (1 : Int32)) (dp := (0 : Int32)) (nn := (0 : Int32)) (by decide) (by decide) (by decide) (by decide) (by decide) rfl (Nat.le_of_ble_eq_true rfl) N3 Ge1 (g := (mkF m 31 #[.val (.ref a0), .val (.ref x1), .val (.int (0 : Int32))] [(.int (0 : Int32)), (.int (0 : Int32)), (.ref ar), (.int (1 : Int32)), (.ref ar)])) rfl (by rw [hml]; rfl) rfl (hb hby d14_31) (by decide) (W := 0) (by show 2 * 0 + _ ≤ _; exact Nat.le_of_eq rfl) (by decide)
  have f8 := F0.keep K7
  have f9 := F1.keep K7 (ninS Ne0 nin0)
  have f10 := F2.keep K7 (ninS Ne0 nin0)
  have f11 := F5.keep K7
  have f12 : Arv Z h7 ar kA (.object cH) (4 : Int32) [(.ref x1), .null, .null, .null] .null := V7
  have Kp7 : Keep h0 h7 [ar, a0] := Kp0.trans K7 (allS (Or.inl om0) all0)
  have Z13 := Nat.le_trans Z0 K7.1
  refine Goes.by st7 ?_
  refine Goes.by (fun _ => XS.aloadN X7.here hx rfl (hb hby d14_34) rfl rfl) ?_
  refine Goes.by (fun _ => XS.dup X7.here hx rfl (hb hby d14_35) rfl rfl) ?_
  obtain ⟨T14, X14, e14, st14⟩ := getF X7 hx hZ hown (host := "") (Or.inl (wq hw 29 rfl)) Via.refl e7 f10 (g := (mkF m 36 #[.val (.ref a0), .val (.ref x1), .val (.int (0 : Int32))] [(.ref a0), (.ref a0)])) rfl rfl (hb hby d14_36)
  refine Goes.by st14 ?_
  refine Goes.by (fun _ => XS.iconst X14.here hx rfl (hb hby d14_39)) ?_
  refine Goes.by (fun _ => XS.isub X14.here hx rfl (hb hby d14_40) rfl) ?_
  obtain ⟨T15, h15, X15, e15, W15, st15⟩ := putF X14 hx hZ hown (host := "") (Or.inl (wq hw 29 rfl)) Via.refl e14 f10 f8 (Or.inl (wq hw 30 rfl)) (wq hw 1 rfl) (ty := .int) (by decide) rfl rfl (g := (mkF m 41 #[.val (.ref a0), .val (.ref x1), .val (.int (0 : Int32))] [(.int (0 : Int32)), (.ref a0)])) rfl rfl (hb hby d14_41)
  have f16 := f8.wr W15
  have f17 := f9.other W15 (Or.inr (slot_ne (Or.inl (wq hw 12 rfl)) (Or.inl (wq hw 30 rfl)) (by decide) (t := (.array (.object cH))) (t' := .int) (by decide) (by decide)))
  have f18 := f11.wr W15
  have f19 := f12.other W15 (Ne.symm Ne0)
  have f20 : Fld Z h15 a0 cD "count" "I" (.int (0 : Int32)) := f10.same W15
  have Kp15 : Keep h0 h15 [ar, a0] := Kp7.wr W15 (Or.inl om1)
  have Z21 := Nat.le_trans Z13 (Nat.le_of_eq W15.size.symm)
  have N22 := Fr.snoc X15 Nn7 Ge0
  refine Goes.by st15 ?_
  refine Goes.by (fun _ => XS.aloadN X15.here hx rfl (hb hby d14_44) rfl rfl) ?_
  obtain ⟨T23, X23, e23, st23⟩ := getF X15 hx hZ hown (host := "") (Or.inl (wq hw 11 rfl)) Via.refl e15 f17 (g := (mkF m 45 #[.val (.ref a0), .val (.ref x1), .val (.int (0 : Int32))] [(.ref a0)])) rfl rfl (hb hby d14_45)
  refine Goes.by st23 ?_
  refine Goes.by (fun _ => XS.aloadN X23.here hx rfl (hb hby d14_48) rfl rfl) ?_
  obtain ⟨T24, X24, e24, st24⟩ := getF X23 hx hZ hown (host := "") (Or.inl (wq hw 29 rfl)) Via.refl e23 f20 (g := (mkF m 49 #[.val (.ref a0), .val (.ref x1), .val (.int (0 : Int32))] [(.ref a0), (.ref ar)])) rfl rfl (hb hby d14_49)
  refine Goes.by st24 ?_
  refine Goes.by (fun _ => XS.aconstNull X24.here hx rfl (hb hby d14_52)) ?_
  obtain ⟨cl25, cl25A, cl25q, cl25S, cl25N, cl25H, cl25G⟩ := id f19
  have cl25I : ¬ ((0 : Int32) < 0 ∨ cl25.slots.size ≤ ((0 : Int32)).toNatClampNeg) := inb_of cl25S ⟨by decide, by decide⟩
  obtain ⟨T25, h25, X25, e25, W25, st25⟩ := stR X24 hx hZ e24 cl25A (j := (0 : Int32)) cl25I rfl (Or.inl rfl) (g := (mkF m 53 #[.val (.ref a0), .val (.ref x1), .val (.int (0 : Int32))] [.null, (.int (0 : Int32)), (.ref ar)])) rfl rfl (hb hby d14_53)
  have f26 := f16.wr W25
  have f27 := f17.other W25 (Or.inl Ne0)
  have f28 := f18.wr W25
  have f29 := f20.other W25 (Or.inl Ne0)
  have f30 : Arv Z h25 ar kA (.object cH) (4 : Int32) [.null, .null, .null, .null] .null := Arv.set cl25A cl25q cl25S cl25N cl25H cl25G rfl W25 0 rfl (Nat.le_of_ble_eq_true rfl)
  have Kp25 : Keep h0 h25 [ar, a0] := Kp15.wr W25 (Or.inl om0)
  have Z31 := Nat.le_trans Z21 (Nat.le_of_eq W25.size.symm)
  have N32 := Fr.snoc X25 N22 Ge1
  refine Goes.by st25 ?_
  refine Goes.by (fun _ => XS.aloadN X25.here hx rfl (hb hby d14_54) rfl rfl) ?_
  obtain ⟨_, T33, L33, Lc33, X33, hF33, hQ33, st33⟩ := own_cp X25 hx hZ hown (wq hw 89 rfl) (wq hw 91 rfl) (wq hw 1 rfl) (wq hw 90 rfl) (wq hw 2 rfl) (wq hw 92 rfl) (rmShrink l Z az hw [] a0 ar kA [.null, .null, .null, .null] h25 n0 Z31 f27 f30) (W := 0) (g := (mkF m 55 #[.val (.ref a0), .val (.ref x1), .val (.int (0 : Int32))] [(.ref a0)])) rfl (by rw [hml]; rfl) f26 (argsL := []) (rest := []) rfl (lenOf own_pd0 rfl) rfl (hb hby d14_55) e25 N32 (c' := 0) (s' := 0)
  obtain ⟨rfl, N33q, e33⟩ := hQ33
  have N34 := hF33 N33q
  refine Goes.by st33 ?_
  obtain ⟨fs, hr, hrun, hended, hW, hsame⟩ := X33.leave (v := none) (fun _ => rfl)
  refine Goes.mk _ _ ?_ ⟨hrun, hended, _, _, rfl, ?_, ⟨_, rfl⟩, hW, hsame.mono (by decide) (by decide)⟩
  · exact X33.returnOut hx Bd.returns (hb hby d14_58) hr
  · show QDrop1_1 Z a0 x1 ar kA t1 h0 n0 _ T33.heap _
    rw [e33]
    exact ⟨rfl, N34, Kp25, f27, f29, f30⟩
def QDrop2_1 (Z : State) (a0 : Addr) (x1 : Addr) (ar : Addr) (kA : ClassId) (x2 : Addr) (t1 : Int64) (t2 : Int64) (h0 : Heap) (n0 : Nat) (v : Option Value) (h : Heap) (L : List Loc) : Prop := v = none ∧ Fr n0 L ∧ Keep h0 h [ar, a0] ∧ Fld Z h a0 cD "heads" dA (.ref ar) ∧ Fld Z h a0 cD "count" "I" (.int (1 : Int32)) ∧ Arv Z h ar kA (.object cH) (4 : Int32) [(.ref x2), .null, .null, .null] .null
theorem efDrop2_1 (m : MethodId) (x0 : Addr) (x1 : Addr) : entryFrame m #[(.ref x0), (.ref x1)] 3 = mkF m 0 #[.val (.ref x0), .val (.ref x1), .unset] [] := by first | (simp [entryFrame, mkF, argsToLocals, Value.category]; done) | rfl
set_option maxRecDepth 65536 in
set_option maxHeartbeats 40000000 in
theorem rmDrop2_1 (l : Launch) (Z : State) (az : Array Value) (hw : ∀ d ∈ tables_1, d.before az Z = true) (ws : List Jvm.Cond) (a0 : Addr) (x1 : Addr) (ar : Addr) (kA : ClassId) (x2 : Addr) (t1 : Int64) (t2 : Int64) (h0 : Heap) (n0 : Nat) (Z0 : n0 ≤ h0.size) (F0 : Exa Z h0 a0 cD) (F1 : Fld Z h0 a0 cD "heads" dA (.ref ar)) (F2 : Fld Z h0 a0 cD "count" "I" (.int (2 : Int32))) (F3 : Arv Z h0 ar kA (.object cH) (4 : Int32) [(.ref x1), (.ref x2), .null, .null] .null) (F4 : Ovr Z kA cH) (F5 : Exa Z h0 x1 cH) (F6 : Fld Z h0 x1 cH "tick" "J" (.long t1)) (F7 : Exa Z h0 x2 cH) (F8 : Fld Z h0 x2 cH "tick" "J" (.long t2)) (Ne0 : a0 ≠ ar) (Ne1 : x1 ≠ a0) (Ne2 : x2 ≠ a0) (Ne3 : x1 ≠ ar) (Ne4 : x2 ≠ ar) (Ge0 : n0 ≤ a0) (Ge1 : n0 ≤ ar) (HD : fDue2 t1 t1 t2 = (1 : Int32)) :
    MetFree l y11 (head1 (Jvm.Cond.code y11 prog_4_method_9_code 3 none :: ws) ({ frames := 1, cells := 0, slots := 0, locals := 18 } : Room)) (fun a U => a = #[(.ref a0), (.ref x1)] ∧ Z.Warmed39 U.vm ∧ U.heap = h0) (fun _ _ _ _ _ => True) (fun _ U o U' => ∃ v L, o = .returned v ∧ QDrop2_1 Z a0 x1 ar kA x2 t1 t2 h0 n0 v U'.heap L ∧ FrameEnd U o U' L ({ frames := 1, cells := 0, slots := 0, locals := 18 } : Room).cells ({ frames := 1, cells := 0, slots := 0, locals := 18 } : Room).slots) := by
  refine MetFree.of_bodySF (plainFor_of_name own_pn_com_example_admit_one_admitone_engine_DueOrder) hisR ?_
  intro p e s m args below meth c s₁ Bd hml0 hP hK
  obtain ⟨rfl, hZ, hh⟩ := hP
  have hx := Bd.exec
  have hby := Bd.bytes
  have hml : c.maxLocals = 3 := hml0
  have hown : s.vm.findClass cD = some m.cls := findClass_of_methodNamed Bd.named
  have hnm := (name_of_methodNamed Bd.named Bd.method).1
  have X0 : Stand p l e ({ frames := 1, cells := 0, slots := 0, locals := 18 } : Room) s m #[(.ref a0), (.ref x1)] below meth c s₁ [] 0 0 := Stand.of_body Bd
  have e0 : s₁.heap = h0 := by rw [← hh, Bd.state]; rfl
  have N0 := Fr.nil n0
  have Kp0 : Keep h0 h0 [ar, a0] := Keep.refl _ _
  refine Goes.start ?_
  refine Goes.by (B := s₁.setTop (mkF m 0 #[.val (.ref a0), .val (.ref x1), .unset] [])) (fun t k => castTop (efDrop2_1 m a0 x1) k) ?_
  refine Goes.by (fun _ => XS.aloadN X0.here hx rfl (hb hby d14_0) rfl rfl) ?_
  refine Goes.by (fun _ => XS.aloadN X0.here hx rfl (hb hby d14_1) rfl rfl) ?_
  refine Goes.by (fun _ => getFR X0 hx hZ hown (wq hw 57 rfl) e0 F6 (g := (mkF m 2 #[.val (.ref a0), .val (.ref x1), .unset] [(.ref x1), (.ref a0)])) rfl rfl (hb hby d14_2)) ?_
  obtain ⟨_, T2, L2, Lc2, X2, hF2, hQ2, st2⟩ := own_cp X0 hx hZ hown (wq hw 31 rfl) (wq hw 33 rfl) (wq hw 1 rfl) (wq hw 32 rfl) (wq hw 2 rfl) (wq hw 34 rfl) (rmDue2 l Z az hw [] a0 t1 ar kA x1 x2 t1 t2 h0 n0 Z0 F0 F1 F2 F3 F4 F5 F6 F7 F8) (W := 0) (g := (mkF m 5 #[.val (.ref a0), .val (.ref x1), .unset] [(.long t1), (.ref a0)])) rfl (by rw [hml]; rfl) F0 (argsL := [(.long t1)]) (rest := []) rfl (lenOf own_pd1 rfl) rfl (hb hby d14_5) e0 N0 (c' := 0) (s' := 0)
  obtain ⟨rfl, N2q, e2⟩ := hQ2
  have N3 := hF2 N2q
  refine Goes.by st2 ?_
  rw [HD]
  show Goes p.tables e below _ (T2.setTop (mkF m 8 #[.val (.ref a0), .val (.ref x1), .unset] [(.int (1 : Int32))]))
  refine Goes.by (fun _ => XS.iconst X2.here hx rfl (hb hby d14_8)) ?_
  refine Goes.by (fun _ => XS.isub X2.here hx rfl (hb hby d14_9) rfl) ?_
  refine Goes.by (fun _ => XS.istoreN X2.here hx rfl (hb hby d14_10) rfl (l' := #[.val (.ref a0), .val (.ref x1), .val (.int (0 : Int32))]) rfl) ?_
  refine Goes.by (fun _ => XS.aloadN X2.here hx rfl (hb hby d14_11) rfl rfl) ?_
  obtain ⟨T4, X4, e4, st4⟩ := getF X2 hx hZ hown (host := "") (Or.inl (wq hw 11 rfl)) Via.refl e2 F1 (g := (mkF m 12 #[.val (.ref a0), .val (.ref x1), .val (.int (0 : Int32))] [(.ref a0)])) rfl rfl (hb hby d14_12)
  refine Goes.by st4 ?_
  refine Goes.by (fun _ => XS.iloadN X4.here hx rfl (hb hby d14_15) rfl) ?_
  refine Goes.by (fun _ => XS.iconst X4.here hx rfl (hb hby d14_16)) ?_
  refine Goes.by (fun _ => XS.iadd X4.here hx rfl (hb hby d14_17) rfl) ?_
  refine Goes.by (fun _ => XS.aloadN X4.here hx rfl (hb hby d14_18) rfl rfl) ?_
  obtain ⟨T5, X5, e5, st5⟩ := getF X4 hx hZ hown (host := "") (Or.inl (wq hw 11 rfl)) Via.refl e4 F1 (g := (mkF m 19 #[.val (.ref a0), .val (.ref x1), .val (.int (0 : Int32))] [(.ref a0), (.int (1 : Int32)), (.ref ar)])) rfl rfl (hb hby d14_19)
  refine Goes.by st5 ?_
  refine Goes.by (fun _ => XS.iloadN X5.here hx rfl (hb hby d14_22) rfl) ?_
  refine Goes.by (fun _ => XS.aloadN X5.here hx rfl (hb hby d14_23) rfl rfl) ?_
  obtain ⟨T6, X6, e6, st6⟩ := getF X5 hx hZ hown (host := "") (Or.inl (wq hw 29 rfl)) Via.refl e5 F2 (g := (mkF m 24 #[.val (.ref a0), .val (.ref x1), .val (.int (0 : Int32))] [(.ref a0), (.int (0 : Int32)), (.ref ar), (.int (1 : Int32)), (.ref ar)])) rfl rfl (hb hby d14_24)
  refine Goes.by st6 ?_
  refine Goes.by (fun _ => XS.iloadN X6.here hx rfl (hb hby d14_27) rfl) ?_
  refine Goes.by (fun _ => XS.isub X6.here hx rfl (hb hby d14_28) rfl) ?_
  refine Goes.by (fun _ => XS.iconst X6.here hx rfl (hb hby d14_29)) ?_
  refine Goes.by (fun _ => XS.isub X6.here hx rfl (hb hby d14_30) rfl) ?_
  obtain ⟨cl7, cl7A, cl7q, -, -, -, -⟩ := id F3
  obtain ⟨T7, h7, L7, X7, e7, Nn7, K7, V7, st7⟩ := cpA X6 hx hZ hown (wq hw 35 rfl) (wq hw 38 rfl) (wq hw 36 rfl) (wq hw 37 rfl) e6 (us := [(.ref x2)]) F3 F3 (Or.inr ⟨rfl, rfl, ⟨Sto.ofV cl7A cl7q F4 (Ins.self F7), trivial⟩⟩) (sp := (1 : Int32)) (dp := (0 : Int32)) (nn := (1 : Int32)) (by decide) (by decide) (by decide) (by decide) (by decide) rfl (Nat.le_of_ble_eq_true rfl) N3 Ge1 (g := (mkF m 31 #[.val (.ref a0), .val (.ref x1), .val (.int (0 : Int32))] [(.int (1 : Int32)), (.int (0 : Int32)), (.ref ar), (.int (1 : Int32)), (.ref ar)])) rfl (by rw [hml]; rfl) rfl (hb hby d14_31) (by decide) (W := 0) (by show 2 * 0 + _ ≤ _; exact Nat.le_of_eq rfl) (by decide)
  have f8 := F0.keep K7
  have f9 := F1.keep K7 (ninS Ne0 nin0)
  have f10 := F2.keep K7 (ninS Ne0 nin0)
  have f11 := F5.keep K7
  have f12 := F7.keep K7
  have f13 : Arv Z h7 ar kA (.object cH) (4 : Int32) [(.ref x2), (.ref x2), .null, .null] .null := V7
  have Kp7 : Keep h0 h7 [ar, a0] := Kp0.trans K7 (allS (Or.inl om0) all0)
  have Z14 := Nat.le_trans Z0 K7.1
  refine Goes.by st7 ?_
  refine Goes.by (fun _ => XS.aloadN X7.here hx rfl (hb hby d14_34) rfl rfl) ?_
  refine Goes.by (fun _ => XS.dup X7.here hx rfl (hb hby d14_35) rfl rfl) ?_
  obtain ⟨T15, X15, e15, st15⟩ := getF X7 hx hZ hown (host := "") (Or.inl (wq hw 29 rfl)) Via.refl e7 f10 (g := (mkF m 36 #[.val (.ref a0), .val (.ref x1), .val (.int (0 : Int32))] [(.ref a0), (.ref a0)])) rfl rfl (hb hby d14_36)
  refine Goes.by st15 ?_
  refine Goes.by (fun _ => XS.iconst X15.here hx rfl (hb hby d14_39)) ?_
  refine Goes.by (fun _ => XS.isub X15.here hx rfl (hb hby d14_40) rfl) ?_
  obtain ⟨T16, h16, X16, e16, W16, st16⟩ := putF X15 hx hZ hown (host := "") (Or.inl (wq hw 29 rfl)) Via.refl e15 f10 f8 (Or.inl (wq hw 30 rfl)) (wq hw 1 rfl) (ty := .int) (by decide) rfl rfl (g := (mkF m 41 #[.val (.ref a0), .val (.ref x1), .val (.int (0 : Int32))] [(.int (1 : Int32)), (.ref a0)])) rfl rfl (hb hby d14_41)
  have f17 := f8.wr W16
  have f18 := f9.other W16 (Or.inr (slot_ne (Or.inl (wq hw 12 rfl)) (Or.inl (wq hw 30 rfl)) (by decide) (t := (.array (.object cH))) (t' := .int) (by decide) (by decide)))
  have f19 := f11.wr W16
  have f20 := f12.wr W16
  have f21 := f13.other W16 (Ne.symm Ne0)
  have f22 : Fld Z h16 a0 cD "count" "I" (.int (1 : Int32)) := f10.same W16
  have Kp16 : Keep h0 h16 [ar, a0] := Kp7.wr W16 (Or.inl om1)
  have Z23 := Nat.le_trans Z14 (Nat.le_of_eq W16.size.symm)
  have N24 := Fr.snoc X16 Nn7 Ge0
  refine Goes.by st16 ?_
  refine Goes.by (fun _ => XS.aloadN X16.here hx rfl (hb hby d14_44) rfl rfl) ?_
  obtain ⟨T25, X25, e25, st25⟩ := getF X16 hx hZ hown (host := "") (Or.inl (wq hw 11 rfl)) Via.refl e16 f18 (g := (mkF m 45 #[.val (.ref a0), .val (.ref x1), .val (.int (0 : Int32))] [(.ref a0)])) rfl rfl (hb hby d14_45)
  refine Goes.by st25 ?_
  refine Goes.by (fun _ => XS.aloadN X25.here hx rfl (hb hby d14_48) rfl rfl) ?_
  obtain ⟨T26, X26, e26, st26⟩ := getF X25 hx hZ hown (host := "") (Or.inl (wq hw 29 rfl)) Via.refl e25 f22 (g := (mkF m 49 #[.val (.ref a0), .val (.ref x1), .val (.int (0 : Int32))] [(.ref a0), (.ref ar)])) rfl rfl (hb hby d14_49)
  refine Goes.by st26 ?_
  refine Goes.by (fun _ => XS.aconstNull X26.here hx rfl (hb hby d14_52)) ?_
  obtain ⟨cl27, cl27A, cl27q, cl27S, cl27N, cl27H, cl27G⟩ := id f21
  have cl27I : ¬ ((1 : Int32) < 0 ∨ cl27.slots.size ≤ ((1 : Int32)).toNatClampNeg) := inb_of cl27S ⟨by decide, by decide⟩
  obtain ⟨T27, h27, X27, e27, W27, st27⟩ := stR X26 hx hZ e26 cl27A (j := (1 : Int32)) cl27I rfl (Or.inl rfl) (g := (mkF m 53 #[.val (.ref a0), .val (.ref x1), .val (.int (0 : Int32))] [.null, (.int (1 : Int32)), (.ref ar)])) rfl rfl (hb hby d14_53)
  have f28 := f17.wr W27
  have f29 := f18.other W27 (Or.inl Ne0)
  have f30 := f19.wr W27
  have f31 := f20.wr W27
  have f32 := f22.other W27 (Or.inl Ne0)
  have f33 : Arv Z h27 ar kA (.object cH) (4 : Int32) [(.ref x2), .null, .null, .null] .null := Arv.set cl27A cl27q cl27S cl27N cl27H cl27G rfl W27 1 rfl (Nat.le_of_ble_eq_true rfl)
  have Kp27 : Keep h0 h27 [ar, a0] := Kp16.wr W27 (Or.inl om0)
  have Z34 := Nat.le_trans Z23 (Nat.le_of_eq W27.size.symm)
  have N35 := Fr.snoc X27 N24 Ge1
  refine Goes.by st27 ?_
  refine Goes.by (fun _ => XS.aloadN X27.here hx rfl (hb hby d14_54) rfl rfl) ?_
  obtain ⟨_, T36, L36, Lc36, X36, hF36, hQ36, st36⟩ := own_cp X27 hx hZ hown (wq hw 89 rfl) (wq hw 91 rfl) (wq hw 1 rfl) (wq hw 90 rfl) (wq hw 2 rfl) (wq hw 92 rfl) (rmShrink l Z az hw [] a0 ar kA [(.ref x2), .null, .null, .null] h27 n0 Z34 f29 f33) (W := 0) (g := (mkF m 55 #[.val (.ref a0), .val (.ref x1), .val (.int (0 : Int32))] [(.ref a0)])) rfl (by rw [hml]; rfl) f28 (argsL := []) (rest := []) rfl (lenOf own_pd0 rfl) rfl (hb hby d14_55) e27 N35 (c' := 0) (s' := 0)
  obtain ⟨rfl, N36q, e36⟩ := hQ36
  have N37 := hF36 N36q
  refine Goes.by st36 ?_
  obtain ⟨fs, hr, hrun, hended, hW, hsame⟩ := X36.leave (v := none) (fun _ => rfl)
  refine Goes.mk _ _ ?_ ⟨hrun, hended, _, _, rfl, ?_, ⟨_, rfl⟩, hW, hsame.mono (by decide) (by decide)⟩
  · exact X36.returnOut hx Bd.returns (hb hby d14_58) hr
  · show QDrop2_1 Z a0 x1 ar kA x2 t1 t2 h0 n0 _ T36.heap _
    rw [e36]
    exact ⟨rfl, N37, Kp27, f29, f32, f33⟩
def QDrop2_2 (Z : State) (a0 : Addr) (x2 : Addr) (ar : Addr) (kA : ClassId) (x1 : Addr) (t1 : Int64) (t2 : Int64) (h0 : Heap) (n0 : Nat) (v : Option Value) (h : Heap) (L : List Loc) : Prop := v = none ∧ Fr n0 L ∧ Keep h0 h [ar, a0] ∧ Fld Z h a0 cD "heads" dA (.ref ar) ∧ Fld Z h a0 cD "count" "I" (.int (1 : Int32)) ∧ Arv Z h ar kA (.object cH) (4 : Int32) [(.ref x1), .null, .null, .null] .null
theorem efDrop2_2 (m : MethodId) (x0 : Addr) (x1 : Addr) : entryFrame m #[(.ref x0), (.ref x1)] 3 = mkF m 0 #[.val (.ref x0), .val (.ref x1), .unset] [] := by first | (simp [entryFrame, mkF, argsToLocals, Value.category]; done) | rfl
set_option maxRecDepth 65536 in
set_option maxHeartbeats 40000000 in
theorem rmDrop2_2 (l : Launch) (Z : State) (az : Array Value) (hw : ∀ d ∈ tables_1, d.before az Z = true) (ws : List Jvm.Cond) (a0 : Addr) (x2 : Addr) (ar : Addr) (kA : ClassId) (x1 : Addr) (t1 : Int64) (t2 : Int64) (h0 : Heap) (n0 : Nat) (Z0 : n0 ≤ h0.size) (F0 : Exa Z h0 a0 cD) (F1 : Fld Z h0 a0 cD "heads" dA (.ref ar)) (F2 : Fld Z h0 a0 cD "count" "I" (.int (2 : Int32))) (F3 : Arv Z h0 ar kA (.object cH) (4 : Int32) [(.ref x1), (.ref x2), .null, .null] .null) (F4 : Ovr Z kA cH) (F5 : Exa Z h0 x1 cH) (F6 : Fld Z h0 x1 cH "tick" "J" (.long t1)) (F7 : Exa Z h0 x2 cH) (F8 : Fld Z h0 x2 cH "tick" "J" (.long t2)) (Ne0 : a0 ≠ ar) (Ne1 : x1 ≠ a0) (Ne2 : x2 ≠ a0) (Ne3 : x1 ≠ ar) (Ne4 : x2 ≠ ar) (Ge0 : n0 ≤ a0) (Ge1 : n0 ≤ ar) (HD : fDue2 t2 t1 t2 = (2 : Int32)) :
    MetFree l y11 (head1 (Jvm.Cond.code y11 prog_4_method_9_code 3 none :: ws) ({ frames := 1, cells := 0, slots := 0, locals := 18 } : Room)) (fun a U => a = #[(.ref a0), (.ref x2)] ∧ Z.Warmed39 U.vm ∧ U.heap = h0) (fun _ _ _ _ _ => True) (fun _ U o U' => ∃ v L, o = .returned v ∧ QDrop2_2 Z a0 x2 ar kA x1 t1 t2 h0 n0 v U'.heap L ∧ FrameEnd U o U' L ({ frames := 1, cells := 0, slots := 0, locals := 18 } : Room).cells ({ frames := 1, cells := 0, slots := 0, locals := 18 } : Room).slots) := by
  refine MetFree.of_bodySF (plainFor_of_name own_pn_com_example_admit_one_admitone_engine_DueOrder) hisR ?_
  intro p e s m args below meth c s₁ Bd hml0 hP hK
  obtain ⟨rfl, hZ, hh⟩ := hP
  have hx := Bd.exec
  have hby := Bd.bytes
  have hml : c.maxLocals = 3 := hml0
  have hown : s.vm.findClass cD = some m.cls := findClass_of_methodNamed Bd.named
  have hnm := (name_of_methodNamed Bd.named Bd.method).1
  have X0 : Stand p l e ({ frames := 1, cells := 0, slots := 0, locals := 18 } : Room) s m #[(.ref a0), (.ref x2)] below meth c s₁ [] 0 0 := Stand.of_body Bd
  have e0 : s₁.heap = h0 := by rw [← hh, Bd.state]; rfl
  have N0 := Fr.nil n0
  have Kp0 : Keep h0 h0 [ar, a0] := Keep.refl _ _
  refine Goes.start ?_
  refine Goes.by (B := s₁.setTop (mkF m 0 #[.val (.ref a0), .val (.ref x2), .unset] [])) (fun t k => castTop (efDrop2_2 m a0 x2) k) ?_
  refine Goes.by (fun _ => XS.aloadN X0.here hx rfl (hb hby d14_0) rfl rfl) ?_
  refine Goes.by (fun _ => XS.aloadN X0.here hx rfl (hb hby d14_1) rfl rfl) ?_
  refine Goes.by (fun _ => getFR X0 hx hZ hown (wq hw 57 rfl) e0 F8 (g := (mkF m 2 #[.val (.ref a0), .val (.ref x2), .unset] [(.ref x2), (.ref a0)])) rfl rfl (hb hby d14_2)) ?_
  obtain ⟨_, T2, L2, Lc2, X2, hF2, hQ2, st2⟩ := own_cp X0 hx hZ hown (wq hw 31 rfl) (wq hw 33 rfl) (wq hw 1 rfl) (wq hw 32 rfl) (wq hw 2 rfl) (wq hw 34 rfl) (rmDue2 l Z az hw [] a0 t2 ar kA x1 x2 t1 t2 h0 n0 Z0 F0 F1 F2 F3 F4 F5 F6 F7 F8) (W := 0) (g := (mkF m 5 #[.val (.ref a0), .val (.ref x2), .unset] [(.long t2), (.ref a0)])) rfl (by rw [hml]; rfl) F0 (argsL := [(.long t2)]) (rest := []) rfl (lenOf own_pd1 rfl) rfl (hb hby d14_5) e0 N0 (c' := 0) (s' := 0)
  obtain ⟨rfl, N2q, e2⟩ := hQ2
  have N3 := hF2 N2q
  refine Goes.by st2 ?_
  rw [HD]
  show Goes p.tables e below _ (T2.setTop (mkF m 8 #[.val (.ref a0), .val (.ref x2), .unset] [(.int (2 : Int32))]))
  refine Goes.by (fun _ => XS.iconst X2.here hx rfl (hb hby d14_8)) ?_
  refine Goes.by (fun _ => XS.isub X2.here hx rfl (hb hby d14_9) rfl) ?_
  refine Goes.by (fun _ => XS.istoreN X2.here hx rfl (hb hby d14_10) rfl (l' := #[.val (.ref a0), .val (.ref x2), .val (.int (1 : Int32))]) rfl) ?_
  refine Goes.by (fun _ => XS.aloadN X2.here hx rfl (hb hby d14_11) rfl rfl) ?_
  obtain ⟨T4, X4, e4, st4⟩ := getF X2 hx hZ hown (host := "") (Or.inl (wq hw 11 rfl)) Via.refl e2 F1 (g := (mkF m 12 #[.val (.ref a0), .val (.ref x2), .val (.int (1 : Int32))] [(.ref a0)])) rfl rfl (hb hby d14_12)
  refine Goes.by st4 ?_
  refine Goes.by (fun _ => XS.iloadN X4.here hx rfl (hb hby d14_15) rfl) ?_
  refine Goes.by (fun _ => XS.iconst X4.here hx rfl (hb hby d14_16)) ?_
  refine Goes.by (fun _ => XS.iadd X4.here hx rfl (hb hby d14_17) rfl) ?_
  refine Goes.by (fun _ => XS.aloadN X4.here hx rfl (hb hby d14_18) rfl rfl) ?_
  obtain ⟨T5, X5, e5, st5⟩ := getF X4 hx hZ hown (host := "") (Or.inl (wq hw 11 rfl)) Via.refl e4 F1 (g := (mkF m 19 #[.val (.ref a0), .val (.ref x2), .val (.int (1 : Int32))] [(.ref a0), (.int (2 : Int32)), (.ref ar)])) rfl rfl (hb hby d14_19)
  refine Goes.by st5 ?_
  refine Goes.by (fun _ => XS.iloadN X5.here hx rfl (hb hby d14_22) rfl) ?_
  refine Goes.by (fun _ => XS.aloadN X5.here hx rfl (hb hby d14_23) rfl rfl) ?_
  obtain ⟨T6, X6, e6, st6⟩ := getF X5 hx hZ hown (host := "") (Or.inl (wq hw 29 rfl)) Via.refl e5 F2 (g := (mkF m 24 #[.val (.ref a0), .val (.ref x2), .val (.int (1 : Int32))] [(.ref a0), (.int (1 : Int32)), (.ref ar), (.int (2 : Int32)), (.ref ar)])) rfl rfl (hb hby d14_24)
  refine Goes.by st6 ?_
  refine Goes.by (fun _ => XS.iloadN X6.here hx rfl (hb hby d14_27) rfl) ?_
  refine Goes.by (fun _ => XS.isub X6.here hx rfl (hb hby d14_28) rfl) ?_
  refine Goes.by (fun _ => XS.iconst X6.here hx rfl (hb hby d14_29)) ?_
  refine Goes.by (fun _ => XS.isub X6.here hx rfl (hb hby d14_30) rfl) ?_
  obtain ⟨T7, h7, L7, X7, e7, Nn7, K7, V7, st7⟩ := cpA X6 hx hZ hown (wq hw 35 rfl) (wq hw 38 rfl) (wq hw 36 rfl) (wq hw 37 rfl) e6 (us := []) F3 F3 (Or.inr ⟨rfl, rfl, trivial⟩) (sp := (2 : Int32)) (dp := (1 : Int32)) (nn := (0 : Int32)) (by decide) (by decide) (by decide) (by decide) (by decide) rfl (Nat.le_of_ble_eq_true rfl) N3 Ge1 (g := (mkF m 31 #[.val (.ref a0), .val (.ref x2), .val (.int (1 : Int32))] [(.int (0 : Int32)), (.int (1 : Int32)), (.ref ar), (.int (2 : Int32)), (.ref ar)])) rfl (by rw [hml]; rfl) rfl (hb hby d14_31) (by decide) (W := 0) (by show 2 * 0 + _ ≤ _; exact Nat.le_of_eq rfl) (by decide)
  have f8 := F0.keep K7
  have f9 := F1.keep K7 (ninS Ne0 nin0)
  have f10 := F2.keep K7 (ninS Ne0 nin0)
  have f11 := F5.keep K7
  have f12 := F7.keep K7
  have f13 : Arv Z h7 ar kA (.object cH) (4 : Int32) [(.ref x1), (.ref x2), .null, .null] .null := V7
  have Kp7 : Keep h0 h7 [ar, a0] := Kp0.trans K7 (allS (Or.inl om0) all0)
  have Z14 := Nat.le_trans Z0 K7.1
  refine Goes.by st7 ?_
  refine Goes.by (fun _ => XS.aloadN X7.here hx rfl (hb hby d14_34) rfl rfl) ?_
  refine Goes.by (fun _ => XS.dup X7.here hx rfl (hb hby d14_35) rfl rfl) ?_
  obtain ⟨T15, X15, e15, st15⟩ := getF X7 hx hZ hown (host := "") (Or.inl (wq hw 29 rfl)) Via.refl e7 f10 (g := (mkF m 36 #[.val (.ref a0), .val (.ref x2), .val (.int (1 : Int32))] [(.ref a0), (.ref a0)])) rfl rfl (hb hby d14_36)
  refine Goes.by st15 ?_
  refine Goes.by (fun _ => XS.iconst X15.here hx rfl (hb hby d14_39)) ?_
  refine Goes.by (fun _ => XS.isub X15.here hx rfl (hb hby d14_40) rfl) ?_
  obtain ⟨T16, h16, X16, e16, W16, st16⟩ := putF X15 hx hZ hown (host := "") (Or.inl (wq hw 29 rfl)) Via.refl e15 f10 f8 (Or.inl (wq hw 30 rfl)) (wq hw 1 rfl) (ty := .int) (by decide) rfl rfl (g := (mkF m 41 #[.val (.ref a0), .val (.ref x2), .val (.int (1 : Int32))] [(.int (1 : Int32)), (.ref a0)])) rfl rfl (hb hby d14_41)
  have f17 := f8.wr W16
  have f18 := f9.other W16 (Or.inr (slot_ne (Or.inl (wq hw 12 rfl)) (Or.inl (wq hw 30 rfl)) (by decide) (t := (.array (.object cH))) (t' := .int) (by decide) (by decide)))
  have f19 := f11.wr W16
  have f20 := f12.wr W16
  have f21 := f13.other W16 (Ne.symm Ne0)
  have f22 : Fld Z h16 a0 cD "count" "I" (.int (1 : Int32)) := f10.same W16
  have Kp16 : Keep h0 h16 [ar, a0] := Kp7.wr W16 (Or.inl om1)
  have Z23 := Nat.le_trans Z14 (Nat.le_of_eq W16.size.symm)
  have N24 := Fr.snoc X16 Nn7 Ge0
  refine Goes.by st16 ?_
  refine Goes.by (fun _ => XS.aloadN X16.here hx rfl (hb hby d14_44) rfl rfl) ?_
  obtain ⟨T25, X25, e25, st25⟩ := getF X16 hx hZ hown (host := "") (Or.inl (wq hw 11 rfl)) Via.refl e16 f18 (g := (mkF m 45 #[.val (.ref a0), .val (.ref x2), .val (.int (1 : Int32))] [(.ref a0)])) rfl rfl (hb hby d14_45)
  refine Goes.by st25 ?_
  refine Goes.by (fun _ => XS.aloadN X25.here hx rfl (hb hby d14_48) rfl rfl) ?_
  obtain ⟨T26, X26, e26, st26⟩ := getF X25 hx hZ hown (host := "") (Or.inl (wq hw 29 rfl)) Via.refl e25 f22 (g := (mkF m 49 #[.val (.ref a0), .val (.ref x2), .val (.int (1 : Int32))] [(.ref a0), (.ref ar)])) rfl rfl (hb hby d14_49)
  refine Goes.by st26 ?_
  refine Goes.by (fun _ => XS.aconstNull X26.here hx rfl (hb hby d14_52)) ?_
  obtain ⟨cl27, cl27A, cl27q, cl27S, cl27N, cl27H, cl27G⟩ := id f21
  have cl27I : ¬ ((1 : Int32) < 0 ∨ cl27.slots.size ≤ ((1 : Int32)).toNatClampNeg) := inb_of cl27S ⟨by decide, by decide⟩
  obtain ⟨T27, h27, X27, e27, W27, st27⟩ := stR X26 hx hZ e26 cl27A (j := (1 : Int32)) cl27I rfl (Or.inl rfl) (g := (mkF m 53 #[.val (.ref a0), .val (.ref x2), .val (.int (1 : Int32))] [.null, (.int (1 : Int32)), (.ref ar)])) rfl rfl (hb hby d14_53)
  have f28 := f17.wr W27
  have f29 := f18.other W27 (Or.inl Ne0)
  have f30 := f19.wr W27
  have f31 := f20.wr W27
  have f32 := f22.other W27 (Or.inl Ne0)
  have f33 : Arv Z h27 ar kA (.object cH) (4 : Int32) [(.ref x1), .null, .null, .null] .null := Arv.set cl27A cl27q cl27S cl27N cl27H cl27G rfl W27 1 rfl (Nat.le_of_ble_eq_true rfl)
  have Kp27 : Keep h0 h27 [ar, a0] := Kp16.wr W27 (Or.inl om0)
  have Z34 := Nat.le_trans Z23 (Nat.le_of_eq W27.size.symm)
  have N35 := Fr.snoc X27 N24 Ge1
  refine Goes.by st27 ?_
  refine Goes.by (fun _ => XS.aloadN X27.here hx rfl (hb hby d14_54) rfl rfl) ?_
  obtain ⟨_, T36, L36, Lc36, X36, hF36, hQ36, st36⟩ := own_cp X27 hx hZ hown (wq hw 89 rfl) (wq hw 91 rfl) (wq hw 1 rfl) (wq hw 90 rfl) (wq hw 2 rfl) (wq hw 92 rfl) (rmShrink l Z az hw [] a0 ar kA [(.ref x1), .null, .null, .null] h27 n0 Z34 f29 f33) (W := 0) (g := (mkF m 55 #[.val (.ref a0), .val (.ref x2), .val (.int (1 : Int32))] [(.ref a0)])) rfl (by rw [hml]; rfl) f28 (argsL := []) (rest := []) rfl (lenOf own_pd0 rfl) rfl (hb hby d14_55) e27 N35 (c' := 0) (s' := 0)
  obtain ⟨rfl, N36q, e36⟩ := hQ36
  have N37 := hF36 N36q
  refine Goes.by st36 ?_
  obtain ⟨fs, hr, hrun, hended, hW, hsame⟩ := X36.leave (v := none) (fun _ => rfl)
  refine Goes.mk _ _ ?_ ⟨hrun, hended, _, _, rfl, ?_, ⟨_, rfl⟩, hW, hsame.mono (by decide) (by decide)⟩
  · exact X36.returnOut hx Bd.returns (hb hby d14_58) hr
  · show QDrop2_2 Z a0 x2 ar kA x1 t1 t2 h0 n0 _ T36.heap _
    rw [e36]
    exact ⟨rfl, N37, Kp27, f29, f32, f33⟩
def QDrop3_1 (Z : State) (a0 : Addr) (x1 : Addr) (ar : Addr) (kA : ClassId) (x2 : Addr) (x3 : Addr) (t1 : Int64) (t2 : Int64) (t3 : Int64) (h0 : Heap) (n0 : Nat) (v : Option Value) (h : Heap) (L : List Loc) : Prop := v = none ∧ Fr n0 L ∧ Keep h0 h [ar, a0] ∧ Fld Z h a0 cD "heads" dA (.ref ar) ∧ Fld Z h a0 cD "count" "I" (.int (2 : Int32)) ∧ Arv Z h ar kA (.object cH) (4 : Int32) [(.ref x2), (.ref x3), .null, .null] .null
theorem efDrop3_1 (m : MethodId) (x0 : Addr) (x1 : Addr) : entryFrame m #[(.ref x0), (.ref x1)] 3 = mkF m 0 #[.val (.ref x0), .val (.ref x1), .unset] [] := by first | (simp [entryFrame, mkF, argsToLocals, Value.category]; done) | rfl
set_option maxRecDepth 65536 in
set_option maxHeartbeats 40000000 in
theorem rmDrop3_1 (l : Launch) (Z : State) (az : Array Value) (hw : ∀ d ∈ tables_1, d.before az Z = true) (ws : List Jvm.Cond) (a0 : Addr) (x1 : Addr) (ar : Addr) (kA : ClassId) (x2 : Addr) (x3 : Addr) (t1 : Int64) (t2 : Int64) (t3 : Int64) (h0 : Heap) (n0 : Nat) (Z0 : n0 ≤ h0.size) (F0 : Exa Z h0 a0 cD) (F1 : Fld Z h0 a0 cD "heads" dA (.ref ar)) (F2 : Fld Z h0 a0 cD "count" "I" (.int (3 : Int32))) (F3 : Arv Z h0 ar kA (.object cH) (4 : Int32) [(.ref x1), (.ref x2), (.ref x3), .null] .null) (F4 : Ovr Z kA cH) (F5 : Exa Z h0 x1 cH) (F6 : Fld Z h0 x1 cH "tick" "J" (.long t1)) (F7 : Exa Z h0 x2 cH) (F8 : Fld Z h0 x2 cH "tick" "J" (.long t2)) (F9 : Exa Z h0 x3 cH) (F10 : Fld Z h0 x3 cH "tick" "J" (.long t3)) (Ne0 : a0 ≠ ar) (Ne1 : x1 ≠ a0) (Ne2 : x2 ≠ a0) (Ne3 : x3 ≠ a0) (Ne4 : x1 ≠ ar) (Ne5 : x2 ≠ ar) (Ne6 : x3 ≠ ar) (Ge0 : n0 ≤ a0) (Ge1 : n0 ≤ ar) (HD : fDue3 t1 t1 t2 t3 = (1 : Int32)) :
    MetFree l y11 (head1 (Jvm.Cond.code y11 prog_4_method_9_code 3 none :: ws) ({ frames := 1, cells := 0, slots := 0, locals := 18 } : Room)) (fun a U => a = #[(.ref a0), (.ref x1)] ∧ Z.Warmed39 U.vm ∧ U.heap = h0) (fun _ _ _ _ _ => True) (fun _ U o U' => ∃ v L, o = .returned v ∧ QDrop3_1 Z a0 x1 ar kA x2 x3 t1 t2 t3 h0 n0 v U'.heap L ∧ FrameEnd U o U' L ({ frames := 1, cells := 0, slots := 0, locals := 18 } : Room).cells ({ frames := 1, cells := 0, slots := 0, locals := 18 } : Room).slots) := by
  refine MetFree.of_bodySF (plainFor_of_name own_pn_com_example_admit_one_admitone_engine_DueOrder) hisR ?_
  intro p e s m args below meth c s₁ Bd hml0 hP hK
  obtain ⟨rfl, hZ, hh⟩ := hP
  have hx := Bd.exec
  have hby := Bd.bytes
  have hml : c.maxLocals = 3 := hml0
  have hown : s.vm.findClass cD = some m.cls := findClass_of_methodNamed Bd.named
  have hnm := (name_of_methodNamed Bd.named Bd.method).1
  have X0 : Stand p l e ({ frames := 1, cells := 0, slots := 0, locals := 18 } : Room) s m #[(.ref a0), (.ref x1)] below meth c s₁ [] 0 0 := Stand.of_body Bd
  have e0 : s₁.heap = h0 := by rw [← hh, Bd.state]; rfl
  have N0 := Fr.nil n0
  have Kp0 : Keep h0 h0 [ar, a0] := Keep.refl _ _
  refine Goes.start ?_
  refine Goes.by (B := s₁.setTop (mkF m 0 #[.val (.ref a0), .val (.ref x1), .unset] [])) (fun t k => castTop (efDrop3_1 m a0 x1) k) ?_
  refine Goes.by (fun _ => XS.aloadN X0.here hx rfl (hb hby d14_0) rfl rfl) ?_
  refine Goes.by (fun _ => XS.aloadN X0.here hx rfl (hb hby d14_1) rfl rfl) ?_
  refine Goes.by (fun _ => getFR X0 hx hZ hown (wq hw 57 rfl) e0 F6 (g := (mkF m 2 #[.val (.ref a0), .val (.ref x1), .unset] [(.ref x1), (.ref a0)])) rfl rfl (hb hby d14_2)) ?_
  obtain ⟨_, T2, L2, Lc2, X2, hF2, hQ2, st2⟩ := own_cp X0 hx hZ hown (wq hw 31 rfl) (wq hw 33 rfl) (wq hw 1 rfl) (wq hw 32 rfl) (wq hw 2 rfl) (wq hw 34 rfl) (rmDue3 l Z az hw [] a0 t1 ar kA x1 x2 x3 t1 t2 t3 h0 n0 Z0 F0 F1 F2 F3 F4 F5 F6 F7 F8 F9 F10) (W := 0) (g := (mkF m 5 #[.val (.ref a0), .val (.ref x1), .unset] [(.long t1), (.ref a0)])) rfl (by rw [hml]; rfl) F0 (argsL := [(.long t1)]) (rest := []) rfl (lenOf own_pd1 rfl) rfl (hb hby d14_5) e0 N0 (c' := 0) (s' := 0)
  obtain ⟨rfl, N2q, e2⟩ := hQ2
  have N3 := hF2 N2q
  refine Goes.by st2 ?_
  rw [HD]
  show Goes p.tables e below _ (T2.setTop (mkF m 8 #[.val (.ref a0), .val (.ref x1), .unset] [(.int (1 : Int32))]))
  refine Goes.by (fun _ => XS.iconst X2.here hx rfl (hb hby d14_8)) ?_
  refine Goes.by (fun _ => XS.isub X2.here hx rfl (hb hby d14_9) rfl) ?_
  refine Goes.by (fun _ => XS.istoreN X2.here hx rfl (hb hby d14_10) rfl (l' := #[.val (.ref a0), .val (.ref x1), .val (.int (0 : Int32))]) rfl) ?_
  refine Goes.by (fun _ => XS.aloadN X2.here hx rfl (hb hby d14_11) rfl rfl) ?_
  obtain ⟨T4, X4, e4, st4⟩ := getF X2 hx hZ hown (host := "") (Or.inl (wq hw 11 rfl)) Via.refl e2 F1 (g := (mkF m 12 #[.val (.ref a0), .val (.ref x1), .val (.int (0 : Int32))] [(.ref a0)])) rfl rfl (hb hby d14_12)
  refine Goes.by st4 ?_
  refine Goes.by (fun _ => XS.iloadN X4.here hx rfl (hb hby d14_15) rfl) ?_
  refine Goes.by (fun _ => XS.iconst X4.here hx rfl (hb hby d14_16)) ?_
  refine Goes.by (fun _ => XS.iadd X4.here hx rfl (hb hby d14_17) rfl) ?_
  refine Goes.by (fun _ => XS.aloadN X4.here hx rfl (hb hby d14_18) rfl rfl) ?_
  obtain ⟨T5, X5, e5, st5⟩ := getF X4 hx hZ hown (host := "") (Or.inl (wq hw 11 rfl)) Via.refl e4 F1 (g := (mkF m 19 #[.val (.ref a0), .val (.ref x1), .val (.int (0 : Int32))] [(.ref a0), (.int (1 : Int32)), (.ref ar)])) rfl rfl (hb hby d14_19)
  refine Goes.by st5 ?_
  refine Goes.by (fun _ => XS.iloadN X5.here hx rfl (hb hby d14_22) rfl) ?_
  refine Goes.by (fun _ => XS.aloadN X5.here hx rfl (hb hby d14_23) rfl rfl) ?_
  obtain ⟨T6, X6, e6, st6⟩ := getF X5 hx hZ hown (host := "") (Or.inl (wq hw 29 rfl)) Via.refl e5 F2 (g := (mkF m 24 #[.val (.ref a0), .val (.ref x1), .val (.int (0 : Int32))] [(.ref a0), (.int (0 : Int32)), (.ref ar), (.int (1 : Int32)), (.ref ar)])) rfl rfl (hb hby d14_24)
  refine Goes.by st6 ?_
  refine Goes.by (fun _ => XS.iloadN X6.here hx rfl (hb hby d14_27) rfl) ?_
  refine Goes.by (fun _ => XS.isub X6.here hx rfl (hb hby d14_28) rfl) ?_
  refine Goes.by (fun _ => XS.iconst X6.here hx rfl (hb hby d14_29)) ?_
  refine Goes.by (fun _ => XS.isub X6.here hx rfl (hb hby d14_30) rfl) ?_
  obtain ⟨cl7, cl7A, cl7q, -, -, -, -⟩ := id F3
  obtain ⟨T7, h7, L7, X7, e7, Nn7, K7, V7, st7⟩ := cpA X6 hx hZ hown (wq hw 35 rfl) (wq hw 38 rfl) (wq hw 36 rfl) (wq hw 37 rfl) e6 (us := [(.ref x2), (.ref x3)]) F3 F3 (Or.inr ⟨rfl, rfl, ⟨Sto.ofV cl7A cl7q F4 (Ins.self F7), ⟨Sto.ofV cl7A cl7q F4 (Ins.self F9), trivial⟩⟩⟩) (sp := (1 : Int32)) (dp := (0 : Int32)) (nn := (2 : Int32)) (by decide) (by decide) (by decide) (by decide) (by decide) rfl (Nat.le_of_ble_eq_true rfl) N3 Ge1 (g := (mkF m 31 #[.val (.ref a0), .val (.ref x1), .val (.int (0 : Int32))] [(.int (2 : Int32)), (.int (0 : Int32)), (.ref ar), (.int (1 : Int32)), (.ref ar)])) rfl (by rw [hml]; rfl) rfl (hb hby d14_31) (by decide) (W := 0) (by show 2 * 0 + _ ≤ _; exact Nat.le_of_eq rfl) (by decide)
  have f8 := F0.keep K7
  have f9 := F1.keep K7 (ninS Ne0 nin0)
  have f10 := F2.keep K7 (ninS Ne0 nin0)
  have f11 := F5.keep K7
  have f12 := F7.keep K7
  have f13 := F9.keep K7
  have f14 : Arv Z h7 ar kA (.object cH) (4 : Int32) [(.ref x2), (.ref x3), (.ref x3), .null] .null := V7
  have Kp7 : Keep h0 h7 [ar, a0] := Kp0.trans K7 (allS (Or.inl om0) all0)
  have Z15 := Nat.le_trans Z0 K7.1
  refine Goes.by st7 ?_
  refine Goes.by (fun _ => XS.aloadN X7.here hx rfl (hb hby d14_34) rfl rfl) ?_
  refine Goes.by (fun _ => XS.dup X7.here hx rfl (hb hby d14_35) rfl rfl) ?_
  obtain ⟨T16, X16, e16, st16⟩ := getF X7 hx hZ hown (host := "") (Or.inl (wq hw 29 rfl)) Via.refl e7 f10 (g := (mkF m 36 #[.val (.ref a0), .val (.ref x1), .val (.int (0 : Int32))] [(.ref a0), (.ref a0)])) rfl rfl (hb hby d14_36)
  refine Goes.by st16 ?_
  refine Goes.by (fun _ => XS.iconst X16.here hx rfl (hb hby d14_39)) ?_
  refine Goes.by (fun _ => XS.isub X16.here hx rfl (hb hby d14_40) rfl) ?_
  obtain ⟨T17, h17, X17, e17, W17, st17⟩ := putF X16 hx hZ hown (host := "") (Or.inl (wq hw 29 rfl)) Via.refl e16 f10 f8 (Or.inl (wq hw 30 rfl)) (wq hw 1 rfl) (ty := .int) (by decide) rfl rfl (g := (mkF m 41 #[.val (.ref a0), .val (.ref x1), .val (.int (0 : Int32))] [(.int (2 : Int32)), (.ref a0)])) rfl rfl (hb hby d14_41)
  have f18 := f8.wr W17
  have f19 := f9.other W17 (Or.inr (slot_ne (Or.inl (wq hw 12 rfl)) (Or.inl (wq hw 30 rfl)) (by decide) (t := (.array (.object cH))) (t' := .int) (by decide) (by decide)))
  have f20 := f11.wr W17
  have f21 := f12.wr W17
  have f22 := f13.wr W17
  have f23 := f14.other W17 (Ne.symm Ne0)
  have f24 : Fld Z h17 a0 cD "count" "I" (.int (2 : Int32)) := f10.same W17
  have Kp17 : Keep h0 h17 [ar, a0] := Kp7.wr W17 (Or.inl om1)
  have Z25 := Nat.le_trans Z15 (Nat.le_of_eq W17.size.symm)
  have N26 := Fr.snoc X17 Nn7 Ge0
  refine Goes.by st17 ?_
  refine Goes.by (fun _ => XS.aloadN X17.here hx rfl (hb hby d14_44) rfl rfl) ?_
  obtain ⟨T27, X27, e27, st27⟩ := getF X17 hx hZ hown (host := "") (Or.inl (wq hw 11 rfl)) Via.refl e17 f19 (g := (mkF m 45 #[.val (.ref a0), .val (.ref x1), .val (.int (0 : Int32))] [(.ref a0)])) rfl rfl (hb hby d14_45)
  refine Goes.by st27 ?_
  refine Goes.by (fun _ => XS.aloadN X27.here hx rfl (hb hby d14_48) rfl rfl) ?_
  obtain ⟨T28, X28, e28, st28⟩ := getF X27 hx hZ hown (host := "") (Or.inl (wq hw 29 rfl)) Via.refl e27 f24 (g := (mkF m 49 #[.val (.ref a0), .val (.ref x1), .val (.int (0 : Int32))] [(.ref a0), (.ref ar)])) rfl rfl (hb hby d14_49)
  refine Goes.by st28 ?_
  refine Goes.by (fun _ => XS.aconstNull X28.here hx rfl (hb hby d14_52)) ?_
  obtain ⟨cl29, cl29A, cl29q, cl29S, cl29N, cl29H, cl29G⟩ := id f23
  have cl29I : ¬ ((2 : Int32) < 0 ∨ cl29.slots.size ≤ ((2 : Int32)).toNatClampNeg) := inb_of cl29S ⟨by decide, by decide⟩
  obtain ⟨T29, h29, X29, e29, W29, st29⟩ := stR X28 hx hZ e28 cl29A (j := (2 : Int32)) cl29I rfl (Or.inl rfl) (g := (mkF m 53 #[.val (.ref a0), .val (.ref x1), .val (.int (0 : Int32))] [.null, (.int (2 : Int32)), (.ref ar)])) rfl rfl (hb hby d14_53)
  have f30 := f18.wr W29
  have f31 := f19.other W29 (Or.inl Ne0)
  have f32 := f20.wr W29
  have f33 := f21.wr W29
  have f34 := f22.wr W29
  have f35 := f24.other W29 (Or.inl Ne0)
  have f36 : Arv Z h29 ar kA (.object cH) (4 : Int32) [(.ref x2), (.ref x3), .null, .null] .null := Arv.set cl29A cl29q cl29S cl29N cl29H cl29G rfl W29 2 rfl (Nat.le_of_ble_eq_true rfl)
  have Kp29 : Keep h0 h29 [ar, a0] := Kp17.wr W29 (Or.inl om0)
  have Z37 := Nat.le_trans Z25 (Nat.le_of_eq W29.size.symm)
  have N38 := Fr.snoc X29 N26 Ge1
  refine Goes.by st29 ?_
  refine Goes.by (fun _ => XS.aloadN X29.here hx rfl (hb hby d14_54) rfl rfl) ?_
  obtain ⟨_, T39, L39, Lc39, X39, hF39, hQ39, st39⟩ := own_cp X29 hx hZ hown (wq hw 89 rfl) (wq hw 91 rfl) (wq hw 1 rfl) (wq hw 90 rfl) (wq hw 2 rfl) (wq hw 92 rfl) (rmShrink l Z az hw [] a0 ar kA [(.ref x2), (.ref x3), .null, .null] h29 n0 Z37 f31 f36) (W := 0) (g := (mkF m 55 #[.val (.ref a0), .val (.ref x1), .val (.int (0 : Int32))] [(.ref a0)])) rfl (by rw [hml]; rfl) f30 (argsL := []) (rest := []) rfl (lenOf own_pd0 rfl) rfl (hb hby d14_55) e29 N38 (c' := 0) (s' := 0)
  obtain ⟨rfl, N39q, e39⟩ := hQ39
  have N40 := hF39 N39q
  refine Goes.by st39 ?_
  obtain ⟨fs, hr, hrun, hended, hW, hsame⟩ := X39.leave (v := none) (fun _ => rfl)
  refine Goes.mk _ _ ?_ ⟨hrun, hended, _, _, rfl, ?_, ⟨_, rfl⟩, hW, hsame.mono (by decide) (by decide)⟩
  · exact X39.returnOut hx Bd.returns (hb hby d14_58) hr
  · show QDrop3_1 Z a0 x1 ar kA x2 x3 t1 t2 t3 h0 n0 _ T39.heap _
    rw [e39]
    exact ⟨rfl, N40, Kp29, f31, f35, f36⟩
def QDrop3_2 (Z : State) (a0 : Addr) (x2 : Addr) (ar : Addr) (kA : ClassId) (x1 : Addr) (x3 : Addr) (t1 : Int64) (t2 : Int64) (t3 : Int64) (h0 : Heap) (n0 : Nat) (v : Option Value) (h : Heap) (L : List Loc) : Prop := v = none ∧ Fr n0 L ∧ Keep h0 h [ar, a0] ∧ Fld Z h a0 cD "heads" dA (.ref ar) ∧ Fld Z h a0 cD "count" "I" (.int (2 : Int32)) ∧ Arv Z h ar kA (.object cH) (4 : Int32) [(.ref x1), (.ref x3), .null, .null] .null
theorem efDrop3_2 (m : MethodId) (x0 : Addr) (x1 : Addr) : entryFrame m #[(.ref x0), (.ref x1)] 3 = mkF m 0 #[.val (.ref x0), .val (.ref x1), .unset] [] := by first | (simp [entryFrame, mkF, argsToLocals, Value.category]; done) | rfl
set_option maxRecDepth 65536 in
set_option maxHeartbeats 40000000 in
theorem rmDrop3_2 (l : Launch) (Z : State) (az : Array Value) (hw : ∀ d ∈ tables_1, d.before az Z = true) (ws : List Jvm.Cond) (a0 : Addr) (x2 : Addr) (ar : Addr) (kA : ClassId) (x1 : Addr) (x3 : Addr) (t1 : Int64) (t2 : Int64) (t3 : Int64) (h0 : Heap) (n0 : Nat) (Z0 : n0 ≤ h0.size) (F0 : Exa Z h0 a0 cD) (F1 : Fld Z h0 a0 cD "heads" dA (.ref ar)) (F2 : Fld Z h0 a0 cD "count" "I" (.int (3 : Int32))) (F3 : Arv Z h0 ar kA (.object cH) (4 : Int32) [(.ref x1), (.ref x2), (.ref x3), .null] .null) (F4 : Ovr Z kA cH) (F5 : Exa Z h0 x1 cH) (F6 : Fld Z h0 x1 cH "tick" "J" (.long t1)) (F7 : Exa Z h0 x2 cH) (F8 : Fld Z h0 x2 cH "tick" "J" (.long t2)) (F9 : Exa Z h0 x3 cH) (F10 : Fld Z h0 x3 cH "tick" "J" (.long t3)) (Ne0 : a0 ≠ ar) (Ne1 : x1 ≠ a0) (Ne2 : x2 ≠ a0) (Ne3 : x3 ≠ a0) (Ne4 : x1 ≠ ar) (Ne5 : x2 ≠ ar) (Ne6 : x3 ≠ ar) (Ge0 : n0 ≤ a0) (Ge1 : n0 ≤ ar) (HD : fDue3 t2 t1 t2 t3 = (2 : Int32)) :
    MetFree l y11 (head1 (Jvm.Cond.code y11 prog_4_method_9_code 3 none :: ws) ({ frames := 1, cells := 0, slots := 0, locals := 18 } : Room)) (fun a U => a = #[(.ref a0), (.ref x2)] ∧ Z.Warmed39 U.vm ∧ U.heap = h0) (fun _ _ _ _ _ => True) (fun _ U o U' => ∃ v L, o = .returned v ∧ QDrop3_2 Z a0 x2 ar kA x1 x3 t1 t2 t3 h0 n0 v U'.heap L ∧ FrameEnd U o U' L ({ frames := 1, cells := 0, slots := 0, locals := 18 } : Room).cells ({ frames := 1, cells := 0, slots := 0, locals := 18 } : Room).slots) := by
  refine MetFree.of_bodySF (plainFor_of_name own_pn_com_example_admit_one_admitone_engine_DueOrder) hisR ?_
  intro p e s m args below meth c s₁ Bd hml0 hP hK
  obtain ⟨rfl, hZ, hh⟩ := hP
  have hx := Bd.exec
  have hby := Bd.bytes
  have hml : c.maxLocals = 3 := hml0
  have hown : s.vm.findClass cD = some m.cls := findClass_of_methodNamed Bd.named
  have hnm := (name_of_methodNamed Bd.named Bd.method).1
  have X0 : Stand p l e ({ frames := 1, cells := 0, slots := 0, locals := 18 } : Room) s m #[(.ref a0), (.ref x2)] below meth c s₁ [] 0 0 := Stand.of_body Bd
  have e0 : s₁.heap = h0 := by rw [← hh, Bd.state]; rfl
  have N0 := Fr.nil n0
  have Kp0 : Keep h0 h0 [ar, a0] := Keep.refl _ _
  refine Goes.start ?_
  refine Goes.by (B := s₁.setTop (mkF m 0 #[.val (.ref a0), .val (.ref x2), .unset] [])) (fun t k => castTop (efDrop3_2 m a0 x2) k) ?_
  refine Goes.by (fun _ => XS.aloadN X0.here hx rfl (hb hby d14_0) rfl rfl) ?_
  refine Goes.by (fun _ => XS.aloadN X0.here hx rfl (hb hby d14_1) rfl rfl) ?_
  refine Goes.by (fun _ => getFR X0 hx hZ hown (wq hw 57 rfl) e0 F8 (g := (mkF m 2 #[.val (.ref a0), .val (.ref x2), .unset] [(.ref x2), (.ref a0)])) rfl rfl (hb hby d14_2)) ?_
  obtain ⟨_, T2, L2, Lc2, X2, hF2, hQ2, st2⟩ := own_cp X0 hx hZ hown (wq hw 31 rfl) (wq hw 33 rfl) (wq hw 1 rfl) (wq hw 32 rfl) (wq hw 2 rfl) (wq hw 34 rfl) (rmDue3 l Z az hw [] a0 t2 ar kA x1 x2 x3 t1 t2 t3 h0 n0 Z0 F0 F1 F2 F3 F4 F5 F6 F7 F8 F9 F10) (W := 0) (g := (mkF m 5 #[.val (.ref a0), .val (.ref x2), .unset] [(.long t2), (.ref a0)])) rfl (by rw [hml]; rfl) F0 (argsL := [(.long t2)]) (rest := []) rfl (lenOf own_pd1 rfl) rfl (hb hby d14_5) e0 N0 (c' := 0) (s' := 0)
  obtain ⟨rfl, N2q, e2⟩ := hQ2
  have N3 := hF2 N2q
  refine Goes.by st2 ?_
  rw [HD]
  show Goes p.tables e below _ (T2.setTop (mkF m 8 #[.val (.ref a0), .val (.ref x2), .unset] [(.int (2 : Int32))]))
  refine Goes.by (fun _ => XS.iconst X2.here hx rfl (hb hby d14_8)) ?_
  refine Goes.by (fun _ => XS.isub X2.here hx rfl (hb hby d14_9) rfl) ?_
  refine Goes.by (fun _ => XS.istoreN X2.here hx rfl (hb hby d14_10) rfl (l' := #[.val (.ref a0), .val (.ref x2), .val (.int (1 : Int32))]) rfl) ?_
  refine Goes.by (fun _ => XS.aloadN X2.here hx rfl (hb hby d14_11) rfl rfl) ?_
  obtain ⟨T4, X4, e4, st4⟩ := getF X2 hx hZ hown (host := "") (Or.inl (wq hw 11 rfl)) Via.refl e2 F1 (g := (mkF m 12 #[.val (.ref a0), .val (.ref x2), .val (.int (1 : Int32))] [(.ref a0)])) rfl rfl (hb hby d14_12)
  refine Goes.by st4 ?_
  refine Goes.by (fun _ => XS.iloadN X4.here hx rfl (hb hby d14_15) rfl) ?_
  refine Goes.by (fun _ => XS.iconst X4.here hx rfl (hb hby d14_16)) ?_
  refine Goes.by (fun _ => XS.iadd X4.here hx rfl (hb hby d14_17) rfl) ?_
  refine Goes.by (fun _ => XS.aloadN X4.here hx rfl (hb hby d14_18) rfl rfl) ?_
  obtain ⟨T5, X5, e5, st5⟩ := getF X4 hx hZ hown (host := "") (Or.inl (wq hw 11 rfl)) Via.refl e4 F1 (g := (mkF m 19 #[.val (.ref a0), .val (.ref x2), .val (.int (1 : Int32))] [(.ref a0), (.int (2 : Int32)), (.ref ar)])) rfl rfl (hb hby d14_19)
  refine Goes.by st5 ?_
  refine Goes.by (fun _ => XS.iloadN X5.here hx rfl (hb hby d14_22) rfl) ?_
  refine Goes.by (fun _ => XS.aloadN X5.here hx rfl (hb hby d14_23) rfl rfl) ?_
  obtain ⟨T6, X6, e6, st6⟩ := getF X5 hx hZ hown (host := "") (Or.inl (wq hw 29 rfl)) Via.refl e5 F2 (g := (mkF m 24 #[.val (.ref a0), .val (.ref x2), .val (.int (1 : Int32))] [(.ref a0), (.int (1 : Int32)), (.ref ar), (.int (2 : Int32)), (.ref ar)])) rfl rfl (hb hby d14_24)
  refine Goes.by st6 ?_
  refine Goes.by (fun _ => XS.iloadN X6.here hx rfl (hb hby d14_27) rfl) ?_
  refine Goes.by (fun _ => XS.isub X6.here hx rfl (hb hby d14_28) rfl) ?_
  refine Goes.by (fun _ => XS.iconst X6.here hx rfl (hb hby d14_29)) ?_
  refine Goes.by (fun _ => XS.isub X6.here hx rfl (hb hby d14_30) rfl) ?_
  obtain ⟨cl7, cl7A, cl7q, -, -, -, -⟩ := id F3
  obtain ⟨T7, h7, L7, X7, e7, Nn7, K7, V7, st7⟩ := cpA X6 hx hZ hown (wq hw 35 rfl) (wq hw 38 rfl) (wq hw 36 rfl) (wq hw 37 rfl) e6 (us := [(.ref x3)]) F3 F3 (Or.inr ⟨rfl, rfl, ⟨Sto.ofV cl7A cl7q F4 (Ins.self F9), trivial⟩⟩) (sp := (2 : Int32)) (dp := (1 : Int32)) (nn := (1 : Int32)) (by decide) (by decide) (by decide) (by decide) (by decide) rfl (Nat.le_of_ble_eq_true rfl) N3 Ge1 (g := (mkF m 31 #[.val (.ref a0), .val (.ref x2), .val (.int (1 : Int32))] [(.int (1 : Int32)), (.int (1 : Int32)), (.ref ar), (.int (2 : Int32)), (.ref ar)])) rfl (by rw [hml]; rfl) rfl (hb hby d14_31) (by decide) (W := 0) (by show 2 * 0 + _ ≤ _; exact Nat.le_of_eq rfl) (by decide)
  have f8 := F0.keep K7
  have f9 := F1.keep K7 (ninS Ne0 nin0)
  have f10 := F2.keep K7 (ninS Ne0 nin0)
  have f11 := F5.keep K7
  have f12 := F7.keep K7
  have f13 := F9.keep K7
  have f14 : Arv Z h7 ar kA (.object cH) (4 : Int32) [(.ref x1), (.ref x3), (.ref x3), .null] .null := V7
  have Kp7 : Keep h0 h7 [ar, a0] := Kp0.trans K7 (allS (Or.inl om0) all0)
  have Z15 := Nat.le_trans Z0 K7.1
  refine Goes.by st7 ?_
  refine Goes.by (fun _ => XS.aloadN X7.here hx rfl (hb hby d14_34) rfl rfl) ?_
  refine Goes.by (fun _ => XS.dup X7.here hx rfl (hb hby d14_35) rfl rfl) ?_
  obtain ⟨T16, X16, e16, st16⟩ := getF X7 hx hZ hown (host := "") (Or.inl (wq hw 29 rfl)) Via.refl e7 f10 (g := (mkF m 36 #[.val (.ref a0), .val (.ref x2), .val (.int (1 : Int32))] [(.ref a0), (.ref a0)])) rfl rfl (hb hby d14_36)
  refine Goes.by st16 ?_
  refine Goes.by (fun _ => XS.iconst X16.here hx rfl (hb hby d14_39)) ?_
  refine Goes.by (fun _ => XS.isub X16.here hx rfl (hb hby d14_40) rfl) ?_
  obtain ⟨T17, h17, X17, e17, W17, st17⟩ := putF X16 hx hZ hown (host := "") (Or.inl (wq hw 29 rfl)) Via.refl e16 f10 f8 (Or.inl (wq hw 30 rfl)) (wq hw 1 rfl) (ty := .int) (by decide) rfl rfl (g := (mkF m 41 #[.val (.ref a0), .val (.ref x2), .val (.int (1 : Int32))] [(.int (2 : Int32)), (.ref a0)])) rfl rfl (hb hby d14_41)
  have f18 := f8.wr W17
  have f19 := f9.other W17 (Or.inr (slot_ne (Or.inl (wq hw 12 rfl)) (Or.inl (wq hw 30 rfl)) (by decide) (t := (.array (.object cH))) (t' := .int) (by decide) (by decide)))
  have f20 := f11.wr W17
  have f21 := f12.wr W17
  have f22 := f13.wr W17
  have f23 := f14.other W17 (Ne.symm Ne0)
  have f24 : Fld Z h17 a0 cD "count" "I" (.int (2 : Int32)) := f10.same W17
  have Kp17 : Keep h0 h17 [ar, a0] := Kp7.wr W17 (Or.inl om1)
  have Z25 := Nat.le_trans Z15 (Nat.le_of_eq W17.size.symm)
  have N26 := Fr.snoc X17 Nn7 Ge0
  refine Goes.by st17 ?_
  refine Goes.by (fun _ => XS.aloadN X17.here hx rfl (hb hby d14_44) rfl rfl) ?_
  obtain ⟨T27, X27, e27, st27⟩ := getF X17 hx hZ hown (host := "") (Or.inl (wq hw 11 rfl)) Via.refl e17 f19 (g := (mkF m 45 #[.val (.ref a0), .val (.ref x2), .val (.int (1 : Int32))] [(.ref a0)])) rfl rfl (hb hby d14_45)
  refine Goes.by st27 ?_
  refine Goes.by (fun _ => XS.aloadN X27.here hx rfl (hb hby d14_48) rfl rfl) ?_
  obtain ⟨T28, X28, e28, st28⟩ := getF X27 hx hZ hown (host := "") (Or.inl (wq hw 29 rfl)) Via.refl e27 f24 (g := (mkF m 49 #[.val (.ref a0), .val (.ref x2), .val (.int (1 : Int32))] [(.ref a0), (.ref ar)])) rfl rfl (hb hby d14_49)
  refine Goes.by st28 ?_
  refine Goes.by (fun _ => XS.aconstNull X28.here hx rfl (hb hby d14_52)) ?_
  obtain ⟨cl29, cl29A, cl29q, cl29S, cl29N, cl29H, cl29G⟩ := id f23
  have cl29I : ¬ ((2 : Int32) < 0 ∨ cl29.slots.size ≤ ((2 : Int32)).toNatClampNeg) := inb_of cl29S ⟨by decide, by decide⟩
  obtain ⟨T29, h29, X29, e29, W29, st29⟩ := stR X28 hx hZ e28 cl29A (j := (2 : Int32)) cl29I rfl (Or.inl rfl) (g := (mkF m 53 #[.val (.ref a0), .val (.ref x2), .val (.int (1 : Int32))] [.null, (.int (2 : Int32)), (.ref ar)])) rfl rfl (hb hby d14_53)
  have f30 := f18.wr W29
  have f31 := f19.other W29 (Or.inl Ne0)
  have f32 := f20.wr W29
  have f33 := f21.wr W29
  have f34 := f22.wr W29
  have f35 := f24.other W29 (Or.inl Ne0)
  have f36 : Arv Z h29 ar kA (.object cH) (4 : Int32) [(.ref x1), (.ref x3), .null, .null] .null := Arv.set cl29A cl29q cl29S cl29N cl29H cl29G rfl W29 2 rfl (Nat.le_of_ble_eq_true rfl)
  have Kp29 : Keep h0 h29 [ar, a0] := Kp17.wr W29 (Or.inl om0)
  have Z37 := Nat.le_trans Z25 (Nat.le_of_eq W29.size.symm)
  have N38 := Fr.snoc X29 N26 Ge1
  refine Goes.by st29 ?_
  refine Goes.by (fun _ => XS.aloadN X29.here hx rfl (hb hby d14_54) rfl rfl) ?_
  obtain ⟨_, T39, L39, Lc39, X39, hF39, hQ39, st39⟩ := own_cp X29 hx hZ hown (wq hw 89 rfl) (wq hw 91 rfl) (wq hw 1 rfl) (wq hw 90 rfl) (wq hw 2 rfl) (wq hw 92 rfl) (rmShrink l Z az hw [] a0 ar kA [(.ref x1), (.ref x3), .null, .null] h29 n0 Z37 f31 f36) (W := 0) (g := (mkF m 55 #[.val (.ref a0), .val (.ref x2), .val (.int (1 : Int32))] [(.ref a0)])) rfl (by rw [hml]; rfl) f30 (argsL := []) (rest := []) rfl (lenOf own_pd0 rfl) rfl (hb hby d14_55) e29 N38 (c' := 0) (s' := 0)
  obtain ⟨rfl, N39q, e39⟩ := hQ39
  have N40 := hF39 N39q
  refine Goes.by st39 ?_
  obtain ⟨fs, hr, hrun, hended, hW, hsame⟩ := X39.leave (v := none) (fun _ => rfl)
  refine Goes.mk _ _ ?_ ⟨hrun, hended, _, _, rfl, ?_, ⟨_, rfl⟩, hW, hsame.mono (by decide) (by decide)⟩
  · exact X39.returnOut hx Bd.returns (hb hby d14_58) hr
  · show QDrop3_2 Z a0 x2 ar kA x1 x3 t1 t2 t3 h0 n0 _ T39.heap _
    rw [e39]
    exact ⟨rfl, N40, Kp29, f31, f35, f36⟩
def QDrop3_3 (Z : State) (a0 : Addr) (x3 : Addr) (ar : Addr) (kA : ClassId) (x1 : Addr) (x2 : Addr) (t1 : Int64) (t2 : Int64) (t3 : Int64) (h0 : Heap) (n0 : Nat) (v : Option Value) (h : Heap) (L : List Loc) : Prop := v = none ∧ Fr n0 L ∧ Keep h0 h [ar, a0] ∧ Fld Z h a0 cD "heads" dA (.ref ar) ∧ Fld Z h a0 cD "count" "I" (.int (2 : Int32)) ∧ Arv Z h ar kA (.object cH) (4 : Int32) [(.ref x1), (.ref x2), .null, .null] .null
theorem efDrop3_3 (m : MethodId) (x0 : Addr) (x1 : Addr) : entryFrame m #[(.ref x0), (.ref x1)] 3 = mkF m 0 #[.val (.ref x0), .val (.ref x1), .unset] [] := by first | (simp [entryFrame, mkF, argsToLocals, Value.category]; done) | rfl
set_option maxRecDepth 65536 in
set_option maxHeartbeats 40000000 in
theorem rmDrop3_3 (l : Launch) (Z : State) (az : Array Value) (hw : ∀ d ∈ tables_1, d.before az Z = true) (ws : List Jvm.Cond) (a0 : Addr) (x3 : Addr) (ar : Addr) (kA : ClassId) (x1 : Addr) (x2 : Addr) (t1 : Int64) (t2 : Int64) (t3 : Int64) (h0 : Heap) (n0 : Nat) (Z0 : n0 ≤ h0.size) (F0 : Exa Z h0 a0 cD) (F1 : Fld Z h0 a0 cD "heads" dA (.ref ar)) (F2 : Fld Z h0 a0 cD "count" "I" (.int (3 : Int32))) (F3 : Arv Z h0 ar kA (.object cH) (4 : Int32) [(.ref x1), (.ref x2), (.ref x3), .null] .null) (F4 : Ovr Z kA cH) (F5 : Exa Z h0 x1 cH) (F6 : Fld Z h0 x1 cH "tick" "J" (.long t1)) (F7 : Exa Z h0 x2 cH) (F8 : Fld Z h0 x2 cH "tick" "J" (.long t2)) (F9 : Exa Z h0 x3 cH) (F10 : Fld Z h0 x3 cH "tick" "J" (.long t3)) (Ne0 : a0 ≠ ar) (Ne1 : x1 ≠ a0) (Ne2 : x2 ≠ a0) (Ne3 : x3 ≠ a0) (Ne4 : x1 ≠ ar) (Ne5 : x2 ≠ ar) (Ne6 : x3 ≠ ar) (Ge0 : n0 ≤ a0) (Ge1 : n0 ≤ ar) (HD : fDue3 t3 t1 t2 t3 = (3 : Int32)) :
    MetFree l y11 (head1 (Jvm.Cond.code y11 prog_4_method_9_code 3 none :: ws) ({ frames := 1, cells := 0, slots := 0, locals := 18 } : Room)) (fun a U => a = #[(.ref a0), (.ref x3)] ∧ Z.Warmed39 U.vm ∧ U.heap = h0) (fun _ _ _ _ _ => True) (fun _ U o U' => ∃ v L, o = .returned v ∧ QDrop3_3 Z a0 x3 ar kA x1 x2 t1 t2 t3 h0 n0 v U'.heap L ∧ FrameEnd U o U' L ({ frames := 1, cells := 0, slots := 0, locals := 18 } : Room).cells ({ frames := 1, cells := 0, slots := 0, locals := 18 } : Room).slots) := by
  refine MetFree.of_bodySF (plainFor_of_name own_pn_com_example_admit_one_admitone_engine_DueOrder) hisR ?_
  intro p e s m args below meth c s₁ Bd hml0 hP hK
  obtain ⟨rfl, hZ, hh⟩ := hP
  have hx := Bd.exec
  have hby := Bd.bytes
  have hml : c.maxLocals = 3 := hml0
  have hown : s.vm.findClass cD = some m.cls := findClass_of_methodNamed Bd.named
  have hnm := (name_of_methodNamed Bd.named Bd.method).1
  have X0 : Stand p l e ({ frames := 1, cells := 0, slots := 0, locals := 18 } : Room) s m #[(.ref a0), (.ref x3)] below meth c s₁ [] 0 0 := Stand.of_body Bd
  have e0 : s₁.heap = h0 := by rw [← hh, Bd.state]; rfl
  have N0 := Fr.nil n0
  have Kp0 : Keep h0 h0 [ar, a0] := Keep.refl _ _
  refine Goes.start ?_
  refine Goes.by (B := s₁.setTop (mkF m 0 #[.val (.ref a0), .val (.ref x3), .unset] [])) (fun t k => castTop (efDrop3_3 m a0 x3) k) ?_
  refine Goes.by (fun _ => XS.aloadN X0.here hx rfl (hb hby d14_0) rfl rfl) ?_
  refine Goes.by (fun _ => XS.aloadN X0.here hx rfl (hb hby d14_1) rfl rfl) ?_
  refine Goes.by (fun _ => getFR X0 hx hZ hown (wq hw 57 rfl) e0 F10 (g := (mkF m 2 #[.val (.ref a0), .val (.ref x3), .unset] [(.ref x3), (.ref a0)])) rfl rfl (hb hby d14_2)) ?_
  obtain ⟨_, T2, L2, Lc2, X2, hF2, hQ2, st2⟩ := own_cp X0 hx hZ hown (wq hw 31 rfl) (wq hw 33 rfl) (wq hw 1 rfl) (wq hw 32 rfl) (wq hw 2 rfl) (wq hw 34 rfl) (rmDue3 l Z az hw [] a0 t3 ar kA x1 x2 x3 t1 t2 t3 h0 n0 Z0 F0 F1 F2 F3 F4 F5 F6 F7 F8 F9 F10) (W := 0) (g := (mkF m 5 #[.val (.ref a0), .val (.ref x3), .unset] [(.long t3), (.ref a0)])) rfl (by rw [hml]; rfl) F0 (argsL := [(.long t3)]) (rest := []) rfl (lenOf own_pd1 rfl) rfl (hb hby d14_5) e0 N0 (c' := 0) (s' := 0)
  obtain ⟨rfl, N2q, e2⟩ := hQ2
  have N3 := hF2 N2q
  refine Goes.by st2 ?_
  rw [HD]
  show Goes p.tables e below _ (T2.setTop (mkF m 8 #[.val (.ref a0), .val (.ref x3), .unset] [(.int (3 : Int32))]))
  refine Goes.by (fun _ => XS.iconst X2.here hx rfl (hb hby d14_8)) ?_
  refine Goes.by (fun _ => XS.isub X2.here hx rfl (hb hby d14_9) rfl) ?_
  refine Goes.by (fun _ => XS.istoreN X2.here hx rfl (hb hby d14_10) rfl (l' := #[.val (.ref a0), .val (.ref x3), .val (.int (2 : Int32))]) rfl) ?_
  refine Goes.by (fun _ => XS.aloadN X2.here hx rfl (hb hby d14_11) rfl rfl) ?_
  obtain ⟨T4, X4, e4, st4⟩ := getF X2 hx hZ hown (host := "") (Or.inl (wq hw 11 rfl)) Via.refl e2 F1 (g := (mkF m 12 #[.val (.ref a0), .val (.ref x3), .val (.int (2 : Int32))] [(.ref a0)])) rfl rfl (hb hby d14_12)
  refine Goes.by st4 ?_
  refine Goes.by (fun _ => XS.iloadN X4.here hx rfl (hb hby d14_15) rfl) ?_
  refine Goes.by (fun _ => XS.iconst X4.here hx rfl (hb hby d14_16)) ?_
  refine Goes.by (fun _ => XS.iadd X4.here hx rfl (hb hby d14_17) rfl) ?_
  refine Goes.by (fun _ => XS.aloadN X4.here hx rfl (hb hby d14_18) rfl rfl) ?_
  obtain ⟨T5, X5, e5, st5⟩ := getF X4 hx hZ hown (host := "") (Or.inl (wq hw 11 rfl)) Via.refl e4 F1 (g := (mkF m 19 #[.val (.ref a0), .val (.ref x3), .val (.int (2 : Int32))] [(.ref a0), (.int (3 : Int32)), (.ref ar)])) rfl rfl (hb hby d14_19)
  refine Goes.by st5 ?_
  refine Goes.by (fun _ => XS.iloadN X5.here hx rfl (hb hby d14_22) rfl) ?_
  refine Goes.by (fun _ => XS.aloadN X5.here hx rfl (hb hby d14_23) rfl rfl) ?_
  obtain ⟨T6, X6, e6, st6⟩ := getF X5 hx hZ hown (host := "") (Or.inl (wq hw 29 rfl)) Via.refl e5 F2 (g := (mkF m 24 #[.val (.ref a0), .val (.ref x3), .val (.int (2 : Int32))] [(.ref a0), (.int (2 : Int32)), (.ref ar), (.int (3 : Int32)), (.ref ar)])) rfl rfl (hb hby d14_24)
  refine Goes.by st6 ?_
  refine Goes.by (fun _ => XS.iloadN X6.here hx rfl (hb hby d14_27) rfl) ?_
  refine Goes.by (fun _ => XS.isub X6.here hx rfl (hb hby d14_28) rfl) ?_
  refine Goes.by (fun _ => XS.iconst X6.here hx rfl (hb hby d14_29)) ?_
  refine Goes.by (fun _ => XS.isub X6.here hx rfl (hb hby d14_30) rfl) ?_
  obtain ⟨T7, h7, L7, X7, e7, Nn7, K7, V7, st7⟩ := cpA X6 hx hZ hown (wq hw 35 rfl) (wq hw 38 rfl) (wq hw 36 rfl) (wq hw 37 rfl) e6 (us := []) F3 F3 (Or.inr ⟨rfl, rfl, trivial⟩) (sp := (3 : Int32)) (dp := (2 : Int32)) (nn := (0 : Int32)) (by decide) (by decide) (by decide) (by decide) (by decide) rfl (Nat.le_of_ble_eq_true rfl) N3 Ge1 (g := (mkF m 31 #[.val (.ref a0), .val (.ref x3), .val (.int (2 : Int32))] [(.int (0 : Int32)), (.int (2 : Int32)), (.ref ar), (.int (3 : Int32)), (.ref ar)])) rfl (by rw [hml]; rfl) rfl (hb hby d14_31) (by decide) (W := 0) (by show 2 * 0 + _ ≤ _; exact Nat.le_of_eq rfl) (by decide)
  have f8 := F0.keep K7
  have f9 := F1.keep K7 (ninS Ne0 nin0)
  have f10 := F2.keep K7 (ninS Ne0 nin0)
  have f11 := F5.keep K7
  have f12 := F7.keep K7
  have f13 := F9.keep K7
  have f14 : Arv Z h7 ar kA (.object cH) (4 : Int32) [(.ref x1), (.ref x2), (.ref x3), .null] .null := V7
  have Kp7 : Keep h0 h7 [ar, a0] := Kp0.trans K7 (allS (Or.inl om0) all0)
  have Z15 := Nat.le_trans Z0 K7.1
  refine Goes.by st7 ?_
  refine Goes.by (fun _ => XS.aloadN X7.here hx rfl (hb hby d14_34) rfl rfl) ?_
  refine Goes.by (fun _ => XS.dup X7.here hx rfl (hb hby d14_35) rfl rfl) ?_
  obtain ⟨T16, X16, e16, st16⟩ := getF X7 hx hZ hown (host := "") (Or.inl (wq hw 29 rfl)) Via.refl e7 f10 (g := (mkF m 36 #[.val (.ref a0), .val (.ref x3), .val (.int (2 : Int32))] [(.ref a0), (.ref a0)])) rfl rfl (hb hby d14_36)
  refine Goes.by st16 ?_
  refine Goes.by (fun _ => XS.iconst X16.here hx rfl (hb hby d14_39)) ?_
  refine Goes.by (fun _ => XS.isub X16.here hx rfl (hb hby d14_40) rfl) ?_
  obtain ⟨T17, h17, X17, e17, W17, st17⟩ := putF X16 hx hZ hown (host := "") (Or.inl (wq hw 29 rfl)) Via.refl e16 f10 f8 (Or.inl (wq hw 30 rfl)) (wq hw 1 rfl) (ty := .int) (by decide) rfl rfl (g := (mkF m 41 #[.val (.ref a0), .val (.ref x3), .val (.int (2 : Int32))] [(.int (2 : Int32)), (.ref a0)])) rfl rfl (hb hby d14_41)
  have f18 := f8.wr W17
  have f19 := f9.other W17 (Or.inr (slot_ne (Or.inl (wq hw 12 rfl)) (Or.inl (wq hw 30 rfl)) (by decide) (t := (.array (.object cH))) (t' := .int) (by decide) (by decide)))
  have f20 := f11.wr W17
  have f21 := f12.wr W17
  have f22 := f13.wr W17
  have f23 := f14.other W17 (Ne.symm Ne0)
  have f24 : Fld Z h17 a0 cD "count" "I" (.int (2 : Int32)) := f10.same W17
  have Kp17 : Keep h0 h17 [ar, a0] := Kp7.wr W17 (Or.inl om1)
  have Z25 := Nat.le_trans Z15 (Nat.le_of_eq W17.size.symm)
  have N26 := Fr.snoc X17 Nn7 Ge0
  refine Goes.by st17 ?_
  refine Goes.by (fun _ => XS.aloadN X17.here hx rfl (hb hby d14_44) rfl rfl) ?_
  obtain ⟨T27, X27, e27, st27⟩ := getF X17 hx hZ hown (host := "") (Or.inl (wq hw 11 rfl)) Via.refl e17 f19 (g := (mkF m 45 #[.val (.ref a0), .val (.ref x3), .val (.int (2 : Int32))] [(.ref a0)])) rfl rfl (hb hby d14_45)
  refine Goes.by st27 ?_
  refine Goes.by (fun _ => XS.aloadN X27.here hx rfl (hb hby d14_48) rfl rfl) ?_
  obtain ⟨T28, X28, e28, st28⟩ := getF X27 hx hZ hown (host := "") (Or.inl (wq hw 29 rfl)) Via.refl e27 f24 (g := (mkF m 49 #[.val (.ref a0), .val (.ref x3), .val (.int (2 : Int32))] [(.ref a0), (.ref ar)])) rfl rfl (hb hby d14_49)
  refine Goes.by st28 ?_
  refine Goes.by (fun _ => XS.aconstNull X28.here hx rfl (hb hby d14_52)) ?_
  obtain ⟨cl29, cl29A, cl29q, cl29S, cl29N, cl29H, cl29G⟩ := id f23
  have cl29I : ¬ ((2 : Int32) < 0 ∨ cl29.slots.size ≤ ((2 : Int32)).toNatClampNeg) := inb_of cl29S ⟨by decide, by decide⟩
  obtain ⟨T29, h29, X29, e29, W29, st29⟩ := stR X28 hx hZ e28 cl29A (j := (2 : Int32)) cl29I rfl (Or.inl rfl) (g := (mkF m 53 #[.val (.ref a0), .val (.ref x3), .val (.int (2 : Int32))] [.null, (.int (2 : Int32)), (.ref ar)])) rfl rfl (hb hby d14_53)
  have f30 := f18.wr W29
  have f31 := f19.other W29 (Or.inl Ne0)
  have f32 := f20.wr W29
  have f33 := f21.wr W29
  have f34 := f22.wr W29
  have f35 := f24.other W29 (Or.inl Ne0)
  have f36 : Arv Z h29 ar kA (.object cH) (4 : Int32) [(.ref x1), (.ref x2), .null, .null] .null := Arv.set cl29A cl29q cl29S cl29N cl29H cl29G rfl W29 2 rfl (Nat.le_of_ble_eq_true rfl)
  have Kp29 : Keep h0 h29 [ar, a0] := Kp17.wr W29 (Or.inl om0)
  have Z37 := Nat.le_trans Z25 (Nat.le_of_eq W29.size.symm)
  have N38 := Fr.snoc X29 N26 Ge1
  refine Goes.by st29 ?_
  refine Goes.by (fun _ => XS.aloadN X29.here hx rfl (hb hby d14_54) rfl rfl) ?_
  obtain ⟨_, T39, L39, Lc39, X39, hF39, hQ39, st39⟩ := own_cp X29 hx hZ hown (wq hw 89 rfl) (wq hw 91 rfl) (wq hw 1 rfl) (wq hw 90 rfl) (wq hw 2 rfl) (wq hw 92 rfl) (rmShrink l Z az hw [] a0 ar kA [(.ref x1), (.ref x2), .null, .null] h29 n0 Z37 f31 f36) (W := 0) (g := (mkF m 55 #[.val (.ref a0), .val (.ref x3), .val (.int (2 : Int32))] [(.ref a0)])) rfl (by rw [hml]; rfl) f30 (argsL := []) (rest := []) rfl (lenOf own_pd0 rfl) rfl (hb hby d14_55) e29 N38 (c' := 0) (s' := 0)
  obtain ⟨rfl, N39q, e39⟩ := hQ39
  have N40 := hF39 N39q
  refine Goes.by st39 ?_
  obtain ⟨fs, hr, hrun, hended, hW, hsame⟩ := X39.leave (v := none) (fun _ => rfl)
  refine Goes.mk _ _ ?_ ⟨hrun, hended, _, _, rfl, ?_, ⟨_, rfl⟩, hW, hsame.mono (by decide) (by decide)⟩
  · exact X39.returnOut hx Bd.returns (hb hby d14_58) hr
  · show QDrop3_3 Z a0 x3 ar kA x1 x2 t1 t2 t3 h0 n0 _ T39.heap _
    rw [e39]
    exact ⟨rfl, N40, Kp29, f31, f35, f36⟩
theorem d4_0 : decode prog_4_method_5_code 0 = .ok (.aload_n 0, 1) := by decide +kernel
theorem d4_1 : decode prog_4_method_5_code 1 = .ok (.lload_n 2, 1) := by decide +kernel
theorem d4_2 : decode prog_4_method_5_code 2 = .ok (.invokevirtual 33, 3) := by decide +kernel
theorem own_pd3 : parseMethodDescriptor "(J)Lcom/example/admit_one/admitone/engine/DueOrder$Head;" = some ⟨[.long], some (.object cH)⟩ := by decide +kernel
theorem d4_5 : decode prog_4_method_5_code 5 = .ok (.astore 4, 2) := by decide +kernel
theorem d4_7 : decode prog_4_method_5_code 7 = .ok (.aload_n 1, 1) := by decide +kernel
theorem d4_8 : decode prog_4_method_5_code 8 = .ok (.aload 4, 2) := by decide +kernel
theorem d4_10 : decode prog_4_method_5_code 10 = .ok (.getfield 37, 3) := by decide +kernel
theorem d4_13 : decode prog_4_method_5_code 13 = .ok (.putfield 37, 3) := by decide +kernel
theorem d4_16 : decode prog_4_method_5_code 16 = .ok (.aload_n 1, 1) := by decide +kernel
theorem d4_17 : decode prog_4_method_5_code 17 = .ok (.aload 4, 2) := by decide +kernel
theorem d4_19 : decode prog_4_method_5_code 19 = .ok (.putfield 27, 3) := by decide +kernel
theorem d4_22 : decode prog_4_method_5_code 22 = .ok (.aload 4, 2) := by decide +kernel
theorem d4_24 : decode prog_4_method_5_code 24 = .ok (.getfield 37, 3) := by decide +kernel
theorem d4_27 : decode prog_4_method_5_code 27 = .ok (.aload_n 1, 1) := by decide +kernel
theorem d4_28 : decode prog_4_method_5_code 28 = .ok (.putfield 27, 3) := by decide +kernel
theorem d4_31 : decode prog_4_method_5_code 31 = .ok (.aload 4, 2) := by decide +kernel
theorem d4_33 : decode prog_4_method_5_code 33 = .ok (.aload_n 1, 1) := by decide +kernel
theorem d4_34 : decode prog_4_method_5_code 34 = .ok (.putfield 37, 3) := by decide +kernel
theorem d4_37 : decode prog_4_method_5_code 37 = .ok (.return_, 1) := by decide +kernel
def QFile0 (Z : State) (a0 : Addr) (a1 : Addr) (q2 : Int64) (ar : Addr) (kA : ClassId) (nl : Value) (pl : Value) (h0 : Heap) (n0 : Nat) (v : Option Value) (h : Heap) (L : List Loc) : Prop := (∃ b2 : Addr, v = none ∧ Fr n0 L ∧ Keep h0 h [ar, a0, a1] ∧ h0.size ≤ b2 ∧ Fld Z h a0 cD "heads" dA (.ref ar) ∧ Fld Z h a0 cD "count" "I" (.int (1 : Int32)) ∧ Arv Z h ar kA (.object cH) (4 : Int32) [(.ref b2), .null, .null, .null] .null ∧ Exa Z h b2 cH ∧ Fld Z h b2 cH "tick" "J" (.long q2) ∧ Fld Z h b2 cL "next" dL (.ref a1) ∧ Fld Z h b2 cL "prev" dL (.ref a1) ∧ Fld Z h a1 cL "next" dL (.ref b2) ∧ Fld Z h a1 cL "prev" dL (.ref b2))
theorem efFile0 (m : MethodId) (x0 : Addr) (x1 : Addr) (x2 : Int64) : entryFrame m #[(.ref x0), (.ref x1), (.long x2)] 5 = mkF m 0 #[.val (.ref x0), .val (.ref x1), .val (.long x2), .second, .unset] [] := by first | (simp [entryFrame, mkF, argsToLocals, Value.category]; done) | rfl
set_option maxRecDepth 65536 in
set_option maxHeartbeats 40000000 in
theorem rmFile0 (l : Launch) (Z : State) (az : Array Value) (hw : ∀ d ∈ tables_1, d.before az Z = true) (ws : List Jvm.Cond) (a0 : Addr) (a1 : Addr) (q2 : Int64) (ar : Addr) (kA : ClassId) (nl : Value) (pl : Value) (h0 : Heap) (n0 : Nat) (Z0 : n0 ≤ h0.size) (F0 : Exa Z h0 a0 cD) (F1 : Fld Z h0 a0 cD "heads" dA (.ref ar)) (F2 : Fld Z h0 a0 cD "count" "I" (.int (0 : Int32))) (F3 : Arv Z h0 ar kA (.object cH) (4 : Int32) [.null, .null, .null, .null] .null) (F4 : Ovr Z kA cH) (F5 : Exa Z h0 a1 cL) (F6 : Fld Z h0 a1 cL "next" dL nl) (F7 : Fld Z h0 a1 cL "prev" dL pl) (Ne0 : a0 ≠ ar) (Ne1 : a1 ≠ a0) (Ne2 : a1 ≠ ar) (Ge0 : n0 ≤ a0) (Ge1 : n0 ≤ ar) (Ge2 : n0 ≤ a1) :
    MetFree l y2 (head1 (Jvm.Cond.code y2 prog_4_method_5_code 5 none :: ws) ({ frames := 4, cells := 1, slots := 3, locals := 55 } : Room)) (fun a U => a = #[(.ref a0), (.ref a1), (.long q2)] ∧ Z.Warmed39 U.vm ∧ U.heap = h0) (fun _ _ _ _ _ => True) (fun _ U o U' => ∃ v L, o = .returned v ∧ QFile0 Z a0 a1 q2 ar kA nl pl h0 n0 v U'.heap L ∧ FrameEnd U o U' L ({ frames := 4, cells := 1, slots := 3, locals := 55 } : Room).cells ({ frames := 4, cells := 1, slots := 3, locals := 55 } : Room).slots) := by
  refine MetFree.of_bodySF (plainFor_of_name own_pn_com_example_admit_one_admitone_engine_DueOrder) hisR ?_
  intro p e s m args below meth c s₁ Bd hml0 hP hK
  obtain ⟨rfl, hZ, hh⟩ := hP
  have hx := Bd.exec
  have hby := Bd.bytes
  have hml : c.maxLocals = 5 := hml0
  have hown : s.vm.findClass cD = some m.cls := findClass_of_methodNamed Bd.named
  have hnm := (name_of_methodNamed Bd.named Bd.method).1
  have X0 : Stand p l e ({ frames := 4, cells := 1, slots := 3, locals := 55 } : Room) s m #[(.ref a0), (.ref a1), (.long q2)] below meth c s₁ [] 0 0 := Stand.of_body Bd
  have e0 : s₁.heap = h0 := by rw [← hh, Bd.state]; rfl
  have N0 := Fr.nil n0
  have Kp0 : Keep h0 h0 [] := Keep.refl _ _
  refine Goes.start ?_
  refine Goes.by (B := s₁.setTop (mkF m 0 #[.val (.ref a0), .val (.ref a1), .val (.long q2), .second, .unset] [])) (fun t k => castTop (efFile0 m a0 a1 q2) k) ?_
  refine Goes.by (fun _ => XS.aloadN X0.here hx rfl (hb hby d4_0) rfl rfl) ?_
  refine Goes.by (fun _ => XS.lloadN X0.here hx rfl (hb hby d4_1) rfl) ?_
  obtain ⟨_, T1, L1, Lc1, X1, hF1, hQ1, st1⟩ := own_cp X0 hx hZ hown (wq hw 25 rfl) (wq hw 27 rfl) (wq hw 1 rfl) (wq hw 26 rfl) (wq hw 2 rfl) (wq hw 28 rfl) (rmHeadOf0 l Z az hw [] a0 q2 ar kA h0 n0 Z0 F0 F1 F2 F3 F4 Ne0 Ge0 Ge1) (W := 0) (g := (mkF m 2 #[.val (.ref a0), .val (.ref a1), .val (.long q2), .second, .unset] [(.long q2), (.ref a0)])) rfl (by rw [hml]; rfl) F0 (argsL := [(.long q2)]) (rest := []) rfl (lenOf own_pd3 rfl) rfl (hb hby d4_2) e0 N0 (c' := 1) (s' := 3)
  rcases hQ1 with ⟨b2, rfl, Nq11, K12, sz10, f3, f4, f5, f6, f7, f8, f9⟩
  · have Kt14 : Keep h0 h0 [ar, a0, a1] := Keep.refl _ _
    have ne15 : a0 ≠ b2 := Nat.ne_of_lt (Nat.lt_of_lt_of_le F0.lt sz10)
    have ne16 : ar ≠ b2 := Nat.ne_of_lt (Nat.lt_of_lt_of_le F3.lt sz10)
    have ne17 : a1 ≠ b2 := Nat.ne_of_lt (Nat.lt_of_lt_of_le F5.lt sz10)
    have ge18 : n0 ≤ b2 := Nat.le_trans Z0 sz10
    have sz19 : h0.size ≤ b2 := Nat.le_trans Kt14.1 sz10
    have KK12 := K12
    have f20 := F0.keep KK12
    have f21 := F5.keep KK12
    have f22 := F6.keep KK12 (ninS Ne1 (ninS Ne2 nin0))
    have f23 := F7.keep KK12 (ninS Ne1 (ninS Ne2 nin0))
    have KpK12 := Kt14.trans K12 (allS (Or.inl om1) (allS (Or.inl om0) all0))
    have Z24 := Nat.le_trans Z0 K12.1
    have N25 := hF1 Nq11
    refine Goes.by st1 ?_
    show Goes p.tables e below _ (T1.setTop (mkF m 5 #[.val (.ref a0), .val (.ref a1), .val (.long q2), .second, .unset] [(.ref b2)]))
    refine Goes.by (fun _ => XS.astore X1.here hx rfl (hb hby d4_5) rfl rfl (l' := #[.val (.ref a0), .val (.ref a1), .val (.long q2), .second, .val (.ref b2)]) rfl) ?_
    refine Goes.by (fun _ => XS.aloadN X1.here hx rfl (hb hby d4_7) rfl rfl) ?_
    refine Goes.by (fun _ => XS.aload X1.here hx rfl (hb hby d4_8) rfl rfl) ?_
    refine Goes.by (fun _ => getFR X1 hx hZ hown (wq hw 53 rfl) rfl f9 (g := (mkF m 10 #[.val (.ref a0), .val (.ref a1), .val (.long q2), .second, .val (.ref b2)] [(.ref b2), (.ref a1)])) rfl rfl (hb hby d4_10)) ?_
    obtain ⟨T27, h27, X27, e27, W27, st27⟩ := putFR X1 hx hZ hown (wq hw 53 rfl) rfl f23 f21 (wq hw 54 rfl) (wq hw 14 rfl) (ty := (.object cL)) (by decide) rfl rfl (g := (mkF m 13 #[.val (.ref a0), .val (.ref a1), .val (.long q2), .second, .val (.ref b2)] [(.ref b2), (.ref a1)])) rfl rfl (hb hby d4_13)
    have f28 := f20.wr W27
    have f29 := f21.wr W27
    have f30 := f22.other W27 (Or.inr (slot_ne (Or.inl (wq hw 56 rfl)) (Or.inl (wq hw 54 rfl)) (by decide) (t := (.object cL)) (t' := (.object cL)) (by decide) (by decide)))
    have f31 := f3.other W27 (Or.inl (Ne.symm Ne1))
    have f32 := f4.other W27 (Or.inl (Ne.symm Ne1))
    have f33 := f5.other W27 (Ne.symm Ne2)
    have f34 := f6.wr W27
    have f35 := f7.other W27 (Or.inl (Ne.symm ne17))
    have f36 := f8.other W27 (Or.inl (Ne.symm ne17))
    have f37 := f9.other W27 (Or.inl (Ne.symm ne17))
    have f38 : Fld Z h27 a1 cL "prev" dL (.ref b2) := f23.same W27
    have Kp27 := KpK12.wr W27 (Or.inl om2)
    have Z39 := Nat.le_trans Z24 (Nat.le_of_eq W27.size.symm)
    have N40 := Fr.snoc X27 N25 Ge2
    refine Goes.by st27 ?_
    refine Goes.by (fun _ => XS.aloadN X27.here hx rfl (hb hby d4_16) rfl rfl) ?_
    refine Goes.by (fun _ => XS.aload X27.here hx rfl (hb hby d4_17) rfl rfl) ?_
    obtain ⟨T41, h41, X41, e41, W41, st41⟩ := putFR X27 hx hZ hown (wq hw 55 rfl) e27 f30 f29 (wq hw 56 rfl) (wq hw 14 rfl) (ty := (.object cL)) (by decide) rfl rfl (g := (mkF m 19 #[.val (.ref a0), .val (.ref a1), .val (.long q2), .second, .val (.ref b2)] [(.ref b2), (.ref a1)])) rfl rfl (hb hby d4_19)
    have f42 := f28.wr W41
    have f43 := f29.wr W41
    have f44 := f31.other W41 (Or.inl (Ne.symm Ne1))
    have f45 := f32.other W41 (Or.inl (Ne.symm Ne1))
    have f46 := f33.other W41 (Ne.symm Ne2)
    have f47 := f34.wr W41
    have f48 := f35.other W41 (Or.inl (Ne.symm ne17))
    have f49 := f36.other W41 (Or.inl (Ne.symm ne17))
    have f50 := f37.other W41 (Or.inl (Ne.symm ne17))
    have f51 := f38.other W41 (Or.inr (slot_ne (Or.inl (wq hw 54 rfl)) (Or.inl (wq hw 56 rfl)) (by decide) (t := (.object cL)) (t' := (.object cL)) (by decide) (by decide)))
    have f52 : Fld Z h41 a1 cL "next" dL (.ref b2) := f30.same W41
    have Kp41 := Kp27.wr W41 (Or.inl om2)
    have Z53 := Nat.le_trans Z39 (Nat.le_of_eq W41.size.symm)
    have N54 := Fr.snoc X41 N40 Ge2
    refine Goes.by st41 ?_
    refine Goes.by (fun _ => XS.aload X41.here hx rfl (hb hby d4_22) rfl rfl) ?_
    refine Goes.by (fun _ => getFR X41 hx hZ hown (wq hw 53 rfl) e41 f50 (g := (mkF m 24 #[.val (.ref a0), .val (.ref a1), .val (.long q2), .second, .val (.ref b2)] [(.ref b2)])) rfl rfl (hb hby d4_24)) ?_
    refine Goes.by (fun _ => XS.aloadN X41.here hx rfl (hb hby d4_27) rfl rfl) ?_
    obtain ⟨T56, h56, X56, e56, W56, st56⟩ := putFR X41 hx hZ hown (wq hw 55 rfl) e41 f49 f47 (wq hw 49 rfl) (wq hw 39 rfl) (ty := (.object cL)) (by decide) rfl rfl (g := (mkF m 28 #[.val (.ref a0), .val (.ref a1), .val (.long q2), .second, .val (.ref b2)] [(.ref a1), (.ref b2)])) rfl rfl (hb hby d4_28)
    have f57 := f42.wr W56
    have f58 := f43.wr W56
    have f59 := f44.other W56 (Or.inl ne15)
    have f60 := f45.other W56 (Or.inl ne15)
    have f61 := f46.other W56 ne16
    have f62 := f47.wr W56
    have f63 := f48.other W56 (Or.inr (slot_ne (Or.inr (wq hw 47 rfl)) (Or.inl (wq hw 49 rfl)) (by decide) (t := .long) (t' := (.object cL)) (by decide) (by decide)))
    have f64 := f50.other W56 (Or.inr (slot_ne (Or.inl (wq hw 51 rfl)) (Or.inl (wq hw 49 rfl)) (by decide) (t := (.object cL)) (t' := (.object cL)) (by decide) (by decide)))
    have f65 := f51.other W56 (Or.inl ne17)
    have f66 := f52.other W56 (Or.inl ne17)
    have f67 : Fld Z h56 b2 cL "next" dL (.ref a1) := f49.same W56
    have Kp56 := Kp41.wr W56 (Or.inr sz19)
    have Z68 := Nat.le_trans Z53 (Nat.le_of_eq W56.size.symm)
    have N69 := Fr.snoc X56 N54 ge18
    refine Goes.by st56 ?_
    refine Goes.by (fun _ => XS.aload X56.here hx rfl (hb hby d4_31) rfl rfl) ?_
    refine Goes.by (fun _ => XS.aloadN X56.here hx rfl (hb hby d4_33) rfl rfl) ?_
    obtain ⟨T70, h70, X70, e70, W70, st70⟩ := putFR X56 hx hZ hown (wq hw 53 rfl) e56 f64 f62 (wq hw 51 rfl) (wq hw 39 rfl) (ty := (.object cL)) (by decide) rfl rfl (g := (mkF m 34 #[.val (.ref a0), .val (.ref a1), .val (.long q2), .second, .val (.ref b2)] [(.ref a1), (.ref b2)])) rfl rfl (hb hby d4_34)
    have f71 := f57.wr W70
    have f72 := f58.wr W70
    have f73 := f59.other W70 (Or.inl ne15)
    have f74 := f60.other W70 (Or.inl ne15)
    have f75 := f61.other W70 ne16
    have f76 := f62.wr W70
    have f77 := f63.other W70 (Or.inr (slot_ne (Or.inr (wq hw 47 rfl)) (Or.inl (wq hw 51 rfl)) (by decide) (t := .long) (t' := (.object cL)) (by decide) (by decide)))
    have f78 := f65.other W70 (Or.inl ne17)
    have f79 := f66.other W70 (Or.inl ne17)
    have f80 := f67.other W70 (Or.inr (slot_ne (Or.inl (wq hw 49 rfl)) (Or.inl (wq hw 51 rfl)) (by decide) (t := (.object cL)) (t' := (.object cL)) (by decide) (by decide)))
    have f81 : Fld Z h70 b2 cL "prev" dL (.ref a1) := f64.same W70
    have Kp70 := Kp56.wr W70 (Or.inr sz19)
    have Z82 := Nat.le_trans Z68 (Nat.le_of_eq W70.size.symm)
    have N83 := Fr.snoc X70 N69 ge18
    refine Goes.by st70 ?_
    obtain ⟨fs, hr, hrun, hended, hW, hsame⟩ := X70.leave (v := none) (fun _ => rfl)
    refine Goes.mk _ _ ?_ ⟨hrun, hended, _, _, rfl, ?_, ⟨_, rfl⟩, hW, hsame.mono (by decide) (by decide)⟩
    · exact X70.returnOut hx Bd.returns (hb hby d4_37) hr
    · show QFile0 Z a0 a1 q2 ar kA nl pl h0 n0 _ T70.heap _
      rw [e70]
      exact ⟨b2, rfl, N83, Kp70, sz19, f73, f74, f75, f76, f77, f80, f81, f79, f78⟩
def QFile1 (Z : State) (a0 : Addr) (a1 : Addr) (q2 : Int64) (ar : Addr) (kA : ClassId) (x1 : Addr) (t1 : Int64) (nl : Value) (pl : Value) (z1 : Addr) (w1 : Value) (nx1 : Value) (pz1 : Value) (h0 : Heap) (n0 : Nat) (v : Option Value) (h : Heap) (L : List Loc) : Prop := (t1 = q2 ∧ v = none ∧ Fr n0 L ∧ Keep h0 h [a1, z1, x1] ∧ Fld Z h a1 cL "next" dL (.ref x1) ∧ Fld Z h a1 cL "prev" dL (.ref z1) ∧ Fld Z h z1 cL "next" dL (.ref a1) ∧ Fld Z h z1 cL "prev" dL pz1 ∧ Fld Z h x1 cL "next" dL nx1 ∧ Fld Z h x1 cL "prev" dL (.ref a1) ∧ Fld Z h x1 cH "tick" "J" (.long t1)) ∨ (∃ b5 : Addr, ¬ (t1 = q2) ∧ fDue1 q2 t1 = (0 : Int32) ∧ v = none ∧ Fr n0 L ∧ Keep h0 h [ar, a0, a1] ∧ h0.size ≤ b5 ∧ Fld Z h a0 cD "heads" dA (.ref ar) ∧ Fld Z h a0 cD "count" "I" (.int (2 : Int32)) ∧ Arv Z h ar kA (.object cH) (4 : Int32) [(.ref b5), (.ref x1), .null, .null] .null ∧ Exa Z h b5 cH ∧ Fld Z h b5 cH "tick" "J" (.long q2) ∧ Fld Z h b5 cL "next" dL (.ref a1) ∧ Fld Z h b5 cL "prev" dL (.ref a1) ∧ Fld Z h a1 cL "next" dL (.ref b5) ∧ Fld Z h a1 cL "prev" dL (.ref b5)) ∨ (∃ b18 : Addr, ¬ (t1 = q2) ∧ fDue1 q2 t1 = (1 : Int32) ∧ v = none ∧ Fr n0 L ∧ Keep h0 h [ar, a0, a1] ∧ h0.size ≤ b18 ∧ Fld Z h a0 cD "heads" dA (.ref ar) ∧ Fld Z h a0 cD "count" "I" (.int (2 : Int32)) ∧ Arv Z h ar kA (.object cH) (4 : Int32) [(.ref x1), (.ref b18), .null, .null] .null ∧ Exa Z h b18 cH ∧ Fld Z h b18 cH "tick" "J" (.long q2) ∧ Fld Z h b18 cL "next" dL (.ref a1) ∧ Fld Z h b18 cL "prev" dL (.ref a1) ∧ Fld Z h a1 cL "next" dL (.ref b18) ∧ Fld Z h a1 cL "prev" dL (.ref b18))
theorem efFile1 (m : MethodId) (x0 : Addr) (x1 : Addr) (x2 : Int64) : entryFrame m #[(.ref x0), (.ref x1), (.long x2)] 5 = mkF m 0 #[.val (.ref x0), .val (.ref x1), .val (.long x2), .second, .unset] [] := by first | (simp [entryFrame, mkF, argsToLocals, Value.category]; done) | rfl
set_option maxRecDepth 65536 in
set_option maxHeartbeats 40000000 in
theorem rmFile1 (l : Launch) (Z : State) (az : Array Value) (hw : ∀ d ∈ tables_1, d.before az Z = true) (ws : List Jvm.Cond) (a0 : Addr) (a1 : Addr) (q2 : Int64) (ar : Addr) (kA : ClassId) (x1 : Addr) (t1 : Int64) (nl : Value) (pl : Value) (z1 : Addr) (w1 : Value) (nx1 : Value) (pz1 : Value) (h0 : Heap) (n0 : Nat) (Z0 : n0 ≤ h0.size) (F0 : Exa Z h0 a0 cD) (F1 : Fld Z h0 a0 cD "heads" dA (.ref ar)) (F2 : Fld Z h0 a0 cD "count" "I" (.int (1 : Int32))) (F3 : Arv Z h0 ar kA (.object cH) (4 : Int32) [(.ref x1), .null, .null, .null] .null) (F4 : Ovr Z kA cH) (F5 : Exa Z h0 x1 cH) (F6 : Fld Z h0 x1 cH "tick" "J" (.long t1)) (F7 : Exa Z h0 a1 cL) (F8 : Fld Z h0 a1 cL "next" dL nl) (F9 : Fld Z h0 a1 cL "prev" dL pl) (F10 : Fld Z h0 x1 cL "prev" dL (.ref z1)) (F11 : Exa Z h0 z1 cL) (F12 : Fld Z h0 z1 cL "next" dL w1) (F13 : Fld Z h0 x1 cL "next" dL nx1) (F14 : Fld Z h0 z1 cL "prev" dL pz1) (Ne0 : a0 ≠ ar) (Ne1 : x1 ≠ a0) (Ne2 : x1 ≠ ar) (Ne3 : a1 ≠ a0) (Ne4 : a1 ≠ ar) (Ne5 : a1 ≠ x1) (Ne6 : a1 ≠ z1) (Ne7 : x1 ≠ z1) (Ge0 : n0 ≤ a0) (Ge1 : n0 ≤ ar) (Ge2 : n0 ≤ a1) (Ge3 : n0 ≤ x1) (Ge4 : n0 ≤ z1) :
    MetFree l y2 (head1 (Jvm.Cond.code y2 prog_4_method_5_code 5 none :: ws) ({ frames := 4, cells := 1, slots := 3, locals := 55 } : Room)) (fun a U => a = #[(.ref a0), (.ref a1), (.long q2)] ∧ Z.Warmed39 U.vm ∧ U.heap = h0) (fun _ _ _ _ _ => True) (fun _ U o U' => ∃ v L, o = .returned v ∧ QFile1 Z a0 a1 q2 ar kA x1 t1 nl pl z1 w1 nx1 pz1 h0 n0 v U'.heap L ∧ FrameEnd U o U' L ({ frames := 4, cells := 1, slots := 3, locals := 55 } : Room).cells ({ frames := 4, cells := 1, slots := 3, locals := 55 } : Room).slots) := by
  refine MetFree.of_bodySF (plainFor_of_name own_pn_com_example_admit_one_admitone_engine_DueOrder) hisR ?_
  intro p e s m args below meth c s₁ Bd hml0 hP hK
  obtain ⟨rfl, hZ, hh⟩ := hP
  have hx := Bd.exec
  have hby := Bd.bytes
  have hml : c.maxLocals = 5 := hml0
  have hown : s.vm.findClass cD = some m.cls := findClass_of_methodNamed Bd.named
  have hnm := (name_of_methodNamed Bd.named Bd.method).1
  have X0 : Stand p l e ({ frames := 4, cells := 1, slots := 3, locals := 55 } : Room) s m #[(.ref a0), (.ref a1), (.long q2)] below meth c s₁ [] 0 0 := Stand.of_body Bd
  have e0 : s₁.heap = h0 := by rw [← hh, Bd.state]; rfl
  have N0 := Fr.nil n0
  have Kp0 : Keep h0 h0 [] := Keep.refl _ _
  refine Goes.start ?_
  refine Goes.by (B := s₁.setTop (mkF m 0 #[.val (.ref a0), .val (.ref a1), .val (.long q2), .second, .unset] [])) (fun t k => castTop (efFile1 m a0 a1 q2) k) ?_
  refine Goes.by (fun _ => XS.aloadN X0.here hx rfl (hb hby d4_0) rfl rfl) ?_
  refine Goes.by (fun _ => XS.lloadN X0.here hx rfl (hb hby d4_1) rfl) ?_
  obtain ⟨_, T1, L1, Lc1, X1, hF1, hQ1, st1⟩ := own_cp X0 hx hZ hown (wq hw 25 rfl) (wq hw 27 rfl) (wq hw 1 rfl) (wq hw 26 rfl) (wq hw 2 rfl) (wq hw 28 rfl) (rmHeadOf1 l Z az hw [] a0 q2 ar kA x1 t1 h0 n0 Z0 F0 F1 F2 F3 F4 F5 F6 Ne0 Ne1 Ne2 Ge0 Ge1) (W := 0) (g := (mkF m 2 #[.val (.ref a0), .val (.ref a1), .val (.long q2), .second, .unset] [(.long q2), (.ref a0)])) rfl (by rw [hml]; rfl) F0 (argsL := [(.long q2)]) (rest := []) rfl (lenOf own_pd3 rfl) rfl (hb hby d4_2) e0 N0 (c' := 1) (s' := 3)
  rcases hQ1 with ⟨hd2, rfl, Nq3, K4⟩ | ⟨b5, hd6, hd7, rfl, Nq16, K17, sz15, f8, f9, f10, f11, f12, f13, f14⟩ | ⟨b18, hd19, hd20, rfl, Nq29, K30, sz28, f21, f22, f23, f24, f25, f26, f27⟩
  · have Kt32 : Keep h0 h0 [a1, z1, x1] := Keep.refl _ _
    have N33 := hF1 Nq3
    refine Goes.by st1 ?_
    show Goes p.tables e below _ (T1.setTop (mkF m 5 #[.val (.ref a0), .val (.ref a1), .val (.long q2), .second, .unset] [(.ref x1)]))
    refine Goes.by (fun _ => XS.astore X1.here hx rfl (hb hby d4_5) rfl rfl (l' := #[.val (.ref a0), .val (.ref a1), .val (.long q2), .second, .val (.ref x1)]) rfl) ?_
    refine Goes.by (fun _ => XS.aloadN X1.here hx rfl (hb hby d4_7) rfl rfl) ?_
    refine Goes.by (fun _ => XS.aload X1.here hx rfl (hb hby d4_8) rfl rfl) ?_
    refine Goes.by (fun _ => getFR X1 hx hZ hown (wq hw 53 rfl) K4 F10 (g := (mkF m 10 #[.val (.ref a0), .val (.ref a1), .val (.long q2), .second, .val (.ref x1)] [(.ref x1), (.ref a1)])) rfl rfl (hb hby d4_10)) ?_
    obtain ⟨T35, h35, X35, e35, W35, st35⟩ := putFR X1 hx hZ hown (wq hw 53 rfl) K4 F9 F7 (wq hw 54 rfl) (wq hw 14 rfl) (ty := (.object cL)) (by decide) rfl rfl (g := (mkF m 13 #[.val (.ref a0), .val (.ref a1), .val (.long q2), .second, .val (.ref x1)] [(.ref z1), (.ref a1)])) rfl rfl (hb hby d4_13)
    have f36 := F5.wr W35
    have f37 := F6.other W35 (Or.inl (Ne.symm Ne5))
    have f38 := F7.wr W35
    have f39 := F8.other W35 (Or.inr (slot_ne (Or.inl (wq hw 56 rfl)) (Or.inl (wq hw 54 rfl)) (by decide) (t := (.object cL)) (t' := (.object cL)) (by decide) (by decide)))
    have f40 := F10.other W35 (Or.inl (Ne.symm Ne5))
    have f41 := F11.wr W35
    have f42 := F12.other W35 (Or.inl (Ne.symm Ne6))
    have f43 := F13.other W35 (Or.inl (Ne.symm Ne5))
    have f44 := F14.other W35 (Or.inl (Ne.symm Ne6))
    have f45 : Fld Z h35 a1 cL "prev" dL (.ref z1) := F9.same W35
    have Kp35 := Kt32.wr W35 (Or.inl om0)
    have Z46 := Nat.le_trans Z0 (Nat.le_of_eq W35.size.symm)
    have N47 := Fr.snoc X35 N33 Ge2
    refine Goes.by st35 ?_
    refine Goes.by (fun _ => XS.aloadN X35.here hx rfl (hb hby d4_16) rfl rfl) ?_
    refine Goes.by (fun _ => XS.aload X35.here hx rfl (hb hby d4_17) rfl rfl) ?_
    obtain ⟨T48, h48, X48, e48, W48, st48⟩ := putFR X35 hx hZ hown (wq hw 55 rfl) e35 f39 f38 (wq hw 56 rfl) (wq hw 14 rfl) (ty := (.object cL)) (by decide) rfl rfl (g := (mkF m 19 #[.val (.ref a0), .val (.ref a1), .val (.long q2), .second, .val (.ref x1)] [(.ref x1), (.ref a1)])) rfl rfl (hb hby d4_19)
    have f49 := f36.wr W48
    have f50 := f37.other W48 (Or.inl (Ne.symm Ne5))
    have f51 := f38.wr W48
    have f52 := f40.other W48 (Or.inl (Ne.symm Ne5))
    have f53 := f41.wr W48
    have f54 := f42.other W48 (Or.inl (Ne.symm Ne6))
    have f55 := f43.other W48 (Or.inl (Ne.symm Ne5))
    have f56 := f44.other W48 (Or.inl (Ne.symm Ne6))
    have f57 := f45.other W48 (Or.inr (slot_ne (Or.inl (wq hw 54 rfl)) (Or.inl (wq hw 56 rfl)) (by decide) (t := (.object cL)) (t' := (.object cL)) (by decide) (by decide)))
    have f58 : Fld Z h48 a1 cL "next" dL (.ref x1) := f39.same W48
    have Kp48 := Kp35.wr W48 (Or.inl om0)
    have Z59 := Nat.le_trans Z46 (Nat.le_of_eq W48.size.symm)
    have N60 := Fr.snoc X48 N47 Ge2
    refine Goes.by st48 ?_
    refine Goes.by (fun _ => XS.aload X48.here hx rfl (hb hby d4_22) rfl rfl) ?_
    refine Goes.by (fun _ => getFR X48 hx hZ hown (wq hw 53 rfl) e48 f52 (g := (mkF m 24 #[.val (.ref a0), .val (.ref a1), .val (.long q2), .second, .val (.ref x1)] [(.ref x1)])) rfl rfl (hb hby d4_24)) ?_
    refine Goes.by (fun _ => XS.aloadN X48.here hx rfl (hb hby d4_27) rfl rfl) ?_
    obtain ⟨T62, h62, X62, e62, W62, st62⟩ := putFR X48 hx hZ hown (wq hw 55 rfl) e48 f54 f53 (wq hw 56 rfl) (wq hw 14 rfl) (ty := (.object cL)) (by decide) rfl rfl (g := (mkF m 28 #[.val (.ref a0), .val (.ref a1), .val (.long q2), .second, .val (.ref x1)] [(.ref a1), (.ref z1)])) rfl rfl (hb hby d4_28)
    have f63 := f49.wr W62
    have f64 := f50.other W62 (Or.inl Ne7)
    have f65 := f51.wr W62
    have f66 := f52.other W62 (Or.inl Ne7)
    have f67 := f53.wr W62
    have f68 := f55.other W62 (Or.inl Ne7)
    have f69 := f56.other W62 (Or.inr (slot_ne (Or.inl (wq hw 54 rfl)) (Or.inl (wq hw 56 rfl)) (by decide) (t := (.object cL)) (t' := (.object cL)) (by decide) (by decide)))
    have f70 := f57.other W62 (Or.inl Ne6)
    have f71 := f58.other W62 (Or.inl Ne6)
    have f72 : Fld Z h62 z1 cL "next" dL (.ref a1) := f54.same W62
    have Kp62 := Kp48.wr W62 (Or.inl om1)
    have Z73 := Nat.le_trans Z59 (Nat.le_of_eq W62.size.symm)
    have N74 := Fr.snoc X62 N60 Ge4
    refine Goes.by st62 ?_
    refine Goes.by (fun _ => XS.aload X62.here hx rfl (hb hby d4_31) rfl rfl) ?_
    refine Goes.by (fun _ => XS.aloadN X62.here hx rfl (hb hby d4_33) rfl rfl) ?_
    obtain ⟨T75, h75, X75, e75, W75, st75⟩ := putFR X62 hx hZ hown (wq hw 53 rfl) e62 f66 f63 (wq hw 51 rfl) (wq hw 39 rfl) (ty := (.object cL)) (by decide) rfl rfl (g := (mkF m 34 #[.val (.ref a0), .val (.ref a1), .val (.long q2), .second, .val (.ref x1)] [(.ref a1), (.ref x1)])) rfl rfl (hb hby d4_34)
    have f76 := f63.wr W75
    have f77 := f64.other W75 (Or.inr (slot_ne (Or.inr (wq hw 47 rfl)) (Or.inl (wq hw 51 rfl)) (by decide) (t := .long) (t' := (.object cL)) (by decide) (by decide)))
    have f78 := f65.wr W75
    have f79 := f67.wr W75
    have f80 := f68.other W75 (Or.inr (slot_ne (Or.inl (wq hw 49 rfl)) (Or.inl (wq hw 51 rfl)) (by decide) (t := (.object cL)) (t' := (.object cL)) (by decide) (by decide)))
    have f81 := f69.other W75 (Or.inl (Ne.symm Ne7))
    have f82 := f70.other W75 (Or.inl Ne5)
    have f83 := f71.other W75 (Or.inl Ne5)
    have f84 := f72.other W75 (Or.inl (Ne.symm Ne7))
    have f85 : Fld Z h75 x1 cL "prev" dL (.ref a1) := f66.same W75
    have Kp75 := Kp62.wr W75 (Or.inl om2)
    have Z86 := Nat.le_trans Z73 (Nat.le_of_eq W75.size.symm)
    have N87 := Fr.snoc X75 N74 Ge3
    refine Goes.by st75 ?_
    obtain ⟨fs, hr, hrun, hended, hW, hsame⟩ := X75.leave (v := none) (fun _ => rfl)
    refine Goes.mk _ _ ?_ ⟨hrun, hended, _, _, rfl, ?_, ⟨_, rfl⟩, hW, hsame.mono (by decide) (by decide)⟩
    · exact X75.returnOut hx Bd.returns (hb hby d4_37) hr
    · show QFile1 Z a0 a1 q2 ar kA x1 t1 nl pl z1 w1 nx1 pz1 h0 n0 _ T75.heap _
      rw [e75]
      exact (Or.inl ⟨hd2, rfl, N87, Kp75, f83, f82, f84, f81, f80, f85, f77⟩)
  · have Kt89 : Keep h0 h0 [ar, a0, a1] := Keep.refl _ _
    have ne90 : a0 ≠ b5 := Nat.ne_of_lt (Nat.lt_of_lt_of_le F0.lt sz15)
    have ne91 : ar ≠ b5 := Nat.ne_of_lt (Nat.lt_of_lt_of_le F3.lt sz15)
    have ne92 : a1 ≠ b5 := Nat.ne_of_lt (Nat.lt_of_lt_of_le F7.lt sz15)
    have ge93 : n0 ≤ b5 := Nat.le_trans Z0 sz15
    have sz94 : h0.size ≤ b5 := Nat.le_trans Kt89.1 sz15
    have KK17 := K17
    have f95 := F0.keep KK17
    have f96 := F7.keep KK17
    have f97 := F8.keep KK17 (ninS Ne3 (ninS Ne4 nin0))
    have f98 := F9.keep KK17 (ninS Ne3 (ninS Ne4 nin0))
    have KpK17 := Kt89.trans K17 (allS (Or.inl om1) (allS (Or.inl om0) all0))
    have Z99 := Nat.le_trans Z0 K17.1
    have N100 := hF1 Nq16
    refine Goes.by st1 ?_
    show Goes p.tables e below _ (T1.setTop (mkF m 5 #[.val (.ref a0), .val (.ref a1), .val (.long q2), .second, .unset] [(.ref b5)]))
    refine Goes.by (fun _ => XS.astore X1.here hx rfl (hb hby d4_5) rfl rfl (l' := #[.val (.ref a0), .val (.ref a1), .val (.long q2), .second, .val (.ref b5)]) rfl) ?_
    refine Goes.by (fun _ => XS.aloadN X1.here hx rfl (hb hby d4_7) rfl rfl) ?_
    refine Goes.by (fun _ => XS.aload X1.here hx rfl (hb hby d4_8) rfl rfl) ?_
    refine Goes.by (fun _ => getFR X1 hx hZ hown (wq hw 53 rfl) rfl f14 (g := (mkF m 10 #[.val (.ref a0), .val (.ref a1), .val (.long q2), .second, .val (.ref b5)] [(.ref b5), (.ref a1)])) rfl rfl (hb hby d4_10)) ?_
    obtain ⟨T102, h102, X102, e102, W102, st102⟩ := putFR X1 hx hZ hown (wq hw 53 rfl) rfl f98 f96 (wq hw 54 rfl) (wq hw 14 rfl) (ty := (.object cL)) (by decide) rfl rfl (g := (mkF m 13 #[.val (.ref a0), .val (.ref a1), .val (.long q2), .second, .val (.ref b5)] [(.ref b5), (.ref a1)])) rfl rfl (hb hby d4_13)
    have f103 := f95.wr W102
    have f104 := f96.wr W102
    have f105 := f97.other W102 (Or.inr (slot_ne (Or.inl (wq hw 56 rfl)) (Or.inl (wq hw 54 rfl)) (by decide) (t := (.object cL)) (t' := (.object cL)) (by decide) (by decide)))
    have f106 := f8.other W102 (Or.inl (Ne.symm Ne3))
    have f107 := f9.other W102 (Or.inl (Ne.symm Ne3))
    have f108 := f10.other W102 (Ne.symm Ne4)
    have f109 := f11.wr W102
    have f110 := f12.other W102 (Or.inl (Ne.symm ne92))
    have f111 := f13.other W102 (Or.inl (Ne.symm ne92))
    have f112 := f14.other W102 (Or.inl (Ne.symm ne92))
    have f113 : Fld Z h102 a1 cL "prev" dL (.ref b5) := f98.same W102
    have Kp102 := KpK17.wr W102 (Or.inl om2)
    have Z114 := Nat.le_trans Z99 (Nat.le_of_eq W102.size.symm)
    have N115 := Fr.snoc X102 N100 Ge2
    refine Goes.by st102 ?_
    refine Goes.by (fun _ => XS.aloadN X102.here hx rfl (hb hby d4_16) rfl rfl) ?_
    refine Goes.by (fun _ => XS.aload X102.here hx rfl (hb hby d4_17) rfl rfl) ?_
    obtain ⟨T116, h116, X116, e116, W116, st116⟩ := putFR X102 hx hZ hown (wq hw 55 rfl) e102 f105 f104 (wq hw 56 rfl) (wq hw 14 rfl) (ty := (.object cL)) (by decide) rfl rfl (g := (mkF m 19 #[.val (.ref a0), .val (.ref a1), .val (.long q2), .second, .val (.ref b5)] [(.ref b5), (.ref a1)])) rfl rfl (hb hby d4_19)
    have f117 := f103.wr W116
    have f118 := f104.wr W116
    have f119 := f106.other W116 (Or.inl (Ne.symm Ne3))
    have f120 := f107.other W116 (Or.inl (Ne.symm Ne3))
    have f121 := f108.other W116 (Ne.symm Ne4)
    have f122 := f109.wr W116
    have f123 := f110.other W116 (Or.inl (Ne.symm ne92))
    have f124 := f111.other W116 (Or.inl (Ne.symm ne92))
    have f125 := f112.other W116 (Or.inl (Ne.symm ne92))
    have f126 := f113.other W116 (Or.inr (slot_ne (Or.inl (wq hw 54 rfl)) (Or.inl (wq hw 56 rfl)) (by decide) (t := (.object cL)) (t' := (.object cL)) (by decide) (by decide)))
    have f127 : Fld Z h116 a1 cL "next" dL (.ref b5) := f105.same W116
    have Kp116 := Kp102.wr W116 (Or.inl om2)
    have Z128 := Nat.le_trans Z114 (Nat.le_of_eq W116.size.symm)
    have N129 := Fr.snoc X116 N115 Ge2
    refine Goes.by st116 ?_
    refine Goes.by (fun _ => XS.aload X116.here hx rfl (hb hby d4_22) rfl rfl) ?_
    refine Goes.by (fun _ => getFR X116 hx hZ hown (wq hw 53 rfl) e116 f125 (g := (mkF m 24 #[.val (.ref a0), .val (.ref a1), .val (.long q2), .second, .val (.ref b5)] [(.ref b5)])) rfl rfl (hb hby d4_24)) ?_
    refine Goes.by (fun _ => XS.aloadN X116.here hx rfl (hb hby d4_27) rfl rfl) ?_
    obtain ⟨T131, h131, X131, e131, W131, st131⟩ := putFR X116 hx hZ hown (wq hw 55 rfl) e116 f124 f122 (wq hw 49 rfl) (wq hw 39 rfl) (ty := (.object cL)) (by decide) rfl rfl (g := (mkF m 28 #[.val (.ref a0), .val (.ref a1), .val (.long q2), .second, .val (.ref b5)] [(.ref a1), (.ref b5)])) rfl rfl (hb hby d4_28)
    have f132 := f117.wr W131
    have f133 := f118.wr W131
    have f134 := f119.other W131 (Or.inl ne90)
    have f135 := f120.other W131 (Or.inl ne90)
    have f136 := f121.other W131 ne91
    have f137 := f122.wr W131
    have f138 := f123.other W131 (Or.inr (slot_ne (Or.inr (wq hw 47 rfl)) (Or.inl (wq hw 49 rfl)) (by decide) (t := .long) (t' := (.object cL)) (by decide) (by decide)))
    have f139 := f125.other W131 (Or.inr (slot_ne (Or.inl (wq hw 51 rfl)) (Or.inl (wq hw 49 rfl)) (by decide) (t := (.object cL)) (t' := (.object cL)) (by decide) (by decide)))
    have f140 := f126.other W131 (Or.inl ne92)
    have f141 := f127.other W131 (Or.inl ne92)
    have f142 : Fld Z h131 b5 cL "next" dL (.ref a1) := f124.same W131
    have Kp131 := Kp116.wr W131 (Or.inr sz94)
    have Z143 := Nat.le_trans Z128 (Nat.le_of_eq W131.size.symm)
    have N144 := Fr.snoc X131 N129 ge93
    refine Goes.by st131 ?_
    refine Goes.by (fun _ => XS.aload X131.here hx rfl (hb hby d4_31) rfl rfl) ?_
    refine Goes.by (fun _ => XS.aloadN X131.here hx rfl (hb hby d4_33) rfl rfl) ?_
    obtain ⟨T145, h145, X145, e145, W145, st145⟩ := putFR X131 hx hZ hown (wq hw 53 rfl) e131 f139 f137 (wq hw 51 rfl) (wq hw 39 rfl) (ty := (.object cL)) (by decide) rfl rfl (g := (mkF m 34 #[.val (.ref a0), .val (.ref a1), .val (.long q2), .second, .val (.ref b5)] [(.ref a1), (.ref b5)])) rfl rfl (hb hby d4_34)
    have f146 := f132.wr W145
    have f147 := f133.wr W145
    have f148 := f134.other W145 (Or.inl ne90)
    have f149 := f135.other W145 (Or.inl ne90)
    have f150 := f136.other W145 ne91
    have f151 := f137.wr W145
    have f152 := f138.other W145 (Or.inr (slot_ne (Or.inr (wq hw 47 rfl)) (Or.inl (wq hw 51 rfl)) (by decide) (t := .long) (t' := (.object cL)) (by decide) (by decide)))
    have f153 := f140.other W145 (Or.inl ne92)
    have f154 := f141.other W145 (Or.inl ne92)
    have f155 := f142.other W145 (Or.inr (slot_ne (Or.inl (wq hw 49 rfl)) (Or.inl (wq hw 51 rfl)) (by decide) (t := (.object cL)) (t' := (.object cL)) (by decide) (by decide)))
    have f156 : Fld Z h145 b5 cL "prev" dL (.ref a1) := f139.same W145
    have Kp145 := Kp131.wr W145 (Or.inr sz94)
    have Z157 := Nat.le_trans Z143 (Nat.le_of_eq W145.size.symm)
    have N158 := Fr.snoc X145 N144 ge93
    refine Goes.by st145 ?_
    obtain ⟨fs, hr, hrun, hended, hW, hsame⟩ := X145.leave (v := none) (fun _ => rfl)
    refine Goes.mk _ _ ?_ ⟨hrun, hended, _, _, rfl, ?_, ⟨_, rfl⟩, hW, hsame.mono (by decide) (by decide)⟩
    · exact X145.returnOut hx Bd.returns (hb hby d4_37) hr
    · show QFile1 Z a0 a1 q2 ar kA x1 t1 nl pl z1 w1 nx1 pz1 h0 n0 _ T145.heap _
      rw [e145]
      exact (Or.inr (Or.inl ⟨b5, hd6, hd7, rfl, N158, Kp145, sz94, f148, f149, f150, f151, f152, f155, f156, f154, f153⟩))
  · have Kt160 : Keep h0 h0 [ar, a0, a1] := Keep.refl _ _
    have ne161 : a0 ≠ b18 := Nat.ne_of_lt (Nat.lt_of_lt_of_le F0.lt sz28)
    have ne162 : ar ≠ b18 := Nat.ne_of_lt (Nat.lt_of_lt_of_le F3.lt sz28)
    have ne163 : a1 ≠ b18 := Nat.ne_of_lt (Nat.lt_of_lt_of_le F7.lt sz28)
    have ge164 : n0 ≤ b18 := Nat.le_trans Z0 sz28
    have sz165 : h0.size ≤ b18 := Nat.le_trans Kt160.1 sz28
    have KK30 := K30
    have f166 := F0.keep KK30
    have f167 := F7.keep KK30
    have f168 := F8.keep KK30 (ninS Ne3 (ninS Ne4 nin0))
    have f169 := F9.keep KK30 (ninS Ne3 (ninS Ne4 nin0))
    have KpK30 := Kt160.trans K30 (allS (Or.inl om1) (allS (Or.inl om0) all0))
    have Z170 := Nat.le_trans Z0 K30.1
    have N171 := hF1 Nq29
    refine Goes.by st1 ?_
    show Goes p.tables e below _ (T1.setTop (mkF m 5 #[.val (.ref a0), .val (.ref a1), .val (.long q2), .second, .unset] [(.ref b18)]))
    refine Goes.by (fun _ => XS.astore X1.here hx rfl (hb hby d4_5) rfl rfl (l' := #[.val (.ref a0), .val (.ref a1), .val (.long q2), .second, .val (.ref b18)]) rfl) ?_
    refine Goes.by (fun _ => XS.aloadN X1.here hx rfl (hb hby d4_7) rfl rfl) ?_
    refine Goes.by (fun _ => XS.aload X1.here hx rfl (hb hby d4_8) rfl rfl) ?_
    refine Goes.by (fun _ => getFR X1 hx hZ hown (wq hw 53 rfl) rfl f27 (g := (mkF m 10 #[.val (.ref a0), .val (.ref a1), .val (.long q2), .second, .val (.ref b18)] [(.ref b18), (.ref a1)])) rfl rfl (hb hby d4_10)) ?_
    obtain ⟨T173, h173, X173, e173, W173, st173⟩ := putFR X1 hx hZ hown (wq hw 53 rfl) rfl f169 f167 (wq hw 54 rfl) (wq hw 14 rfl) (ty := (.object cL)) (by decide) rfl rfl (g := (mkF m 13 #[.val (.ref a0), .val (.ref a1), .val (.long q2), .second, .val (.ref b18)] [(.ref b18), (.ref a1)])) rfl rfl (hb hby d4_13)
    have f174 := f166.wr W173
    have f175 := f167.wr W173
    have f176 := f168.other W173 (Or.inr (slot_ne (Or.inl (wq hw 56 rfl)) (Or.inl (wq hw 54 rfl)) (by decide) (t := (.object cL)) (t' := (.object cL)) (by decide) (by decide)))
    have f177 := f21.other W173 (Or.inl (Ne.symm Ne3))
    have f178 := f22.other W173 (Or.inl (Ne.symm Ne3))
    have f179 := f23.other W173 (Ne.symm Ne4)
    have f180 := f24.wr W173
    have f181 := f25.other W173 (Or.inl (Ne.symm ne163))
    have f182 := f26.other W173 (Or.inl (Ne.symm ne163))
    have f183 := f27.other W173 (Or.inl (Ne.symm ne163))
    have f184 : Fld Z h173 a1 cL "prev" dL (.ref b18) := f169.same W173
    have Kp173 := KpK30.wr W173 (Or.inl om2)
    have Z185 := Nat.le_trans Z170 (Nat.le_of_eq W173.size.symm)
    have N186 := Fr.snoc X173 N171 Ge2
    refine Goes.by st173 ?_
    refine Goes.by (fun _ => XS.aloadN X173.here hx rfl (hb hby d4_16) rfl rfl) ?_
    refine Goes.by (fun _ => XS.aload X173.here hx rfl (hb hby d4_17) rfl rfl) ?_
    obtain ⟨T187, h187, X187, e187, W187, st187⟩ := putFR X173 hx hZ hown (wq hw 55 rfl) e173 f176 f175 (wq hw 56 rfl) (wq hw 14 rfl) (ty := (.object cL)) (by decide) rfl rfl (g := (mkF m 19 #[.val (.ref a0), .val (.ref a1), .val (.long q2), .second, .val (.ref b18)] [(.ref b18), (.ref a1)])) rfl rfl (hb hby d4_19)
    have f188 := f174.wr W187
    have f189 := f175.wr W187
    have f190 := f177.other W187 (Or.inl (Ne.symm Ne3))
    have f191 := f178.other W187 (Or.inl (Ne.symm Ne3))
    have f192 := f179.other W187 (Ne.symm Ne4)
    have f193 := f180.wr W187
    have f194 := f181.other W187 (Or.inl (Ne.symm ne163))
    have f195 := f182.other W187 (Or.inl (Ne.symm ne163))
    have f196 := f183.other W187 (Or.inl (Ne.symm ne163))
    have f197 := f184.other W187 (Or.inr (slot_ne (Or.inl (wq hw 54 rfl)) (Or.inl (wq hw 56 rfl)) (by decide) (t := (.object cL)) (t' := (.object cL)) (by decide) (by decide)))
    have f198 : Fld Z h187 a1 cL "next" dL (.ref b18) := f176.same W187
    have Kp187 := Kp173.wr W187 (Or.inl om2)
    have Z199 := Nat.le_trans Z185 (Nat.le_of_eq W187.size.symm)
    have N200 := Fr.snoc X187 N186 Ge2
    refine Goes.by st187 ?_
    refine Goes.by (fun _ => XS.aload X187.here hx rfl (hb hby d4_22) rfl rfl) ?_
    refine Goes.by (fun _ => getFR X187 hx hZ hown (wq hw 53 rfl) e187 f196 (g := (mkF m 24 #[.val (.ref a0), .val (.ref a1), .val (.long q2), .second, .val (.ref b18)] [(.ref b18)])) rfl rfl (hb hby d4_24)) ?_
    refine Goes.by (fun _ => XS.aloadN X187.here hx rfl (hb hby d4_27) rfl rfl) ?_
    obtain ⟨T202, h202, X202, e202, W202, st202⟩ := putFR X187 hx hZ hown (wq hw 55 rfl) e187 f195 f193 (wq hw 49 rfl) (wq hw 39 rfl) (ty := (.object cL)) (by decide) rfl rfl (g := (mkF m 28 #[.val (.ref a0), .val (.ref a1), .val (.long q2), .second, .val (.ref b18)] [(.ref a1), (.ref b18)])) rfl rfl (hb hby d4_28)
    have f203 := f188.wr W202
    have f204 := f189.wr W202
    have f205 := f190.other W202 (Or.inl ne161)
    have f206 := f191.other W202 (Or.inl ne161)
    have f207 := f192.other W202 ne162
    have f208 := f193.wr W202
    have f209 := f194.other W202 (Or.inr (slot_ne (Or.inr (wq hw 47 rfl)) (Or.inl (wq hw 49 rfl)) (by decide) (t := .long) (t' := (.object cL)) (by decide) (by decide)))
    have f210 := f196.other W202 (Or.inr (slot_ne (Or.inl (wq hw 51 rfl)) (Or.inl (wq hw 49 rfl)) (by decide) (t := (.object cL)) (t' := (.object cL)) (by decide) (by decide)))
    have f211 := f197.other W202 (Or.inl ne163)
    have f212 := f198.other W202 (Or.inl ne163)
    have f213 : Fld Z h202 b18 cL "next" dL (.ref a1) := f195.same W202
    have Kp202 := Kp187.wr W202 (Or.inr sz165)
    have Z214 := Nat.le_trans Z199 (Nat.le_of_eq W202.size.symm)
    have N215 := Fr.snoc X202 N200 ge164
    refine Goes.by st202 ?_
    refine Goes.by (fun _ => XS.aload X202.here hx rfl (hb hby d4_31) rfl rfl) ?_
    refine Goes.by (fun _ => XS.aloadN X202.here hx rfl (hb hby d4_33) rfl rfl) ?_
    obtain ⟨T216, h216, X216, e216, W216, st216⟩ := putFR X202 hx hZ hown (wq hw 53 rfl) e202 f210 f208 (wq hw 51 rfl) (wq hw 39 rfl) (ty := (.object cL)) (by decide) rfl rfl (g := (mkF m 34 #[.val (.ref a0), .val (.ref a1), .val (.long q2), .second, .val (.ref b18)] [(.ref a1), (.ref b18)])) rfl rfl (hb hby d4_34)
    have f217 := f203.wr W216
    have f218 := f204.wr W216
    have f219 := f205.other W216 (Or.inl ne161)
    have f220 := f206.other W216 (Or.inl ne161)
    have f221 := f207.other W216 ne162
    have f222 := f208.wr W216
    have f223 := f209.other W216 (Or.inr (slot_ne (Or.inr (wq hw 47 rfl)) (Or.inl (wq hw 51 rfl)) (by decide) (t := .long) (t' := (.object cL)) (by decide) (by decide)))
    have f224 := f211.other W216 (Or.inl ne163)
    have f225 := f212.other W216 (Or.inl ne163)
    have f226 := f213.other W216 (Or.inr (slot_ne (Or.inl (wq hw 49 rfl)) (Or.inl (wq hw 51 rfl)) (by decide) (t := (.object cL)) (t' := (.object cL)) (by decide) (by decide)))
    have f227 : Fld Z h216 b18 cL "prev" dL (.ref a1) := f210.same W216
    have Kp216 := Kp202.wr W216 (Or.inr sz165)
    have Z228 := Nat.le_trans Z214 (Nat.le_of_eq W216.size.symm)
    have N229 := Fr.snoc X216 N215 ge164
    refine Goes.by st216 ?_
    obtain ⟨fs, hr, hrun, hended, hW, hsame⟩ := X216.leave (v := none) (fun _ => rfl)
    refine Goes.mk _ _ ?_ ⟨hrun, hended, _, _, rfl, ?_, ⟨_, rfl⟩, hW, hsame.mono (by decide) (by decide)⟩
    · exact X216.returnOut hx Bd.returns (hb hby d4_37) hr
    · show QFile1 Z a0 a1 q2 ar kA x1 t1 nl pl z1 w1 nx1 pz1 h0 n0 _ T216.heap _
      rw [e216]
      exact (Or.inr (Or.inr ⟨b18, hd19, hd20, rfl, N229, Kp216, sz165, f219, f220, f221, f222, f223, f226, f227, f225, f224⟩))
def QFile2 (Z : State) (a0 : Addr) (a1 : Addr) (q2 : Int64) (ar : Addr) (kA : ClassId) (x1 : Addr) (x2 : Addr) (t1 : Int64) (t2 : Int64) (nl : Value) (pl : Value) (z1 : Addr) (z2 : Addr) (w1 : Value) (w2 : Value) (nx1 : Value) (nx2 : Value) (pz1 : Value) (pz2 : Value) (h0 : Heap) (n0 : Nat) (v : Option Value) (h : Heap) (L : List Loc) : Prop := (t2 = q2 ∧ v = none ∧ Fr n0 L ∧ Keep h0 h [a1, z2, x2] ∧ Fld Z h a1 cL "next" dL (.ref x2) ∧ Fld Z h a1 cL "prev" dL (.ref z2) ∧ Fld Z h z2 cL "next" dL (.ref a1) ∧ Fld Z h z2 cL "prev" dL pz2 ∧ Fld Z h x2 cL "next" dL nx2 ∧ Fld Z h x2 cL "prev" dL (.ref a1) ∧ Fld Z h x2 cH "tick" "J" (.long t2)) ∨ (∃ b5 : Addr, ¬ (t2 = q2) ∧ fDue2 q2 t1 t2 = (0 : Int32) ∧ v = none ∧ Fr n0 L ∧ Keep h0 h [ar, a0, a1] ∧ h0.size ≤ b5 ∧ Fld Z h a0 cD "heads" dA (.ref ar) ∧ Fld Z h a0 cD "count" "I" (.int (3 : Int32)) ∧ Arv Z h ar kA (.object cH) (4 : Int32) [(.ref b5), (.ref x1), (.ref x2), .null] .null ∧ Exa Z h b5 cH ∧ Fld Z h b5 cH "tick" "J" (.long q2) ∧ Fld Z h b5 cL "next" dL (.ref a1) ∧ Fld Z h b5 cL "prev" dL (.ref a1) ∧ Fld Z h a1 cL "next" dL (.ref b5) ∧ Fld Z h a1 cL "prev" dL (.ref b5)) ∨ (¬ (t2 = q2) ∧ fDue2 q2 t1 t2 = (1 : Int32) ∧ t1 = q2 ∧ v = none ∧ Fr n0 L ∧ Keep h0 h [a1, z1, x1] ∧ Fld Z h a1 cL "next" dL (.ref x1) ∧ Fld Z h a1 cL "prev" dL (.ref z1) ∧ Fld Z h z1 cL "next" dL (.ref a1) ∧ Fld Z h z1 cL "prev" dL pz1 ∧ Fld Z h x1 cL "next" dL nx1 ∧ Fld Z h x1 cL "prev" dL (.ref a1) ∧ Fld Z h x1 cH "tick" "J" (.long t1)) ∨ (∃ b23 : Addr, ¬ (t2 = q2) ∧ fDue2 q2 t1 t2 = (1 : Int32) ∧ ¬ (t1 = q2) ∧ v = none ∧ Fr n0 L ∧ Keep h0 h [ar, a0, a1] ∧ h0.size ≤ b23 ∧ Fld Z h a0 cD "heads" dA (.ref ar) ∧ Fld Z h a0 cD "count" "I" (.int (3 : Int32)) ∧ Arv Z h ar kA (.object cH) (4 : Int32) [(.ref x1), (.ref b23), (.ref x2), .null] .null ∧ Exa Z h b23 cH ∧ Fld Z h b23 cH "tick" "J" (.long q2) ∧ Fld Z h b23 cL "next" dL (.ref a1) ∧ Fld Z h b23 cL "prev" dL (.ref a1) ∧ Fld Z h a1 cL "next" dL (.ref b23) ∧ Fld Z h a1 cL "prev" dL (.ref b23)) ∨ (∃ b37 : Addr, ¬ (t2 = q2) ∧ fDue2 q2 t1 t2 = (2 : Int32) ∧ v = none ∧ Fr n0 L ∧ Keep h0 h [ar, a0, a1] ∧ h0.size ≤ b37 ∧ Fld Z h a0 cD "heads" dA (.ref ar) ∧ Fld Z h a0 cD "count" "I" (.int (3 : Int32)) ∧ Arv Z h ar kA (.object cH) (4 : Int32) [(.ref x1), (.ref x2), (.ref b37), .null] .null ∧ Exa Z h b37 cH ∧ Fld Z h b37 cH "tick" "J" (.long q2) ∧ Fld Z h b37 cL "next" dL (.ref a1) ∧ Fld Z h b37 cL "prev" dL (.ref a1) ∧ Fld Z h a1 cL "next" dL (.ref b37) ∧ Fld Z h a1 cL "prev" dL (.ref b37))
theorem efFile2 (m : MethodId) (x0 : Addr) (x1 : Addr) (x2 : Int64) : entryFrame m #[(.ref x0), (.ref x1), (.long x2)] 5 = mkF m 0 #[.val (.ref x0), .val (.ref x1), .val (.long x2), .second, .unset] [] := by first | (simp [entryFrame, mkF, argsToLocals, Value.category]; done) | rfl
set_option maxRecDepth 65536 in
set_option maxHeartbeats 40000000 in
theorem rmFile2 (l : Launch) (Z : State) (az : Array Value) (hw : ∀ d ∈ tables_1, d.before az Z = true) (ws : List Jvm.Cond) (a0 : Addr) (a1 : Addr) (q2 : Int64) (ar : Addr) (kA : ClassId) (x1 : Addr) (x2 : Addr) (t1 : Int64) (t2 : Int64) (nl : Value) (pl : Value) (z1 : Addr) (z2 : Addr) (w1 : Value) (w2 : Value) (nx1 : Value) (nx2 : Value) (pz1 : Value) (pz2 : Value) (h0 : Heap) (n0 : Nat) (Z0 : n0 ≤ h0.size) (F0 : Exa Z h0 a0 cD) (F1 : Fld Z h0 a0 cD "heads" dA (.ref ar)) (F2 : Fld Z h0 a0 cD "count" "I" (.int (2 : Int32))) (F3 : Arv Z h0 ar kA (.object cH) (4 : Int32) [(.ref x1), (.ref x2), .null, .null] .null) (F4 : Ovr Z kA cH) (F5 : Exa Z h0 x1 cH) (F6 : Fld Z h0 x1 cH "tick" "J" (.long t1)) (F7 : Exa Z h0 x2 cH) (F8 : Fld Z h0 x2 cH "tick" "J" (.long t2)) (F9 : Exa Z h0 a1 cL) (F10 : Fld Z h0 a1 cL "next" dL nl) (F11 : Fld Z h0 a1 cL "prev" dL pl) (F12 : Fld Z h0 x1 cL "prev" dL (.ref z1)) (F13 : Exa Z h0 z1 cL) (F14 : Fld Z h0 z1 cL "next" dL w1) (F15 : Fld Z h0 x1 cL "next" dL nx1) (F16 : Fld Z h0 z1 cL "prev" dL pz1) (F17 : Fld Z h0 x2 cL "prev" dL (.ref z2)) (F18 : Exa Z h0 z2 cL) (F19 : Fld Z h0 z2 cL "next" dL w2) (F20 : Fld Z h0 x2 cL "next" dL nx2) (F21 : Fld Z h0 z2 cL "prev" dL pz2) (Ne0 : a0 ≠ ar) (Ne1 : x1 ≠ a0) (Ne2 : x2 ≠ a0) (Ne3 : x1 ≠ ar) (Ne4 : x2 ≠ ar) (Ne5 : a1 ≠ a0) (Ne6 : a1 ≠ ar) (Ne7 : a1 ≠ x1) (Ne8 : a1 ≠ z1) (Ne9 : x1 ≠ z1) (Ne10 : a1 ≠ x2) (Ne11 : a1 ≠ z2) (Ne12 : x2 ≠ z2) (Ge0 : n0 ≤ a0) (Ge1 : n0 ≤ ar) (Ge2 : n0 ≤ a1) (Ge3 : n0 ≤ x1) (Ge4 : n0 ≤ x2) (Ge5 : n0 ≤ z1) (Ge6 : n0 ≤ z2) :
    MetFree l y2 (head1 (Jvm.Cond.code y2 prog_4_method_5_code 5 none :: ws) ({ frames := 4, cells := 1, slots := 3, locals := 55 } : Room)) (fun a U => a = #[(.ref a0), (.ref a1), (.long q2)] ∧ Z.Warmed39 U.vm ∧ U.heap = h0) (fun _ _ _ _ _ => True) (fun _ U o U' => ∃ v L, o = .returned v ∧ QFile2 Z a0 a1 q2 ar kA x1 x2 t1 t2 nl pl z1 z2 w1 w2 nx1 nx2 pz1 pz2 h0 n0 v U'.heap L ∧ FrameEnd U o U' L ({ frames := 4, cells := 1, slots := 3, locals := 55 } : Room).cells ({ frames := 4, cells := 1, slots := 3, locals := 55 } : Room).slots) := by
  refine MetFree.of_bodySF (plainFor_of_name own_pn_com_example_admit_one_admitone_engine_DueOrder) hisR ?_
  intro p e s m args below meth c s₁ Bd hml0 hP hK
  obtain ⟨rfl, hZ, hh⟩ := hP
  have hx := Bd.exec
  have hby := Bd.bytes
  have hml : c.maxLocals = 5 := hml0
  have hown : s.vm.findClass cD = some m.cls := findClass_of_methodNamed Bd.named
  have hnm := (name_of_methodNamed Bd.named Bd.method).1
  have X0 : Stand p l e ({ frames := 4, cells := 1, slots := 3, locals := 55 } : Room) s m #[(.ref a0), (.ref a1), (.long q2)] below meth c s₁ [] 0 0 := Stand.of_body Bd
  have e0 : s₁.heap = h0 := by rw [← hh, Bd.state]; rfl
  have N0 := Fr.nil n0
  have Kp0 : Keep h0 h0 [] := Keep.refl _ _
  refine Goes.start ?_
  refine Goes.by (B := s₁.setTop (mkF m 0 #[.val (.ref a0), .val (.ref a1), .val (.long q2), .second, .unset] [])) (fun t k => castTop (efFile2 m a0 a1 q2) k) ?_
  refine Goes.by (fun _ => XS.aloadN X0.here hx rfl (hb hby d4_0) rfl rfl) ?_
  refine Goes.by (fun _ => XS.lloadN X0.here hx rfl (hb hby d4_1) rfl) ?_
  obtain ⟨_, T1, L1, Lc1, X1, hF1, hQ1, st1⟩ := own_cp X0 hx hZ hown (wq hw 25 rfl) (wq hw 27 rfl) (wq hw 1 rfl) (wq hw 26 rfl) (wq hw 2 rfl) (wq hw 28 rfl) (rmHeadOf2 l Z az hw [] a0 q2 ar kA x1 x2 t1 t2 h0 n0 Z0 F0 F1 F2 F3 F4 F5 F6 F7 F8 Ne0 Ne1 Ne2 Ne3 Ne4 Ge0 Ge1) (W := 0) (g := (mkF m 2 #[.val (.ref a0), .val (.ref a1), .val (.long q2), .second, .unset] [(.long q2), (.ref a0)])) rfl (by rw [hml]; rfl) F0 (argsL := [(.long q2)]) (rest := []) rfl (lenOf own_pd3 rfl) rfl (hb hby d4_2) e0 N0 (c' := 1) (s' := 3)
  rcases hQ1 with ⟨hd2, rfl, Nq3, K4⟩ | ⟨b5, hd6, hd7, rfl, Nq16, K17, sz15, f8, f9, f10, f11, f12, f13, f14⟩ | ⟨hd18, hd19, hd20, rfl, Nq21, K22⟩ | ⟨b23, hd24, hd25, hd26, rfl, Nq35, K36, sz34, f27, f28, f29, f30, f31, f32, f33⟩ | ⟨b37, hd38, hd39, rfl, Nq48, K49, sz47, f40, f41, f42, f43, f44, f45, f46⟩
  · have Kt51 : Keep h0 h0 [a1, z2, x2] := Keep.refl _ _
    have N52 := hF1 Nq3
    refine Goes.by st1 ?_
    show Goes p.tables e below _ (T1.setTop (mkF m 5 #[.val (.ref a0), .val (.ref a1), .val (.long q2), .second, .unset] [(.ref x2)]))
    refine Goes.by (fun _ => XS.astore X1.here hx rfl (hb hby d4_5) rfl rfl (l' := #[.val (.ref a0), .val (.ref a1), .val (.long q2), .second, .val (.ref x2)]) rfl) ?_
    refine Goes.by (fun _ => XS.aloadN X1.here hx rfl (hb hby d4_7) rfl rfl) ?_
    refine Goes.by (fun _ => XS.aload X1.here hx rfl (hb hby d4_8) rfl rfl) ?_
    refine Goes.by (fun _ => getFR X1 hx hZ hown (wq hw 53 rfl) K4 F17 (g := (mkF m 10 #[.val (.ref a0), .val (.ref a1), .val (.long q2), .second, .val (.ref x2)] [(.ref x2), (.ref a1)])) rfl rfl (hb hby d4_10)) ?_
    obtain ⟨T54, h54, X54, e54, W54, st54⟩ := putFR X1 hx hZ hown (wq hw 53 rfl) K4 F11 F9 (wq hw 54 rfl) (wq hw 14 rfl) (ty := (.object cL)) (by decide) rfl rfl (g := (mkF m 13 #[.val (.ref a0), .val (.ref a1), .val (.long q2), .second, .val (.ref x2)] [(.ref z2), (.ref a1)])) rfl rfl (hb hby d4_13)
    have f55 := F7.wr W54
    have f56 := F8.other W54 (Or.inl (Ne.symm Ne10))
    have f57 := F9.wr W54
    have f58 := F10.other W54 (Or.inr (slot_ne (Or.inl (wq hw 56 rfl)) (Or.inl (wq hw 54 rfl)) (by decide) (t := (.object cL)) (t' := (.object cL)) (by decide) (by decide)))
    have f59 := F17.other W54 (Or.inl (Ne.symm Ne10))
    have f60 := F18.wr W54
    have f61 := F19.other W54 (Or.inl (Ne.symm Ne11))
    have f62 := F20.other W54 (Or.inl (Ne.symm Ne10))
    have f63 := F21.other W54 (Or.inl (Ne.symm Ne11))
    have f64 : Fld Z h54 a1 cL "prev" dL (.ref z2) := F11.same W54
    have Kp54 := Kt51.wr W54 (Or.inl om0)
    have Z65 := Nat.le_trans Z0 (Nat.le_of_eq W54.size.symm)
    have N66 := Fr.snoc X54 N52 Ge2
    refine Goes.by st54 ?_
    refine Goes.by (fun _ => XS.aloadN X54.here hx rfl (hb hby d4_16) rfl rfl) ?_
    refine Goes.by (fun _ => XS.aload X54.here hx rfl (hb hby d4_17) rfl rfl) ?_
    obtain ⟨T67, h67, X67, e67, W67, st67⟩ := putFR X54 hx hZ hown (wq hw 55 rfl) e54 f58 f57 (wq hw 56 rfl) (wq hw 14 rfl) (ty := (.object cL)) (by decide) rfl rfl (g := (mkF m 19 #[.val (.ref a0), .val (.ref a1), .val (.long q2), .second, .val (.ref x2)] [(.ref x2), (.ref a1)])) rfl rfl (hb hby d4_19)
    have f68 := f55.wr W67
    have f69 := f56.other W67 (Or.inl (Ne.symm Ne10))
    have f70 := f57.wr W67
    have f71 := f59.other W67 (Or.inl (Ne.symm Ne10))
    have f72 := f60.wr W67
    have f73 := f61.other W67 (Or.inl (Ne.symm Ne11))
    have f74 := f62.other W67 (Or.inl (Ne.symm Ne10))
    have f75 := f63.other W67 (Or.inl (Ne.symm Ne11))
    have f76 := f64.other W67 (Or.inr (slot_ne (Or.inl (wq hw 54 rfl)) (Or.inl (wq hw 56 rfl)) (by decide) (t := (.object cL)) (t' := (.object cL)) (by decide) (by decide)))
    have f77 : Fld Z h67 a1 cL "next" dL (.ref x2) := f58.same W67
    have Kp67 := Kp54.wr W67 (Or.inl om0)
    have Z78 := Nat.le_trans Z65 (Nat.le_of_eq W67.size.symm)
    have N79 := Fr.snoc X67 N66 Ge2
    refine Goes.by st67 ?_
    refine Goes.by (fun _ => XS.aload X67.here hx rfl (hb hby d4_22) rfl rfl) ?_
    refine Goes.by (fun _ => getFR X67 hx hZ hown (wq hw 53 rfl) e67 f71 (g := (mkF m 24 #[.val (.ref a0), .val (.ref a1), .val (.long q2), .second, .val (.ref x2)] [(.ref x2)])) rfl rfl (hb hby d4_24)) ?_
    refine Goes.by (fun _ => XS.aloadN X67.here hx rfl (hb hby d4_27) rfl rfl) ?_
    obtain ⟨T81, h81, X81, e81, W81, st81⟩ := putFR X67 hx hZ hown (wq hw 55 rfl) e67 f73 f72 (wq hw 56 rfl) (wq hw 14 rfl) (ty := (.object cL)) (by decide) rfl rfl (g := (mkF m 28 #[.val (.ref a0), .val (.ref a1), .val (.long q2), .second, .val (.ref x2)] [(.ref a1), (.ref z2)])) rfl rfl (hb hby d4_28)
    have f82 := f68.wr W81
    have f83 := f69.other W81 (Or.inl Ne12)
    have f84 := f70.wr W81
    have f85 := f71.other W81 (Or.inl Ne12)
    have f86 := f72.wr W81
    have f87 := f74.other W81 (Or.inl Ne12)
    have f88 := f75.other W81 (Or.inr (slot_ne (Or.inl (wq hw 54 rfl)) (Or.inl (wq hw 56 rfl)) (by decide) (t := (.object cL)) (t' := (.object cL)) (by decide) (by decide)))
    have f89 := f76.other W81 (Or.inl Ne11)
    have f90 := f77.other W81 (Or.inl Ne11)
    have f91 : Fld Z h81 z2 cL "next" dL (.ref a1) := f73.same W81
    have Kp81 := Kp67.wr W81 (Or.inl om1)
    have Z92 := Nat.le_trans Z78 (Nat.le_of_eq W81.size.symm)
    have N93 := Fr.snoc X81 N79 Ge6
    refine Goes.by st81 ?_
    refine Goes.by (fun _ => XS.aload X81.here hx rfl (hb hby d4_31) rfl rfl) ?_
    refine Goes.by (fun _ => XS.aloadN X81.here hx rfl (hb hby d4_33) rfl rfl) ?_
    obtain ⟨T94, h94, X94, e94, W94, st94⟩ := putFR X81 hx hZ hown (wq hw 53 rfl) e81 f85 f82 (wq hw 51 rfl) (wq hw 39 rfl) (ty := (.object cL)) (by decide) rfl rfl (g := (mkF m 34 #[.val (.ref a0), .val (.ref a1), .val (.long q2), .second, .val (.ref x2)] [(.ref a1), (.ref x2)])) rfl rfl (hb hby d4_34)
    have f95 := f82.wr W94
    have f96 := f83.other W94 (Or.inr (slot_ne (Or.inr (wq hw 47 rfl)) (Or.inl (wq hw 51 rfl)) (by decide) (t := .long) (t' := (.object cL)) (by decide) (by decide)))
    have f97 := f84.wr W94
    have f98 := f86.wr W94
    have f99 := f87.other W94 (Or.inr (slot_ne (Or.inl (wq hw 49 rfl)) (Or.inl (wq hw 51 rfl)) (by decide) (t := (.object cL)) (t' := (.object cL)) (by decide) (by decide)))
    have f100 := f88.other W94 (Or.inl (Ne.symm Ne12))
    have f101 := f89.other W94 (Or.inl Ne10)
    have f102 := f90.other W94 (Or.inl Ne10)
    have f103 := f91.other W94 (Or.inl (Ne.symm Ne12))
    have f104 : Fld Z h94 x2 cL "prev" dL (.ref a1) := f85.same W94
    have Kp94 := Kp81.wr W94 (Or.inl om2)
    have Z105 := Nat.le_trans Z92 (Nat.le_of_eq W94.size.symm)
    have N106 := Fr.snoc X94 N93 Ge4
    refine Goes.by st94 ?_
    obtain ⟨fs, hr, hrun, hended, hW, hsame⟩ := X94.leave (v := none) (fun _ => rfl)
    refine Goes.mk _ _ ?_ ⟨hrun, hended, _, _, rfl, ?_, ⟨_, rfl⟩, hW, hsame.mono (by decide) (by decide)⟩
    · exact X94.returnOut hx Bd.returns (hb hby d4_37) hr
    · show QFile2 Z a0 a1 q2 ar kA x1 x2 t1 t2 nl pl z1 z2 w1 w2 nx1 nx2 pz1 pz2 h0 n0 _ T94.heap _
      rw [e94]
      exact (Or.inl ⟨hd2, rfl, N106, Kp94, f102, f101, f103, f100, f99, f104, f96⟩)
  · have Kt108 : Keep h0 h0 [ar, a0, a1] := Keep.refl _ _
    have ne109 : a0 ≠ b5 := Nat.ne_of_lt (Nat.lt_of_lt_of_le F0.lt sz15)
    have ne110 : ar ≠ b5 := Nat.ne_of_lt (Nat.lt_of_lt_of_le F3.lt sz15)
    have ne111 : a1 ≠ b5 := Nat.ne_of_lt (Nat.lt_of_lt_of_le F9.lt sz15)
    have ge112 : n0 ≤ b5 := Nat.le_trans Z0 sz15
    have sz113 : h0.size ≤ b5 := Nat.le_trans Kt108.1 sz15
    have KK17 := K17
    have f114 := F0.keep KK17
    have f115 := F9.keep KK17
    have f116 := F10.keep KK17 (ninS Ne5 (ninS Ne6 nin0))
    have f117 := F11.keep KK17 (ninS Ne5 (ninS Ne6 nin0))
    have KpK17 := Kt108.trans K17 (allS (Or.inl om1) (allS (Or.inl om0) all0))
    have Z118 := Nat.le_trans Z0 K17.1
    have N119 := hF1 Nq16
    refine Goes.by st1 ?_
    show Goes p.tables e below _ (T1.setTop (mkF m 5 #[.val (.ref a0), .val (.ref a1), .val (.long q2), .second, .unset] [(.ref b5)]))
    refine Goes.by (fun _ => XS.astore X1.here hx rfl (hb hby d4_5) rfl rfl (l' := #[.val (.ref a0), .val (.ref a1), .val (.long q2), .second, .val (.ref b5)]) rfl) ?_
    refine Goes.by (fun _ => XS.aloadN X1.here hx rfl (hb hby d4_7) rfl rfl) ?_
    refine Goes.by (fun _ => XS.aload X1.here hx rfl (hb hby d4_8) rfl rfl) ?_
    refine Goes.by (fun _ => getFR X1 hx hZ hown (wq hw 53 rfl) rfl f14 (g := (mkF m 10 #[.val (.ref a0), .val (.ref a1), .val (.long q2), .second, .val (.ref b5)] [(.ref b5), (.ref a1)])) rfl rfl (hb hby d4_10)) ?_
    obtain ⟨T121, h121, X121, e121, W121, st121⟩ := putFR X1 hx hZ hown (wq hw 53 rfl) rfl f117 f115 (wq hw 54 rfl) (wq hw 14 rfl) (ty := (.object cL)) (by decide) rfl rfl (g := (mkF m 13 #[.val (.ref a0), .val (.ref a1), .val (.long q2), .second, .val (.ref b5)] [(.ref b5), (.ref a1)])) rfl rfl (hb hby d4_13)
    have f122 := f114.wr W121
    have f123 := f115.wr W121
    have f124 := f116.other W121 (Or.inr (slot_ne (Or.inl (wq hw 56 rfl)) (Or.inl (wq hw 54 rfl)) (by decide) (t := (.object cL)) (t' := (.object cL)) (by decide) (by decide)))
    have f125 := f8.other W121 (Or.inl (Ne.symm Ne5))
    have f126 := f9.other W121 (Or.inl (Ne.symm Ne5))
    have f127 := f10.other W121 (Ne.symm Ne6)
    have f128 := f11.wr W121
    have f129 := f12.other W121 (Or.inl (Ne.symm ne111))
    have f130 := f13.other W121 (Or.inl (Ne.symm ne111))
    have f131 := f14.other W121 (Or.inl (Ne.symm ne111))
    have f132 : Fld Z h121 a1 cL "prev" dL (.ref b5) := f117.same W121
    have Kp121 := KpK17.wr W121 (Or.inl om2)
    have Z133 := Nat.le_trans Z118 (Nat.le_of_eq W121.size.symm)
    have N134 := Fr.snoc X121 N119 Ge2
    refine Goes.by st121 ?_
    refine Goes.by (fun _ => XS.aloadN X121.here hx rfl (hb hby d4_16) rfl rfl) ?_
    refine Goes.by (fun _ => XS.aload X121.here hx rfl (hb hby d4_17) rfl rfl) ?_
    obtain ⟨T135, h135, X135, e135, W135, st135⟩ := putFR X121 hx hZ hown (wq hw 55 rfl) e121 f124 f123 (wq hw 56 rfl) (wq hw 14 rfl) (ty := (.object cL)) (by decide) rfl rfl (g := (mkF m 19 #[.val (.ref a0), .val (.ref a1), .val (.long q2), .second, .val (.ref b5)] [(.ref b5), (.ref a1)])) rfl rfl (hb hby d4_19)
    have f136 := f122.wr W135
    have f137 := f123.wr W135
    have f138 := f125.other W135 (Or.inl (Ne.symm Ne5))
    have f139 := f126.other W135 (Or.inl (Ne.symm Ne5))
    have f140 := f127.other W135 (Ne.symm Ne6)
    have f141 := f128.wr W135
    have f142 := f129.other W135 (Or.inl (Ne.symm ne111))
    have f143 := f130.other W135 (Or.inl (Ne.symm ne111))
    have f144 := f131.other W135 (Or.inl (Ne.symm ne111))
    have f145 := f132.other W135 (Or.inr (slot_ne (Or.inl (wq hw 54 rfl)) (Or.inl (wq hw 56 rfl)) (by decide) (t := (.object cL)) (t' := (.object cL)) (by decide) (by decide)))
    have f146 : Fld Z h135 a1 cL "next" dL (.ref b5) := f124.same W135
    have Kp135 := Kp121.wr W135 (Or.inl om2)
    have Z147 := Nat.le_trans Z133 (Nat.le_of_eq W135.size.symm)
    have N148 := Fr.snoc X135 N134 Ge2
    refine Goes.by st135 ?_
    refine Goes.by (fun _ => XS.aload X135.here hx rfl (hb hby d4_22) rfl rfl) ?_
    refine Goes.by (fun _ => getFR X135 hx hZ hown (wq hw 53 rfl) e135 f144 (g := (mkF m 24 #[.val (.ref a0), .val (.ref a1), .val (.long q2), .second, .val (.ref b5)] [(.ref b5)])) rfl rfl (hb hby d4_24)) ?_
    refine Goes.by (fun _ => XS.aloadN X135.here hx rfl (hb hby d4_27) rfl rfl) ?_
    obtain ⟨T150, h150, X150, e150, W150, st150⟩ := putFR X135 hx hZ hown (wq hw 55 rfl) e135 f143 f141 (wq hw 49 rfl) (wq hw 39 rfl) (ty := (.object cL)) (by decide) rfl rfl (g := (mkF m 28 #[.val (.ref a0), .val (.ref a1), .val (.long q2), .second, .val (.ref b5)] [(.ref a1), (.ref b5)])) rfl rfl (hb hby d4_28)
    have f151 := f136.wr W150
    have f152 := f137.wr W150
    have f153 := f138.other W150 (Or.inl ne109)
    have f154 := f139.other W150 (Or.inl ne109)
    have f155 := f140.other W150 ne110
    have f156 := f141.wr W150
    have f157 := f142.other W150 (Or.inr (slot_ne (Or.inr (wq hw 47 rfl)) (Or.inl (wq hw 49 rfl)) (by decide) (t := .long) (t' := (.object cL)) (by decide) (by decide)))
    have f158 := f144.other W150 (Or.inr (slot_ne (Or.inl (wq hw 51 rfl)) (Or.inl (wq hw 49 rfl)) (by decide) (t := (.object cL)) (t' := (.object cL)) (by decide) (by decide)))
    have f159 := f145.other W150 (Or.inl ne111)
    have f160 := f146.other W150 (Or.inl ne111)
    have f161 : Fld Z h150 b5 cL "next" dL (.ref a1) := f143.same W150
    have Kp150 := Kp135.wr W150 (Or.inr sz113)
    have Z162 := Nat.le_trans Z147 (Nat.le_of_eq W150.size.symm)
    have N163 := Fr.snoc X150 N148 ge112
    refine Goes.by st150 ?_
    refine Goes.by (fun _ => XS.aload X150.here hx rfl (hb hby d4_31) rfl rfl) ?_
    refine Goes.by (fun _ => XS.aloadN X150.here hx rfl (hb hby d4_33) rfl rfl) ?_
    obtain ⟨T164, h164, X164, e164, W164, st164⟩ := putFR X150 hx hZ hown (wq hw 53 rfl) e150 f158 f156 (wq hw 51 rfl) (wq hw 39 rfl) (ty := (.object cL)) (by decide) rfl rfl (g := (mkF m 34 #[.val (.ref a0), .val (.ref a1), .val (.long q2), .second, .val (.ref b5)] [(.ref a1), (.ref b5)])) rfl rfl (hb hby d4_34)
    have f165 := f151.wr W164
    have f166 := f152.wr W164
    have f167 := f153.other W164 (Or.inl ne109)
    have f168 := f154.other W164 (Or.inl ne109)
    have f169 := f155.other W164 ne110
    have f170 := f156.wr W164
    have f171 := f157.other W164 (Or.inr (slot_ne (Or.inr (wq hw 47 rfl)) (Or.inl (wq hw 51 rfl)) (by decide) (t := .long) (t' := (.object cL)) (by decide) (by decide)))
    have f172 := f159.other W164 (Or.inl ne111)
    have f173 := f160.other W164 (Or.inl ne111)
    have f174 := f161.other W164 (Or.inr (slot_ne (Or.inl (wq hw 49 rfl)) (Or.inl (wq hw 51 rfl)) (by decide) (t := (.object cL)) (t' := (.object cL)) (by decide) (by decide)))
    have f175 : Fld Z h164 b5 cL "prev" dL (.ref a1) := f158.same W164
    have Kp164 := Kp150.wr W164 (Or.inr sz113)
    have Z176 := Nat.le_trans Z162 (Nat.le_of_eq W164.size.symm)
    have N177 := Fr.snoc X164 N163 ge112
    refine Goes.by st164 ?_
    obtain ⟨fs, hr, hrun, hended, hW, hsame⟩ := X164.leave (v := none) (fun _ => rfl)
    refine Goes.mk _ _ ?_ ⟨hrun, hended, _, _, rfl, ?_, ⟨_, rfl⟩, hW, hsame.mono (by decide) (by decide)⟩
    · exact X164.returnOut hx Bd.returns (hb hby d4_37) hr
    · show QFile2 Z a0 a1 q2 ar kA x1 x2 t1 t2 nl pl z1 z2 w1 w2 nx1 nx2 pz1 pz2 h0 n0 _ T164.heap _
      rw [e164]
      exact (Or.inr (Or.inl ⟨b5, hd6, hd7, rfl, N177, Kp164, sz113, f167, f168, f169, f170, f171, f174, f175, f173, f172⟩))
  · have Kt179 : Keep h0 h0 [a1, z1, x1] := Keep.refl _ _
    have N180 := hF1 Nq21
    refine Goes.by st1 ?_
    show Goes p.tables e below _ (T1.setTop (mkF m 5 #[.val (.ref a0), .val (.ref a1), .val (.long q2), .second, .unset] [(.ref x1)]))
    refine Goes.by (fun _ => XS.astore X1.here hx rfl (hb hby d4_5) rfl rfl (l' := #[.val (.ref a0), .val (.ref a1), .val (.long q2), .second, .val (.ref x1)]) rfl) ?_
    refine Goes.by (fun _ => XS.aloadN X1.here hx rfl (hb hby d4_7) rfl rfl) ?_
    refine Goes.by (fun _ => XS.aload X1.here hx rfl (hb hby d4_8) rfl rfl) ?_
    refine Goes.by (fun _ => getFR X1 hx hZ hown (wq hw 53 rfl) K22 F12 (g := (mkF m 10 #[.val (.ref a0), .val (.ref a1), .val (.long q2), .second, .val (.ref x1)] [(.ref x1), (.ref a1)])) rfl rfl (hb hby d4_10)) ?_
    obtain ⟨T182, h182, X182, e182, W182, st182⟩ := putFR X1 hx hZ hown (wq hw 53 rfl) K22 F11 F9 (wq hw 54 rfl) (wq hw 14 rfl) (ty := (.object cL)) (by decide) rfl rfl (g := (mkF m 13 #[.val (.ref a0), .val (.ref a1), .val (.long q2), .second, .val (.ref x1)] [(.ref z1), (.ref a1)])) rfl rfl (hb hby d4_13)
    have f183 := F5.wr W182
    have f184 := F6.other W182 (Or.inl (Ne.symm Ne7))
    have f185 := F9.wr W182
    have f186 := F10.other W182 (Or.inr (slot_ne (Or.inl (wq hw 56 rfl)) (Or.inl (wq hw 54 rfl)) (by decide) (t := (.object cL)) (t' := (.object cL)) (by decide) (by decide)))
    have f187 := F12.other W182 (Or.inl (Ne.symm Ne7))
    have f188 := F13.wr W182
    have f189 := F14.other W182 (Or.inl (Ne.symm Ne8))
    have f190 := F15.other W182 (Or.inl (Ne.symm Ne7))
    have f191 := F16.other W182 (Or.inl (Ne.symm Ne8))
    have f192 : Fld Z h182 a1 cL "prev" dL (.ref z1) := F11.same W182
    have Kp182 := Kt179.wr W182 (Or.inl om0)
    have Z193 := Nat.le_trans Z0 (Nat.le_of_eq W182.size.symm)
    have N194 := Fr.snoc X182 N180 Ge2
    refine Goes.by st182 ?_
    refine Goes.by (fun _ => XS.aloadN X182.here hx rfl (hb hby d4_16) rfl rfl) ?_
    refine Goes.by (fun _ => XS.aload X182.here hx rfl (hb hby d4_17) rfl rfl) ?_
    obtain ⟨T195, h195, X195, e195, W195, st195⟩ := putFR X182 hx hZ hown (wq hw 55 rfl) e182 f186 f185 (wq hw 56 rfl) (wq hw 14 rfl) (ty := (.object cL)) (by decide) rfl rfl (g := (mkF m 19 #[.val (.ref a0), .val (.ref a1), .val (.long q2), .second, .val (.ref x1)] [(.ref x1), (.ref a1)])) rfl rfl (hb hby d4_19)
    have f196 := f183.wr W195
    have f197 := f184.other W195 (Or.inl (Ne.symm Ne7))
    have f198 := f185.wr W195
    have f199 := f187.other W195 (Or.inl (Ne.symm Ne7))
    have f200 := f188.wr W195
    have f201 := f189.other W195 (Or.inl (Ne.symm Ne8))
    have f202 := f190.other W195 (Or.inl (Ne.symm Ne7))
    have f203 := f191.other W195 (Or.inl (Ne.symm Ne8))
    have f204 := f192.other W195 (Or.inr (slot_ne (Or.inl (wq hw 54 rfl)) (Or.inl (wq hw 56 rfl)) (by decide) (t := (.object cL)) (t' := (.object cL)) (by decide) (by decide)))
    have f205 : Fld Z h195 a1 cL "next" dL (.ref x1) := f186.same W195
    have Kp195 := Kp182.wr W195 (Or.inl om0)
    have Z206 := Nat.le_trans Z193 (Nat.le_of_eq W195.size.symm)
    have N207 := Fr.snoc X195 N194 Ge2
    refine Goes.by st195 ?_
    refine Goes.by (fun _ => XS.aload X195.here hx rfl (hb hby d4_22) rfl rfl) ?_
    refine Goes.by (fun _ => getFR X195 hx hZ hown (wq hw 53 rfl) e195 f199 (g := (mkF m 24 #[.val (.ref a0), .val (.ref a1), .val (.long q2), .second, .val (.ref x1)] [(.ref x1)])) rfl rfl (hb hby d4_24)) ?_
    refine Goes.by (fun _ => XS.aloadN X195.here hx rfl (hb hby d4_27) rfl rfl) ?_
    obtain ⟨T209, h209, X209, e209, W209, st209⟩ := putFR X195 hx hZ hown (wq hw 55 rfl) e195 f201 f200 (wq hw 56 rfl) (wq hw 14 rfl) (ty := (.object cL)) (by decide) rfl rfl (g := (mkF m 28 #[.val (.ref a0), .val (.ref a1), .val (.long q2), .second, .val (.ref x1)] [(.ref a1), (.ref z1)])) rfl rfl (hb hby d4_28)
    have f210 := f196.wr W209
    have f211 := f197.other W209 (Or.inl Ne9)
    have f212 := f198.wr W209
    have f213 := f199.other W209 (Or.inl Ne9)
    have f214 := f200.wr W209
    have f215 := f202.other W209 (Or.inl Ne9)
    have f216 := f203.other W209 (Or.inr (slot_ne (Or.inl (wq hw 54 rfl)) (Or.inl (wq hw 56 rfl)) (by decide) (t := (.object cL)) (t' := (.object cL)) (by decide) (by decide)))
    have f217 := f204.other W209 (Or.inl Ne8)
    have f218 := f205.other W209 (Or.inl Ne8)
    have f219 : Fld Z h209 z1 cL "next" dL (.ref a1) := f201.same W209
    have Kp209 := Kp195.wr W209 (Or.inl om1)
    have Z220 := Nat.le_trans Z206 (Nat.le_of_eq W209.size.symm)
    have N221 := Fr.snoc X209 N207 Ge5
    refine Goes.by st209 ?_
    refine Goes.by (fun _ => XS.aload X209.here hx rfl (hb hby d4_31) rfl rfl) ?_
    refine Goes.by (fun _ => XS.aloadN X209.here hx rfl (hb hby d4_33) rfl rfl) ?_
    obtain ⟨T222, h222, X222, e222, W222, st222⟩ := putFR X209 hx hZ hown (wq hw 53 rfl) e209 f213 f210 (wq hw 51 rfl) (wq hw 39 rfl) (ty := (.object cL)) (by decide) rfl rfl (g := (mkF m 34 #[.val (.ref a0), .val (.ref a1), .val (.long q2), .second, .val (.ref x1)] [(.ref a1), (.ref x1)])) rfl rfl (hb hby d4_34)
    have f223 := f210.wr W222
    have f224 := f211.other W222 (Or.inr (slot_ne (Or.inr (wq hw 47 rfl)) (Or.inl (wq hw 51 rfl)) (by decide) (t := .long) (t' := (.object cL)) (by decide) (by decide)))
    have f225 := f212.wr W222
    have f226 := f214.wr W222
    have f227 := f215.other W222 (Or.inr (slot_ne (Or.inl (wq hw 49 rfl)) (Or.inl (wq hw 51 rfl)) (by decide) (t := (.object cL)) (t' := (.object cL)) (by decide) (by decide)))
    have f228 := f216.other W222 (Or.inl (Ne.symm Ne9))
    have f229 := f217.other W222 (Or.inl Ne7)
    have f230 := f218.other W222 (Or.inl Ne7)
    have f231 := f219.other W222 (Or.inl (Ne.symm Ne9))
    have f232 : Fld Z h222 x1 cL "prev" dL (.ref a1) := f213.same W222
    have Kp222 := Kp209.wr W222 (Or.inl om2)
    have Z233 := Nat.le_trans Z220 (Nat.le_of_eq W222.size.symm)
    have N234 := Fr.snoc X222 N221 Ge3
    refine Goes.by st222 ?_
    obtain ⟨fs, hr, hrun, hended, hW, hsame⟩ := X222.leave (v := none) (fun _ => rfl)
    refine Goes.mk _ _ ?_ ⟨hrun, hended, _, _, rfl, ?_, ⟨_, rfl⟩, hW, hsame.mono (by decide) (by decide)⟩
    · exact X222.returnOut hx Bd.returns (hb hby d4_37) hr
    · show QFile2 Z a0 a1 q2 ar kA x1 x2 t1 t2 nl pl z1 z2 w1 w2 nx1 nx2 pz1 pz2 h0 n0 _ T222.heap _
      rw [e222]
      exact (Or.inr (Or.inr (Or.inl ⟨hd18, hd19, hd20, rfl, N234, Kp222, f230, f229, f231, f228, f227, f232, f224⟩)))
  · have Kt236 : Keep h0 h0 [ar, a0, a1] := Keep.refl _ _
    have ne237 : a0 ≠ b23 := Nat.ne_of_lt (Nat.lt_of_lt_of_le F0.lt sz34)
    have ne238 : ar ≠ b23 := Nat.ne_of_lt (Nat.lt_of_lt_of_le F3.lt sz34)
    have ne239 : a1 ≠ b23 := Nat.ne_of_lt (Nat.lt_of_lt_of_le F9.lt sz34)
    have ge240 : n0 ≤ b23 := Nat.le_trans Z0 sz34
    have sz241 : h0.size ≤ b23 := Nat.le_trans Kt236.1 sz34
    have KK36 := K36
    have f242 := F0.keep KK36
    have f243 := F9.keep KK36
    have f244 := F10.keep KK36 (ninS Ne5 (ninS Ne6 nin0))
    have f245 := F11.keep KK36 (ninS Ne5 (ninS Ne6 nin0))
    have KpK36 := Kt236.trans K36 (allS (Or.inl om1) (allS (Or.inl om0) all0))
    have Z246 := Nat.le_trans Z0 K36.1
    have N247 := hF1 Nq35
    refine Goes.by st1 ?_
    show Goes p.tables e below _ (T1.setTop (mkF m 5 #[.val (.ref a0), .val (.ref a1), .val (.long q2), .second, .unset] [(.ref b23)]))
    refine Goes.by (fun _ => XS.astore X1.here hx rfl (hb hby d4_5) rfl rfl (l' := #[.val (.ref a0), .val (.ref a1), .val (.long q2), .second, .val (.ref b23)]) rfl) ?_
    refine Goes.by (fun _ => XS.aloadN X1.here hx rfl (hb hby d4_7) rfl rfl) ?_
    refine Goes.by (fun _ => XS.aload X1.here hx rfl (hb hby d4_8) rfl rfl) ?_
    refine Goes.by (fun _ => getFR X1 hx hZ hown (wq hw 53 rfl) rfl f33 (g := (mkF m 10 #[.val (.ref a0), .val (.ref a1), .val (.long q2), .second, .val (.ref b23)] [(.ref b23), (.ref a1)])) rfl rfl (hb hby d4_10)) ?_
    obtain ⟨T249, h249, X249, e249, W249, st249⟩ := putFR X1 hx hZ hown (wq hw 53 rfl) rfl f245 f243 (wq hw 54 rfl) (wq hw 14 rfl) (ty := (.object cL)) (by decide) rfl rfl (g := (mkF m 13 #[.val (.ref a0), .val (.ref a1), .val (.long q2), .second, .val (.ref b23)] [(.ref b23), (.ref a1)])) rfl rfl (hb hby d4_13)
    have f250 := f242.wr W249
    have f251 := f243.wr W249
    have f252 := f244.other W249 (Or.inr (slot_ne (Or.inl (wq hw 56 rfl)) (Or.inl (wq hw 54 rfl)) (by decide) (t := (.object cL)) (t' := (.object cL)) (by decide) (by decide)))
    have f253 := f27.other W249 (Or.inl (Ne.symm Ne5))
    have f254 := f28.other W249 (Or.inl (Ne.symm Ne5))
    have f255 := f29.other W249 (Ne.symm Ne6)
    have f256 := f30.wr W249
    have f257 := f31.other W249 (Or.inl (Ne.symm ne239))
    have f258 := f32.other W249 (Or.inl (Ne.symm ne239))
    have f259 := f33.other W249 (Or.inl (Ne.symm ne239))
    have f260 : Fld Z h249 a1 cL "prev" dL (.ref b23) := f245.same W249
    have Kp249 := KpK36.wr W249 (Or.inl om2)
    have Z261 := Nat.le_trans Z246 (Nat.le_of_eq W249.size.symm)
    have N262 := Fr.snoc X249 N247 Ge2
    refine Goes.by st249 ?_
    refine Goes.by (fun _ => XS.aloadN X249.here hx rfl (hb hby d4_16) rfl rfl) ?_
    refine Goes.by (fun _ => XS.aload X249.here hx rfl (hb hby d4_17) rfl rfl) ?_
    obtain ⟨T263, h263, X263, e263, W263, st263⟩ := putFR X249 hx hZ hown (wq hw 55 rfl) e249 f252 f251 (wq hw 56 rfl) (wq hw 14 rfl) (ty := (.object cL)) (by decide) rfl rfl (g := (mkF m 19 #[.val (.ref a0), .val (.ref a1), .val (.long q2), .second, .val (.ref b23)] [(.ref b23), (.ref a1)])) rfl rfl (hb hby d4_19)
    have f264 := f250.wr W263
    have f265 := f251.wr W263
    have f266 := f253.other W263 (Or.inl (Ne.symm Ne5))
    have f267 := f254.other W263 (Or.inl (Ne.symm Ne5))
    have f268 := f255.other W263 (Ne.symm Ne6)
    have f269 := f256.wr W263
    have f270 := f257.other W263 (Or.inl (Ne.symm ne239))
    have f271 := f258.other W263 (Or.inl (Ne.symm ne239))
    have f272 := f259.other W263 (Or.inl (Ne.symm ne239))
    have f273 := f260.other W263 (Or.inr (slot_ne (Or.inl (wq hw 54 rfl)) (Or.inl (wq hw 56 rfl)) (by decide) (t := (.object cL)) (t' := (.object cL)) (by decide) (by decide)))
    have f274 : Fld Z h263 a1 cL "next" dL (.ref b23) := f252.same W263
    have Kp263 := Kp249.wr W263 (Or.inl om2)
    have Z275 := Nat.le_trans Z261 (Nat.le_of_eq W263.size.symm)
    have N276 := Fr.snoc X263 N262 Ge2
    refine Goes.by st263 ?_
    refine Goes.by (fun _ => XS.aload X263.here hx rfl (hb hby d4_22) rfl rfl) ?_
    refine Goes.by (fun _ => getFR X263 hx hZ hown (wq hw 53 rfl) e263 f272 (g := (mkF m 24 #[.val (.ref a0), .val (.ref a1), .val (.long q2), .second, .val (.ref b23)] [(.ref b23)])) rfl rfl (hb hby d4_24)) ?_
    refine Goes.by (fun _ => XS.aloadN X263.here hx rfl (hb hby d4_27) rfl rfl) ?_
    obtain ⟨T278, h278, X278, e278, W278, st278⟩ := putFR X263 hx hZ hown (wq hw 55 rfl) e263 f271 f269 (wq hw 49 rfl) (wq hw 39 rfl) (ty := (.object cL)) (by decide) rfl rfl (g := (mkF m 28 #[.val (.ref a0), .val (.ref a1), .val (.long q2), .second, .val (.ref b23)] [(.ref a1), (.ref b23)])) rfl rfl (hb hby d4_28)
    have f279 := f264.wr W278
    have f280 := f265.wr W278
    have f281 := f266.other W278 (Or.inl ne237)
    have f282 := f267.other W278 (Or.inl ne237)
    have f283 := f268.other W278 ne238
    have f284 := f269.wr W278
    have f285 := f270.other W278 (Or.inr (slot_ne (Or.inr (wq hw 47 rfl)) (Or.inl (wq hw 49 rfl)) (by decide) (t := .long) (t' := (.object cL)) (by decide) (by decide)))
    have f286 := f272.other W278 (Or.inr (slot_ne (Or.inl (wq hw 51 rfl)) (Or.inl (wq hw 49 rfl)) (by decide) (t := (.object cL)) (t' := (.object cL)) (by decide) (by decide)))
    have f287 := f273.other W278 (Or.inl ne239)
    have f288 := f274.other W278 (Or.inl ne239)
    have f289 : Fld Z h278 b23 cL "next" dL (.ref a1) := f271.same W278
    have Kp278 := Kp263.wr W278 (Or.inr sz241)
    have Z290 := Nat.le_trans Z275 (Nat.le_of_eq W278.size.symm)
    have N291 := Fr.snoc X278 N276 ge240
    refine Goes.by st278 ?_
    refine Goes.by (fun _ => XS.aload X278.here hx rfl (hb hby d4_31) rfl rfl) ?_
    refine Goes.by (fun _ => XS.aloadN X278.here hx rfl (hb hby d4_33) rfl rfl) ?_
    obtain ⟨T292, h292, X292, e292, W292, st292⟩ := putFR X278 hx hZ hown (wq hw 53 rfl) e278 f286 f284 (wq hw 51 rfl) (wq hw 39 rfl) (ty := (.object cL)) (by decide) rfl rfl (g := (mkF m 34 #[.val (.ref a0), .val (.ref a1), .val (.long q2), .second, .val (.ref b23)] [(.ref a1), (.ref b23)])) rfl rfl (hb hby d4_34)
    have f293 := f279.wr W292
    have f294 := f280.wr W292
    have f295 := f281.other W292 (Or.inl ne237)
    have f296 := f282.other W292 (Or.inl ne237)
    have f297 := f283.other W292 ne238
    have f298 := f284.wr W292
    have f299 := f285.other W292 (Or.inr (slot_ne (Or.inr (wq hw 47 rfl)) (Or.inl (wq hw 51 rfl)) (by decide) (t := .long) (t' := (.object cL)) (by decide) (by decide)))
    have f300 := f287.other W292 (Or.inl ne239)
    have f301 := f288.other W292 (Or.inl ne239)
    have f302 := f289.other W292 (Or.inr (slot_ne (Or.inl (wq hw 49 rfl)) (Or.inl (wq hw 51 rfl)) (by decide) (t := (.object cL)) (t' := (.object cL)) (by decide) (by decide)))
    have f303 : Fld Z h292 b23 cL "prev" dL (.ref a1) := f286.same W292
    have Kp292 := Kp278.wr W292 (Or.inr sz241)
    have Z304 := Nat.le_trans Z290 (Nat.le_of_eq W292.size.symm)
    have N305 := Fr.snoc X292 N291 ge240
    refine Goes.by st292 ?_
    obtain ⟨fs, hr, hrun, hended, hW, hsame⟩ := X292.leave (v := none) (fun _ => rfl)
    refine Goes.mk _ _ ?_ ⟨hrun, hended, _, _, rfl, ?_, ⟨_, rfl⟩, hW, hsame.mono (by decide) (by decide)⟩
    · exact X292.returnOut hx Bd.returns (hb hby d4_37) hr
    · show QFile2 Z a0 a1 q2 ar kA x1 x2 t1 t2 nl pl z1 z2 w1 w2 nx1 nx2 pz1 pz2 h0 n0 _ T292.heap _
      rw [e292]
      exact (Or.inr (Or.inr (Or.inr (Or.inl ⟨b23, hd24, hd25, hd26, rfl, N305, Kp292, sz241, f295, f296, f297, f298, f299, f302, f303, f301, f300⟩))))
  · have Kt307 : Keep h0 h0 [ar, a0, a1] := Keep.refl _ _
    have ne308 : a0 ≠ b37 := Nat.ne_of_lt (Nat.lt_of_lt_of_le F0.lt sz47)
    have ne309 : ar ≠ b37 := Nat.ne_of_lt (Nat.lt_of_lt_of_le F3.lt sz47)
    have ne310 : a1 ≠ b37 := Nat.ne_of_lt (Nat.lt_of_lt_of_le F9.lt sz47)
    have ge311 : n0 ≤ b37 := Nat.le_trans Z0 sz47
    have sz312 : h0.size ≤ b37 := Nat.le_trans Kt307.1 sz47
    have KK49 := K49
    have f313 := F0.keep KK49
    have f314 := F9.keep KK49
    have f315 := F10.keep KK49 (ninS Ne5 (ninS Ne6 nin0))
    have f316 := F11.keep KK49 (ninS Ne5 (ninS Ne6 nin0))
    have KpK49 := Kt307.trans K49 (allS (Or.inl om1) (allS (Or.inl om0) all0))
    have Z317 := Nat.le_trans Z0 K49.1
    have N318 := hF1 Nq48
    refine Goes.by st1 ?_
    show Goes p.tables e below _ (T1.setTop (mkF m 5 #[.val (.ref a0), .val (.ref a1), .val (.long q2), .second, .unset] [(.ref b37)]))
    refine Goes.by (fun _ => XS.astore X1.here hx rfl (hb hby d4_5) rfl rfl (l' := #[.val (.ref a0), .val (.ref a1), .val (.long q2), .second, .val (.ref b37)]) rfl) ?_
    refine Goes.by (fun _ => XS.aloadN X1.here hx rfl (hb hby d4_7) rfl rfl) ?_
    refine Goes.by (fun _ => XS.aload X1.here hx rfl (hb hby d4_8) rfl rfl) ?_
    refine Goes.by (fun _ => getFR X1 hx hZ hown (wq hw 53 rfl) rfl f46 (g := (mkF m 10 #[.val (.ref a0), .val (.ref a1), .val (.long q2), .second, .val (.ref b37)] [(.ref b37), (.ref a1)])) rfl rfl (hb hby d4_10)) ?_
    obtain ⟨T320, h320, X320, e320, W320, st320⟩ := putFR X1 hx hZ hown (wq hw 53 rfl) rfl f316 f314 (wq hw 54 rfl) (wq hw 14 rfl) (ty := (.object cL)) (by decide) rfl rfl (g := (mkF m 13 #[.val (.ref a0), .val (.ref a1), .val (.long q2), .second, .val (.ref b37)] [(.ref b37), (.ref a1)])) rfl rfl (hb hby d4_13)
    have f321 := f313.wr W320
    have f322 := f314.wr W320
    have f323 := f315.other W320 (Or.inr (slot_ne (Or.inl (wq hw 56 rfl)) (Or.inl (wq hw 54 rfl)) (by decide) (t := (.object cL)) (t' := (.object cL)) (by decide) (by decide)))
    have f324 := f40.other W320 (Or.inl (Ne.symm Ne5))
    have f325 := f41.other W320 (Or.inl (Ne.symm Ne5))
    have f326 := f42.other W320 (Ne.symm Ne6)
    have f327 := f43.wr W320
    have f328 := f44.other W320 (Or.inl (Ne.symm ne310))
    have f329 := f45.other W320 (Or.inl (Ne.symm ne310))
    have f330 := f46.other W320 (Or.inl (Ne.symm ne310))
    have f331 : Fld Z h320 a1 cL "prev" dL (.ref b37) := f316.same W320
    have Kp320 := KpK49.wr W320 (Or.inl om2)
    have Z332 := Nat.le_trans Z317 (Nat.le_of_eq W320.size.symm)
    have N333 := Fr.snoc X320 N318 Ge2
    refine Goes.by st320 ?_
    refine Goes.by (fun _ => XS.aloadN X320.here hx rfl (hb hby d4_16) rfl rfl) ?_
    refine Goes.by (fun _ => XS.aload X320.here hx rfl (hb hby d4_17) rfl rfl) ?_
    obtain ⟨T334, h334, X334, e334, W334, st334⟩ := putFR X320 hx hZ hown (wq hw 55 rfl) e320 f323 f322 (wq hw 56 rfl) (wq hw 14 rfl) (ty := (.object cL)) (by decide) rfl rfl (g := (mkF m 19 #[.val (.ref a0), .val (.ref a1), .val (.long q2), .second, .val (.ref b37)] [(.ref b37), (.ref a1)])) rfl rfl (hb hby d4_19)
    have f335 := f321.wr W334
    have f336 := f322.wr W334
    have f337 := f324.other W334 (Or.inl (Ne.symm Ne5))
    have f338 := f325.other W334 (Or.inl (Ne.symm Ne5))
    have f339 := f326.other W334 (Ne.symm Ne6)
    have f340 := f327.wr W334
    have f341 := f328.other W334 (Or.inl (Ne.symm ne310))
    have f342 := f329.other W334 (Or.inl (Ne.symm ne310))
    have f343 := f330.other W334 (Or.inl (Ne.symm ne310))
    have f344 := f331.other W334 (Or.inr (slot_ne (Or.inl (wq hw 54 rfl)) (Or.inl (wq hw 56 rfl)) (by decide) (t := (.object cL)) (t' := (.object cL)) (by decide) (by decide)))
    have f345 : Fld Z h334 a1 cL "next" dL (.ref b37) := f323.same W334
    have Kp334 := Kp320.wr W334 (Or.inl om2)
    have Z346 := Nat.le_trans Z332 (Nat.le_of_eq W334.size.symm)
    have N347 := Fr.snoc X334 N333 Ge2
    refine Goes.by st334 ?_
    refine Goes.by (fun _ => XS.aload X334.here hx rfl (hb hby d4_22) rfl rfl) ?_
    refine Goes.by (fun _ => getFR X334 hx hZ hown (wq hw 53 rfl) e334 f343 (g := (mkF m 24 #[.val (.ref a0), .val (.ref a1), .val (.long q2), .second, .val (.ref b37)] [(.ref b37)])) rfl rfl (hb hby d4_24)) ?_
    refine Goes.by (fun _ => XS.aloadN X334.here hx rfl (hb hby d4_27) rfl rfl) ?_
    obtain ⟨T349, h349, X349, e349, W349, st349⟩ := putFR X334 hx hZ hown (wq hw 55 rfl) e334 f342 f340 (wq hw 49 rfl) (wq hw 39 rfl) (ty := (.object cL)) (by decide) rfl rfl (g := (mkF m 28 #[.val (.ref a0), .val (.ref a1), .val (.long q2), .second, .val (.ref b37)] [(.ref a1), (.ref b37)])) rfl rfl (hb hby d4_28)
    have f350 := f335.wr W349
    have f351 := f336.wr W349
    have f352 := f337.other W349 (Or.inl ne308)
    have f353 := f338.other W349 (Or.inl ne308)
    have f354 := f339.other W349 ne309
    have f355 := f340.wr W349
    have f356 := f341.other W349 (Or.inr (slot_ne (Or.inr (wq hw 47 rfl)) (Or.inl (wq hw 49 rfl)) (by decide) (t := .long) (t' := (.object cL)) (by decide) (by decide)))
    have f357 := f343.other W349 (Or.inr (slot_ne (Or.inl (wq hw 51 rfl)) (Or.inl (wq hw 49 rfl)) (by decide) (t := (.object cL)) (t' := (.object cL)) (by decide) (by decide)))
    have f358 := f344.other W349 (Or.inl ne310)
    have f359 := f345.other W349 (Or.inl ne310)
    have f360 : Fld Z h349 b37 cL "next" dL (.ref a1) := f342.same W349
    have Kp349 := Kp334.wr W349 (Or.inr sz312)
    have Z361 := Nat.le_trans Z346 (Nat.le_of_eq W349.size.symm)
    have N362 := Fr.snoc X349 N347 ge311
    refine Goes.by st349 ?_
    refine Goes.by (fun _ => XS.aload X349.here hx rfl (hb hby d4_31) rfl rfl) ?_
    refine Goes.by (fun _ => XS.aloadN X349.here hx rfl (hb hby d4_33) rfl rfl) ?_
    obtain ⟨T363, h363, X363, e363, W363, st363⟩ := putFR X349 hx hZ hown (wq hw 53 rfl) e349 f357 f355 (wq hw 51 rfl) (wq hw 39 rfl) (ty := (.object cL)) (by decide) rfl rfl (g := (mkF m 34 #[.val (.ref a0), .val (.ref a1), .val (.long q2), .second, .val (.ref b37)] [(.ref a1), (.ref b37)])) rfl rfl (hb hby d4_34)
    have f364 := f350.wr W363
    have f365 := f351.wr W363
    have f366 := f352.other W363 (Or.inl ne308)
    have f367 := f353.other W363 (Or.inl ne308)
    have f368 := f354.other W363 ne309
    have f369 := f355.wr W363
    have f370 := f356.other W363 (Or.inr (slot_ne (Or.inr (wq hw 47 rfl)) (Or.inl (wq hw 51 rfl)) (by decide) (t := .long) (t' := (.object cL)) (by decide) (by decide)))
    have f371 := f358.other W363 (Or.inl ne310)
    have f372 := f359.other W363 (Or.inl ne310)
    have f373 := f360.other W363 (Or.inr (slot_ne (Or.inl (wq hw 49 rfl)) (Or.inl (wq hw 51 rfl)) (by decide) (t := (.object cL)) (t' := (.object cL)) (by decide) (by decide)))
    have f374 : Fld Z h363 b37 cL "prev" dL (.ref a1) := f357.same W363
    have Kp363 := Kp349.wr W363 (Or.inr sz312)
    have Z375 := Nat.le_trans Z361 (Nat.le_of_eq W363.size.symm)
    have N376 := Fr.snoc X363 N362 ge311
    refine Goes.by st363 ?_
    obtain ⟨fs, hr, hrun, hended, hW, hsame⟩ := X363.leave (v := none) (fun _ => rfl)
    refine Goes.mk _ _ ?_ ⟨hrun, hended, _, _, rfl, ?_, ⟨_, rfl⟩, hW, hsame.mono (by decide) (by decide)⟩
    · exact X363.returnOut hx Bd.returns (hb hby d4_37) hr
    · show QFile2 Z a0 a1 q2 ar kA x1 x2 t1 t2 nl pl z1 z2 w1 w2 nx1 nx2 pz1 pz2 h0 n0 _ T363.heap _
      rw [e363]
      exact (Or.inr (Or.inr (Or.inr (Or.inr ⟨b37, hd38, hd39, rfl, N376, Kp363, sz312, f366, f367, f368, f369, f370, f373, f374, f372, f371⟩))))
theorem d9_0 : decode prog_4_method_6_code 0 = .ok (.aload_n 1, 1) := by decide +kernel
theorem d9_1 : decode prog_4_method_6_code 1 = .ok (.getfield 37, 3) := by decide +kernel
theorem d9_4 : decode prog_4_method_6_code 4 = .ok (.astore_n 2, 1) := by decide +kernel
theorem d9_5 : decode prog_4_method_6_code 5 = .ok (.aload_n 2, 1) := by decide +kernel
theorem d9_6 : decode prog_4_method_6_code 6 = .ok (.aload_n 1, 1) := by decide +kernel
theorem d9_7 : decode prog_4_method_6_code 7 = .ok (.getfield 27, 3) := by decide +kernel
theorem d9_10 : decode prog_4_method_6_code 10 = .ok (.putfield 27, 3) := by decide +kernel
theorem d9_13 : decode prog_4_method_6_code 13 = .ok (.aload_n 1, 1) := by decide +kernel
theorem d9_14 : decode prog_4_method_6_code 14 = .ok (.getfield 27, 3) := by decide +kernel
theorem d9_17 : decode prog_4_method_6_code 17 = .ok (.aload_n 2, 1) := by decide +kernel
theorem d9_18 : decode prog_4_method_6_code 18 = .ok (.putfield 37, 3) := by decide +kernel
theorem d9_21 : decode prog_4_method_6_code 21 = .ok (.aload_n 1, 1) := by decide +kernel
theorem d9_22 : decode prog_4_method_6_code 22 = .ok (.aconst_null, 1) := by decide +kernel
theorem d9_23 : decode prog_4_method_6_code 23 = .ok (.putfield 27, 3) := by decide +kernel
theorem d9_26 : decode prog_4_method_6_code 26 = .ok (.aload_n 1, 1) := by decide +kernel
theorem d9_27 : decode prog_4_method_6_code 27 = .ok (.aconst_null, 1) := by decide +kernel
theorem d9_28 : decode prog_4_method_6_code 28 = .ok (.putfield 37, 3) := by decide +kernel
theorem d9_31 : decode prog_4_method_6_code 31 = .ok (.aload_n 2, 1) := by decide +kernel
theorem d9_32 : decode prog_4_method_6_code 32 = .ok (.getfield 27, 3) := by decide +kernel
theorem d9_35 : decode prog_4_method_6_code 35 = .ok (.aload_n 2, 1) := by decide +kernel
theorem d9_36 : decode prog_4_method_6_code 36 = .ok (.if_acmp .ne 11, 3) := by decide +kernel
theorem d9_47 : decode prog_4_method_6_code 47 = .ok (.return_, 1) := by decide +kernel
def QRemLL (Z : State) (a0 : Addr) (a1 : Addr) (u : Addr) (w : Addr) (nu : Value) (pu : Value) (nw : Value) (pw : Value) (h0 : Heap) (n0 : Nat) (v : Option Value) (h : Heap) (L : List Loc) : Prop := v = none ∧ Fr n0 L ∧ Keep h0 h [u, w, a1] ∧ Fld Z h a1 cL "next" dL .null ∧ Fld Z h a1 cL "prev" dL .null ∧ Fld Z h u cL "next" dL (.ref w) ∧ Fld Z h u cL "prev" dL pu ∧ Fld Z h w cL "next" dL nw ∧ Fld Z h w cL "prev" dL (.ref u)
theorem efRemLL (m : MethodId) (x0 : Addr) (x1 : Addr) : entryFrame m #[(.ref x0), (.ref x1)] 3 = mkF m 0 #[.val (.ref x0), .val (.ref x1), .unset] [] := by first | (simp [entryFrame, mkF, argsToLocals, Value.category]; done) | rfl
set_option maxRecDepth 65536 in
set_option maxHeartbeats 40000000 in
theorem rmRemLL (l : Launch) (Z : State) (az : Array Value) (hw : ∀ d ∈ tables_1, d.before az Z = true) (ws : List Jvm.Cond) (a0 : Addr) (a1 : Addr) (u : Addr) (w : Addr) (nu : Value) (pu : Value) (nw : Value) (pw : Value) (h0 : Heap) (n0 : Nat) (Z0 : n0 ≤ h0.size) (F0 : Exa Z h0 a1 cL) (F1 : Fld Z h0 a1 cL "prev" dL (.ref u)) (F2 : Fld Z h0 a1 cL "next" dL (.ref w)) (F3 : Exa Z h0 u cL) (F4 : Fld Z h0 u cL "next" dL nu) (F5 : Fld Z h0 u cL "prev" dL pu) (F6 : Exa Z h0 w cL) (F7 : Fld Z h0 w cL "next" dL nw) (F8 : Fld Z h0 w cL "prev" dL pw) (Ne0 : a1 ≠ u) (Ne1 : a1 ≠ w) (Ne2 : u ≠ w) (Ge0 : n0 ≤ a1) (Ge1 : n0 ≤ u) (Ge2 : n0 ≤ w) :
    MetFree l y7 (head1 (Jvm.Cond.code y7 prog_4_method_6_code 3 none :: ws) ({ frames := 2, cells := 0, slots := 0, locals := 32 } : Room)) (fun a U => a = #[(.ref a0), (.ref a1)] ∧ Z.Warmed39 U.vm ∧ U.heap = h0) (fun _ _ _ _ _ => True) (fun _ U o U' => ∃ v L, o = .returned v ∧ QRemLL Z a0 a1 u w nu pu nw pw h0 n0 v U'.heap L ∧ FrameEnd U o U' L ({ frames := 2, cells := 0, slots := 0, locals := 32 } : Room).cells ({ frames := 2, cells := 0, slots := 0, locals := 32 } : Room).slots) := by
  refine MetFree.of_bodySF (plainFor_of_name own_pn_com_example_admit_one_admitone_engine_DueOrder) hisR ?_
  intro p e s m args below meth c s₁ Bd hml0 hP hK
  obtain ⟨rfl, hZ, hh⟩ := hP
  have hx := Bd.exec
  have hby := Bd.bytes
  have hml : c.maxLocals = 3 := hml0
  have hown : s.vm.findClass cD = some m.cls := findClass_of_methodNamed Bd.named
  have hnm := (name_of_methodNamed Bd.named Bd.method).1
  have X0 : Stand p l e ({ frames := 2, cells := 0, slots := 0, locals := 32 } : Room) s m #[(.ref a0), (.ref a1)] below meth c s₁ [] 0 0 := Stand.of_body Bd
  have e0 : s₁.heap = h0 := by rw [← hh, Bd.state]; rfl
  have N0 := Fr.nil n0
  have Kp0 : Keep h0 h0 [u, w, a1] := Keep.refl _ _
  refine Goes.start ?_
  refine Goes.by (B := s₁.setTop (mkF m 0 #[.val (.ref a0), .val (.ref a1), .unset] [])) (fun t k => castTop (efRemLL m a0 a1) k) ?_
  refine Goes.by (fun _ => XS.aloadN X0.here hx rfl (hb hby d9_0) rfl rfl) ?_
  refine Goes.by (fun _ => getFR X0 hx hZ hown (wq hw 53 rfl) e0 F1 (g := (mkF m 1 #[.val (.ref a0), .val (.ref a1), .unset] [(.ref a1)])) rfl rfl (hb hby d9_1)) ?_
  refine Goes.by (fun _ => XS.astoreN X0.here hx rfl (hb hby d9_4) rfl rfl (l' := #[.val (.ref a0), .val (.ref a1), .val (.ref u)]) rfl) ?_
  refine Goes.by (fun _ => XS.aloadN X0.here hx rfl (hb hby d9_5) rfl rfl) ?_
  refine Goes.by (fun _ => XS.aloadN X0.here hx rfl (hb hby d9_6) rfl rfl) ?_
  refine Goes.by (fun _ => getFR X0 hx hZ hown (wq hw 55 rfl) e0 F2 (g := (mkF m 7 #[.val (.ref a0), .val (.ref a1), .val (.ref u)] [(.ref a1), (.ref u)])) rfl rfl (hb hby d9_7)) ?_
  obtain ⟨T3, h3, X3, e3, W3, st3⟩ := putFR X0 hx hZ hown (wq hw 55 rfl) e0 F4 F3 (wq hw 56 rfl) (wq hw 14 rfl) (ty := (.object cL)) (by decide) rfl rfl (g := (mkF m 10 #[.val (.ref a0), .val (.ref a1), .val (.ref u)] [(.ref w), (.ref u)])) rfl rfl (hb hby d9_10)
  have f4 := F0.wr W3
  have f5 := F1.other W3 (Or.inl Ne0)
  have f6 := F2.other W3 (Or.inl Ne0)
  have f7 := F3.wr W3
  have f8 := F5.other W3 (Or.inr (slot_ne (Or.inl (wq hw 54 rfl)) (Or.inl (wq hw 56 rfl)) (by decide) (t := (.object cL)) (t' := (.object cL)) (by decide) (by decide)))
  have f9 := F6.wr W3
  have f10 := F7.other W3 (Or.inl (Ne.symm Ne2))
  have f11 := F8.other W3 (Or.inl (Ne.symm Ne2))
  have f12 : Fld Z h3 u cL "next" dL (.ref w) := F4.same W3
  have Kp3 : Keep h0 h3 [u, w, a1] := Kp0.wr W3 (Or.inl om0)
  have Z13 := Nat.le_trans Z0 (Nat.le_of_eq W3.size.symm)
  have N14 := Fr.snoc X3 N0 Ge1
  refine Goes.by st3 ?_
  refine Goes.by (fun _ => XS.aloadN X3.here hx rfl (hb hby d9_13) rfl rfl) ?_
  refine Goes.by (fun _ => getFR X3 hx hZ hown (wq hw 55 rfl) e3 f6 (g := (mkF m 14 #[.val (.ref a0), .val (.ref a1), .val (.ref u)] [(.ref a1)])) rfl rfl (hb hby d9_14)) ?_
  refine Goes.by (fun _ => XS.aloadN X3.here hx rfl (hb hby d9_17) rfl rfl) ?_
  obtain ⟨T16, h16, X16, e16, W16, st16⟩ := putFR X3 hx hZ hown (wq hw 53 rfl) e3 f11 f9 (wq hw 54 rfl) (wq hw 14 rfl) (ty := (.object cL)) (by decide) rfl rfl (g := (mkF m 18 #[.val (.ref a0), .val (.ref a1), .val (.ref u)] [(.ref u), (.ref w)])) rfl rfl (hb hby d9_18)
  have f17 := f4.wr W16
  have f18 := f5.other W16 (Or.inl Ne1)
  have f19 := f6.other W16 (Or.inl Ne1)
  have f20 := f7.wr W16
  have f21 := f8.other W16 (Or.inl Ne2)
  have f22 := f9.wr W16
  have f23 := f10.other W16 (Or.inr (slot_ne (Or.inl (wq hw 56 rfl)) (Or.inl (wq hw 54 rfl)) (by decide) (t := (.object cL)) (t' := (.object cL)) (by decide) (by decide)))
  have f24 := f12.other W16 (Or.inl Ne2)
  have f25 : Fld Z h16 w cL "prev" dL (.ref u) := f11.same W16
  have Kp16 : Keep h0 h16 [u, w, a1] := Kp3.wr W16 (Or.inl om1)
  have Z26 := Nat.le_trans Z13 (Nat.le_of_eq W16.size.symm)
  have N27 := Fr.snoc X16 N14 Ge2
  refine Goes.by st16 ?_
  refine Goes.by (fun _ => XS.aloadN X16.here hx rfl (hb hby d9_21) rfl rfl) ?_
  refine Goes.by (fun _ => XS.aconstNull X16.here hx rfl (hb hby d9_22)) ?_
  obtain ⟨T28, h28, X28, e28, W28, st28⟩ := putFR X16 hx hZ hown (wq hw 55 rfl) e16 f19 f17 (wq hw 56 rfl) (wq hw 14 rfl) (ty := (.object cL)) (by decide) rfl rfl (g := (mkF m 23 #[.val (.ref a0), .val (.ref a1), .val (.ref u)] [.null, (.ref a1)])) rfl rfl (hb hby d9_23)
  have f29 := f17.wr W28
  have f30 := f18.other W28 (Or.inr (slot_ne (Or.inl (wq hw 54 rfl)) (Or.inl (wq hw 56 rfl)) (by decide) (t := (.object cL)) (t' := (.object cL)) (by decide) (by decide)))
  have f31 := f20.wr W28
  have f32 := f21.other W28 (Or.inl (Ne.symm Ne0))
  have f33 := f22.wr W28
  have f34 := f23.other W28 (Or.inl (Ne.symm Ne1))
  have f35 := f24.other W28 (Or.inl (Ne.symm Ne0))
  have f36 := f25.other W28 (Or.inl (Ne.symm Ne1))
  have f37 : Fld Z h28 a1 cL "next" dL .null := f19.same W28
  have Kp28 : Keep h0 h28 [u, w, a1] := Kp16.wr W28 (Or.inl om2)
  have Z38 := Nat.le_trans Z26 (Nat.le_of_eq W28.size.symm)
  have N39 := Fr.snoc X28 N27 Ge0
  refine Goes.by st28 ?_
  refine Goes.by (fun _ => XS.aloadN X28.here hx rfl (hb hby d9_26) rfl rfl) ?_
  refine Goes.by (fun _ => XS.aconstNull X28.here hx rfl (hb hby d9_27)) ?_
  obtain ⟨T40, h40, X40, e40, W40, st40⟩ := putFR X28 hx hZ hown (wq hw 53 rfl) e28 f30 f29 (wq hw 54 rfl) (wq hw 14 rfl) (ty := (.object cL)) (by decide) rfl rfl (g := (mkF m 28 #[.val (.ref a0), .val (.ref a1), .val (.ref u)] [.null, (.ref a1)])) rfl rfl (hb hby d9_28)
  have f41 := f29.wr W40
  have f42 := f31.wr W40
  have f43 := f32.other W40 (Or.inl (Ne.symm Ne0))
  have f44 := f33.wr W40
  have f45 := f34.other W40 (Or.inl (Ne.symm Ne1))
  have f46 := f35.other W40 (Or.inl (Ne.symm Ne0))
  have f47 := f36.other W40 (Or.inl (Ne.symm Ne1))
  have f48 := f37.other W40 (Or.inr (slot_ne (Or.inl (wq hw 56 rfl)) (Or.inl (wq hw 54 rfl)) (by decide) (t := (.object cL)) (t' := (.object cL)) (by decide) (by decide)))
  have f49 : Fld Z h40 a1 cL "prev" dL .null := f30.same W40
  have Kp40 : Keep h0 h40 [u, w, a1] := Kp28.wr W40 (Or.inl om2)
  have Z50 := Nat.le_trans Z38 (Nat.le_of_eq W40.size.symm)
  have N51 := Fr.snoc X40 N39 Ge0
  refine Goes.by st40 ?_
  refine Goes.by (fun _ => XS.aloadN X40.here hx rfl (hb hby d9_31) rfl rfl) ?_
  refine Goes.by (fun _ => getFR X40 hx hZ hown (wq hw 55 rfl) e40 f46 (g := (mkF m 32 #[.val (.ref a0), .val (.ref a1), .val (.ref u)] [(.ref u)])) rfl rfl (hb hby d9_32)) ?_
  refine Goes.by (fun _ => XS.aloadN X40.here hx rfl (hb hby d9_35) rfl rfl) ?_
  refine Goes.by (fun _ => Jvm.RoadKit.acmp (g := (mkF m 36 #[.val (.ref a0), .val (.ref a1), .val (.ref u)] [(.ref u), (.ref w)])) X40 hx rfl rfl rfl (pc0 := 36) (pc' := 47) (same := false) rfl (hb hby d9_36) rfl (decide_eq_false fun q => (Ne.symm Ne2) (Value.ref.inj q)) (by decide) (by decide)) ?_
  obtain ⟨fs, hr, hrun, hended, hW, hsame⟩ := X40.leave (v := none) (fun _ => rfl)
  refine Goes.mk _ _ ?_ ⟨hrun, hended, _, _, rfl, ?_, ⟨_, rfl⟩, hW, hsame.mono (by decide) (by decide)⟩
  · exact X40.returnOut hx Bd.returns (hb hby d9_47) hr
  · show QRemLL Z a0 a1 u w nu pu nw pw h0 n0 _ T40.heap _
    rw [e40]
    exact ⟨rfl, N51, Kp40, f48, f49, f46, f43, f45, f47⟩
def QRemLH (Z : State) (a0 : Addr) (a1 : Addr) (u : Addr) (w : Addr) (nu : Value) (pu : Value) (nw : Value) (pw : Value) (tw : Int64) (h0 : Heap) (n0 : Nat) (v : Option Value) (h : Heap) (L : List Loc) : Prop := v = none ∧ Fr n0 L ∧ Keep h0 h [u, w, a1] ∧ Fld Z h a1 cL "next" dL .null ∧ Fld Z h a1 cL "prev" dL .null ∧ Fld Z h u cL "next" dL (.ref w) ∧ Fld Z h u cL "prev" dL pu ∧ Fld Z h w cL "next" dL nw ∧ Fld Z h w cL "prev" dL (.ref u) ∧ Fld Z h w cH "tick" "J" (.long tw)
theorem efRemLH (m : MethodId) (x0 : Addr) (x1 : Addr) : entryFrame m #[(.ref x0), (.ref x1)] 3 = mkF m 0 #[.val (.ref x0), .val (.ref x1), .unset] [] := by first | (simp [entryFrame, mkF, argsToLocals, Value.category]; done) | rfl
set_option maxRecDepth 65536 in
set_option maxHeartbeats 40000000 in
theorem rmRemLH (l : Launch) (Z : State) (az : Array Value) (hw : ∀ d ∈ tables_1, d.before az Z = true) (ws : List Jvm.Cond) (a0 : Addr) (a1 : Addr) (u : Addr) (w : Addr) (nu : Value) (pu : Value) (nw : Value) (pw : Value) (tw : Int64) (h0 : Heap) (n0 : Nat) (Z0 : n0 ≤ h0.size) (F0 : Exa Z h0 a1 cL) (F1 : Fld Z h0 a1 cL "prev" dL (.ref u)) (F2 : Fld Z h0 a1 cL "next" dL (.ref w)) (F3 : Exa Z h0 u cL) (F4 : Fld Z h0 u cL "next" dL nu) (F5 : Fld Z h0 u cL "prev" dL pu) (F6 : Exa Z h0 w cH) (F7 : Fld Z h0 w cL "next" dL nw) (F8 : Fld Z h0 w cL "prev" dL pw) (F9 : Fld Z h0 w cH "tick" "J" (.long tw)) (Ne0 : a1 ≠ u) (Ne1 : a1 ≠ w) (Ne2 : u ≠ w) (Ge0 : n0 ≤ a1) (Ge1 : n0 ≤ u) (Ge2 : n0 ≤ w) :
    MetFree l y7 (head1 (Jvm.Cond.code y7 prog_4_method_6_code 3 none :: ws) ({ frames := 2, cells := 0, slots := 0, locals := 32 } : Room)) (fun a U => a = #[(.ref a0), (.ref a1)] ∧ Z.Warmed39 U.vm ∧ U.heap = h0) (fun _ _ _ _ _ => True) (fun _ U o U' => ∃ v L, o = .returned v ∧ QRemLH Z a0 a1 u w nu pu nw pw tw h0 n0 v U'.heap L ∧ FrameEnd U o U' L ({ frames := 2, cells := 0, slots := 0, locals := 32 } : Room).cells ({ frames := 2, cells := 0, slots := 0, locals := 32 } : Room).slots) := by
  refine MetFree.of_bodySF (plainFor_of_name own_pn_com_example_admit_one_admitone_engine_DueOrder) hisR ?_
  intro p e s m args below meth c s₁ Bd hml0 hP hK
  obtain ⟨rfl, hZ, hh⟩ := hP
  have hx := Bd.exec
  have hby := Bd.bytes
  have hml : c.maxLocals = 3 := hml0
  have hown : s.vm.findClass cD = some m.cls := findClass_of_methodNamed Bd.named
  have hnm := (name_of_methodNamed Bd.named Bd.method).1
  have X0 : Stand p l e ({ frames := 2, cells := 0, slots := 0, locals := 32 } : Room) s m #[(.ref a0), (.ref a1)] below meth c s₁ [] 0 0 := Stand.of_body Bd
  have e0 : s₁.heap = h0 := by rw [← hh, Bd.state]; rfl
  have N0 := Fr.nil n0
  have Kp0 : Keep h0 h0 [u, w, a1] := Keep.refl _ _
  refine Goes.start ?_
  refine Goes.by (B := s₁.setTop (mkF m 0 #[.val (.ref a0), .val (.ref a1), .unset] [])) (fun t k => castTop (efRemLH m a0 a1) k) ?_
  refine Goes.by (fun _ => XS.aloadN X0.here hx rfl (hb hby d9_0) rfl rfl) ?_
  refine Goes.by (fun _ => getFR X0 hx hZ hown (wq hw 53 rfl) e0 F1 (g := (mkF m 1 #[.val (.ref a0), .val (.ref a1), .unset] [(.ref a1)])) rfl rfl (hb hby d9_1)) ?_
  refine Goes.by (fun _ => XS.astoreN X0.here hx rfl (hb hby d9_4) rfl rfl (l' := #[.val (.ref a0), .val (.ref a1), .val (.ref u)]) rfl) ?_
  refine Goes.by (fun _ => XS.aloadN X0.here hx rfl (hb hby d9_5) rfl rfl) ?_
  refine Goes.by (fun _ => XS.aloadN X0.here hx rfl (hb hby d9_6) rfl rfl) ?_
  refine Goes.by (fun _ => getFR X0 hx hZ hown (wq hw 55 rfl) e0 F2 (g := (mkF m 7 #[.val (.ref a0), .val (.ref a1), .val (.ref u)] [(.ref a1), (.ref u)])) rfl rfl (hb hby d9_7)) ?_
  obtain ⟨T3, h3, X3, e3, W3, st3⟩ := putFR X0 hx hZ hown (wq hw 55 rfl) e0 F4 F3 (wq hw 56 rfl) (wq hw 14 rfl) (ty := (.object cL)) (by decide) rfl rfl (g := (mkF m 10 #[.val (.ref a0), .val (.ref a1), .val (.ref u)] [(.ref w), (.ref u)])) rfl rfl (hb hby d9_10)
  have f4 := F0.wr W3
  have f5 := F1.other W3 (Or.inl Ne0)
  have f6 := F2.other W3 (Or.inl Ne0)
  have f7 := F3.wr W3
  have f8 := F5.other W3 (Or.inr (slot_ne (Or.inl (wq hw 54 rfl)) (Or.inl (wq hw 56 rfl)) (by decide) (t := (.object cL)) (t' := (.object cL)) (by decide) (by decide)))
  have f9 := F6.wr W3
  have f10 := F7.other W3 (Or.inl (Ne.symm Ne2))
  have f11 := F8.other W3 (Or.inl (Ne.symm Ne2))
  have f12 := F9.other W3 (Or.inl (Ne.symm Ne2))
  have f13 : Fld Z h3 u cL "next" dL (.ref w) := F4.same W3
  have Kp3 : Keep h0 h3 [u, w, a1] := Kp0.wr W3 (Or.inl om0)
  have Z14 := Nat.le_trans Z0 (Nat.le_of_eq W3.size.symm)
  have N15 := Fr.snoc X3 N0 Ge1
  refine Goes.by st3 ?_
  refine Goes.by (fun _ => XS.aloadN X3.here hx rfl (hb hby d9_13) rfl rfl) ?_
  refine Goes.by (fun _ => getFR X3 hx hZ hown (wq hw 55 rfl) e3 f6 (g := (mkF m 14 #[.val (.ref a0), .val (.ref a1), .val (.ref u)] [(.ref a1)])) rfl rfl (hb hby d9_14)) ?_
  refine Goes.by (fun _ => XS.aloadN X3.here hx rfl (hb hby d9_17) rfl rfl) ?_
  obtain ⟨T17, h17, X17, e17, W17, st17⟩ := putFR X3 hx hZ hown (wq hw 53 rfl) e3 f11 f9 (wq hw 51 rfl) (wq hw 39 rfl) (ty := (.object cL)) (by decide) rfl rfl (g := (mkF m 18 #[.val (.ref a0), .val (.ref a1), .val (.ref u)] [(.ref u), (.ref w)])) rfl rfl (hb hby d9_18)
  have f18 := f4.wr W17
  have f19 := f5.other W17 (Or.inl Ne1)
  have f20 := f6.other W17 (Or.inl Ne1)
  have f21 := f7.wr W17
  have f22 := f8.other W17 (Or.inl Ne2)
  have f23 := f9.wr W17
  have f24 := f10.other W17 (Or.inr (slot_ne (Or.inl (wq hw 49 rfl)) (Or.inl (wq hw 51 rfl)) (by decide) (t := (.object cL)) (t' := (.object cL)) (by decide) (by decide)))
  have f25 := f12.other W17 (Or.inr (slot_ne (Or.inr (wq hw 47 rfl)) (Or.inl (wq hw 51 rfl)) (by decide) (t := .long) (t' := (.object cL)) (by decide) (by decide)))
  have f26 := f13.other W17 (Or.inl Ne2)
  have f27 : Fld Z h17 w cL "prev" dL (.ref u) := f11.same W17
  have Kp17 : Keep h0 h17 [u, w, a1] := Kp3.wr W17 (Or.inl om1)
  have Z28 := Nat.le_trans Z14 (Nat.le_of_eq W17.size.symm)
  have N29 := Fr.snoc X17 N15 Ge2
  refine Goes.by st17 ?_
  refine Goes.by (fun _ => XS.aloadN X17.here hx rfl (hb hby d9_21) rfl rfl) ?_
  refine Goes.by (fun _ => XS.aconstNull X17.here hx rfl (hb hby d9_22)) ?_
  obtain ⟨T30, h30, X30, e30, W30, st30⟩ := putFR X17 hx hZ hown (wq hw 55 rfl) e17 f20 f18 (wq hw 56 rfl) (wq hw 14 rfl) (ty := (.object cL)) (by decide) rfl rfl (g := (mkF m 23 #[.val (.ref a0), .val (.ref a1), .val (.ref u)] [.null, (.ref a1)])) rfl rfl (hb hby d9_23)
  have f31 := f18.wr W30
  have f32 := f19.other W30 (Or.inr (slot_ne (Or.inl (wq hw 54 rfl)) (Or.inl (wq hw 56 rfl)) (by decide) (t := (.object cL)) (t' := (.object cL)) (by decide) (by decide)))
  have f33 := f21.wr W30
  have f34 := f22.other W30 (Or.inl (Ne.symm Ne0))
  have f35 := f23.wr W30
  have f36 := f24.other W30 (Or.inl (Ne.symm Ne1))
  have f37 := f25.other W30 (Or.inl (Ne.symm Ne1))
  have f38 := f26.other W30 (Or.inl (Ne.symm Ne0))
  have f39 := f27.other W30 (Or.inl (Ne.symm Ne1))
  have f40 : Fld Z h30 a1 cL "next" dL .null := f20.same W30
  have Kp30 : Keep h0 h30 [u, w, a1] := Kp17.wr W30 (Or.inl om2)
  have Z41 := Nat.le_trans Z28 (Nat.le_of_eq W30.size.symm)
  have N42 := Fr.snoc X30 N29 Ge0
  refine Goes.by st30 ?_
  refine Goes.by (fun _ => XS.aloadN X30.here hx rfl (hb hby d9_26) rfl rfl) ?_
  refine Goes.by (fun _ => XS.aconstNull X30.here hx rfl (hb hby d9_27)) ?_
  obtain ⟨T43, h43, X43, e43, W43, st43⟩ := putFR X30 hx hZ hown (wq hw 53 rfl) e30 f32 f31 (wq hw 54 rfl) (wq hw 14 rfl) (ty := (.object cL)) (by decide) rfl rfl (g := (mkF m 28 #[.val (.ref a0), .val (.ref a1), .val (.ref u)] [.null, (.ref a1)])) rfl rfl (hb hby d9_28)
  have f44 := f31.wr W43
  have f45 := f33.wr W43
  have f46 := f34.other W43 (Or.inl (Ne.symm Ne0))
  have f47 := f35.wr W43
  have f48 := f36.other W43 (Or.inl (Ne.symm Ne1))
  have f49 := f37.other W43 (Or.inl (Ne.symm Ne1))
  have f50 := f38.other W43 (Or.inl (Ne.symm Ne0))
  have f51 := f39.other W43 (Or.inl (Ne.symm Ne1))
  have f52 := f40.other W43 (Or.inr (slot_ne (Or.inl (wq hw 56 rfl)) (Or.inl (wq hw 54 rfl)) (by decide) (t := (.object cL)) (t' := (.object cL)) (by decide) (by decide)))
  have f53 : Fld Z h43 a1 cL "prev" dL .null := f32.same W43
  have Kp43 : Keep h0 h43 [u, w, a1] := Kp30.wr W43 (Or.inl om2)
  have Z54 := Nat.le_trans Z41 (Nat.le_of_eq W43.size.symm)
  have N55 := Fr.snoc X43 N42 Ge0
  refine Goes.by st43 ?_
  refine Goes.by (fun _ => XS.aloadN X43.here hx rfl (hb hby d9_31) rfl rfl) ?_
  refine Goes.by (fun _ => getFR X43 hx hZ hown (wq hw 55 rfl) e43 f50 (g := (mkF m 32 #[.val (.ref a0), .val (.ref a1), .val (.ref u)] [(.ref u)])) rfl rfl (hb hby d9_32)) ?_
  refine Goes.by (fun _ => XS.aloadN X43.here hx rfl (hb hby d9_35) rfl rfl) ?_
  refine Goes.by (fun _ => Jvm.RoadKit.acmp (g := (mkF m 36 #[.val (.ref a0), .val (.ref a1), .val (.ref u)] [(.ref u), (.ref w)])) X43 hx rfl rfl rfl (pc0 := 36) (pc' := 47) (same := false) rfl (hb hby d9_36) rfl (decide_eq_false fun q => (Ne.symm Ne2) (Value.ref.inj q)) (by decide) (by decide)) ?_
  obtain ⟨fs, hr, hrun, hended, hW, hsame⟩ := X43.leave (v := none) (fun _ => rfl)
  refine Goes.mk _ _ ?_ ⟨hrun, hended, _, _, rfl, ?_, ⟨_, rfl⟩, hW, hsame.mono (by decide) (by decide)⟩
  · exact X43.returnOut hx Bd.returns (hb hby d9_47) hr
  · show QRemLH Z a0 a1 u w nu pu nw pw tw h0 n0 _ T43.heap _
    rw [e43]
    exact ⟨rfl, N55, Kp43, f52, f53, f50, f46, f48, f51, f49⟩
def QRemHL (Z : State) (a0 : Addr) (a1 : Addr) (u : Addr) (w : Addr) (nu : Value) (pu : Value) (nw : Value) (pw : Value) (tu : Int64) (h0 : Heap) (n0 : Nat) (v : Option Value) (h : Heap) (L : List Loc) : Prop := v = none ∧ Fr n0 L ∧ Keep h0 h [u, w, a1] ∧ Fld Z h a1 cL "next" dL .null ∧ Fld Z h a1 cL "prev" dL .null ∧ Fld Z h u cL "next" dL (.ref w) ∧ Fld Z h u cL "prev" dL pu ∧ Fld Z h w cL "next" dL nw ∧ Fld Z h w cL "prev" dL (.ref u) ∧ Fld Z h u cH "tick" "J" (.long tu)
theorem efRemHL (m : MethodId) (x0 : Addr) (x1 : Addr) : entryFrame m #[(.ref x0), (.ref x1)] 3 = mkF m 0 #[.val (.ref x0), .val (.ref x1), .unset] [] := by first | (simp [entryFrame, mkF, argsToLocals, Value.category]; done) | rfl
set_option maxRecDepth 65536 in
set_option maxHeartbeats 40000000 in
theorem rmRemHL (l : Launch) (Z : State) (az : Array Value) (hw : ∀ d ∈ tables_1, d.before az Z = true) (ws : List Jvm.Cond) (a0 : Addr) (a1 : Addr) (u : Addr) (w : Addr) (nu : Value) (pu : Value) (nw : Value) (pw : Value) (tu : Int64) (h0 : Heap) (n0 : Nat) (Z0 : n0 ≤ h0.size) (F0 : Exa Z h0 a1 cL) (F1 : Fld Z h0 a1 cL "prev" dL (.ref u)) (F2 : Fld Z h0 a1 cL "next" dL (.ref w)) (F3 : Exa Z h0 u cH) (F4 : Fld Z h0 u cL "next" dL nu) (F5 : Fld Z h0 u cL "prev" dL pu) (F6 : Exa Z h0 w cL) (F7 : Fld Z h0 w cL "next" dL nw) (F8 : Fld Z h0 w cL "prev" dL pw) (F9 : Fld Z h0 u cH "tick" "J" (.long tu)) (Ne0 : a1 ≠ u) (Ne1 : a1 ≠ w) (Ne2 : u ≠ w) (Ge0 : n0 ≤ a1) (Ge1 : n0 ≤ u) (Ge2 : n0 ≤ w) :
    MetFree l y7 (head1 (Jvm.Cond.code y7 prog_4_method_6_code 3 none :: ws) ({ frames := 2, cells := 0, slots := 0, locals := 32 } : Room)) (fun a U => a = #[(.ref a0), (.ref a1)] ∧ Z.Warmed39 U.vm ∧ U.heap = h0) (fun _ _ _ _ _ => True) (fun _ U o U' => ∃ v L, o = .returned v ∧ QRemHL Z a0 a1 u w nu pu nw pw tu h0 n0 v U'.heap L ∧ FrameEnd U o U' L ({ frames := 2, cells := 0, slots := 0, locals := 32 } : Room).cells ({ frames := 2, cells := 0, slots := 0, locals := 32 } : Room).slots) := by
  refine MetFree.of_bodySF (plainFor_of_name own_pn_com_example_admit_one_admitone_engine_DueOrder) hisR ?_
  intro p e s m args below meth c s₁ Bd hml0 hP hK
  obtain ⟨rfl, hZ, hh⟩ := hP
  have hx := Bd.exec
  have hby := Bd.bytes
  have hml : c.maxLocals = 3 := hml0
  have hown : s.vm.findClass cD = some m.cls := findClass_of_methodNamed Bd.named
  have hnm := (name_of_methodNamed Bd.named Bd.method).1
  have X0 : Stand p l e ({ frames := 2, cells := 0, slots := 0, locals := 32 } : Room) s m #[(.ref a0), (.ref a1)] below meth c s₁ [] 0 0 := Stand.of_body Bd
  have e0 : s₁.heap = h0 := by rw [← hh, Bd.state]; rfl
  have N0 := Fr.nil n0
  have Kp0 : Keep h0 h0 [u, w, a1] := Keep.refl _ _
  refine Goes.start ?_
  refine Goes.by (B := s₁.setTop (mkF m 0 #[.val (.ref a0), .val (.ref a1), .unset] [])) (fun t k => castTop (efRemHL m a0 a1) k) ?_
  refine Goes.by (fun _ => XS.aloadN X0.here hx rfl (hb hby d9_0) rfl rfl) ?_
  refine Goes.by (fun _ => getFR X0 hx hZ hown (wq hw 53 rfl) e0 F1 (g := (mkF m 1 #[.val (.ref a0), .val (.ref a1), .unset] [(.ref a1)])) rfl rfl (hb hby d9_1)) ?_
  refine Goes.by (fun _ => XS.astoreN X0.here hx rfl (hb hby d9_4) rfl rfl (l' := #[.val (.ref a0), .val (.ref a1), .val (.ref u)]) rfl) ?_
  refine Goes.by (fun _ => XS.aloadN X0.here hx rfl (hb hby d9_5) rfl rfl) ?_
  refine Goes.by (fun _ => XS.aloadN X0.here hx rfl (hb hby d9_6) rfl rfl) ?_
  refine Goes.by (fun _ => getFR X0 hx hZ hown (wq hw 55 rfl) e0 F2 (g := (mkF m 7 #[.val (.ref a0), .val (.ref a1), .val (.ref u)] [(.ref a1), (.ref u)])) rfl rfl (hb hby d9_7)) ?_
  obtain ⟨T3, h3, X3, e3, W3, st3⟩ := putFR X0 hx hZ hown (wq hw 55 rfl) e0 F4 F3 (wq hw 49 rfl) (wq hw 39 rfl) (ty := (.object cL)) (by decide) rfl rfl (g := (mkF m 10 #[.val (.ref a0), .val (.ref a1), .val (.ref u)] [(.ref w), (.ref u)])) rfl rfl (hb hby d9_10)
  have f4 := F0.wr W3
  have f5 := F1.other W3 (Or.inl Ne0)
  have f6 := F2.other W3 (Or.inl Ne0)
  have f7 := F3.wr W3
  have f8 := F5.other W3 (Or.inr (slot_ne (Or.inl (wq hw 51 rfl)) (Or.inl (wq hw 49 rfl)) (by decide) (t := (.object cL)) (t' := (.object cL)) (by decide) (by decide)))
  have f9 := F6.wr W3
  have f10 := F7.other W3 (Or.inl (Ne.symm Ne2))
  have f11 := F8.other W3 (Or.inl (Ne.symm Ne2))
  have f12 := F9.other W3 (Or.inr (slot_ne (Or.inr (wq hw 47 rfl)) (Or.inl (wq hw 49 rfl)) (by decide) (t := .long) (t' := (.object cL)) (by decide) (by decide)))
  have f13 : Fld Z h3 u cL "next" dL (.ref w) := F4.same W3
  have Kp3 : Keep h0 h3 [u, w, a1] := Kp0.wr W3 (Or.inl om0)
  have Z14 := Nat.le_trans Z0 (Nat.le_of_eq W3.size.symm)
  have N15 := Fr.snoc X3 N0 Ge1
  refine Goes.by st3 ?_
  refine Goes.by (fun _ => XS.aloadN X3.here hx rfl (hb hby d9_13) rfl rfl) ?_
  refine Goes.by (fun _ => getFR X3 hx hZ hown (wq hw 55 rfl) e3 f6 (g := (mkF m 14 #[.val (.ref a0), .val (.ref a1), .val (.ref u)] [(.ref a1)])) rfl rfl (hb hby d9_14)) ?_
  refine Goes.by (fun _ => XS.aloadN X3.here hx rfl (hb hby d9_17) rfl rfl) ?_
  obtain ⟨T17, h17, X17, e17, W17, st17⟩ := putFR X3 hx hZ hown (wq hw 53 rfl) e3 f11 f9 (wq hw 54 rfl) (wq hw 14 rfl) (ty := (.object cL)) (by decide) rfl rfl (g := (mkF m 18 #[.val (.ref a0), .val (.ref a1), .val (.ref u)] [(.ref u), (.ref w)])) rfl rfl (hb hby d9_18)
  have f18 := f4.wr W17
  have f19 := f5.other W17 (Or.inl Ne1)
  have f20 := f6.other W17 (Or.inl Ne1)
  have f21 := f7.wr W17
  have f22 := f8.other W17 (Or.inl Ne2)
  have f23 := f9.wr W17
  have f24 := f10.other W17 (Or.inr (slot_ne (Or.inl (wq hw 56 rfl)) (Or.inl (wq hw 54 rfl)) (by decide) (t := (.object cL)) (t' := (.object cL)) (by decide) (by decide)))
  have f25 := f12.other W17 (Or.inl Ne2)
  have f26 := f13.other W17 (Or.inl Ne2)
  have f27 : Fld Z h17 w cL "prev" dL (.ref u) := f11.same W17
  have Kp17 : Keep h0 h17 [u, w, a1] := Kp3.wr W17 (Or.inl om1)
  have Z28 := Nat.le_trans Z14 (Nat.le_of_eq W17.size.symm)
  have N29 := Fr.snoc X17 N15 Ge2
  refine Goes.by st17 ?_
  refine Goes.by (fun _ => XS.aloadN X17.here hx rfl (hb hby d9_21) rfl rfl) ?_
  refine Goes.by (fun _ => XS.aconstNull X17.here hx rfl (hb hby d9_22)) ?_
  obtain ⟨T30, h30, X30, e30, W30, st30⟩ := putFR X17 hx hZ hown (wq hw 55 rfl) e17 f20 f18 (wq hw 56 rfl) (wq hw 14 rfl) (ty := (.object cL)) (by decide) rfl rfl (g := (mkF m 23 #[.val (.ref a0), .val (.ref a1), .val (.ref u)] [.null, (.ref a1)])) rfl rfl (hb hby d9_23)
  have f31 := f18.wr W30
  have f32 := f19.other W30 (Or.inr (slot_ne (Or.inl (wq hw 54 rfl)) (Or.inl (wq hw 56 rfl)) (by decide) (t := (.object cL)) (t' := (.object cL)) (by decide) (by decide)))
  have f33 := f21.wr W30
  have f34 := f22.other W30 (Or.inl (Ne.symm Ne0))
  have f35 := f23.wr W30
  have f36 := f24.other W30 (Or.inl (Ne.symm Ne1))
  have f37 := f25.other W30 (Or.inl (Ne.symm Ne0))
  have f38 := f26.other W30 (Or.inl (Ne.symm Ne0))
  have f39 := f27.other W30 (Or.inl (Ne.symm Ne1))
  have f40 : Fld Z h30 a1 cL "next" dL .null := f20.same W30
  have Kp30 : Keep h0 h30 [u, w, a1] := Kp17.wr W30 (Or.inl om2)
  have Z41 := Nat.le_trans Z28 (Nat.le_of_eq W30.size.symm)
  have N42 := Fr.snoc X30 N29 Ge0
  refine Goes.by st30 ?_
  refine Goes.by (fun _ => XS.aloadN X30.here hx rfl (hb hby d9_26) rfl rfl) ?_
  refine Goes.by (fun _ => XS.aconstNull X30.here hx rfl (hb hby d9_27)) ?_
  obtain ⟨T43, h43, X43, e43, W43, st43⟩ := putFR X30 hx hZ hown (wq hw 53 rfl) e30 f32 f31 (wq hw 54 rfl) (wq hw 14 rfl) (ty := (.object cL)) (by decide) rfl rfl (g := (mkF m 28 #[.val (.ref a0), .val (.ref a1), .val (.ref u)] [.null, (.ref a1)])) rfl rfl (hb hby d9_28)
  have f44 := f31.wr W43
  have f45 := f33.wr W43
  have f46 := f34.other W43 (Or.inl (Ne.symm Ne0))
  have f47 := f35.wr W43
  have f48 := f36.other W43 (Or.inl (Ne.symm Ne1))
  have f49 := f37.other W43 (Or.inl (Ne.symm Ne0))
  have f50 := f38.other W43 (Or.inl (Ne.symm Ne0))
  have f51 := f39.other W43 (Or.inl (Ne.symm Ne1))
  have f52 := f40.other W43 (Or.inr (slot_ne (Or.inl (wq hw 56 rfl)) (Or.inl (wq hw 54 rfl)) (by decide) (t := (.object cL)) (t' := (.object cL)) (by decide) (by decide)))
  have f53 : Fld Z h43 a1 cL "prev" dL .null := f32.same W43
  have Kp43 : Keep h0 h43 [u, w, a1] := Kp30.wr W43 (Or.inl om2)
  have Z54 := Nat.le_trans Z41 (Nat.le_of_eq W43.size.symm)
  have N55 := Fr.snoc X43 N42 Ge0
  refine Goes.by st43 ?_
  refine Goes.by (fun _ => XS.aloadN X43.here hx rfl (hb hby d9_31) rfl rfl) ?_
  refine Goes.by (fun _ => getFR X43 hx hZ hown (wq hw 55 rfl) e43 f50 (g := (mkF m 32 #[.val (.ref a0), .val (.ref a1), .val (.ref u)] [(.ref u)])) rfl rfl (hb hby d9_32)) ?_
  refine Goes.by (fun _ => XS.aloadN X43.here hx rfl (hb hby d9_35) rfl rfl) ?_
  refine Goes.by (fun _ => Jvm.RoadKit.acmp (g := (mkF m 36 #[.val (.ref a0), .val (.ref a1), .val (.ref u)] [(.ref u), (.ref w)])) X43 hx rfl rfl rfl (pc0 := 36) (pc' := 47) (same := false) rfl (hb hby d9_36) rfl (decide_eq_false fun q => (Ne.symm Ne2) (Value.ref.inj q)) (by decide) (by decide)) ?_
  obtain ⟨fs, hr, hrun, hended, hW, hsame⟩ := X43.leave (v := none) (fun _ => rfl)
  refine Goes.mk _ _ ?_ ⟨hrun, hended, _, _, rfl, ?_, ⟨_, rfl⟩, hW, hsame.mono (by decide) (by decide)⟩
  · exact X43.returnOut hx Bd.returns (hb hby d9_47) hr
  · show QRemHL Z a0 a1 u w nu pu nw pw tu h0 n0 _ T43.heap _
    rw [e43]
    exact ⟨rfl, N55, Kp43, f52, f53, f50, f46, f48, f51, f49⟩
def QRemHH (Z : State) (a0 : Addr) (a1 : Addr) (u : Addr) (w : Addr) (nu : Value) (pu : Value) (nw : Value) (pw : Value) (tu : Int64) (tw : Int64) (h0 : Heap) (n0 : Nat) (v : Option Value) (h : Heap) (L : List Loc) : Prop := v = none ∧ Fr n0 L ∧ Keep h0 h [u, w, a1] ∧ Fld Z h a1 cL "next" dL .null ∧ Fld Z h a1 cL "prev" dL .null ∧ Fld Z h u cL "next" dL (.ref w) ∧ Fld Z h u cL "prev" dL pu ∧ Fld Z h w cL "next" dL nw ∧ Fld Z h w cL "prev" dL (.ref u) ∧ Fld Z h u cH "tick" "J" (.long tu) ∧ Fld Z h w cH "tick" "J" (.long tw)
theorem efRemHH (m : MethodId) (x0 : Addr) (x1 : Addr) : entryFrame m #[(.ref x0), (.ref x1)] 3 = mkF m 0 #[.val (.ref x0), .val (.ref x1), .unset] [] := by first | (simp [entryFrame, mkF, argsToLocals, Value.category]; done) | rfl
set_option maxRecDepth 65536 in
set_option maxHeartbeats 40000000 in
theorem rmRemHH (l : Launch) (Z : State) (az : Array Value) (hw : ∀ d ∈ tables_1, d.before az Z = true) (ws : List Jvm.Cond) (a0 : Addr) (a1 : Addr) (u : Addr) (w : Addr) (nu : Value) (pu : Value) (nw : Value) (pw : Value) (tu : Int64) (tw : Int64) (h0 : Heap) (n0 : Nat) (Z0 : n0 ≤ h0.size) (F0 : Exa Z h0 a1 cL) (F1 : Fld Z h0 a1 cL "prev" dL (.ref u)) (F2 : Fld Z h0 a1 cL "next" dL (.ref w)) (F3 : Exa Z h0 u cH) (F4 : Fld Z h0 u cL "next" dL nu) (F5 : Fld Z h0 u cL "prev" dL pu) (F6 : Exa Z h0 w cH) (F7 : Fld Z h0 w cL "next" dL nw) (F8 : Fld Z h0 w cL "prev" dL pw) (F9 : Fld Z h0 u cH "tick" "J" (.long tu)) (F10 : Fld Z h0 w cH "tick" "J" (.long tw)) (Ne0 : a1 ≠ u) (Ne1 : a1 ≠ w) (Ne2 : u ≠ w) (Ge0 : n0 ≤ a1) (Ge1 : n0 ≤ u) (Ge2 : n0 ≤ w) :
    MetFree l y7 (head1 (Jvm.Cond.code y7 prog_4_method_6_code 3 none :: ws) ({ frames := 2, cells := 0, slots := 0, locals := 32 } : Room)) (fun a U => a = #[(.ref a0), (.ref a1)] ∧ Z.Warmed39 U.vm ∧ U.heap = h0) (fun _ _ _ _ _ => True) (fun _ U o U' => ∃ v L, o = .returned v ∧ QRemHH Z a0 a1 u w nu pu nw pw tu tw h0 n0 v U'.heap L ∧ FrameEnd U o U' L ({ frames := 2, cells := 0, slots := 0, locals := 32 } : Room).cells ({ frames := 2, cells := 0, slots := 0, locals := 32 } : Room).slots) := by
  refine MetFree.of_bodySF (plainFor_of_name own_pn_com_example_admit_one_admitone_engine_DueOrder) hisR ?_
  intro p e s m args below meth c s₁ Bd hml0 hP hK
  obtain ⟨rfl, hZ, hh⟩ := hP
  have hx := Bd.exec
  have hby := Bd.bytes
  have hml : c.maxLocals = 3 := hml0
  have hown : s.vm.findClass cD = some m.cls := findClass_of_methodNamed Bd.named
  have hnm := (name_of_methodNamed Bd.named Bd.method).1
  have X0 : Stand p l e ({ frames := 2, cells := 0, slots := 0, locals := 32 } : Room) s m #[(.ref a0), (.ref a1)] below meth c s₁ [] 0 0 := Stand.of_body Bd
  have e0 : s₁.heap = h0 := by rw [← hh, Bd.state]; rfl
  have N0 := Fr.nil n0
  have Kp0 : Keep h0 h0 [u, w, a1] := Keep.refl _ _
  refine Goes.start ?_
  refine Goes.by (B := s₁.setTop (mkF m 0 #[.val (.ref a0), .val (.ref a1), .unset] [])) (fun t k => castTop (efRemHH m a0 a1) k) ?_
  refine Goes.by (fun _ => XS.aloadN X0.here hx rfl (hb hby d9_0) rfl rfl) ?_
  refine Goes.by (fun _ => getFR X0 hx hZ hown (wq hw 53 rfl) e0 F1 (g := (mkF m 1 #[.val (.ref a0), .val (.ref a1), .unset] [(.ref a1)])) rfl rfl (hb hby d9_1)) ?_
  refine Goes.by (fun _ => XS.astoreN X0.here hx rfl (hb hby d9_4) rfl rfl (l' := #[.val (.ref a0), .val (.ref a1), .val (.ref u)]) rfl) ?_
  refine Goes.by (fun _ => XS.aloadN X0.here hx rfl (hb hby d9_5) rfl rfl) ?_
  refine Goes.by (fun _ => XS.aloadN X0.here hx rfl (hb hby d9_6) rfl rfl) ?_
  refine Goes.by (fun _ => getFR X0 hx hZ hown (wq hw 55 rfl) e0 F2 (g := (mkF m 7 #[.val (.ref a0), .val (.ref a1), .val (.ref u)] [(.ref a1), (.ref u)])) rfl rfl (hb hby d9_7)) ?_
  obtain ⟨T3, h3, X3, e3, W3, st3⟩ := putFR X0 hx hZ hown (wq hw 55 rfl) e0 F4 F3 (wq hw 49 rfl) (wq hw 39 rfl) (ty := (.object cL)) (by decide) rfl rfl (g := (mkF m 10 #[.val (.ref a0), .val (.ref a1), .val (.ref u)] [(.ref w), (.ref u)])) rfl rfl (hb hby d9_10)
  have f4 := F0.wr W3
  have f5 := F1.other W3 (Or.inl Ne0)
  have f6 := F2.other W3 (Or.inl Ne0)
  have f7 := F3.wr W3
  have f8 := F5.other W3 (Or.inr (slot_ne (Or.inl (wq hw 51 rfl)) (Or.inl (wq hw 49 rfl)) (by decide) (t := (.object cL)) (t' := (.object cL)) (by decide) (by decide)))
  have f9 := F6.wr W3
  have f10 := F7.other W3 (Or.inl (Ne.symm Ne2))
  have f11 := F8.other W3 (Or.inl (Ne.symm Ne2))
  have f12 := F9.other W3 (Or.inr (slot_ne (Or.inr (wq hw 47 rfl)) (Or.inl (wq hw 49 rfl)) (by decide) (t := .long) (t' := (.object cL)) (by decide) (by decide)))
  have f13 := F10.other W3 (Or.inl (Ne.symm Ne2))
  have f14 : Fld Z h3 u cL "next" dL (.ref w) := F4.same W3
  have Kp3 : Keep h0 h3 [u, w, a1] := Kp0.wr W3 (Or.inl om0)
  have Z15 := Nat.le_trans Z0 (Nat.le_of_eq W3.size.symm)
  have N16 := Fr.snoc X3 N0 Ge1
  refine Goes.by st3 ?_
  refine Goes.by (fun _ => XS.aloadN X3.here hx rfl (hb hby d9_13) rfl rfl) ?_
  refine Goes.by (fun _ => getFR X3 hx hZ hown (wq hw 55 rfl) e3 f6 (g := (mkF m 14 #[.val (.ref a0), .val (.ref a1), .val (.ref u)] [(.ref a1)])) rfl rfl (hb hby d9_14)) ?_
  refine Goes.by (fun _ => XS.aloadN X3.here hx rfl (hb hby d9_17) rfl rfl) ?_
  obtain ⟨T18, h18, X18, e18, W18, st18⟩ := putFR X3 hx hZ hown (wq hw 53 rfl) e3 f11 f9 (wq hw 51 rfl) (wq hw 39 rfl) (ty := (.object cL)) (by decide) rfl rfl (g := (mkF m 18 #[.val (.ref a0), .val (.ref a1), .val (.ref u)] [(.ref u), (.ref w)])) rfl rfl (hb hby d9_18)
  have f19 := f4.wr W18
  have f20 := f5.other W18 (Or.inl Ne1)
  have f21 := f6.other W18 (Or.inl Ne1)
  have f22 := f7.wr W18
  have f23 := f8.other W18 (Or.inl Ne2)
  have f24 := f9.wr W18
  have f25 := f10.other W18 (Or.inr (slot_ne (Or.inl (wq hw 49 rfl)) (Or.inl (wq hw 51 rfl)) (by decide) (t := (.object cL)) (t' := (.object cL)) (by decide) (by decide)))
  have f26 := f12.other W18 (Or.inl Ne2)
  have f27 := f13.other W18 (Or.inr (slot_ne (Or.inr (wq hw 47 rfl)) (Or.inl (wq hw 51 rfl)) (by decide) (t := .long) (t' := (.object cL)) (by decide) (by decide)))
  have f28 := f14.other W18 (Or.inl Ne2)
  have f29 : Fld Z h18 w cL "prev" dL (.ref u) := f11.same W18
  have Kp18 : Keep h0 h18 [u, w, a1] := Kp3.wr W18 (Or.inl om1)
  have Z30 := Nat.le_trans Z15 (Nat.le_of_eq W18.size.symm)
  have N31 := Fr.snoc X18 N16 Ge2
  refine Goes.by st18 ?_
  refine Goes.by (fun _ => XS.aloadN X18.here hx rfl (hb hby d9_21) rfl rfl) ?_
  refine Goes.by (fun _ => XS.aconstNull X18.here hx rfl (hb hby d9_22)) ?_
  obtain ⟨T32, h32, X32, e32, W32, st32⟩ := putFR X18 hx hZ hown (wq hw 55 rfl) e18 f21 f19 (wq hw 56 rfl) (wq hw 14 rfl) (ty := (.object cL)) (by decide) rfl rfl (g := (mkF m 23 #[.val (.ref a0), .val (.ref a1), .val (.ref u)] [.null, (.ref a1)])) rfl rfl (hb hby d9_23)
  have f33 := f19.wr W32
  have f34 := f20.other W32 (Or.inr (slot_ne (Or.inl (wq hw 54 rfl)) (Or.inl (wq hw 56 rfl)) (by decide) (t := (.object cL)) (t' := (.object cL)) (by decide) (by decide)))
  have f35 := f22.wr W32
  have f36 := f23.other W32 (Or.inl (Ne.symm Ne0))
  have f37 := f24.wr W32
  have f38 := f25.other W32 (Or.inl (Ne.symm Ne1))
  have f39 := f26.other W32 (Or.inl (Ne.symm Ne0))
  have f40 := f27.other W32 (Or.inl (Ne.symm Ne1))
  have f41 := f28.other W32 (Or.inl (Ne.symm Ne0))
  have f42 := f29.other W32 (Or.inl (Ne.symm Ne1))
  have f43 : Fld Z h32 a1 cL "next" dL .null := f21.same W32
  have Kp32 : Keep h0 h32 [u, w, a1] := Kp18.wr W32 (Or.inl om2)
  have Z44 := Nat.le_trans Z30 (Nat.le_of_eq W32.size.symm)
  have N45 := Fr.snoc X32 N31 Ge0
  refine Goes.by st32 ?_
  refine Goes.by (fun _ => XS.aloadN X32.here hx rfl (hb hby d9_26) rfl rfl) ?_
  refine Goes.by (fun _ => XS.aconstNull X32.here hx rfl (hb hby d9_27)) ?_
  obtain ⟨T46, h46, X46, e46, W46, st46⟩ := putFR X32 hx hZ hown (wq hw 53 rfl) e32 f34 f33 (wq hw 54 rfl) (wq hw 14 rfl) (ty := (.object cL)) (by decide) rfl rfl (g := (mkF m 28 #[.val (.ref a0), .val (.ref a1), .val (.ref u)] [.null, (.ref a1)])) rfl rfl (hb hby d9_28)
  have f47 := f33.wr W46
  have f48 := f35.wr W46
  have f49 := f36.other W46 (Or.inl (Ne.symm Ne0))
  have f50 := f37.wr W46
  have f51 := f38.other W46 (Or.inl (Ne.symm Ne1))
  have f52 := f39.other W46 (Or.inl (Ne.symm Ne0))
  have f53 := f40.other W46 (Or.inl (Ne.symm Ne1))
  have f54 := f41.other W46 (Or.inl (Ne.symm Ne0))
  have f55 := f42.other W46 (Or.inl (Ne.symm Ne1))
  have f56 := f43.other W46 (Or.inr (slot_ne (Or.inl (wq hw 56 rfl)) (Or.inl (wq hw 54 rfl)) (by decide) (t := (.object cL)) (t' := (.object cL)) (by decide) (by decide)))
  have f57 : Fld Z h46 a1 cL "prev" dL .null := f34.same W46
  have Kp46 : Keep h0 h46 [u, w, a1] := Kp32.wr W46 (Or.inl om2)
  have Z58 := Nat.le_trans Z44 (Nat.le_of_eq W46.size.symm)
  have N59 := Fr.snoc X46 N45 Ge0
  refine Goes.by st46 ?_
  refine Goes.by (fun _ => XS.aloadN X46.here hx rfl (hb hby d9_31) rfl rfl) ?_
  refine Goes.by (fun _ => getFR X46 hx hZ hown (wq hw 55 rfl) e46 f54 (g := (mkF m 32 #[.val (.ref a0), .val (.ref a1), .val (.ref u)] [(.ref u)])) rfl rfl (hb hby d9_32)) ?_
  refine Goes.by (fun _ => XS.aloadN X46.here hx rfl (hb hby d9_35) rfl rfl) ?_
  refine Goes.by (fun _ => Jvm.RoadKit.acmp (g := (mkF m 36 #[.val (.ref a0), .val (.ref a1), .val (.ref u)] [(.ref u), (.ref w)])) X46 hx rfl rfl rfl (pc0 := 36) (pc' := 47) (same := false) rfl (hb hby d9_36) rfl (decide_eq_false fun q => (Ne.symm Ne2) (Value.ref.inj q)) (by decide) (by decide)) ?_
  obtain ⟨fs, hr, hrun, hended, hW, hsame⟩ := X46.leave (v := none) (fun _ => rfl)
  refine Goes.mk _ _ ?_ ⟨hrun, hended, _, _, rfl, ?_, ⟨_, rfl⟩, hW, hsame.mono (by decide) (by decide)⟩
  · exact X46.returnOut hx Bd.returns (hb hby d9_47) hr
  · show QRemHH Z a0 a1 u w nu pu nw pw tu tw h0 n0 _ T46.heap _
    rw [e46]
    exact ⟨rfl, N59, Kp46, f56, f57, f54, f49, f51, f55, f52, f53⟩
theorem d9_39 : decode prog_4_method_6_code 39 = .ok (.aload_n 0, 1) := by decide +kernel
theorem d9_40 : decode prog_4_method_6_code 40 = .ok (.aload_n 2, 1) := by decide +kernel
theorem d9_41 : decode prog_4_method_6_code 41 = .ok (.checkcast 9, 3) := by decide +kernel
theorem d9_44 : decode prog_4_method_6_code 44 = .ok (.invokevirtual 40, 3) := by decide +kernel
theorem own_pd4 : parseMethodDescriptor "(Lcom/example/admit_one/admitone/engine/DueOrder$Head;)V" = some ⟨[(.object cH)], none⟩ := by decide +kernel
def QRemL1_1 (Z : State) (a0 : Addr) (a1 : Addr) (ar : Addr) (kA : ClassId) (x1 : Addr) (t1 : Int64) (nu : Value) (pu : Value) (h0 : Heap) (n0 : Nat) (v : Option Value) (h : Heap) (L : List Loc) : Prop := v = none ∧ Fr n0 L ∧ Keep h0 h [x1, a1, a0, ar] ∧ Fld Z h a0 cD "heads" dA (.ref ar) ∧ Fld Z h a0 cD "count" "I" (.int (0 : Int32)) ∧ Arv Z h ar kA (.object cH) (4 : Int32) [.null, .null, .null, .null] .null ∧ Fld Z h a1 cL "next" dL .null ∧ Fld Z h a1 cL "prev" dL .null
theorem efRemL1_1 (m : MethodId) (x0 : Addr) (x1 : Addr) : entryFrame m #[(.ref x0), (.ref x1)] 3 = mkF m 0 #[.val (.ref x0), .val (.ref x1), .unset] [] := by first | (simp [entryFrame, mkF, argsToLocals, Value.category]; done) | rfl
set_option maxRecDepth 65536 in
set_option maxHeartbeats 40000000 in
theorem rmRemL1_1 (l : Launch) (Z : State) (az : Array Value) (hw : ∀ d ∈ tables_1, d.before az Z = true) (ws : List Jvm.Cond) (a0 : Addr) (a1 : Addr) (ar : Addr) (kA : ClassId) (x1 : Addr) (t1 : Int64) (nu : Value) (pu : Value) (h0 : Heap) (n0 : Nat) (Z0 : n0 ≤ h0.size) (F0 : Exa Z h0 a0 cD) (F1 : Fld Z h0 a0 cD "heads" dA (.ref ar)) (F2 : Fld Z h0 a0 cD "count" "I" (.int (1 : Int32))) (F3 : Arv Z h0 ar kA (.object cH) (4 : Int32) [(.ref x1), .null, .null, .null] .null) (F4 : Ovr Z kA cH) (F5 : Exa Z h0 x1 cH) (F6 : Fld Z h0 x1 cH "tick" "J" (.long t1)) (F7 : Exa Z h0 a1 cL) (F8 : Fld Z h0 a1 cL "prev" dL (.ref x1)) (F9 : Fld Z h0 a1 cL "next" dL (.ref x1)) (F10 : Fld Z h0 x1 cL "next" dL nu) (F11 : Fld Z h0 x1 cL "prev" dL pu) (Ne0 : a0 ≠ ar) (Ne1 : x1 ≠ a0) (Ne2 : x1 ≠ ar) (Ne3 : a1 ≠ a0) (Ne4 : a1 ≠ ar) (Ne5 : a1 ≠ x1) (Ge0 : n0 ≤ a0) (Ge1 : n0 ≤ ar) (Ge2 : n0 ≤ a1) (Ge3 : n0 ≤ x1) (HD : fDue1 t1 t1 = (1 : Int32)) :
    MetFree l y7 (head1 (Jvm.Cond.code y7 prog_4_method_6_code 3 none :: ws) ({ frames := 2, cells := 0, slots := 0, locals := 32 } : Room)) (fun a U => a = #[(.ref a0), (.ref a1)] ∧ Z.Warmed39 U.vm ∧ U.heap = h0) (fun _ _ _ _ _ => True) (fun _ U o U' => ∃ v L, o = .returned v ∧ QRemL1_1 Z a0 a1 ar kA x1 t1 nu pu h0 n0 v U'.heap L ∧ FrameEnd U o U' L ({ frames := 2, cells := 0, slots := 0, locals := 32 } : Room).cells ({ frames := 2, cells := 0, slots := 0, locals := 32 } : Room).slots) := by
  refine MetFree.of_bodySF (plainFor_of_name own_pn_com_example_admit_one_admitone_engine_DueOrder) hisR ?_
  intro p e s m args below meth c s₁ Bd hml0 hP hK
  obtain ⟨rfl, hZ, hh⟩ := hP
  have hx := Bd.exec
  have hby := Bd.bytes
  have hml : c.maxLocals = 3 := hml0
  have hown : s.vm.findClass cD = some m.cls := findClass_of_methodNamed Bd.named
  have hnm := (name_of_methodNamed Bd.named Bd.method).1
  have X0 : Stand p l e ({ frames := 2, cells := 0, slots := 0, locals := 32 } : Room) s m #[(.ref a0), (.ref a1)] below meth c s₁ [] 0 0 := Stand.of_body Bd
  have e0 : s₁.heap = h0 := by rw [← hh, Bd.state]; rfl
  have N0 := Fr.nil n0
  have Kp0 : Keep h0 h0 [x1, a1, a0, ar] := Keep.refl _ _
  refine Goes.start ?_
  refine Goes.by (B := s₁.setTop (mkF m 0 #[.val (.ref a0), .val (.ref a1), .unset] [])) (fun t k => castTop (efRemL1_1 m a0 a1) k) ?_
  refine Goes.by (fun _ => XS.aloadN X0.here hx rfl (hb hby d9_0) rfl rfl) ?_
  refine Goes.by (fun _ => getFR X0 hx hZ hown (wq hw 53 rfl) e0 F8 (g := (mkF m 1 #[.val (.ref a0), .val (.ref a1), .unset] [(.ref a1)])) rfl rfl (hb hby d9_1)) ?_
  refine Goes.by (fun _ => XS.astoreN X0.here hx rfl (hb hby d9_4) rfl rfl (l' := #[.val (.ref a0), .val (.ref a1), .val (.ref x1)]) rfl) ?_
  refine Goes.by (fun _ => XS.aloadN X0.here hx rfl (hb hby d9_5) rfl rfl) ?_
  refine Goes.by (fun _ => XS.aloadN X0.here hx rfl (hb hby d9_6) rfl rfl) ?_
  refine Goes.by (fun _ => getFR X0 hx hZ hown (wq hw 55 rfl) e0 F9 (g := (mkF m 7 #[.val (.ref a0), .val (.ref a1), .val (.ref x1)] [(.ref a1), (.ref x1)])) rfl rfl (hb hby d9_7)) ?_
  obtain ⟨T3, h3, X3, e3, W3, st3⟩ := putFR X0 hx hZ hown (wq hw 55 rfl) e0 F10 F5 (wq hw 49 rfl) (wq hw 39 rfl) (ty := (.object cL)) (by decide) rfl rfl (g := (mkF m 10 #[.val (.ref a0), .val (.ref a1), .val (.ref x1)] [(.ref x1), (.ref x1)])) rfl rfl (hb hby d9_10)
  have f4 := F0.wr W3
  have f5 := F1.other W3 (Or.inl (Ne.symm Ne1))
  have f6 := F2.other W3 (Or.inl (Ne.symm Ne1))
  have f7 := F3.other W3 (Ne.symm Ne2)
  have f8 := F5.wr W3
  have f9 := F6.other W3 (Or.inr (slot_ne (Or.inr (wq hw 47 rfl)) (Or.inl (wq hw 49 rfl)) (by decide) (t := .long) (t' := (.object cL)) (by decide) (by decide)))
  have f10 := F7.wr W3
  have f11 := F8.other W3 (Or.inl Ne5)
  have f12 := F9.other W3 (Or.inl Ne5)
  have f13 := F11.other W3 (Or.inr (slot_ne (Or.inl (wq hw 51 rfl)) (Or.inl (wq hw 49 rfl)) (by decide) (t := (.object cL)) (t' := (.object cL)) (by decide) (by decide)))
  have f14 : Fld Z h3 x1 cL "next" dL (.ref x1) := F10.same W3
  have Kp3 : Keep h0 h3 [x1, a1, a0, ar] := Kp0.wr W3 (Or.inl om0)
  have Z15 := Nat.le_trans Z0 (Nat.le_of_eq W3.size.symm)
  have N16 := Fr.snoc X3 N0 Ge3
  refine Goes.by st3 ?_
  refine Goes.by (fun _ => XS.aloadN X3.here hx rfl (hb hby d9_13) rfl rfl) ?_
  refine Goes.by (fun _ => getFR X3 hx hZ hown (wq hw 55 rfl) e3 f12 (g := (mkF m 14 #[.val (.ref a0), .val (.ref a1), .val (.ref x1)] [(.ref a1)])) rfl rfl (hb hby d9_14)) ?_
  refine Goes.by (fun _ => XS.aloadN X3.here hx rfl (hb hby d9_17) rfl rfl) ?_
  obtain ⟨T18, h18, X18, e18, W18, st18⟩ := putFR X3 hx hZ hown (wq hw 53 rfl) e3 f13 f8 (wq hw 51 rfl) (wq hw 39 rfl) (ty := (.object cL)) (by decide) rfl rfl (g := (mkF m 18 #[.val (.ref a0), .val (.ref a1), .val (.ref x1)] [(.ref x1), (.ref x1)])) rfl rfl (hb hby d9_18)
  have f19 := f4.wr W18
  have f20 := f5.other W18 (Or.inl (Ne.symm Ne1))
  have f21 := f6.other W18 (Or.inl (Ne.symm Ne1))
  have f22 := f7.other W18 (Ne.symm Ne2)
  have f23 := f8.wr W18
  have f24 := f9.other W18 (Or.inr (slot_ne (Or.inr (wq hw 47 rfl)) (Or.inl (wq hw 51 rfl)) (by decide) (t := .long) (t' := (.object cL)) (by decide) (by decide)))
  have f25 := f10.wr W18
  have f26 := f11.other W18 (Or.inl Ne5)
  have f27 := f12.other W18 (Or.inl Ne5)
  have f28 := f14.other W18 (Or.inr (slot_ne (Or.inl (wq hw 49 rfl)) (Or.inl (wq hw 51 rfl)) (by decide) (t := (.object cL)) (t' := (.object cL)) (by decide) (by decide)))
  have f29 : Fld Z h18 x1 cL "prev" dL (.ref x1) := f13.same W18
  have Kp18 : Keep h0 h18 [x1, a1, a0, ar] := Kp3.wr W18 (Or.inl om0)
  have Z30 := Nat.le_trans Z15 (Nat.le_of_eq W18.size.symm)
  have N31 := Fr.snoc X18 N16 Ge3
  refine Goes.by st18 ?_
  refine Goes.by (fun _ => XS.aloadN X18.here hx rfl (hb hby d9_21) rfl rfl) ?_
  refine Goes.by (fun _ => XS.aconstNull X18.here hx rfl (hb hby d9_22)) ?_
  obtain ⟨T32, h32, X32, e32, W32, st32⟩ := putFR X18 hx hZ hown (wq hw 55 rfl) e18 f27 f25 (wq hw 56 rfl) (wq hw 14 rfl) (ty := (.object cL)) (by decide) rfl rfl (g := (mkF m 23 #[.val (.ref a0), .val (.ref a1), .val (.ref x1)] [.null, (.ref a1)])) rfl rfl (hb hby d9_23)
  have f33 := f19.wr W32
  have f34 := f20.other W32 (Or.inl (Ne.symm Ne3))
  have f35 := f21.other W32 (Or.inl (Ne.symm Ne3))
  have f36 := f22.other W32 (Ne.symm Ne4)
  have f37 := f23.wr W32
  have f38 := f24.other W32 (Or.inl (Ne.symm Ne5))
  have f39 := f25.wr W32
  have f40 := f26.other W32 (Or.inr (slot_ne (Or.inl (wq hw 54 rfl)) (Or.inl (wq hw 56 rfl)) (by decide) (t := (.object cL)) (t' := (.object cL)) (by decide) (by decide)))
  have f41 := f28.other W32 (Or.inl (Ne.symm Ne5))
  have f42 := f29.other W32 (Or.inl (Ne.symm Ne5))
  have f43 : Fld Z h32 a1 cL "next" dL .null := f27.same W32
  have Kp32 : Keep h0 h32 [x1, a1, a0, ar] := Kp18.wr W32 (Or.inl om1)
  have Z44 := Nat.le_trans Z30 (Nat.le_of_eq W32.size.symm)
  have N45 := Fr.snoc X32 N31 Ge2
  refine Goes.by st32 ?_
  refine Goes.by (fun _ => XS.aloadN X32.here hx rfl (hb hby d9_26) rfl rfl) ?_
  refine Goes.by (fun _ => XS.aconstNull X32.here hx rfl (hb hby d9_27)) ?_
  obtain ⟨T46, h46, X46, e46, W46, st46⟩ := putFR X32 hx hZ hown (wq hw 53 rfl) e32 f40 f39 (wq hw 54 rfl) (wq hw 14 rfl) (ty := (.object cL)) (by decide) rfl rfl (g := (mkF m 28 #[.val (.ref a0), .val (.ref a1), .val (.ref x1)] [.null, (.ref a1)])) rfl rfl (hb hby d9_28)
  have f47 := f33.wr W46
  have f48 := f34.other W46 (Or.inl (Ne.symm Ne3))
  have f49 := f35.other W46 (Or.inl (Ne.symm Ne3))
  have f50 := f36.other W46 (Ne.symm Ne4)
  have f51 := f37.wr W46
  have f52 := f38.other W46 (Or.inl (Ne.symm Ne5))
  have f53 := f39.wr W46
  have f54 := f41.other W46 (Or.inl (Ne.symm Ne5))
  have f55 := f42.other W46 (Or.inl (Ne.symm Ne5))
  have f56 := f43.other W46 (Or.inr (slot_ne (Or.inl (wq hw 56 rfl)) (Or.inl (wq hw 54 rfl)) (by decide) (t := (.object cL)) (t' := (.object cL)) (by decide) (by decide)))
  have f57 : Fld Z h46 a1 cL "prev" dL .null := f40.same W46
  have Kp46 : Keep h0 h46 [x1, a1, a0, ar] := Kp32.wr W46 (Or.inl om1)
  have Z58 := Nat.le_trans Z44 (Nat.le_of_eq W46.size.symm)
  have N59 := Fr.snoc X46 N45 Ge2
  refine Goes.by st46 ?_
  refine Goes.by (fun _ => XS.aloadN X46.here hx rfl (hb hby d9_31) rfl rfl) ?_
  refine Goes.by (B := T46.setTop (mkF m 41 #[.val (.ref a0), .val (.ref a1), .val (.ref x1)] [(.ref x1), (.ref a0)])) (fun t k => ?_) ?_
  · refine getFR X46 hx hZ hown (wq hw 55 rfl) e46 f54 (g := (mkF m 32 #[.val (.ref a0), .val (.ref a1), .val (.ref x1)] [(.ref x1)])) rfl rfl (hb hby d9_32) ?_
    refine XS.aloadN X46.here hx rfl (hb hby d9_35) rfl rfl ?_
    refine Jvm.RoadKit.acmp (g := (mkF m 36 #[.val (.ref a0), .val (.ref a1), .val (.ref x1)] [(.ref x1), (.ref x1)])) X46 hx rfl rfl rfl (pc0 := 36) (pc' := 39) (same := true) rfl (hb hby d9_36) rfl (decide_eq_true rfl) (by decide) (by decide) ?_
    refine XS.aloadN X46.here hx rfl (hb hby d9_39) rfl rfl ?_
    refine XS.aloadN X46.here hx rfl (hb hby d9_40) rfl rfl ?_
    exact k
  obtain ⟨T61, X61, e61, st61⟩ := castY X46 hx hZ hown (wq hw 9 rfl) e46 (Ins.self f51) (g := (mkF m 41 #[.val (.ref a0), .val (.ref a1), .val (.ref x1)] [(.ref x1), (.ref a0)])) rfl rfl (hb hby d9_41)
  refine Goes.by st61 ?_
  obtain ⟨_, T62, L62, Lc62, X62, hF62, hQ62, st62⟩ := own_cp X61 hx hZ hown (wq hw 85 rfl) (wq hw 87 rfl) (wq hw 1 rfl) (wq hw 86 rfl) (wq hw 2 rfl) (wq hw 88 rfl) (rmDrop1_1 l Z az hw [] a0 x1 ar kA t1 h46 n0 Z58 f47 f48 f49 f50 F4 f51 f52 Ne0 Ne1 Ne2 Ge0 Ge1 HD) (W := 0) (g := (mkF m 44 #[.val (.ref a0), .val (.ref a1), .val (.ref x1)] [(.ref x1), (.ref a0)])) rfl (by rw [hml]; rfl) f47 (argsL := [(.ref x1)]) (rest := []) rfl (lenOf own_pd4 rfl) rfl (hb hby d9_44) e61 N59 (c' := 0) (s' := 0)
  obtain ⟨rfl, N62q, K62, f63, f64, f65⟩ := hQ62
  have f66 := f47.keep K62
  have f67 := f51.keep K62
  have f68 := f52.keep K62 (ninS Ne2 (ninS Ne1 nin0))
  have f69 := f53.keep K62
  have f70 := f54.keep K62 (ninS Ne2 (ninS Ne1 nin0))
  have f71 := f55.keep K62 (ninS Ne2 (ninS Ne1 nin0))
  have f72 := f56.keep K62 (ninS Ne4 (ninS Ne3 nin0))
  have f73 := f57.keep K62 (ninS Ne4 (ninS Ne3 nin0))
  have Kp62 : Keep h0 T62.heap [x1, a1, a0, ar] := Kp46.trans K62 (allS (Or.inl om3) (allS (Or.inl om2) all0))
  have Z74 := Nat.le_trans Z58 K62.1
  have N75 := hF62 N62q
  refine Goes.by st62 ?_
  obtain ⟨fs, hr, hrun, hended, hW, hsame⟩ := X62.leave (v := none) (fun _ => rfl)
  refine Goes.mk _ _ ?_ ⟨hrun, hended, _, _, rfl, ?_, ⟨_, rfl⟩, hW, hsame.mono (by decide) (by decide)⟩
  · exact X62.returnOut hx Bd.returns (hb hby d9_47) hr
  · show QRemL1_1 Z a0 a1 ar kA x1 t1 nu pu h0 n0 _ T62.heap _
    exact ⟨rfl, N75, Kp62, f63, f64, f65, f72, f73⟩
def QRemL2_1 (Z : State) (a0 : Addr) (a1 : Addr) (ar : Addr) (kA : ClassId) (x1 : Addr) (x2 : Addr) (t1 : Int64) (t2 : Int64) (nu : Value) (pu : Value) (h0 : Heap) (n0 : Nat) (v : Option Value) (h : Heap) (L : List Loc) : Prop := v = none ∧ Fr n0 L ∧ Keep h0 h [x1, a1, a0, ar] ∧ Fld Z h a0 cD "heads" dA (.ref ar) ∧ Fld Z h a0 cD "count" "I" (.int (1 : Int32)) ∧ Arv Z h ar kA (.object cH) (4 : Int32) [(.ref x2), .null, .null, .null] .null ∧ Fld Z h a1 cL "next" dL .null ∧ Fld Z h a1 cL "prev" dL .null
theorem efRemL2_1 (m : MethodId) (x0 : Addr) (x1 : Addr) : entryFrame m #[(.ref x0), (.ref x1)] 3 = mkF m 0 #[.val (.ref x0), .val (.ref x1), .unset] [] := by first | (simp [entryFrame, mkF, argsToLocals, Value.category]; done) | rfl
set_option maxRecDepth 65536 in
set_option maxHeartbeats 40000000 in
theorem rmRemL2_1 (l : Launch) (Z : State) (az : Array Value) (hw : ∀ d ∈ tables_1, d.before az Z = true) (ws : List Jvm.Cond) (a0 : Addr) (a1 : Addr) (ar : Addr) (kA : ClassId) (x1 : Addr) (x2 : Addr) (t1 : Int64) (t2 : Int64) (nu : Value) (pu : Value) (h0 : Heap) (n0 : Nat) (Z0 : n0 ≤ h0.size) (F0 : Exa Z h0 a0 cD) (F1 : Fld Z h0 a0 cD "heads" dA (.ref ar)) (F2 : Fld Z h0 a0 cD "count" "I" (.int (2 : Int32))) (F3 : Arv Z h0 ar kA (.object cH) (4 : Int32) [(.ref x1), (.ref x2), .null, .null] .null) (F4 : Ovr Z kA cH) (F5 : Exa Z h0 x1 cH) (F6 : Fld Z h0 x1 cH "tick" "J" (.long t1)) (F7 : Exa Z h0 x2 cH) (F8 : Fld Z h0 x2 cH "tick" "J" (.long t2)) (F9 : Exa Z h0 a1 cL) (F10 : Fld Z h0 a1 cL "prev" dL (.ref x1)) (F11 : Fld Z h0 a1 cL "next" dL (.ref x1)) (F12 : Fld Z h0 x1 cL "next" dL nu) (F13 : Fld Z h0 x1 cL "prev" dL pu) (Ne0 : a0 ≠ ar) (Ne1 : x1 ≠ a0) (Ne2 : x2 ≠ a0) (Ne3 : x1 ≠ ar) (Ne4 : x2 ≠ ar) (Ne5 : a1 ≠ a0) (Ne6 : a1 ≠ ar) (Ne7 : a1 ≠ x1) (Ne8 : a1 ≠ x2) (Ne9 : x1 ≠ x2) (Ge0 : n0 ≤ a0) (Ge1 : n0 ≤ ar) (Ge2 : n0 ≤ a1) (Ge3 : n0 ≤ x1) (HD : fDue2 t1 t1 t2 = (1 : Int32)) :
    MetFree l y7 (head1 (Jvm.Cond.code y7 prog_4_method_6_code 3 none :: ws) ({ frames := 2, cells := 0, slots := 0, locals := 32 } : Room)) (fun a U => a = #[(.ref a0), (.ref a1)] ∧ Z.Warmed39 U.vm ∧ U.heap = h0) (fun _ _ _ _ _ => True) (fun _ U o U' => ∃ v L, o = .returned v ∧ QRemL2_1 Z a0 a1 ar kA x1 x2 t1 t2 nu pu h0 n0 v U'.heap L ∧ FrameEnd U o U' L ({ frames := 2, cells := 0, slots := 0, locals := 32 } : Room).cells ({ frames := 2, cells := 0, slots := 0, locals := 32 } : Room).slots) := by
  refine MetFree.of_bodySF (plainFor_of_name own_pn_com_example_admit_one_admitone_engine_DueOrder) hisR ?_
  intro p e s m args below meth c s₁ Bd hml0 hP hK
  obtain ⟨rfl, hZ, hh⟩ := hP
  have hx := Bd.exec
  have hby := Bd.bytes
  have hml : c.maxLocals = 3 := hml0
  have hown : s.vm.findClass cD = some m.cls := findClass_of_methodNamed Bd.named
  have hnm := (name_of_methodNamed Bd.named Bd.method).1
  have X0 : Stand p l e ({ frames := 2, cells := 0, slots := 0, locals := 32 } : Room) s m #[(.ref a0), (.ref a1)] below meth c s₁ [] 0 0 := Stand.of_body Bd
  have e0 : s₁.heap = h0 := by rw [← hh, Bd.state]; rfl
  have N0 := Fr.nil n0
  have Kp0 : Keep h0 h0 [x1, a1, a0, ar] := Keep.refl _ _
  refine Goes.start ?_
  refine Goes.by (B := s₁.setTop (mkF m 0 #[.val (.ref a0), .val (.ref a1), .unset] [])) (fun t k => castTop (efRemL2_1 m a0 a1) k) ?_
  refine Goes.by (fun _ => XS.aloadN X0.here hx rfl (hb hby d9_0) rfl rfl) ?_
  refine Goes.by (fun _ => getFR X0 hx hZ hown (wq hw 53 rfl) e0 F10 (g := (mkF m 1 #[.val (.ref a0), .val (.ref a1), .unset] [(.ref a1)])) rfl rfl (hb hby d9_1)) ?_
  refine Goes.by (fun _ => XS.astoreN X0.here hx rfl (hb hby d9_4) rfl rfl (l' := #[.val (.ref a0), .val (.ref a1), .val (.ref x1)]) rfl) ?_
  refine Goes.by (fun _ => XS.aloadN X0.here hx rfl (hb hby d9_5) rfl rfl) ?_
  refine Goes.by (fun _ => XS.aloadN X0.here hx rfl (hb hby d9_6) rfl rfl) ?_
  refine Goes.by (fun _ => getFR X0 hx hZ hown (wq hw 55 rfl) e0 F11 (g := (mkF m 7 #[.val (.ref a0), .val (.ref a1), .val (.ref x1)] [(.ref a1), (.ref x1)])) rfl rfl (hb hby d9_7)) ?_
  obtain ⟨T3, h3, X3, e3, W3, st3⟩ := putFR X0 hx hZ hown (wq hw 55 rfl) e0 F12 F5 (wq hw 49 rfl) (wq hw 39 rfl) (ty := (.object cL)) (by decide) rfl rfl (g := (mkF m 10 #[.val (.ref a0), .val (.ref a1), .val (.ref x1)] [(.ref x1), (.ref x1)])) rfl rfl (hb hby d9_10)
  have f4 := F0.wr W3
  have f5 := F1.other W3 (Or.inl (Ne.symm Ne1))
  have f6 := F2.other W3 (Or.inl (Ne.symm Ne1))
  have f7 := F3.other W3 (Ne.symm Ne3)
  have f8 := F5.wr W3
  have f9 := F6.other W3 (Or.inr (slot_ne (Or.inr (wq hw 47 rfl)) (Or.inl (wq hw 49 rfl)) (by decide) (t := .long) (t' := (.object cL)) (by decide) (by decide)))
  have f10 := F7.wr W3
  have f11 := F8.other W3 (Or.inl (Ne.symm Ne9))
  have f12 := F9.wr W3
  have f13 := F10.other W3 (Or.inl Ne7)
  have f14 := F11.other W3 (Or.inl Ne7)
  have f15 := F13.other W3 (Or.inr (slot_ne (Or.inl (wq hw 51 rfl)) (Or.inl (wq hw 49 rfl)) (by decide) (t := (.object cL)) (t' := (.object cL)) (by decide) (by decide)))
  have f16 : Fld Z h3 x1 cL "next" dL (.ref x1) := F12.same W3
  have Kp3 : Keep h0 h3 [x1, a1, a0, ar] := Kp0.wr W3 (Or.inl om0)
  have Z17 := Nat.le_trans Z0 (Nat.le_of_eq W3.size.symm)
  have N18 := Fr.snoc X3 N0 Ge3
  refine Goes.by st3 ?_
  refine Goes.by (fun _ => XS.aloadN X3.here hx rfl (hb hby d9_13) rfl rfl) ?_
  refine Goes.by (fun _ => getFR X3 hx hZ hown (wq hw 55 rfl) e3 f14 (g := (mkF m 14 #[.val (.ref a0), .val (.ref a1), .val (.ref x1)] [(.ref a1)])) rfl rfl (hb hby d9_14)) ?_
  refine Goes.by (fun _ => XS.aloadN X3.here hx rfl (hb hby d9_17) rfl rfl) ?_
  obtain ⟨T20, h20, X20, e20, W20, st20⟩ := putFR X3 hx hZ hown (wq hw 53 rfl) e3 f15 f8 (wq hw 51 rfl) (wq hw 39 rfl) (ty := (.object cL)) (by decide) rfl rfl (g := (mkF m 18 #[.val (.ref a0), .val (.ref a1), .val (.ref x1)] [(.ref x1), (.ref x1)])) rfl rfl (hb hby d9_18)
  have f21 := f4.wr W20
  have f22 := f5.other W20 (Or.inl (Ne.symm Ne1))
  have f23 := f6.other W20 (Or.inl (Ne.symm Ne1))
  have f24 := f7.other W20 (Ne.symm Ne3)
  have f25 := f8.wr W20
  have f26 := f9.other W20 (Or.inr (slot_ne (Or.inr (wq hw 47 rfl)) (Or.inl (wq hw 51 rfl)) (by decide) (t := .long) (t' := (.object cL)) (by decide) (by decide)))
  have f27 := f10.wr W20
  have f28 := f11.other W20 (Or.inl (Ne.symm Ne9))
  have f29 := f12.wr W20
  have f30 := f13.other W20 (Or.inl Ne7)
  have f31 := f14.other W20 (Or.inl Ne7)
  have f32 := f16.other W20 (Or.inr (slot_ne (Or.inl (wq hw 49 rfl)) (Or.inl (wq hw 51 rfl)) (by decide) (t := (.object cL)) (t' := (.object cL)) (by decide) (by decide)))
  have f33 : Fld Z h20 x1 cL "prev" dL (.ref x1) := f15.same W20
  have Kp20 : Keep h0 h20 [x1, a1, a0, ar] := Kp3.wr W20 (Or.inl om0)
  have Z34 := Nat.le_trans Z17 (Nat.le_of_eq W20.size.symm)
  have N35 := Fr.snoc X20 N18 Ge3
  refine Goes.by st20 ?_
  refine Goes.by (fun _ => XS.aloadN X20.here hx rfl (hb hby d9_21) rfl rfl) ?_
  refine Goes.by (fun _ => XS.aconstNull X20.here hx rfl (hb hby d9_22)) ?_
  obtain ⟨T36, h36, X36, e36, W36, st36⟩ := putFR X20 hx hZ hown (wq hw 55 rfl) e20 f31 f29 (wq hw 56 rfl) (wq hw 14 rfl) (ty := (.object cL)) (by decide) rfl rfl (g := (mkF m 23 #[.val (.ref a0), .val (.ref a1), .val (.ref x1)] [.null, (.ref a1)])) rfl rfl (hb hby d9_23)
  have f37 := f21.wr W36
  have f38 := f22.other W36 (Or.inl (Ne.symm Ne5))
  have f39 := f23.other W36 (Or.inl (Ne.symm Ne5))
  have f40 := f24.other W36 (Ne.symm Ne6)
  have f41 := f25.wr W36
  have f42 := f26.other W36 (Or.inl (Ne.symm Ne7))
  have f43 := f27.wr W36
  have f44 := f28.other W36 (Or.inl (Ne.symm Ne8))
  have f45 := f29.wr W36
  have f46 := f30.other W36 (Or.inr (slot_ne (Or.inl (wq hw 54 rfl)) (Or.inl (wq hw 56 rfl)) (by decide) (t := (.object cL)) (t' := (.object cL)) (by decide) (by decide)))
  have f47 := f32.other W36 (Or.inl (Ne.symm Ne7))
  have f48 := f33.other W36 (Or.inl (Ne.symm Ne7))
  have f49 : Fld Z h36 a1 cL "next" dL .null := f31.same W36
  have Kp36 : Keep h0 h36 [x1, a1, a0, ar] := Kp20.wr W36 (Or.inl om1)
  have Z50 := Nat.le_trans Z34 (Nat.le_of_eq W36.size.symm)
  have N51 := Fr.snoc X36 N35 Ge2
  refine Goes.by st36 ?_
  refine Goes.by (fun _ => XS.aloadN X36.here hx rfl (hb hby d9_26) rfl rfl) ?_
  refine Goes.by (fun _ => XS.aconstNull X36.here hx rfl (hb hby d9_27)) ?_
  obtain ⟨T52, h52, X52, e52, W52, st52⟩ := putFR X36 hx hZ hown (wq hw 53 rfl) e36 f46 f45 (wq hw 54 rfl) (wq hw 14 rfl) (ty := (.object cL)) (by decide) rfl rfl (g := (mkF m 28 #[.val (.ref a0), .val (.ref a1), .val (.ref x1)] [.null, (.ref a1)])) rfl rfl (hb hby d9_28)
  have f53 := f37.wr W52
  have f54 := f38.other W52 (Or.inl (Ne.symm Ne5))
  have f55 := f39.other W52 (Or.inl (Ne.symm Ne5))
  have f56 := f40.other W52 (Ne.symm Ne6)
  have f57 := f41.wr W52
  have f58 := f42.other W52 (Or.inl (Ne.symm Ne7))
  have f59 := f43.wr W52
  have f60 := f44.other W52 (Or.inl (Ne.symm Ne8))
  have f61 := f45.wr W52
  have f62 := f47.other W52 (Or.inl (Ne.symm Ne7))
  have f63 := f48.other W52 (Or.inl (Ne.symm Ne7))
  have f64 := f49.other W52 (Or.inr (slot_ne (Or.inl (wq hw 56 rfl)) (Or.inl (wq hw 54 rfl)) (by decide) (t := (.object cL)) (t' := (.object cL)) (by decide) (by decide)))
  have f65 : Fld Z h52 a1 cL "prev" dL .null := f46.same W52
  have Kp52 : Keep h0 h52 [x1, a1, a0, ar] := Kp36.wr W52 (Or.inl om1)
  have Z66 := Nat.le_trans Z50 (Nat.le_of_eq W52.size.symm)
  have N67 := Fr.snoc X52 N51 Ge2
  refine Goes.by st52 ?_
  refine Goes.by (fun _ => XS.aloadN X52.here hx rfl (hb hby d9_31) rfl rfl) ?_
  refine Goes.by (B := T52.setTop (mkF m 41 #[.val (.ref a0), .val (.ref a1), .val (.ref x1)] [(.ref x1), (.ref a0)])) (fun t k => ?_) ?_
  · refine getFR X52 hx hZ hown (wq hw 55 rfl) e52 f62 (g := (mkF m 32 #[.val (.ref a0), .val (.ref a1), .val (.ref x1)] [(.ref x1)])) rfl rfl (hb hby d9_32) ?_
    refine XS.aloadN X52.here hx rfl (hb hby d9_35) rfl rfl ?_
    refine Jvm.RoadKit.acmp (g := (mkF m 36 #[.val (.ref a0), .val (.ref a1), .val (.ref x1)] [(.ref x1), (.ref x1)])) X52 hx rfl rfl rfl (pc0 := 36) (pc' := 39) (same := true) rfl (hb hby d9_36) rfl (decide_eq_true rfl) (by decide) (by decide) ?_
    refine XS.aloadN X52.here hx rfl (hb hby d9_39) rfl rfl ?_
    refine XS.aloadN X52.here hx rfl (hb hby d9_40) rfl rfl ?_
    exact k
  obtain ⟨T69, X69, e69, st69⟩ := castY X52 hx hZ hown (wq hw 9 rfl) e52 (Ins.self f57) (g := (mkF m 41 #[.val (.ref a0), .val (.ref a1), .val (.ref x1)] [(.ref x1), (.ref a0)])) rfl rfl (hb hby d9_41)
  refine Goes.by st69 ?_
  obtain ⟨_, T70, L70, Lc70, X70, hF70, hQ70, st70⟩ := own_cp X69 hx hZ hown (wq hw 85 rfl) (wq hw 87 rfl) (wq hw 1 rfl) (wq hw 86 rfl) (wq hw 2 rfl) (wq hw 88 rfl) (rmDrop2_1 l Z az hw [] a0 x1 ar kA x2 t1 t2 h52 n0 Z66 f53 f54 f55 f56 F4 f57 f58 f59 f60 Ne0 Ne1 Ne2 Ne3 Ne4 Ge0 Ge1 HD) (W := 0) (g := (mkF m 44 #[.val (.ref a0), .val (.ref a1), .val (.ref x1)] [(.ref x1), (.ref a0)])) rfl (by rw [hml]; rfl) f53 (argsL := [(.ref x1)]) (rest := []) rfl (lenOf own_pd4 rfl) rfl (hb hby d9_44) e69 N67 (c' := 0) (s' := 0)
  obtain ⟨rfl, N70q, K70, f71, f72, f73⟩ := hQ70
  have f74 := f53.keep K70
  have f75 := f57.keep K70
  have f76 := f58.keep K70 (ninS Ne3 (ninS Ne1 nin0))
  have f77 := f59.keep K70
  have f78 := f60.keep K70 (ninS Ne4 (ninS Ne2 nin0))
  have f79 := f61.keep K70
  have f80 := f62.keep K70 (ninS Ne3 (ninS Ne1 nin0))
  have f81 := f63.keep K70 (ninS Ne3 (ninS Ne1 nin0))
  have f82 := f64.keep K70 (ninS Ne6 (ninS Ne5 nin0))
  have f83 := f65.keep K70 (ninS Ne6 (ninS Ne5 nin0))
  have Kp70 : Keep h0 T70.heap [x1, a1, a0, ar] := Kp52.trans K70 (allS (Or.inl om3) (allS (Or.inl om2) all0))
  have Z84 := Nat.le_trans Z66 K70.1
  have N85 := hF70 N70q
  refine Goes.by st70 ?_
  obtain ⟨fs, hr, hrun, hended, hW, hsame⟩ := X70.leave (v := none) (fun _ => rfl)
  refine Goes.mk _ _ ?_ ⟨hrun, hended, _, _, rfl, ?_, ⟨_, rfl⟩, hW, hsame.mono (by decide) (by decide)⟩
  · exact X70.returnOut hx Bd.returns (hb hby d9_47) hr
  · show QRemL2_1 Z a0 a1 ar kA x1 x2 t1 t2 nu pu h0 n0 _ T70.heap _
    exact ⟨rfl, N85, Kp70, f71, f72, f73, f82, f83⟩
def QRemL2_2 (Z : State) (a0 : Addr) (a1 : Addr) (ar : Addr) (kA : ClassId) (x1 : Addr) (x2 : Addr) (t1 : Int64) (t2 : Int64) (nu : Value) (pu : Value) (h0 : Heap) (n0 : Nat) (v : Option Value) (h : Heap) (L : List Loc) : Prop := v = none ∧ Fr n0 L ∧ Keep h0 h [x2, a1, a0, ar] ∧ Fld Z h a0 cD "heads" dA (.ref ar) ∧ Fld Z h a0 cD "count" "I" (.int (1 : Int32)) ∧ Arv Z h ar kA (.object cH) (4 : Int32) [(.ref x1), .null, .null, .null] .null ∧ Fld Z h a1 cL "next" dL .null ∧ Fld Z h a1 cL "prev" dL .null
theorem efRemL2_2 (m : MethodId) (x0 : Addr) (x1 : Addr) : entryFrame m #[(.ref x0), (.ref x1)] 3 = mkF m 0 #[.val (.ref x0), .val (.ref x1), .unset] [] := by first | (simp [entryFrame, mkF, argsToLocals, Value.category]; done) | rfl
set_option maxRecDepth 65536 in
set_option maxHeartbeats 40000000 in
theorem rmRemL2_2 (l : Launch) (Z : State) (az : Array Value) (hw : ∀ d ∈ tables_1, d.before az Z = true) (ws : List Jvm.Cond) (a0 : Addr) (a1 : Addr) (ar : Addr) (kA : ClassId) (x1 : Addr) (x2 : Addr) (t1 : Int64) (t2 : Int64) (nu : Value) (pu : Value) (h0 : Heap) (n0 : Nat) (Z0 : n0 ≤ h0.size) (F0 : Exa Z h0 a0 cD) (F1 : Fld Z h0 a0 cD "heads" dA (.ref ar)) (F2 : Fld Z h0 a0 cD "count" "I" (.int (2 : Int32))) (F3 : Arv Z h0 ar kA (.object cH) (4 : Int32) [(.ref x1), (.ref x2), .null, .null] .null) (F4 : Ovr Z kA cH) (F5 : Exa Z h0 x1 cH) (F6 : Fld Z h0 x1 cH "tick" "J" (.long t1)) (F7 : Exa Z h0 x2 cH) (F8 : Fld Z h0 x2 cH "tick" "J" (.long t2)) (F9 : Exa Z h0 a1 cL) (F10 : Fld Z h0 a1 cL "prev" dL (.ref x2)) (F11 : Fld Z h0 a1 cL "next" dL (.ref x2)) (F12 : Fld Z h0 x2 cL "next" dL nu) (F13 : Fld Z h0 x2 cL "prev" dL pu) (Ne0 : a0 ≠ ar) (Ne1 : x1 ≠ a0) (Ne2 : x2 ≠ a0) (Ne3 : x1 ≠ ar) (Ne4 : x2 ≠ ar) (Ne5 : a1 ≠ a0) (Ne6 : a1 ≠ ar) (Ne7 : a1 ≠ x1) (Ne8 : a1 ≠ x2) (Ne9 : x2 ≠ x1) (Ge0 : n0 ≤ a0) (Ge1 : n0 ≤ ar) (Ge2 : n0 ≤ a1) (Ge3 : n0 ≤ x2) (HD : fDue2 t2 t1 t2 = (2 : Int32)) :
    MetFree l y7 (head1 (Jvm.Cond.code y7 prog_4_method_6_code 3 none :: ws) ({ frames := 2, cells := 0, slots := 0, locals := 32 } : Room)) (fun a U => a = #[(.ref a0), (.ref a1)] ∧ Z.Warmed39 U.vm ∧ U.heap = h0) (fun _ _ _ _ _ => True) (fun _ U o U' => ∃ v L, o = .returned v ∧ QRemL2_2 Z a0 a1 ar kA x1 x2 t1 t2 nu pu h0 n0 v U'.heap L ∧ FrameEnd U o U' L ({ frames := 2, cells := 0, slots := 0, locals := 32 } : Room).cells ({ frames := 2, cells := 0, slots := 0, locals := 32 } : Room).slots) := by
  refine MetFree.of_bodySF (plainFor_of_name own_pn_com_example_admit_one_admitone_engine_DueOrder) hisR ?_
  intro p e s m args below meth c s₁ Bd hml0 hP hK
  obtain ⟨rfl, hZ, hh⟩ := hP
  have hx := Bd.exec
  have hby := Bd.bytes
  have hml : c.maxLocals = 3 := hml0
  have hown : s.vm.findClass cD = some m.cls := findClass_of_methodNamed Bd.named
  have hnm := (name_of_methodNamed Bd.named Bd.method).1
  have X0 : Stand p l e ({ frames := 2, cells := 0, slots := 0, locals := 32 } : Room) s m #[(.ref a0), (.ref a1)] below meth c s₁ [] 0 0 := Stand.of_body Bd
  have e0 : s₁.heap = h0 := by rw [← hh, Bd.state]; rfl
  have N0 := Fr.nil n0
  have Kp0 : Keep h0 h0 [x2, a1, a0, ar] := Keep.refl _ _
  refine Goes.start ?_
  refine Goes.by (B := s₁.setTop (mkF m 0 #[.val (.ref a0), .val (.ref a1), .unset] [])) (fun t k => castTop (efRemL2_2 m a0 a1) k) ?_
  refine Goes.by (fun _ => XS.aloadN X0.here hx rfl (hb hby d9_0) rfl rfl) ?_
  refine Goes.by (fun _ => getFR X0 hx hZ hown (wq hw 53 rfl) e0 F10 (g := (mkF m 1 #[.val (.ref a0), .val (.ref a1), .unset] [(.ref a1)])) rfl rfl (hb hby d9_1)) ?_
  refine Goes.by (fun _ => XS.astoreN X0.here hx rfl (hb hby d9_4) rfl rfl (l' := #[.val (.ref a0), .val (.ref a1), .val (.ref x2)]) rfl) ?_
  refine Goes.by (fun _ => XS.aloadN X0.here hx rfl (hb hby d9_5) rfl rfl) ?_
  refine Goes.by (fun _ => XS.aloadN X0.here hx rfl (hb hby d9_6) rfl rfl) ?_
  refine Goes.by (fun _ => getFR X0 hx hZ hown (wq hw 55 rfl) e0 F11 (g := (mkF m 7 #[.val (.ref a0), .val (.ref a1), .val (.ref x2)] [(.ref a1), (.ref x2)])) rfl rfl (hb hby d9_7)) ?_
  obtain ⟨T3, h3, X3, e3, W3, st3⟩ := putFR X0 hx hZ hown (wq hw 55 rfl) e0 F12 F7 (wq hw 49 rfl) (wq hw 39 rfl) (ty := (.object cL)) (by decide) rfl rfl (g := (mkF m 10 #[.val (.ref a0), .val (.ref a1), .val (.ref x2)] [(.ref x2), (.ref x2)])) rfl rfl (hb hby d9_10)
  have f4 := F0.wr W3
  have f5 := F1.other W3 (Or.inl (Ne.symm Ne2))
  have f6 := F2.other W3 (Or.inl (Ne.symm Ne2))
  have f7 := F3.other W3 (Ne.symm Ne4)
  have f8 := F5.wr W3
  have f9 := F6.other W3 (Or.inl (Ne.symm Ne9))
  have f10 := F7.wr W3
  have f11 := F8.other W3 (Or.inr (slot_ne (Or.inr (wq hw 47 rfl)) (Or.inl (wq hw 49 rfl)) (by decide) (t := .long) (t' := (.object cL)) (by decide) (by decide)))
  have f12 := F9.wr W3
  have f13 := F10.other W3 (Or.inl Ne8)
  have f14 := F11.other W3 (Or.inl Ne8)
  have f15 := F13.other W3 (Or.inr (slot_ne (Or.inl (wq hw 51 rfl)) (Or.inl (wq hw 49 rfl)) (by decide) (t := (.object cL)) (t' := (.object cL)) (by decide) (by decide)))
  have f16 : Fld Z h3 x2 cL "next" dL (.ref x2) := F12.same W3
  have Kp3 : Keep h0 h3 [x2, a1, a0, ar] := Kp0.wr W3 (Or.inl om0)
  have Z17 := Nat.le_trans Z0 (Nat.le_of_eq W3.size.symm)
  have N18 := Fr.snoc X3 N0 Ge3
  refine Goes.by st3 ?_
  refine Goes.by (fun _ => XS.aloadN X3.here hx rfl (hb hby d9_13) rfl rfl) ?_
  refine Goes.by (fun _ => getFR X3 hx hZ hown (wq hw 55 rfl) e3 f14 (g := (mkF m 14 #[.val (.ref a0), .val (.ref a1), .val (.ref x2)] [(.ref a1)])) rfl rfl (hb hby d9_14)) ?_
  refine Goes.by (fun _ => XS.aloadN X3.here hx rfl (hb hby d9_17) rfl rfl) ?_
  obtain ⟨T20, h20, X20, e20, W20, st20⟩ := putFR X3 hx hZ hown (wq hw 53 rfl) e3 f15 f10 (wq hw 51 rfl) (wq hw 39 rfl) (ty := (.object cL)) (by decide) rfl rfl (g := (mkF m 18 #[.val (.ref a0), .val (.ref a1), .val (.ref x2)] [(.ref x2), (.ref x2)])) rfl rfl (hb hby d9_18)
  have f21 := f4.wr W20
  have f22 := f5.other W20 (Or.inl (Ne.symm Ne2))
  have f23 := f6.other W20 (Or.inl (Ne.symm Ne2))
  have f24 := f7.other W20 (Ne.symm Ne4)
  have f25 := f8.wr W20
  have f26 := f9.other W20 (Or.inl (Ne.symm Ne9))
  have f27 := f10.wr W20
  have f28 := f11.other W20 (Or.inr (slot_ne (Or.inr (wq hw 47 rfl)) (Or.inl (wq hw 51 rfl)) (by decide) (t := .long) (t' := (.object cL)) (by decide) (by decide)))
  have f29 := f12.wr W20
  have f30 := f13.other W20 (Or.inl Ne8)
  have f31 := f14.other W20 (Or.inl Ne8)
  have f32 := f16.other W20 (Or.inr (slot_ne (Or.inl (wq hw 49 rfl)) (Or.inl (wq hw 51 rfl)) (by decide) (t := (.object cL)) (t' := (.object cL)) (by decide) (by decide)))
  have f33 : Fld Z h20 x2 cL "prev" dL (.ref x2) := f15.same W20
  have Kp20 : Keep h0 h20 [x2, a1, a0, ar] := Kp3.wr W20 (Or.inl om0)
  have Z34 := Nat.le_trans Z17 (Nat.le_of_eq W20.size.symm)
  have N35 := Fr.snoc X20 N18 Ge3
  refine Goes.by st20 ?_
  refine Goes.by (fun _ => XS.aloadN X20.here hx rfl (hb hby d9_21) rfl rfl) ?_
  refine Goes.by (fun _ => XS.aconstNull X20.here hx rfl (hb hby d9_22)) ?_
  obtain ⟨T36, h36, X36, e36, W36, st36⟩ := putFR X20 hx hZ hown (wq hw 55 rfl) e20 f31 f29 (wq hw 56 rfl) (wq hw 14 rfl) (ty := (.object cL)) (by decide) rfl rfl (g := (mkF m 23 #[.val (.ref a0), .val (.ref a1), .val (.ref x2)] [.null, (.ref a1)])) rfl rfl (hb hby d9_23)
  have f37 := f21.wr W36
  have f38 := f22.other W36 (Or.inl (Ne.symm Ne5))
  have f39 := f23.other W36 (Or.inl (Ne.symm Ne5))
  have f40 := f24.other W36 (Ne.symm Ne6)
  have f41 := f25.wr W36
  have f42 := f26.other W36 (Or.inl (Ne.symm Ne7))
  have f43 := f27.wr W36
  have f44 := f28.other W36 (Or.inl (Ne.symm Ne8))
  have f45 := f29.wr W36
  have f46 := f30.other W36 (Or.inr (slot_ne (Or.inl (wq hw 54 rfl)) (Or.inl (wq hw 56 rfl)) (by decide) (t := (.object cL)) (t' := (.object cL)) (by decide) (by decide)))
  have f47 := f32.other W36 (Or.inl (Ne.symm Ne8))
  have f48 := f33.other W36 (Or.inl (Ne.symm Ne8))
  have f49 : Fld Z h36 a1 cL "next" dL .null := f31.same W36
  have Kp36 : Keep h0 h36 [x2, a1, a0, ar] := Kp20.wr W36 (Or.inl om1)
  have Z50 := Nat.le_trans Z34 (Nat.le_of_eq W36.size.symm)
  have N51 := Fr.snoc X36 N35 Ge2
  refine Goes.by st36 ?_
  refine Goes.by (fun _ => XS.aloadN X36.here hx rfl (hb hby d9_26) rfl rfl) ?_
  refine Goes.by (fun _ => XS.aconstNull X36.here hx rfl (hb hby d9_27)) ?_
  obtain ⟨T52, h52, X52, e52, W52, st52⟩ := putFR X36 hx hZ hown (wq hw 53 rfl) e36 f46 f45 (wq hw 54 rfl) (wq hw 14 rfl) (ty := (.object cL)) (by decide) rfl rfl (g := (mkF m 28 #[.val (.ref a0), .val (.ref a1), .val (.ref x2)] [.null, (.ref a1)])) rfl rfl (hb hby d9_28)
  have f53 := f37.wr W52
  have f54 := f38.other W52 (Or.inl (Ne.symm Ne5))
  have f55 := f39.other W52 (Or.inl (Ne.symm Ne5))
  have f56 := f40.other W52 (Ne.symm Ne6)
  have f57 := f41.wr W52
  have f58 := f42.other W52 (Or.inl (Ne.symm Ne7))
  have f59 := f43.wr W52
  have f60 := f44.other W52 (Or.inl (Ne.symm Ne8))
  have f61 := f45.wr W52
  have f62 := f47.other W52 (Or.inl (Ne.symm Ne8))
  have f63 := f48.other W52 (Or.inl (Ne.symm Ne8))
  have f64 := f49.other W52 (Or.inr (slot_ne (Or.inl (wq hw 56 rfl)) (Or.inl (wq hw 54 rfl)) (by decide) (t := (.object cL)) (t' := (.object cL)) (by decide) (by decide)))
  have f65 : Fld Z h52 a1 cL "prev" dL .null := f46.same W52
  have Kp52 : Keep h0 h52 [x2, a1, a0, ar] := Kp36.wr W52 (Or.inl om1)
  have Z66 := Nat.le_trans Z50 (Nat.le_of_eq W52.size.symm)
  have N67 := Fr.snoc X52 N51 Ge2
  refine Goes.by st52 ?_
  refine Goes.by (fun _ => XS.aloadN X52.here hx rfl (hb hby d9_31) rfl rfl) ?_
  refine Goes.by (B := T52.setTop (mkF m 41 #[.val (.ref a0), .val (.ref a1), .val (.ref x2)] [(.ref x2), (.ref a0)])) (fun t k => ?_) ?_
  · refine getFR X52 hx hZ hown (wq hw 55 rfl) e52 f62 (g := (mkF m 32 #[.val (.ref a0), .val (.ref a1), .val (.ref x2)] [(.ref x2)])) rfl rfl (hb hby d9_32) ?_
    refine XS.aloadN X52.here hx rfl (hb hby d9_35) rfl rfl ?_
    refine Jvm.RoadKit.acmp (g := (mkF m 36 #[.val (.ref a0), .val (.ref a1), .val (.ref x2)] [(.ref x2), (.ref x2)])) X52 hx rfl rfl rfl (pc0 := 36) (pc' := 39) (same := true) rfl (hb hby d9_36) rfl (decide_eq_true rfl) (by decide) (by decide) ?_
    refine XS.aloadN X52.here hx rfl (hb hby d9_39) rfl rfl ?_
    refine XS.aloadN X52.here hx rfl (hb hby d9_40) rfl rfl ?_
    exact k
  obtain ⟨T69, X69, e69, st69⟩ := castY X52 hx hZ hown (wq hw 9 rfl) e52 (Ins.self f59) (g := (mkF m 41 #[.val (.ref a0), .val (.ref a1), .val (.ref x2)] [(.ref x2), (.ref a0)])) rfl rfl (hb hby d9_41)
  refine Goes.by st69 ?_
  obtain ⟨_, T70, L70, Lc70, X70, hF70, hQ70, st70⟩ := own_cp X69 hx hZ hown (wq hw 85 rfl) (wq hw 87 rfl) (wq hw 1 rfl) (wq hw 86 rfl) (wq hw 2 rfl) (wq hw 88 rfl) (rmDrop2_2 l Z az hw [] a0 x2 ar kA x1 t1 t2 h52 n0 Z66 f53 f54 f55 f56 F4 f57 f58 f59 f60 Ne0 Ne1 Ne2 Ne3 Ne4 Ge0 Ge1 HD) (W := 0) (g := (mkF m 44 #[.val (.ref a0), .val (.ref a1), .val (.ref x2)] [(.ref x2), (.ref a0)])) rfl (by rw [hml]; rfl) f53 (argsL := [(.ref x2)]) (rest := []) rfl (lenOf own_pd4 rfl) rfl (hb hby d9_44) e69 N67 (c' := 0) (s' := 0)
  obtain ⟨rfl, N70q, K70, f71, f72, f73⟩ := hQ70
  have f74 := f53.keep K70
  have f75 := f57.keep K70
  have f76 := f58.keep K70 (ninS Ne3 (ninS Ne1 nin0))
  have f77 := f59.keep K70
  have f78 := f60.keep K70 (ninS Ne4 (ninS Ne2 nin0))
  have f79 := f61.keep K70
  have f80 := f62.keep K70 (ninS Ne4 (ninS Ne2 nin0))
  have f81 := f63.keep K70 (ninS Ne4 (ninS Ne2 nin0))
  have f82 := f64.keep K70 (ninS Ne6 (ninS Ne5 nin0))
  have f83 := f65.keep K70 (ninS Ne6 (ninS Ne5 nin0))
  have Kp70 : Keep h0 T70.heap [x2, a1, a0, ar] := Kp52.trans K70 (allS (Or.inl om3) (allS (Or.inl om2) all0))
  have Z84 := Nat.le_trans Z66 K70.1
  have N85 := hF70 N70q
  refine Goes.by st70 ?_
  obtain ⟨fs, hr, hrun, hended, hW, hsame⟩ := X70.leave (v := none) (fun _ => rfl)
  refine Goes.mk _ _ ?_ ⟨hrun, hended, _, _, rfl, ?_, ⟨_, rfl⟩, hW, hsame.mono (by decide) (by decide)⟩
  · exact X70.returnOut hx Bd.returns (hb hby d9_47) hr
  · show QRemL2_2 Z a0 a1 ar kA x1 x2 t1 t2 nu pu h0 n0 _ T70.heap _
    exact ⟨rfl, N85, Kp70, f71, f72, f73, f82, f83⟩
def QRemL3_1 (Z : State) (a0 : Addr) (a1 : Addr) (ar : Addr) (kA : ClassId) (x1 : Addr) (x2 : Addr) (x3 : Addr) (t1 : Int64) (t2 : Int64) (t3 : Int64) (nu : Value) (pu : Value) (h0 : Heap) (n0 : Nat) (v : Option Value) (h : Heap) (L : List Loc) : Prop := v = none ∧ Fr n0 L ∧ Keep h0 h [x1, a1, a0, ar] ∧ Fld Z h a0 cD "heads" dA (.ref ar) ∧ Fld Z h a0 cD "count" "I" (.int (2 : Int32)) ∧ Arv Z h ar kA (.object cH) (4 : Int32) [(.ref x2), (.ref x3), .null, .null] .null ∧ Fld Z h a1 cL "next" dL .null ∧ Fld Z h a1 cL "prev" dL .null
theorem efRemL3_1 (m : MethodId) (x0 : Addr) (x1 : Addr) : entryFrame m #[(.ref x0), (.ref x1)] 3 = mkF m 0 #[.val (.ref x0), .val (.ref x1), .unset] [] := by first | (simp [entryFrame, mkF, argsToLocals, Value.category]; done) | rfl
set_option maxRecDepth 65536 in
set_option maxHeartbeats 40000000 in
theorem rmRemL3_1 (l : Launch) (Z : State) (az : Array Value) (hw : ∀ d ∈ tables_1, d.before az Z = true) (ws : List Jvm.Cond) (a0 : Addr) (a1 : Addr) (ar : Addr) (kA : ClassId) (x1 : Addr) (x2 : Addr) (x3 : Addr) (t1 : Int64) (t2 : Int64) (t3 : Int64) (nu : Value) (pu : Value) (h0 : Heap) (n0 : Nat) (Z0 : n0 ≤ h0.size) (F0 : Exa Z h0 a0 cD) (F1 : Fld Z h0 a0 cD "heads" dA (.ref ar)) (F2 : Fld Z h0 a0 cD "count" "I" (.int (3 : Int32))) (F3 : Arv Z h0 ar kA (.object cH) (4 : Int32) [(.ref x1), (.ref x2), (.ref x3), .null] .null) (F4 : Ovr Z kA cH) (F5 : Exa Z h0 x1 cH) (F6 : Fld Z h0 x1 cH "tick" "J" (.long t1)) (F7 : Exa Z h0 x2 cH) (F8 : Fld Z h0 x2 cH "tick" "J" (.long t2)) (F9 : Exa Z h0 x3 cH) (F10 : Fld Z h0 x3 cH "tick" "J" (.long t3)) (F11 : Exa Z h0 a1 cL) (F12 : Fld Z h0 a1 cL "prev" dL (.ref x1)) (F13 : Fld Z h0 a1 cL "next" dL (.ref x1)) (F14 : Fld Z h0 x1 cL "next" dL nu) (F15 : Fld Z h0 x1 cL "prev" dL pu) (Ne0 : a0 ≠ ar) (Ne1 : x1 ≠ a0) (Ne2 : x2 ≠ a0) (Ne3 : x3 ≠ a0) (Ne4 : x1 ≠ ar) (Ne5 : x2 ≠ ar) (Ne6 : x3 ≠ ar) (Ne7 : a1 ≠ a0) (Ne8 : a1 ≠ ar) (Ne9 : a1 ≠ x1) (Ne10 : a1 ≠ x2) (Ne11 : a1 ≠ x3) (Ne12 : x1 ≠ x2) (Ne13 : x1 ≠ x3) (Ge0 : n0 ≤ a0) (Ge1 : n0 ≤ ar) (Ge2 : n0 ≤ a1) (Ge3 : n0 ≤ x1) (HD : fDue3 t1 t1 t2 t3 = (1 : Int32)) :
    MetFree l y7 (head1 (Jvm.Cond.code y7 prog_4_method_6_code 3 none :: ws) ({ frames := 2, cells := 0, slots := 0, locals := 32 } : Room)) (fun a U => a = #[(.ref a0), (.ref a1)] ∧ Z.Warmed39 U.vm ∧ U.heap = h0) (fun _ _ _ _ _ => True) (fun _ U o U' => ∃ v L, o = .returned v ∧ QRemL3_1 Z a0 a1 ar kA x1 x2 x3 t1 t2 t3 nu pu h0 n0 v U'.heap L ∧ FrameEnd U o U' L ({ frames := 2, cells := 0, slots := 0, locals := 32 } : Room).cells ({ frames := 2, cells := 0, slots := 0, locals := 32 } : Room).slots) := by
  refine MetFree.of_bodySF (plainFor_of_name own_pn_com_example_admit_one_admitone_engine_DueOrder) hisR ?_
  intro p e s m args below meth c s₁ Bd hml0 hP hK
  obtain ⟨rfl, hZ, hh⟩ := hP
  have hx := Bd.exec
  have hby := Bd.bytes
  have hml : c.maxLocals = 3 := hml0
  have hown : s.vm.findClass cD = some m.cls := findClass_of_methodNamed Bd.named
  have hnm := (name_of_methodNamed Bd.named Bd.method).1
  have X0 : Stand p l e ({ frames := 2, cells := 0, slots := 0, locals := 32 } : Room) s m #[(.ref a0), (.ref a1)] below meth c s₁ [] 0 0 := Stand.of_body Bd
  have e0 : s₁.heap = h0 := by rw [← hh, Bd.state]; rfl
  have N0 := Fr.nil n0
  have Kp0 : Keep h0 h0 [x1, a1, a0, ar] := Keep.refl _ _
  refine Goes.start ?_
  refine Goes.by (B := s₁.setTop (mkF m 0 #[.val (.ref a0), .val (.ref a1), .unset] [])) (fun t k => castTop (efRemL3_1 m a0 a1) k) ?_
  refine Goes.by (fun _ => XS.aloadN X0.here hx rfl (hb hby d9_0) rfl rfl) ?_
  refine Goes.by (fun _ => getFR X0 hx hZ hown (wq hw 53 rfl) e0 F12 (g := (mkF m 1 #[.val (.ref a0), .val (.ref a1), .unset] [(.ref a1)])) rfl rfl (hb hby d9_1)) ?_
  refine Goes.by (fun _ => XS.astoreN X0.here hx rfl (hb hby d9_4) rfl rfl (l' := #[.val (.ref a0), .val (.ref a1), .val (.ref x1)]) rfl) ?_
  refine Goes.by (fun _ => XS.aloadN X0.here hx rfl (hb hby d9_5) rfl rfl) ?_
  refine Goes.by (fun _ => XS.aloadN X0.here hx rfl (hb hby d9_6) rfl rfl) ?_
  refine Goes.by (fun _ => getFR X0 hx hZ hown (wq hw 55 rfl) e0 F13 (g := (mkF m 7 #[.val (.ref a0), .val (.ref a1), .val (.ref x1)] [(.ref a1), (.ref x1)])) rfl rfl (hb hby d9_7)) ?_
  obtain ⟨T3, h3, X3, e3, W3, st3⟩ := putFR X0 hx hZ hown (wq hw 55 rfl) e0 F14 F5 (wq hw 49 rfl) (wq hw 39 rfl) (ty := (.object cL)) (by decide) rfl rfl (g := (mkF m 10 #[.val (.ref a0), .val (.ref a1), .val (.ref x1)] [(.ref x1), (.ref x1)])) rfl rfl (hb hby d9_10)
  have f4 := F0.wr W3
  have f5 := F1.other W3 (Or.inl (Ne.symm Ne1))
  have f6 := F2.other W3 (Or.inl (Ne.symm Ne1))
  have f7 := F3.other W3 (Ne.symm Ne4)
  have f8 := F5.wr W3
  have f9 := F6.other W3 (Or.inr (slot_ne (Or.inr (wq hw 47 rfl)) (Or.inl (wq hw 49 rfl)) (by decide) (t := .long) (t' := (.object cL)) (by decide) (by decide)))
  have f10 := F7.wr W3
  have f11 := F8.other W3 (Or.inl (Ne.symm Ne12))
  have f12 := F9.wr W3
  have f13 := F10.other W3 (Or.inl (Ne.symm Ne13))
  have f14 := F11.wr W3
  have f15 := F12.other W3 (Or.inl Ne9)
  have f16 := F13.other W3 (Or.inl Ne9)
  have f17 := F15.other W3 (Or.inr (slot_ne (Or.inl (wq hw 51 rfl)) (Or.inl (wq hw 49 rfl)) (by decide) (t := (.object cL)) (t' := (.object cL)) (by decide) (by decide)))
  have f18 : Fld Z h3 x1 cL "next" dL (.ref x1) := F14.same W3
  have Kp3 : Keep h0 h3 [x1, a1, a0, ar] := Kp0.wr W3 (Or.inl om0)
  have Z19 := Nat.le_trans Z0 (Nat.le_of_eq W3.size.symm)
  have N20 := Fr.snoc X3 N0 Ge3
  refine Goes.by st3 ?_
  refine Goes.by (fun _ => XS.aloadN X3.here hx rfl (hb hby d9_13) rfl rfl) ?_
  refine Goes.by (fun _ => getFR X3 hx hZ hown (wq hw 55 rfl) e3 f16 (g := (mkF m 14 #[.val (.ref a0), .val (.ref a1), .val (.ref x1)] [(.ref a1)])) rfl rfl (hb hby d9_14)) ?_
  refine Goes.by (fun _ => XS.aloadN X3.here hx rfl (hb hby d9_17) rfl rfl) ?_
  obtain ⟨T22, h22, X22, e22, W22, st22⟩ := putFR X3 hx hZ hown (wq hw 53 rfl) e3 f17 f8 (wq hw 51 rfl) (wq hw 39 rfl) (ty := (.object cL)) (by decide) rfl rfl (g := (mkF m 18 #[.val (.ref a0), .val (.ref a1), .val (.ref x1)] [(.ref x1), (.ref x1)])) rfl rfl (hb hby d9_18)
  have f23 := f4.wr W22
  have f24 := f5.other W22 (Or.inl (Ne.symm Ne1))
  have f25 := f6.other W22 (Or.inl (Ne.symm Ne1))
  have f26 := f7.other W22 (Ne.symm Ne4)
  have f27 := f8.wr W22
  have f28 := f9.other W22 (Or.inr (slot_ne (Or.inr (wq hw 47 rfl)) (Or.inl (wq hw 51 rfl)) (by decide) (t := .long) (t' := (.object cL)) (by decide) (by decide)))
  have f29 := f10.wr W22
  have f30 := f11.other W22 (Or.inl (Ne.symm Ne12))
  have f31 := f12.wr W22
  have f32 := f13.other W22 (Or.inl (Ne.symm Ne13))
  have f33 := f14.wr W22
  have f34 := f15.other W22 (Or.inl Ne9)
  have f35 := f16.other W22 (Or.inl Ne9)
  have f36 := f18.other W22 (Or.inr (slot_ne (Or.inl (wq hw 49 rfl)) (Or.inl (wq hw 51 rfl)) (by decide) (t := (.object cL)) (t' := (.object cL)) (by decide) (by decide)))
  have f37 : Fld Z h22 x1 cL "prev" dL (.ref x1) := f17.same W22
  have Kp22 : Keep h0 h22 [x1, a1, a0, ar] := Kp3.wr W22 (Or.inl om0)
  have Z38 := Nat.le_trans Z19 (Nat.le_of_eq W22.size.symm)
  have N39 := Fr.snoc X22 N20 Ge3
  refine Goes.by st22 ?_
  refine Goes.by (fun _ => XS.aloadN X22.here hx rfl (hb hby d9_21) rfl rfl) ?_
  refine Goes.by (fun _ => XS.aconstNull X22.here hx rfl (hb hby d9_22)) ?_
  obtain ⟨T40, h40, X40, e40, W40, st40⟩ := putFR X22 hx hZ hown (wq hw 55 rfl) e22 f35 f33 (wq hw 56 rfl) (wq hw 14 rfl) (ty := (.object cL)) (by decide) rfl rfl (g := (mkF m 23 #[.val (.ref a0), .val (.ref a1), .val (.ref x1)] [.null, (.ref a1)])) rfl rfl (hb hby d9_23)
  have f41 := f23.wr W40
  have f42 := f24.other W40 (Or.inl (Ne.symm Ne7))
  have f43 := f25.other W40 (Or.inl (Ne.symm Ne7))
  have f44 := f26.other W40 (Ne.symm Ne8)
  have f45 := f27.wr W40
  have f46 := f28.other W40 (Or.inl (Ne.symm Ne9))
  have f47 := f29.wr W40
  have f48 := f30.other W40 (Or.inl (Ne.symm Ne10))
  have f49 := f31.wr W40
  have f50 := f32.other W40 (Or.inl (Ne.symm Ne11))
  have f51 := f33.wr W40
  have f52 := f34.other W40 (Or.inr (slot_ne (Or.inl (wq hw 54 rfl)) (Or.inl (wq hw 56 rfl)) (by decide) (t := (.object cL)) (t' := (.object cL)) (by decide) (by decide)))
  have f53 := f36.other W40 (Or.inl (Ne.symm Ne9))
  have f54 := f37.other W40 (Or.inl (Ne.symm Ne9))
  have f55 : Fld Z h40 a1 cL "next" dL .null := f35.same W40
  have Kp40 : Keep h0 h40 [x1, a1, a0, ar] := Kp22.wr W40 (Or.inl om1)
  have Z56 := Nat.le_trans Z38 (Nat.le_of_eq W40.size.symm)
  have N57 := Fr.snoc X40 N39 Ge2
  refine Goes.by st40 ?_
  refine Goes.by (fun _ => XS.aloadN X40.here hx rfl (hb hby d9_26) rfl rfl) ?_
  refine Goes.by (fun _ => XS.aconstNull X40.here hx rfl (hb hby d9_27)) ?_
  obtain ⟨T58, h58, X58, e58, W58, st58⟩ := putFR X40 hx hZ hown (wq hw 53 rfl) e40 f52 f51 (wq hw 54 rfl) (wq hw 14 rfl) (ty := (.object cL)) (by decide) rfl rfl (g := (mkF m 28 #[.val (.ref a0), .val (.ref a1), .val (.ref x1)] [.null, (.ref a1)])) rfl rfl (hb hby d9_28)
  have f59 := f41.wr W58
  have f60 := f42.other W58 (Or.inl (Ne.symm Ne7))
  have f61 := f43.other W58 (Or.inl (Ne.symm Ne7))
  have f62 := f44.other W58 (Ne.symm Ne8)
  have f63 := f45.wr W58
  have f64 := f46.other W58 (Or.inl (Ne.symm Ne9))
  have f65 := f47.wr W58
  have f66 := f48.other W58 (Or.inl (Ne.symm Ne10))
  have f67 := f49.wr W58
  have f68 := f50.other W58 (Or.inl (Ne.symm Ne11))
  have f69 := f51.wr W58
  have f70 := f53.other W58 (Or.inl (Ne.symm Ne9))
  have f71 := f54.other W58 (Or.inl (Ne.symm Ne9))
  have f72 := f55.other W58 (Or.inr (slot_ne (Or.inl (wq hw 56 rfl)) (Or.inl (wq hw 54 rfl)) (by decide) (t := (.object cL)) (t' := (.object cL)) (by decide) (by decide)))
  have f73 : Fld Z h58 a1 cL "prev" dL .null := f52.same W58
  have Kp58 : Keep h0 h58 [x1, a1, a0, ar] := Kp40.wr W58 (Or.inl om1)
  have Z74 := Nat.le_trans Z56 (Nat.le_of_eq W58.size.symm)
  have N75 := Fr.snoc X58 N57 Ge2
  refine Goes.by st58 ?_
  refine Goes.by (fun _ => XS.aloadN X58.here hx rfl (hb hby d9_31) rfl rfl) ?_
  refine Goes.by (B := T58.setTop (mkF m 41 #[.val (.ref a0), .val (.ref a1), .val (.ref x1)] [(.ref x1), (.ref a0)])) (fun t k => ?_) ?_
  · refine getFR X58 hx hZ hown (wq hw 55 rfl) e58 f70 (g := (mkF m 32 #[.val (.ref a0), .val (.ref a1), .val (.ref x1)] [(.ref x1)])) rfl rfl (hb hby d9_32) ?_
    refine XS.aloadN X58.here hx rfl (hb hby d9_35) rfl rfl ?_
    refine Jvm.RoadKit.acmp (g := (mkF m 36 #[.val (.ref a0), .val (.ref a1), .val (.ref x1)] [(.ref x1), (.ref x1)])) X58 hx rfl rfl rfl (pc0 := 36) (pc' := 39) (same := true) rfl (hb hby d9_36) rfl (decide_eq_true rfl) (by decide) (by decide) ?_
    refine XS.aloadN X58.here hx rfl (hb hby d9_39) rfl rfl ?_
    refine XS.aloadN X58.here hx rfl (hb hby d9_40) rfl rfl ?_
    exact k
  obtain ⟨T77, X77, e77, st77⟩ := castY X58 hx hZ hown (wq hw 9 rfl) e58 (Ins.self f63) (g := (mkF m 41 #[.val (.ref a0), .val (.ref a1), .val (.ref x1)] [(.ref x1), (.ref a0)])) rfl rfl (hb hby d9_41)
  refine Goes.by st77 ?_
  obtain ⟨_, T78, L78, Lc78, X78, hF78, hQ78, st78⟩ := own_cp X77 hx hZ hown (wq hw 85 rfl) (wq hw 87 rfl) (wq hw 1 rfl) (wq hw 86 rfl) (wq hw 2 rfl) (wq hw 88 rfl) (rmDrop3_1 l Z az hw [] a0 x1 ar kA x2 x3 t1 t2 t3 h58 n0 Z74 f59 f60 f61 f62 F4 f63 f64 f65 f66 f67 f68 Ne0 Ne1 Ne2 Ne3 Ne4 Ne5 Ne6 Ge0 Ge1 HD) (W := 0) (g := (mkF m 44 #[.val (.ref a0), .val (.ref a1), .val (.ref x1)] [(.ref x1), (.ref a0)])) rfl (by rw [hml]; rfl) f59 (argsL := [(.ref x1)]) (rest := []) rfl (lenOf own_pd4 rfl) rfl (hb hby d9_44) e77 N75 (c' := 0) (s' := 0)
  obtain ⟨rfl, N78q, K78, f79, f80, f81⟩ := hQ78
  have f82 := f59.keep K78
  have f83 := f63.keep K78
  have f84 := f64.keep K78 (ninS Ne4 (ninS Ne1 nin0))
  have f85 := f65.keep K78
  have f86 := f66.keep K78 (ninS Ne5 (ninS Ne2 nin0))
  have f87 := f67.keep K78
  have f88 := f68.keep K78 (ninS Ne6 (ninS Ne3 nin0))
  have f89 := f69.keep K78
  have f90 := f70.keep K78 (ninS Ne4 (ninS Ne1 nin0))
  have f91 := f71.keep K78 (ninS Ne4 (ninS Ne1 nin0))
  have f92 := f72.keep K78 (ninS Ne8 (ninS Ne7 nin0))
  have f93 := f73.keep K78 (ninS Ne8 (ninS Ne7 nin0))
  have Kp78 : Keep h0 T78.heap [x1, a1, a0, ar] := Kp58.trans K78 (allS (Or.inl om3) (allS (Or.inl om2) all0))
  have Z94 := Nat.le_trans Z74 K78.1
  have N95 := hF78 N78q
  refine Goes.by st78 ?_
  obtain ⟨fs, hr, hrun, hended, hW, hsame⟩ := X78.leave (v := none) (fun _ => rfl)
  refine Goes.mk _ _ ?_ ⟨hrun, hended, _, _, rfl, ?_, ⟨_, rfl⟩, hW, hsame.mono (by decide) (by decide)⟩
  · exact X78.returnOut hx Bd.returns (hb hby d9_47) hr
  · show QRemL3_1 Z a0 a1 ar kA x1 x2 x3 t1 t2 t3 nu pu h0 n0 _ T78.heap _
    exact ⟨rfl, N95, Kp78, f79, f80, f81, f92, f93⟩
def QRemL3_2 (Z : State) (a0 : Addr) (a1 : Addr) (ar : Addr) (kA : ClassId) (x1 : Addr) (x2 : Addr) (x3 : Addr) (t1 : Int64) (t2 : Int64) (t3 : Int64) (nu : Value) (pu : Value) (h0 : Heap) (n0 : Nat) (v : Option Value) (h : Heap) (L : List Loc) : Prop := v = none ∧ Fr n0 L ∧ Keep h0 h [x2, a1, a0, ar] ∧ Fld Z h a0 cD "heads" dA (.ref ar) ∧ Fld Z h a0 cD "count" "I" (.int (2 : Int32)) ∧ Arv Z h ar kA (.object cH) (4 : Int32) [(.ref x1), (.ref x3), .null, .null] .null ∧ Fld Z h a1 cL "next" dL .null ∧ Fld Z h a1 cL "prev" dL .null
theorem efRemL3_2 (m : MethodId) (x0 : Addr) (x1 : Addr) : entryFrame m #[(.ref x0), (.ref x1)] 3 = mkF m 0 #[.val (.ref x0), .val (.ref x1), .unset] [] := by first | (simp [entryFrame, mkF, argsToLocals, Value.category]; done) | rfl
set_option maxRecDepth 65536 in
set_option maxHeartbeats 40000000 in
theorem rmRemL3_2 (l : Launch) (Z : State) (az : Array Value) (hw : ∀ d ∈ tables_1, d.before az Z = true) (ws : List Jvm.Cond) (a0 : Addr) (a1 : Addr) (ar : Addr) (kA : ClassId) (x1 : Addr) (x2 : Addr) (x3 : Addr) (t1 : Int64) (t2 : Int64) (t3 : Int64) (nu : Value) (pu : Value) (h0 : Heap) (n0 : Nat) (Z0 : n0 ≤ h0.size) (F0 : Exa Z h0 a0 cD) (F1 : Fld Z h0 a0 cD "heads" dA (.ref ar)) (F2 : Fld Z h0 a0 cD "count" "I" (.int (3 : Int32))) (F3 : Arv Z h0 ar kA (.object cH) (4 : Int32) [(.ref x1), (.ref x2), (.ref x3), .null] .null) (F4 : Ovr Z kA cH) (F5 : Exa Z h0 x1 cH) (F6 : Fld Z h0 x1 cH "tick" "J" (.long t1)) (F7 : Exa Z h0 x2 cH) (F8 : Fld Z h0 x2 cH "tick" "J" (.long t2)) (F9 : Exa Z h0 x3 cH) (F10 : Fld Z h0 x3 cH "tick" "J" (.long t3)) (F11 : Exa Z h0 a1 cL) (F12 : Fld Z h0 a1 cL "prev" dL (.ref x2)) (F13 : Fld Z h0 a1 cL "next" dL (.ref x2)) (F14 : Fld Z h0 x2 cL "next" dL nu) (F15 : Fld Z h0 x2 cL "prev" dL pu) (Ne0 : a0 ≠ ar) (Ne1 : x1 ≠ a0) (Ne2 : x2 ≠ a0) (Ne3 : x3 ≠ a0) (Ne4 : x1 ≠ ar) (Ne5 : x2 ≠ ar) (Ne6 : x3 ≠ ar) (Ne7 : a1 ≠ a0) (Ne8 : a1 ≠ ar) (Ne9 : a1 ≠ x1) (Ne10 : a1 ≠ x2) (Ne11 : a1 ≠ x3) (Ne12 : x2 ≠ x1) (Ne13 : x2 ≠ x3) (Ge0 : n0 ≤ a0) (Ge1 : n0 ≤ ar) (Ge2 : n0 ≤ a1) (Ge3 : n0 ≤ x2) (HD : fDue3 t2 t1 t2 t3 = (2 : Int32)) :
    MetFree l y7 (head1 (Jvm.Cond.code y7 prog_4_method_6_code 3 none :: ws) ({ frames := 2, cells := 0, slots := 0, locals := 32 } : Room)) (fun a U => a = #[(.ref a0), (.ref a1)] ∧ Z.Warmed39 U.vm ∧ U.heap = h0) (fun _ _ _ _ _ => True) (fun _ U o U' => ∃ v L, o = .returned v ∧ QRemL3_2 Z a0 a1 ar kA x1 x2 x3 t1 t2 t3 nu pu h0 n0 v U'.heap L ∧ FrameEnd U o U' L ({ frames := 2, cells := 0, slots := 0, locals := 32 } : Room).cells ({ frames := 2, cells := 0, slots := 0, locals := 32 } : Room).slots) := by
  refine MetFree.of_bodySF (plainFor_of_name own_pn_com_example_admit_one_admitone_engine_DueOrder) hisR ?_
  intro p e s m args below meth c s₁ Bd hml0 hP hK
  obtain ⟨rfl, hZ, hh⟩ := hP
  have hx := Bd.exec
  have hby := Bd.bytes
  have hml : c.maxLocals = 3 := hml0
  have hown : s.vm.findClass cD = some m.cls := findClass_of_methodNamed Bd.named
  have hnm := (name_of_methodNamed Bd.named Bd.method).1
  have X0 : Stand p l e ({ frames := 2, cells := 0, slots := 0, locals := 32 } : Room) s m #[(.ref a0), (.ref a1)] below meth c s₁ [] 0 0 := Stand.of_body Bd
  have e0 : s₁.heap = h0 := by rw [← hh, Bd.state]; rfl
  have N0 := Fr.nil n0
  have Kp0 : Keep h0 h0 [x2, a1, a0, ar] := Keep.refl _ _
  refine Goes.start ?_
  refine Goes.by (B := s₁.setTop (mkF m 0 #[.val (.ref a0), .val (.ref a1), .unset] [])) (fun t k => castTop (efRemL3_2 m a0 a1) k) ?_
  refine Goes.by (fun _ => XS.aloadN X0.here hx rfl (hb hby d9_0) rfl rfl) ?_
  refine Goes.by (fun _ => getFR X0 hx hZ hown (wq hw 53 rfl) e0 F12 (g := (mkF m 1 #[.val (.ref a0), .val (.ref a1), .unset] [(.ref a1)])) rfl rfl (hb hby d9_1)) ?_
  refine Goes.by (fun _ => XS.astoreN X0.here hx rfl (hb hby d9_4) rfl rfl (l' := #[.val (.ref a0), .val (.ref a1), .val (.ref x2)]) rfl) ?_
  refine Goes.by (fun _ => XS.aloadN X0.here hx rfl (hb hby d9_5) rfl rfl) ?_
  refine Goes.by (fun _ => XS.aloadN X0.here hx rfl (hb hby d9_6) rfl rfl) ?_
  refine Goes.by (fun _ => getFR X0 hx hZ hown (wq hw 55 rfl) e0 F13 (g := (mkF m 7 #[.val (.ref a0), .val (.ref a1), .val (.ref x2)] [(.ref a1), (.ref x2)])) rfl rfl (hb hby d9_7)) ?_
  obtain ⟨T3, h3, X3, e3, W3, st3⟩ := putFR X0 hx hZ hown (wq hw 55 rfl) e0 F14 F7 (wq hw 49 rfl) (wq hw 39 rfl) (ty := (.object cL)) (by decide) rfl rfl (g := (mkF m 10 #[.val (.ref a0), .val (.ref a1), .val (.ref x2)] [(.ref x2), (.ref x2)])) rfl rfl (hb hby d9_10)
  have f4 := F0.wr W3
  have f5 := F1.other W3 (Or.inl (Ne.symm Ne2))
  have f6 := F2.other W3 (Or.inl (Ne.symm Ne2))
  have f7 := F3.other W3 (Ne.symm Ne5)
  have f8 := F5.wr W3
  have f9 := F6.other W3 (Or.inl (Ne.symm Ne12))
  have f10 := F7.wr W3
  have f11 := F8.other W3 (Or.inr (slot_ne (Or.inr (wq hw 47 rfl)) (Or.inl (wq hw 49 rfl)) (by decide) (t := .long) (t' := (.object cL)) (by decide) (by decide)))
  have f12 := F9.wr W3
  have f13 := F10.other W3 (Or.inl (Ne.symm Ne13))
  have f14 := F11.wr W3
  have f15 := F12.other W3 (Or.inl Ne10)
  have f16 := F13.other W3 (Or.inl Ne10)
  have f17 := F15.other W3 (Or.inr (slot_ne (Or.inl (wq hw 51 rfl)) (Or.inl (wq hw 49 rfl)) (by decide) (t := (.object cL)) (t' := (.object cL)) (by decide) (by decide)))
  have f18 : Fld Z h3 x2 cL "next" dL (.ref x2) := F14.same W3
  have Kp3 : Keep h0 h3 [x2, a1, a0, ar] := Kp0.wr W3 (Or.inl om0)
  have Z19 := Nat.le_trans Z0 (Nat.le_of_eq W3.size.symm)
  have N20 := Fr.snoc X3 N0 Ge3
  refine Goes.by st3 ?_
  refine Goes.by (fun _ => XS.aloadN X3.here hx rfl (hb hby d9_13) rfl rfl) ?_
  refine Goes.by (fun _ => getFR X3 hx hZ hown (wq hw 55 rfl) e3 f16 (g := (mkF m 14 #[.val (.ref a0), .val (.ref a1), .val (.ref x2)] [(.ref a1)])) rfl rfl (hb hby d9_14)) ?_
  refine Goes.by (fun _ => XS.aloadN X3.here hx rfl (hb hby d9_17) rfl rfl) ?_
  obtain ⟨T22, h22, X22, e22, W22, st22⟩ := putFR X3 hx hZ hown (wq hw 53 rfl) e3 f17 f10 (wq hw 51 rfl) (wq hw 39 rfl) (ty := (.object cL)) (by decide) rfl rfl (g := (mkF m 18 #[.val (.ref a0), .val (.ref a1), .val (.ref x2)] [(.ref x2), (.ref x2)])) rfl rfl (hb hby d9_18)
  have f23 := f4.wr W22
  have f24 := f5.other W22 (Or.inl (Ne.symm Ne2))
  have f25 := f6.other W22 (Or.inl (Ne.symm Ne2))
  have f26 := f7.other W22 (Ne.symm Ne5)
  have f27 := f8.wr W22
  have f28 := f9.other W22 (Or.inl (Ne.symm Ne12))
  have f29 := f10.wr W22
  have f30 := f11.other W22 (Or.inr (slot_ne (Or.inr (wq hw 47 rfl)) (Or.inl (wq hw 51 rfl)) (by decide) (t := .long) (t' := (.object cL)) (by decide) (by decide)))
  have f31 := f12.wr W22
  have f32 := f13.other W22 (Or.inl (Ne.symm Ne13))
  have f33 := f14.wr W22
  have f34 := f15.other W22 (Or.inl Ne10)
  have f35 := f16.other W22 (Or.inl Ne10)
  have f36 := f18.other W22 (Or.inr (slot_ne (Or.inl (wq hw 49 rfl)) (Or.inl (wq hw 51 rfl)) (by decide) (t := (.object cL)) (t' := (.object cL)) (by decide) (by decide)))
  have f37 : Fld Z h22 x2 cL "prev" dL (.ref x2) := f17.same W22
  have Kp22 : Keep h0 h22 [x2, a1, a0, ar] := Kp3.wr W22 (Or.inl om0)
  have Z38 := Nat.le_trans Z19 (Nat.le_of_eq W22.size.symm)
  have N39 := Fr.snoc X22 N20 Ge3
  refine Goes.by st22 ?_
  refine Goes.by (fun _ => XS.aloadN X22.here hx rfl (hb hby d9_21) rfl rfl) ?_
  refine Goes.by (fun _ => XS.aconstNull X22.here hx rfl (hb hby d9_22)) ?_
  obtain ⟨T40, h40, X40, e40, W40, st40⟩ := putFR X22 hx hZ hown (wq hw 55 rfl) e22 f35 f33 (wq hw 56 rfl) (wq hw 14 rfl) (ty := (.object cL)) (by decide) rfl rfl (g := (mkF m 23 #[.val (.ref a0), .val (.ref a1), .val (.ref x2)] [.null, (.ref a1)])) rfl rfl (hb hby d9_23)
  have f41 := f23.wr W40
  have f42 := f24.other W40 (Or.inl (Ne.symm Ne7))
  have f43 := f25.other W40 (Or.inl (Ne.symm Ne7))
  have f44 := f26.other W40 (Ne.symm Ne8)
  have f45 := f27.wr W40
  have f46 := f28.other W40 (Or.inl (Ne.symm Ne9))
  have f47 := f29.wr W40
  have f48 := f30.other W40 (Or.inl (Ne.symm Ne10))
  have f49 := f31.wr W40
  have f50 := f32.other W40 (Or.inl (Ne.symm Ne11))
  have f51 := f33.wr W40
  have f52 := f34.other W40 (Or.inr (slot_ne (Or.inl (wq hw 54 rfl)) (Or.inl (wq hw 56 rfl)) (by decide) (t := (.object cL)) (t' := (.object cL)) (by decide) (by decide)))
  have f53 := f36.other W40 (Or.inl (Ne.symm Ne10))
  have f54 := f37.other W40 (Or.inl (Ne.symm Ne10))
  have f55 : Fld Z h40 a1 cL "next" dL .null := f35.same W40
  have Kp40 : Keep h0 h40 [x2, a1, a0, ar] := Kp22.wr W40 (Or.inl om1)
  have Z56 := Nat.le_trans Z38 (Nat.le_of_eq W40.size.symm)
  have N57 := Fr.snoc X40 N39 Ge2
  refine Goes.by st40 ?_
  refine Goes.by (fun _ => XS.aloadN X40.here hx rfl (hb hby d9_26) rfl rfl) ?_
  refine Goes.by (fun _ => XS.aconstNull X40.here hx rfl (hb hby d9_27)) ?_
  obtain ⟨T58, h58, X58, e58, W58, st58⟩ := putFR X40 hx hZ hown (wq hw 53 rfl) e40 f52 f51 (wq hw 54 rfl) (wq hw 14 rfl) (ty := (.object cL)) (by decide) rfl rfl (g := (mkF m 28 #[.val (.ref a0), .val (.ref a1), .val (.ref x2)] [.null, (.ref a1)])) rfl rfl (hb hby d9_28)
  have f59 := f41.wr W58
  have f60 := f42.other W58 (Or.inl (Ne.symm Ne7))
  have f61 := f43.other W58 (Or.inl (Ne.symm Ne7))
  have f62 := f44.other W58 (Ne.symm Ne8)
  have f63 := f45.wr W58
  have f64 := f46.other W58 (Or.inl (Ne.symm Ne9))
  have f65 := f47.wr W58
  have f66 := f48.other W58 (Or.inl (Ne.symm Ne10))
  have f67 := f49.wr W58
  have f68 := f50.other W58 (Or.inl (Ne.symm Ne11))
  have f69 := f51.wr W58
  have f70 := f53.other W58 (Or.inl (Ne.symm Ne10))
  have f71 := f54.other W58 (Or.inl (Ne.symm Ne10))
  have f72 := f55.other W58 (Or.inr (slot_ne (Or.inl (wq hw 56 rfl)) (Or.inl (wq hw 54 rfl)) (by decide) (t := (.object cL)) (t' := (.object cL)) (by decide) (by decide)))
  have f73 : Fld Z h58 a1 cL "prev" dL .null := f52.same W58
  have Kp58 : Keep h0 h58 [x2, a1, a0, ar] := Kp40.wr W58 (Or.inl om1)
  have Z74 := Nat.le_trans Z56 (Nat.le_of_eq W58.size.symm)
  have N75 := Fr.snoc X58 N57 Ge2
  refine Goes.by st58 ?_
  refine Goes.by (fun _ => XS.aloadN X58.here hx rfl (hb hby d9_31) rfl rfl) ?_
  refine Goes.by (B := T58.setTop (mkF m 41 #[.val (.ref a0), .val (.ref a1), .val (.ref x2)] [(.ref x2), (.ref a0)])) (fun t k => ?_) ?_
  · refine getFR X58 hx hZ hown (wq hw 55 rfl) e58 f70 (g := (mkF m 32 #[.val (.ref a0), .val (.ref a1), .val (.ref x2)] [(.ref x2)])) rfl rfl (hb hby d9_32) ?_
    refine XS.aloadN X58.here hx rfl (hb hby d9_35) rfl rfl ?_
    refine Jvm.RoadKit.acmp (g := (mkF m 36 #[.val (.ref a0), .val (.ref a1), .val (.ref x2)] [(.ref x2), (.ref x2)])) X58 hx rfl rfl rfl (pc0 := 36) (pc' := 39) (same := true) rfl (hb hby d9_36) rfl (decide_eq_true rfl) (by decide) (by decide) ?_
    refine XS.aloadN X58.here hx rfl (hb hby d9_39) rfl rfl ?_
    refine XS.aloadN X58.here hx rfl (hb hby d9_40) rfl rfl ?_
    exact k
  obtain ⟨T77, X77, e77, st77⟩ := castY X58 hx hZ hown (wq hw 9 rfl) e58 (Ins.self f65) (g := (mkF m 41 #[.val (.ref a0), .val (.ref a1), .val (.ref x2)] [(.ref x2), (.ref a0)])) rfl rfl (hb hby d9_41)
  refine Goes.by st77 ?_
  obtain ⟨_, T78, L78, Lc78, X78, hF78, hQ78, st78⟩ := own_cp X77 hx hZ hown (wq hw 85 rfl) (wq hw 87 rfl) (wq hw 1 rfl) (wq hw 86 rfl) (wq hw 2 rfl) (wq hw 88 rfl) (rmDrop3_2 l Z az hw [] a0 x2 ar kA x1 x3 t1 t2 t3 h58 n0 Z74 f59 f60 f61 f62 F4 f63 f64 f65 f66 f67 f68 Ne0 Ne1 Ne2 Ne3 Ne4 Ne5 Ne6 Ge0 Ge1 HD) (W := 0) (g := (mkF m 44 #[.val (.ref a0), .val (.ref a1), .val (.ref x2)] [(.ref x2), (.ref a0)])) rfl (by rw [hml]; rfl) f59 (argsL := [(.ref x2)]) (rest := []) rfl (lenOf own_pd4 rfl) rfl (hb hby d9_44) e77 N75 (c' := 0) (s' := 0)
  obtain ⟨rfl, N78q, K78, f79, f80, f81⟩ := hQ78
  have f82 := f59.keep K78
  have f83 := f63.keep K78
  have f84 := f64.keep K78 (ninS Ne4 (ninS Ne1 nin0))
  have f85 := f65.keep K78
  have f86 := f66.keep K78 (ninS Ne5 (ninS Ne2 nin0))
  have f87 := f67.keep K78
  have f88 := f68.keep K78 (ninS Ne6 (ninS Ne3 nin0))
  have f89 := f69.keep K78
  have f90 := f70.keep K78 (ninS Ne5 (ninS Ne2 nin0))
  have f91 := f71.keep K78 (ninS Ne5 (ninS Ne2 nin0))
  have f92 := f72.keep K78 (ninS Ne8 (ninS Ne7 nin0))
  have f93 := f73.keep K78 (ninS Ne8 (ninS Ne7 nin0))
  have Kp78 : Keep h0 T78.heap [x2, a1, a0, ar] := Kp58.trans K78 (allS (Or.inl om3) (allS (Or.inl om2) all0))
  have Z94 := Nat.le_trans Z74 K78.1
  have N95 := hF78 N78q
  refine Goes.by st78 ?_
  obtain ⟨fs, hr, hrun, hended, hW, hsame⟩ := X78.leave (v := none) (fun _ => rfl)
  refine Goes.mk _ _ ?_ ⟨hrun, hended, _, _, rfl, ?_, ⟨_, rfl⟩, hW, hsame.mono (by decide) (by decide)⟩
  · exact X78.returnOut hx Bd.returns (hb hby d9_47) hr
  · show QRemL3_2 Z a0 a1 ar kA x1 x2 x3 t1 t2 t3 nu pu h0 n0 _ T78.heap _
    exact ⟨rfl, N95, Kp78, f79, f80, f81, f92, f93⟩
def QRemL3_3 (Z : State) (a0 : Addr) (a1 : Addr) (ar : Addr) (kA : ClassId) (x1 : Addr) (x2 : Addr) (x3 : Addr) (t1 : Int64) (t2 : Int64) (t3 : Int64) (nu : Value) (pu : Value) (h0 : Heap) (n0 : Nat) (v : Option Value) (h : Heap) (L : List Loc) : Prop := v = none ∧ Fr n0 L ∧ Keep h0 h [x3, a1, a0, ar] ∧ Fld Z h a0 cD "heads" dA (.ref ar) ∧ Fld Z h a0 cD "count" "I" (.int (2 : Int32)) ∧ Arv Z h ar kA (.object cH) (4 : Int32) [(.ref x1), (.ref x2), .null, .null] .null ∧ Fld Z h a1 cL "next" dL .null ∧ Fld Z h a1 cL "prev" dL .null
theorem efRemL3_3 (m : MethodId) (x0 : Addr) (x1 : Addr) : entryFrame m #[(.ref x0), (.ref x1)] 3 = mkF m 0 #[.val (.ref x0), .val (.ref x1), .unset] [] := by first | (simp [entryFrame, mkF, argsToLocals, Value.category]; done) | rfl
set_option maxRecDepth 65536 in
set_option maxHeartbeats 40000000 in
theorem rmRemL3_3 (l : Launch) (Z : State) (az : Array Value) (hw : ∀ d ∈ tables_1, d.before az Z = true) (ws : List Jvm.Cond) (a0 : Addr) (a1 : Addr) (ar : Addr) (kA : ClassId) (x1 : Addr) (x2 : Addr) (x3 : Addr) (t1 : Int64) (t2 : Int64) (t3 : Int64) (nu : Value) (pu : Value) (h0 : Heap) (n0 : Nat) (Z0 : n0 ≤ h0.size) (F0 : Exa Z h0 a0 cD) (F1 : Fld Z h0 a0 cD "heads" dA (.ref ar)) (F2 : Fld Z h0 a0 cD "count" "I" (.int (3 : Int32))) (F3 : Arv Z h0 ar kA (.object cH) (4 : Int32) [(.ref x1), (.ref x2), (.ref x3), .null] .null) (F4 : Ovr Z kA cH) (F5 : Exa Z h0 x1 cH) (F6 : Fld Z h0 x1 cH "tick" "J" (.long t1)) (F7 : Exa Z h0 x2 cH) (F8 : Fld Z h0 x2 cH "tick" "J" (.long t2)) (F9 : Exa Z h0 x3 cH) (F10 : Fld Z h0 x3 cH "tick" "J" (.long t3)) (F11 : Exa Z h0 a1 cL) (F12 : Fld Z h0 a1 cL "prev" dL (.ref x3)) (F13 : Fld Z h0 a1 cL "next" dL (.ref x3)) (F14 : Fld Z h0 x3 cL "next" dL nu) (F15 : Fld Z h0 x3 cL "prev" dL pu) (Ne0 : a0 ≠ ar) (Ne1 : x1 ≠ a0) (Ne2 : x2 ≠ a0) (Ne3 : x3 ≠ a0) (Ne4 : x1 ≠ ar) (Ne5 : x2 ≠ ar) (Ne6 : x3 ≠ ar) (Ne7 : a1 ≠ a0) (Ne8 : a1 ≠ ar) (Ne9 : a1 ≠ x1) (Ne10 : a1 ≠ x2) (Ne11 : a1 ≠ x3) (Ne12 : x3 ≠ x1) (Ne13 : x3 ≠ x2) (Ge0 : n0 ≤ a0) (Ge1 : n0 ≤ ar) (Ge2 : n0 ≤ a1) (Ge3 : n0 ≤ x3) (HD : fDue3 t3 t1 t2 t3 = (3 : Int32)) :
    MetFree l y7 (head1 (Jvm.Cond.code y7 prog_4_method_6_code 3 none :: ws) ({ frames := 2, cells := 0, slots := 0, locals := 32 } : Room)) (fun a U => a = #[(.ref a0), (.ref a1)] ∧ Z.Warmed39 U.vm ∧ U.heap = h0) (fun _ _ _ _ _ => True) (fun _ U o U' => ∃ v L, o = .returned v ∧ QRemL3_3 Z a0 a1 ar kA x1 x2 x3 t1 t2 t3 nu pu h0 n0 v U'.heap L ∧ FrameEnd U o U' L ({ frames := 2, cells := 0, slots := 0, locals := 32 } : Room).cells ({ frames := 2, cells := 0, slots := 0, locals := 32 } : Room).slots) := by
  refine MetFree.of_bodySF (plainFor_of_name own_pn_com_example_admit_one_admitone_engine_DueOrder) hisR ?_
  intro p e s m args below meth c s₁ Bd hml0 hP hK
  obtain ⟨rfl, hZ, hh⟩ := hP
  have hx := Bd.exec
  have hby := Bd.bytes
  have hml : c.maxLocals = 3 := hml0
  have hown : s.vm.findClass cD = some m.cls := findClass_of_methodNamed Bd.named
  have hnm := (name_of_methodNamed Bd.named Bd.method).1
  have X0 : Stand p l e ({ frames := 2, cells := 0, slots := 0, locals := 32 } : Room) s m #[(.ref a0), (.ref a1)] below meth c s₁ [] 0 0 := Stand.of_body Bd
  have e0 : s₁.heap = h0 := by rw [← hh, Bd.state]; rfl
  have N0 := Fr.nil n0
  have Kp0 : Keep h0 h0 [x3, a1, a0, ar] := Keep.refl _ _
  refine Goes.start ?_
  refine Goes.by (B := s₁.setTop (mkF m 0 #[.val (.ref a0), .val (.ref a1), .unset] [])) (fun t k => castTop (efRemL3_3 m a0 a1) k) ?_
  refine Goes.by (fun _ => XS.aloadN X0.here hx rfl (hb hby d9_0) rfl rfl) ?_
  refine Goes.by (fun _ => getFR X0 hx hZ hown (wq hw 53 rfl) e0 F12 (g := (mkF m 1 #[.val (.ref a0), .val (.ref a1), .unset] [(.ref a1)])) rfl rfl (hb hby d9_1)) ?_
  refine Goes.by (fun _ => XS.astoreN X0.here hx rfl (hb hby d9_4) rfl rfl (l' := #[.val (.ref a0), .val (.ref a1), .val (.ref x3)]) rfl) ?_
  refine Goes.by (fun _ => XS.aloadN X0.here hx rfl (hb hby d9_5) rfl rfl) ?_
  refine Goes.by (fun _ => XS.aloadN X0.here hx rfl (hb hby d9_6) rfl rfl) ?_
  refine Goes.by (fun _ => getFR X0 hx hZ hown (wq hw 55 rfl) e0 F13 (g := (mkF m 7 #[.val (.ref a0), .val (.ref a1), .val (.ref x3)] [(.ref a1), (.ref x3)])) rfl rfl (hb hby d9_7)) ?_
  obtain ⟨T3, h3, X3, e3, W3, st3⟩ := putFR X0 hx hZ hown (wq hw 55 rfl) e0 F14 F9 (wq hw 49 rfl) (wq hw 39 rfl) (ty := (.object cL)) (by decide) rfl rfl (g := (mkF m 10 #[.val (.ref a0), .val (.ref a1), .val (.ref x3)] [(.ref x3), (.ref x3)])) rfl rfl (hb hby d9_10)
  have f4 := F0.wr W3
  have f5 := F1.other W3 (Or.inl (Ne.symm Ne3))
  have f6 := F2.other W3 (Or.inl (Ne.symm Ne3))
  have f7 := F3.other W3 (Ne.symm Ne6)
  have f8 := F5.wr W3
  have f9 := F6.other W3 (Or.inl (Ne.symm Ne12))
  have f10 := F7.wr W3
  have f11 := F8.other W3 (Or.inl (Ne.symm Ne13))
  have f12 := F9.wr W3
  have f13 := F10.other W3 (Or.inr (slot_ne (Or.inr (wq hw 47 rfl)) (Or.inl (wq hw 49 rfl)) (by decide) (t := .long) (t' := (.object cL)) (by decide) (by decide)))
  have f14 := F11.wr W3
  have f15 := F12.other W3 (Or.inl Ne11)
  have f16 := F13.other W3 (Or.inl Ne11)
  have f17 := F15.other W3 (Or.inr (slot_ne (Or.inl (wq hw 51 rfl)) (Or.inl (wq hw 49 rfl)) (by decide) (t := (.object cL)) (t' := (.object cL)) (by decide) (by decide)))
  have f18 : Fld Z h3 x3 cL "next" dL (.ref x3) := F14.same W3
  have Kp3 : Keep h0 h3 [x3, a1, a0, ar] := Kp0.wr W3 (Or.inl om0)
  have Z19 := Nat.le_trans Z0 (Nat.le_of_eq W3.size.symm)
  have N20 := Fr.snoc X3 N0 Ge3
  refine Goes.by st3 ?_
  refine Goes.by (fun _ => XS.aloadN X3.here hx rfl (hb hby d9_13) rfl rfl) ?_
  refine Goes.by (fun _ => getFR X3 hx hZ hown (wq hw 55 rfl) e3 f16 (g := (mkF m 14 #[.val (.ref a0), .val (.ref a1), .val (.ref x3)] [(.ref a1)])) rfl rfl (hb hby d9_14)) ?_
  refine Goes.by (fun _ => XS.aloadN X3.here hx rfl (hb hby d9_17) rfl rfl) ?_
  obtain ⟨T22, h22, X22, e22, W22, st22⟩ := putFR X3 hx hZ hown (wq hw 53 rfl) e3 f17 f12 (wq hw 51 rfl) (wq hw 39 rfl) (ty := (.object cL)) (by decide) rfl rfl (g := (mkF m 18 #[.val (.ref a0), .val (.ref a1), .val (.ref x3)] [(.ref x3), (.ref x3)])) rfl rfl (hb hby d9_18)
  have f23 := f4.wr W22
  have f24 := f5.other W22 (Or.inl (Ne.symm Ne3))
  have f25 := f6.other W22 (Or.inl (Ne.symm Ne3))
  have f26 := f7.other W22 (Ne.symm Ne6)
  have f27 := f8.wr W22
  have f28 := f9.other W22 (Or.inl (Ne.symm Ne12))
  have f29 := f10.wr W22
  have f30 := f11.other W22 (Or.inl (Ne.symm Ne13))
  have f31 := f12.wr W22
  have f32 := f13.other W22 (Or.inr (slot_ne (Or.inr (wq hw 47 rfl)) (Or.inl (wq hw 51 rfl)) (by decide) (t := .long) (t' := (.object cL)) (by decide) (by decide)))
  have f33 := f14.wr W22
  have f34 := f15.other W22 (Or.inl Ne11)
  have f35 := f16.other W22 (Or.inl Ne11)
  have f36 := f18.other W22 (Or.inr (slot_ne (Or.inl (wq hw 49 rfl)) (Or.inl (wq hw 51 rfl)) (by decide) (t := (.object cL)) (t' := (.object cL)) (by decide) (by decide)))
  have f37 : Fld Z h22 x3 cL "prev" dL (.ref x3) := f17.same W22
  have Kp22 : Keep h0 h22 [x3, a1, a0, ar] := Kp3.wr W22 (Or.inl om0)
  have Z38 := Nat.le_trans Z19 (Nat.le_of_eq W22.size.symm)
  have N39 := Fr.snoc X22 N20 Ge3
  refine Goes.by st22 ?_
  refine Goes.by (fun _ => XS.aloadN X22.here hx rfl (hb hby d9_21) rfl rfl) ?_
  refine Goes.by (fun _ => XS.aconstNull X22.here hx rfl (hb hby d9_22)) ?_
  obtain ⟨T40, h40, X40, e40, W40, st40⟩ := putFR X22 hx hZ hown (wq hw 55 rfl) e22 f35 f33 (wq hw 56 rfl) (wq hw 14 rfl) (ty := (.object cL)) (by decide) rfl rfl (g := (mkF m 23 #[.val (.ref a0), .val (.ref a1), .val (.ref x3)] [.null, (.ref a1)])) rfl rfl (hb hby d9_23)
  have f41 := f23.wr W40
  have f42 := f24.other W40 (Or.inl (Ne.symm Ne7))
  have f43 := f25.other W40 (Or.inl (Ne.symm Ne7))
  have f44 := f26.other W40 (Ne.symm Ne8)
  have f45 := f27.wr W40
  have f46 := f28.other W40 (Or.inl (Ne.symm Ne9))
  have f47 := f29.wr W40
  have f48 := f30.other W40 (Or.inl (Ne.symm Ne10))
  have f49 := f31.wr W40
  have f50 := f32.other W40 (Or.inl (Ne.symm Ne11))
  have f51 := f33.wr W40
  have f52 := f34.other W40 (Or.inr (slot_ne (Or.inl (wq hw 54 rfl)) (Or.inl (wq hw 56 rfl)) (by decide) (t := (.object cL)) (t' := (.object cL)) (by decide) (by decide)))
  have f53 := f36.other W40 (Or.inl (Ne.symm Ne11))
  have f54 := f37.other W40 (Or.inl (Ne.symm Ne11))
  have f55 : Fld Z h40 a1 cL "next" dL .null := f35.same W40
  have Kp40 : Keep h0 h40 [x3, a1, a0, ar] := Kp22.wr W40 (Or.inl om1)
  have Z56 := Nat.le_trans Z38 (Nat.le_of_eq W40.size.symm)
  have N57 := Fr.snoc X40 N39 Ge2
  refine Goes.by st40 ?_
  refine Goes.by (fun _ => XS.aloadN X40.here hx rfl (hb hby d9_26) rfl rfl) ?_
  refine Goes.by (fun _ => XS.aconstNull X40.here hx rfl (hb hby d9_27)) ?_
  obtain ⟨T58, h58, X58, e58, W58, st58⟩ := putFR X40 hx hZ hown (wq hw 53 rfl) e40 f52 f51 (wq hw 54 rfl) (wq hw 14 rfl) (ty := (.object cL)) (by decide) rfl rfl (g := (mkF m 28 #[.val (.ref a0), .val (.ref a1), .val (.ref x3)] [.null, (.ref a1)])) rfl rfl (hb hby d9_28)
  have f59 := f41.wr W58
  have f60 := f42.other W58 (Or.inl (Ne.symm Ne7))
  have f61 := f43.other W58 (Or.inl (Ne.symm Ne7))
  have f62 := f44.other W58 (Ne.symm Ne8)
  have f63 := f45.wr W58
  have f64 := f46.other W58 (Or.inl (Ne.symm Ne9))
  have f65 := f47.wr W58
  have f66 := f48.other W58 (Or.inl (Ne.symm Ne10))
  have f67 := f49.wr W58
  have f68 := f50.other W58 (Or.inl (Ne.symm Ne11))
  have f69 := f51.wr W58
  have f70 := f53.other W58 (Or.inl (Ne.symm Ne11))
  have f71 := f54.other W58 (Or.inl (Ne.symm Ne11))
  have f72 := f55.other W58 (Or.inr (slot_ne (Or.inl (wq hw 56 rfl)) (Or.inl (wq hw 54 rfl)) (by decide) (t := (.object cL)) (t' := (.object cL)) (by decide) (by decide)))
  have f73 : Fld Z h58 a1 cL "prev" dL .null := f52.same W58
  have Kp58 : Keep h0 h58 [x3, a1, a0, ar] := Kp40.wr W58 (Or.inl om1)
  have Z74 := Nat.le_trans Z56 (Nat.le_of_eq W58.size.symm)
  have N75 := Fr.snoc X58 N57 Ge2
  refine Goes.by st58 ?_
  refine Goes.by (fun _ => XS.aloadN X58.here hx rfl (hb hby d9_31) rfl rfl) ?_
  refine Goes.by (B := T58.setTop (mkF m 41 #[.val (.ref a0), .val (.ref a1), .val (.ref x3)] [(.ref x3), (.ref a0)])) (fun t k => ?_) ?_
  · refine getFR X58 hx hZ hown (wq hw 55 rfl) e58 f70 (g := (mkF m 32 #[.val (.ref a0), .val (.ref a1), .val (.ref x3)] [(.ref x3)])) rfl rfl (hb hby d9_32) ?_
    refine XS.aloadN X58.here hx rfl (hb hby d9_35) rfl rfl ?_
    refine Jvm.RoadKit.acmp (g := (mkF m 36 #[.val (.ref a0), .val (.ref a1), .val (.ref x3)] [(.ref x3), (.ref x3)])) X58 hx rfl rfl rfl (pc0 := 36) (pc' := 39) (same := true) rfl (hb hby d9_36) rfl (decide_eq_true rfl) (by decide) (by decide) ?_
    refine XS.aloadN X58.here hx rfl (hb hby d9_39) rfl rfl ?_
    refine XS.aloadN X58.here hx rfl (hb hby d9_40) rfl rfl ?_
    exact k
  obtain ⟨T77, X77, e77, st77⟩ := castY X58 hx hZ hown (wq hw 9 rfl) e58 (Ins.self f67) (g := (mkF m 41 #[.val (.ref a0), .val (.ref a1), .val (.ref x3)] [(.ref x3), (.ref a0)])) rfl rfl (hb hby d9_41)
  refine Goes.by st77 ?_
  obtain ⟨_, T78, L78, Lc78, X78, hF78, hQ78, st78⟩ := own_cp X77 hx hZ hown (wq hw 85 rfl) (wq hw 87 rfl) (wq hw 1 rfl) (wq hw 86 rfl) (wq hw 2 rfl) (wq hw 88 rfl) (rmDrop3_3 l Z az hw [] a0 x3 ar kA x1 x2 t1 t2 t3 h58 n0 Z74 f59 f60 f61 f62 F4 f63 f64 f65 f66 f67 f68 Ne0 Ne1 Ne2 Ne3 Ne4 Ne5 Ne6 Ge0 Ge1 HD) (W := 0) (g := (mkF m 44 #[.val (.ref a0), .val (.ref a1), .val (.ref x3)] [(.ref x3), (.ref a0)])) rfl (by rw [hml]; rfl) f59 (argsL := [(.ref x3)]) (rest := []) rfl (lenOf own_pd4 rfl) rfl (hb hby d9_44) e77 N75 (c' := 0) (s' := 0)
  obtain ⟨rfl, N78q, K78, f79, f80, f81⟩ := hQ78
  have f82 := f59.keep K78
  have f83 := f63.keep K78
  have f84 := f64.keep K78 (ninS Ne4 (ninS Ne1 nin0))
  have f85 := f65.keep K78
  have f86 := f66.keep K78 (ninS Ne5 (ninS Ne2 nin0))
  have f87 := f67.keep K78
  have f88 := f68.keep K78 (ninS Ne6 (ninS Ne3 nin0))
  have f89 := f69.keep K78
  have f90 := f70.keep K78 (ninS Ne6 (ninS Ne3 nin0))
  have f91 := f71.keep K78 (ninS Ne6 (ninS Ne3 nin0))
  have f92 := f72.keep K78 (ninS Ne8 (ninS Ne7 nin0))
  have f93 := f73.keep K78 (ninS Ne8 (ninS Ne7 nin0))
  have Kp78 : Keep h0 T78.heap [x3, a1, a0, ar] := Kp58.trans K78 (allS (Or.inl om3) (allS (Or.inl om2) all0))
  have Z94 := Nat.le_trans Z74 K78.1
  have N95 := hF78 N78q
  refine Goes.by st78 ?_
  obtain ⟨fs, hr, hrun, hended, hW, hsame⟩ := X78.leave (v := none) (fun _ => rfl)
  refine Goes.mk _ _ ?_ ⟨hrun, hended, _, _, rfl, ?_, ⟨_, rfl⟩, hW, hsame.mono (by decide) (by decide)⟩
  · exact X78.returnOut hx Bd.returns (hb hby d9_47) hr
  · show QRemL3_3 Z a0 a1 ar kA x1 x2 x3 t1 t2 t3 nu pu h0 n0 _ T78.heap _
    exact ⟨rfl, N95, Kp78, f79, f80, f81, f92, f93⟩
theorem d11_0 : decode prog_4_method_4_code 0 = .ok (.aload_n 0, 1) := by decide +kernel
theorem d11_1 : decode prog_4_method_4_code 1 = .ok (.getfield 27, 3) := by decide +kernel
theorem d11_4 : decode prog_4_method_4_code 4 = .ok (.ifnull 7, 3) := by decide +kernel
theorem d11_11 : decode prog_4_method_4_code 11 = .ok (.iconst 0, 1) := by decide +kernel
theorem d11_12 : decode prog_4_method_4_code 12 = .ok (.ireturn, 1) := by decide +kernel
def QIsN (Z : State) (a0 : Addr) (h0 : Heap) (n0 : Nat) (v : Option Value) (h : Heap) (L : List Loc) : Prop := v = some (.int (0 : Int32)) ∧ Fr n0 L ∧ h = h0
theorem efIsN (m : MethodId) (x0 : Addr) : entryFrame m #[(.ref x0)] 1 = mkF m 0 #[.val (.ref x0)] [] := by first | (simp [entryFrame, mkF, argsToLocals, Value.category]; done) | rfl
set_option maxRecDepth 65536 in
set_option maxHeartbeats 40000000 in
theorem rmIsN (l : Launch) (Z : State) (az : Array Value) (hw : ∀ d ∈ tables_1, d.before az Z = true) (ws : List Jvm.Cond) (a0 : Addr) (h0 : Heap) (n0 : Nat) (Z0 : n0 ≤ h0.size) (F0 : Fld Z h0 a0 cL "next" dL .null) :
    MetFree l y8 (head1 (Jvm.Cond.code y8 prog_4_method_4_code 1 (some .boolean) :: ws) ({ frames := 0, cells := 0, slots := 0, locals := 0 } : Room)) (fun a U => a = #[(.ref a0)] ∧ Z.Warmed39 U.vm ∧ U.heap = h0) (fun _ _ _ _ _ => True) (fun _ U o U' => ∃ v L, o = .returned v ∧ QIsN Z a0 h0 n0 v U'.heap L ∧ FrameEnd U o U' L ({ frames := 0, cells := 0, slots := 0, locals := 0 } : Room).cells ({ frames := 0, cells := 0, slots := 0, locals := 0 } : Room).slots) := by
  refine MetFree.of_bodySF (plainFor_of_name own_pn_com_example_admit_one_admitone_engine_DueOrder) hisR ?_
  intro p e s m args below meth c s₁ Bd hml0 hP hK
  obtain ⟨rfl, hZ, hh⟩ := hP
  have hx := Bd.exec
  have hby := Bd.bytes
  have hml : c.maxLocals = 1 := hml0
  have hown : s.vm.findClass cD = some m.cls := findClass_of_methodNamed Bd.named
  have hnm := (name_of_methodNamed Bd.named Bd.method).1
  have X0 : Stand p l e ({ frames := 0, cells := 0, slots := 0, locals := 0 } : Room) s m #[(.ref a0)] below meth c s₁ [] 0 0 := Stand.of_body Bd
  have e0 : s₁.heap = h0 := by rw [← hh, Bd.state]; rfl
  have N0 := Fr.nil n0
  have Kp0 : Keep h0 h0 [] := Keep.refl _ _
  refine Goes.start ?_
  refine Goes.by (B := s₁.setTop (mkF m 0 #[.val (.ref a0)] [])) (fun t k => castTop (efIsN m a0) k) ?_
  refine Goes.by (fun _ => XS.aloadN X0.here hx rfl (hb hby d11_0) rfl rfl) ?_
  refine Goes.by (fun _ => getFR X0 hx hZ hown (wq hw 55 rfl) e0 F0 (g := (mkF m 1 #[.val (.ref a0)] [(.ref a0)])) rfl rfl (hb hby d11_1)) ?_
  refine Goes.by (fun _ => XS.ifnullYes X0.here hx rfl (pc0 := 4) (pc' := 11) rfl (hb hby d11_4) rfl (by decide) (by decide)) ?_
  refine Goes.by (fun _ => XS.iconst X0.here hx rfl (hb hby d11_11)) ?_
  obtain ⟨fs, hr, hrun, hended, hW, hsame⟩ := X0.leave (v := some (.int (0 : Int32))) (fun h => by rw [Bd.returns] at h; cases h)
  refine Goes.mk _ _ ?_ ⟨hrun, hended, _, _, rfl, ?_, ⟨_, rfl⟩, hW, hsame.mono (by decide) (by decide)⟩
  · exact retN X0 hx (t := .boolean) Bd.returns (by simp) (hb hby d11_12) hr
  · show QIsN Z a0 h0 n0 _ s₁.heap _
    rw [e0]
    exact ⟨rfl, N0, rfl⟩
theorem d11_7 : decode prog_4_method_4_code 7 = .ok (.iconst 1, 1) := by decide +kernel
theorem d11_8 : decode prog_4_method_4_code 8 = .ok (.goto 4, 3) := by decide +kernel
def QIsY (Z : State) (a0 : Addr) (nx : Addr) (h0 : Heap) (n0 : Nat) (v : Option Value) (h : Heap) (L : List Loc) : Prop := v = some (.int (1 : Int32)) ∧ Fr n0 L ∧ h = h0
theorem efIsY (m : MethodId) (x0 : Addr) : entryFrame m #[(.ref x0)] 1 = mkF m 0 #[.val (.ref x0)] [] := by first | (simp [entryFrame, mkF, argsToLocals, Value.category]; done) | rfl
set_option maxRecDepth 65536 in
set_option maxHeartbeats 40000000 in
theorem rmIsY (l : Launch) (Z : State) (az : Array Value) (hw : ∀ d ∈ tables_1, d.before az Z = true) (ws : List Jvm.Cond) (a0 : Addr) (nx : Addr) (h0 : Heap) (n0 : Nat) (Z0 : n0 ≤ h0.size) (F0 : Fld Z h0 a0 cL "next" dL (.ref nx)) :
    MetFree l y8 (head1 (Jvm.Cond.code y8 prog_4_method_4_code 1 (some .boolean) :: ws) ({ frames := 0, cells := 0, slots := 0, locals := 0 } : Room)) (fun a U => a = #[(.ref a0)] ∧ Z.Warmed39 U.vm ∧ U.heap = h0) (fun _ _ _ _ _ => True) (fun _ U o U' => ∃ v L, o = .returned v ∧ QIsY Z a0 nx h0 n0 v U'.heap L ∧ FrameEnd U o U' L ({ frames := 0, cells := 0, slots := 0, locals := 0 } : Room).cells ({ frames := 0, cells := 0, slots := 0, locals := 0 } : Room).slots) := by
  refine MetFree.of_bodySF (plainFor_of_name own_pn_com_example_admit_one_admitone_engine_DueOrder) hisR ?_
  intro p e s m args below meth c s₁ Bd hml0 hP hK
  obtain ⟨rfl, hZ, hh⟩ := hP
  have hx := Bd.exec
  have hby := Bd.bytes
  have hml : c.maxLocals = 1 := hml0
  have hown : s.vm.findClass cD = some m.cls := findClass_of_methodNamed Bd.named
  have hnm := (name_of_methodNamed Bd.named Bd.method).1
  have X0 : Stand p l e ({ frames := 0, cells := 0, slots := 0, locals := 0 } : Room) s m #[(.ref a0)] below meth c s₁ [] 0 0 := Stand.of_body Bd
  have e0 : s₁.heap = h0 := by rw [← hh, Bd.state]; rfl
  have N0 := Fr.nil n0
  have Kp0 : Keep h0 h0 [] := Keep.refl _ _
  refine Goes.start ?_
  refine Goes.by (B := s₁.setTop (mkF m 0 #[.val (.ref a0)] [])) (fun t k => castTop (efIsY m a0) k) ?_
  refine Goes.by (fun _ => XS.aloadN X0.here hx rfl (hb hby d11_0) rfl rfl) ?_
  refine Goes.by (fun _ => getFR X0 hx hZ hown (wq hw 55 rfl) e0 F0 (g := (mkF m 1 #[.val (.ref a0)] [(.ref a0)])) rfl rfl (hb hby d11_1)) ?_
  refine Goes.by (fun _ => XS.ifnullNo X0.here hx rfl (hb hby d11_4) rfl) ?_
  refine Goes.by (fun _ => XS.iconst X0.here hx rfl (hb hby d11_7)) ?_
  refine Goes.by (fun _ => XS.goto X0.here hx rfl (pc0 := 8) (pc' := 12) rfl (hb hby d11_8) (by decide) (by decide)) ?_
  obtain ⟨fs, hr, hrun, hended, hW, hsame⟩ := X0.leave (v := some (.int (1 : Int32))) (fun h => by rw [Bd.returns] at h; cases h)
  refine Goes.mk _ _ ?_ ⟨hrun, hended, _, _, rfl, ?_, ⟨_, rfl⟩, hW, hsame.mono (by decide) (by decide)⟩
  · exact retN X0 hx (t := .boolean) Bd.returns (by simp) (hb hby d11_12) hr
  · show QIsY Z a0 nx h0 n0 _ s₁.heap _
    rw [e0]
    exact ⟨rfl, N0, rfl⟩
theorem d12_0 : decode prog_4_method_2_code 0 = .ok (.aload_n 0, 1) := by decide +kernel
theorem d12_1 : decode prog_4_method_2_code 1 = .ok (.getfield 15, 3) := by decide +kernel
theorem d12_4 : decode prog_4_method_2_code 4 = .ok (.ireturn, 1) := by decide +kernel
def QTicks (Z : State) (a0 : Addr) (cn : Int32) (h0 : Heap) (n0 : Nat) (v : Option Value) (h : Heap) (L : List Loc) : Prop := v = some (.int cn) ∧ Fr n0 L ∧ h = h0
theorem efTicks (m : MethodId) (x0 : Addr) : entryFrame m #[(.ref x0)] 1 = mkF m 0 #[.val (.ref x0)] [] := by first | (simp [entryFrame, mkF, argsToLocals, Value.category]; done) | rfl
set_option maxRecDepth 65536 in
set_option maxHeartbeats 40000000 in
theorem rmTicks (l : Launch) (Z : State) (az : Array Value) (hw : ∀ d ∈ tables_1, d.before az Z = true) (ws : List Jvm.Cond) (a0 : Addr) (cn : Int32) (h0 : Heap) (n0 : Nat) (Z0 : n0 ≤ h0.size) (F0 : Fld Z h0 a0 cD "count" "I" (.int cn)) :
    MetFree l y9 (head1 (Jvm.Cond.code y9 prog_4_method_2_code 1 (some .int) :: ws) ({ frames := 0, cells := 0, slots := 0, locals := 0 } : Room)) (fun a U => a = #[(.ref a0)] ∧ Z.Warmed39 U.vm ∧ U.heap = h0) (fun _ _ _ _ _ => True) (fun _ U o U' => ∃ v L, o = .returned v ∧ QTicks Z a0 cn h0 n0 v U'.heap L ∧ FrameEnd U o U' L ({ frames := 0, cells := 0, slots := 0, locals := 0 } : Room).cells ({ frames := 0, cells := 0, slots := 0, locals := 0 } : Room).slots) := by
  refine MetFree.of_bodySF (plainFor_of_name own_pn_com_example_admit_one_admitone_engine_DueOrder) hisR ?_
  intro p e s m args below meth c s₁ Bd hml0 hP hK
  obtain ⟨rfl, hZ, hh⟩ := hP
  have hx := Bd.exec
  have hby := Bd.bytes
  have hml : c.maxLocals = 1 := hml0
  have hown : s.vm.findClass cD = some m.cls := findClass_of_methodNamed Bd.named
  have hnm := (name_of_methodNamed Bd.named Bd.method).1
  have X0 : Stand p l e ({ frames := 0, cells := 0, slots := 0, locals := 0 } : Room) s m #[(.ref a0)] below meth c s₁ [] 0 0 := Stand.of_body Bd
  have e0 : s₁.heap = h0 := by rw [← hh, Bd.state]; rfl
  have N0 := Fr.nil n0
  have Kp0 : Keep h0 h0 [] := Keep.refl _ _
  refine Goes.start ?_
  refine Goes.by (B := s₁.setTop (mkF m 0 #[.val (.ref a0)] [])) (fun t k => castTop (efTicks m a0) k) ?_
  refine Goes.by (fun _ => XS.aloadN X0.here hx rfl (hb hby d12_0) rfl rfl) ?_
  obtain ⟨T1, X1, e1, st1⟩ := getF X0 hx hZ hown (host := "") (Or.inl (wq hw 29 rfl)) Via.refl e0 F0 (g := (mkF m 1 #[.val (.ref a0)] [(.ref a0)])) rfl rfl (hb hby d12_1)
  refine Goes.by st1 ?_
  obtain ⟨fs, hr, hrun, hended, hW, hsame⟩ := X1.leave (v := some (.int cn)) (fun h => by rw [Bd.returns] at h; cases h)
  refine Goes.mk _ _ ?_ ⟨hrun, hended, _, _, rfl, ?_, ⟨_, rfl⟩, hW, hsame.mono (by decide) (by decide)⟩
  · exact retI X1 hx Bd.returns (hb hby d12_4) hr
  · show QTicks Z a0 cn h0 n0 _ T1.heap _
    rw [e1]
    exact ⟨rfl, N0, rfl⟩
theorem d13_0 : decode prog_4_method_3_code 0 = .ok (.aload_n 0, 1) := by decide +kernel
theorem d13_1 : decode prog_4_method_3_code 1 = .ok (.getfield 15, 3) := by decide +kernel
theorem d13_4 : decode prog_4_method_3_code 4 = .ok (.ifCond .ne 9, 3) := by decide +kernel
theorem d13_7 : decode prog_4_method_3_code 7 = .ok (.ldc2_w 21, 3) := by decide +kernel
theorem d13_10 : decode prog_4_method_3_code 10 = .ok (.goto 12, 3) := by decide +kernel
theorem d13_22 : decode prog_4_method_3_code 22 = .ok (.lreturn, 1) := by decide +kernel
def fFirst0  : Int64 := (9223372036854775807 : Int64)
def QFirst0 (Z : State) (a0 : Addr) (h0 : Heap) (n0 : Nat) (v : Option Value) (h : Heap) (L : List Loc) : Prop := v = some (.long fFirst0) ∧ Fr n0 L ∧ h = h0
theorem efFirst0 (m : MethodId) (x0 : Addr) : entryFrame m #[(.ref x0)] 1 = mkF m 0 #[.val (.ref x0)] [] := by first | (simp [entryFrame, mkF, argsToLocals, Value.category]; done) | rfl
set_option maxRecDepth 65536 in
set_option maxHeartbeats 40000000 in
theorem rmFirst0 (l : Launch) (Z : State) (az : Array Value) (hw : ∀ d ∈ tables_1, d.before az Z = true) (ws : List Jvm.Cond) (a0 : Addr) (h0 : Heap) (n0 : Nat) (Z0 : n0 ≤ h0.size) (F0 : Fld Z h0 a0 cD "count" "I" (.int (0 : Int32))) :
    MetFree l y10 (head1 (Jvm.Cond.code y10 prog_4_method_3_code 1 (some .long) :: ws) ({ frames := 0, cells := 0, slots := 0, locals := 0 } : Room)) (fun a U => a = #[(.ref a0)] ∧ Z.Warmed39 U.vm ∧ U.heap = h0) (fun _ _ _ _ _ => True) (fun _ U o U' => ∃ v L, o = .returned v ∧ QFirst0 Z a0 h0 n0 v U'.heap L ∧ FrameEnd U o U' L ({ frames := 0, cells := 0, slots := 0, locals := 0 } : Room).cells ({ frames := 0, cells := 0, slots := 0, locals := 0 } : Room).slots) := by
  refine MetFree.of_bodySF (plainFor_of_name own_pn_com_example_admit_one_admitone_engine_DueOrder) hisR ?_
  intro p e s m args below meth c s₁ Bd hml0 hP hK
  obtain ⟨rfl, hZ, hh⟩ := hP
  have hx := Bd.exec
  have hby := Bd.bytes
  have hml : c.maxLocals = 1 := hml0
  have hown : s.vm.findClass cD = some m.cls := findClass_of_methodNamed Bd.named
  have hnm := (name_of_methodNamed Bd.named Bd.method).1
  have X0 : Stand p l e ({ frames := 0, cells := 0, slots := 0, locals := 0 } : Room) s m #[(.ref a0)] below meth c s₁ [] 0 0 := Stand.of_body Bd
  have e0 : s₁.heap = h0 := by rw [← hh, Bd.state]; rfl
  have N0 := Fr.nil n0
  have Kp0 : Keep h0 h0 [] := Keep.refl _ _
  refine Goes.start ?_
  refine Goes.by (B := s₁.setTop (mkF m 0 #[.val (.ref a0)] [])) (fun t k => castTop (efFirst0 m a0) k) ?_
  refine Goes.by (fun _ => XS.aloadN X0.here hx rfl (hb hby d13_0) rfl rfl) ?_
  obtain ⟨T1, X1, e1, st1⟩ := getF X0 hx hZ hown (host := "") (Or.inl (wq hw 29 rfl)) Via.refl e0 F0 (g := (mkF m 1 #[.val (.ref a0)] [(.ref a0)])) rfl rfl (hb hby d13_1)
  refine Goes.by st1 ?_
  refine Goes.by (fun _ => XS.ifNo X1.here hx rfl (hb hby d13_4) rfl ((if0 _ _).trans (teq (by decide : (0 : Int32) = (0 : Int32))).2)) ?_
  refine Goes.by (X1.ldc2Long hx hown (mvT hZ (wq hw 93 rfl)) (g := (mkF m 7 #[.val (.ref a0)] [])) rfl (hb hby d13_7)) ?_
  refine Goes.by (fun _ => XS.goto X1.here hx rfl (pc0 := 10) (pc' := 22) rfl (hb hby d13_10) (by decide) (by decide)) ?_
  obtain ⟨fs, hr, hrun, hended, hW, hsame⟩ := X1.leave (v := some (.long (9223372036854775807 : Int64))) (fun h => by rw [Bd.returns] at h; cases h)
  refine Goes.mk _ _ ?_ ⟨hrun, hended, _, _, rfl, ?_, ⟨_, rfl⟩, hW, hsame.mono (by decide) (by decide)⟩
  · exact retOut X1 hx Bd.returns rfl (Or.inr (Or.inl ⟨rfl, rfl, _, rfl⟩)) (hb hby d13_22) hr
  · show QFirst0 Z a0 h0 n0 _ T1.heap _
    rw [e1]
    exact ⟨rfl, N0, rfl⟩
theorem d13_13 : decode prog_4_method_3_code 13 = .ok (.aload_n 0, 1) := by decide +kernel
theorem d13_14 : decode prog_4_method_3_code 14 = .ok (.getfield 11, 3) := by decide +kernel
theorem d13_17 : decode prog_4_method_3_code 17 = .ok (.iconst 0, 1) := by decide +kernel
theorem d13_18 : decode prog_4_method_3_code 18 = .ok (.aaload, 1) := by decide +kernel
theorem d13_19 : decode prog_4_method_3_code 19 = .ok (.getfield 23, 3) := by decide +kernel
def QFirstY (Z : State) (a0 : Addr) (cn : Int32) (ar : Addr) (kA : ClassId) (x1 : Addr) (vs : (List Value)) (t1 : Int64) (h0 : Heap) (n0 : Nat) (v : Option Value) (h : Heap) (L : List Loc) : Prop := v = some (.long t1) ∧ Fr n0 L ∧ h = h0
theorem efFirstY (m : MethodId) (x0 : Addr) : entryFrame m #[(.ref x0)] 1 = mkF m 0 #[.val (.ref x0)] [] := by first | (simp [entryFrame, mkF, argsToLocals, Value.category]; done) | rfl
set_option maxRecDepth 65536 in
set_option maxHeartbeats 40000000 in
theorem rmFirstY (l : Launch) (Z : State) (az : Array Value) (hw : ∀ d ∈ tables_1, d.before az Z = true) (ws : List Jvm.Cond) (a0 : Addr) (cn : Int32) (ar : Addr) (kA : ClassId) (x1 : Addr) (vs : (List Value)) (t1 : Int64) (h0 : Heap) (n0 : Nat) (Z0 : n0 ≤ h0.size) (F0 : Fld Z h0 a0 cD "count" "I" (.int cn)) (F1 : Fld Z h0 a0 cD "heads" dA (.ref ar)) (F2 : Elt Z h0 ar (.object cH) (0 : Int32) (.ref x1)) (F3 : Fld Z h0 x1 cH "tick" "J" (.long t1)) (HC : ¬ (cn = (0 : Int32))) :
    MetFree l y10 (head1 (Jvm.Cond.code y10 prog_4_method_3_code 1 (some .long) :: ws) ({ frames := 0, cells := 0, slots := 0, locals := 0 } : Room)) (fun a U => a = #[(.ref a0)] ∧ Z.Warmed39 U.vm ∧ U.heap = h0) (fun _ _ _ _ _ => True) (fun _ U o U' => ∃ v L, o = .returned v ∧ QFirstY Z a0 cn ar kA x1 vs t1 h0 n0 v U'.heap L ∧ FrameEnd U o U' L ({ frames := 0, cells := 0, slots := 0, locals := 0 } : Room).cells ({ frames := 0, cells := 0, slots := 0, locals := 0 } : Room).slots) := by
  refine MetFree.of_bodySF (plainFor_of_name own_pn_com_example_admit_one_admitone_engine_DueOrder) hisR ?_
  intro p e s m args below meth c s₁ Bd hml0 hP hK
  obtain ⟨rfl, hZ, hh⟩ := hP
  have hx := Bd.exec
  have hby := Bd.bytes
  have hml : c.maxLocals = 1 := hml0
  have hown : s.vm.findClass cD = some m.cls := findClass_of_methodNamed Bd.named
  have hnm := (name_of_methodNamed Bd.named Bd.method).1
  have X0 : Stand p l e ({ frames := 0, cells := 0, slots := 0, locals := 0 } : Room) s m #[(.ref a0)] below meth c s₁ [] 0 0 := Stand.of_body Bd
  have e0 : s₁.heap = h0 := by rw [← hh, Bd.state]; rfl
  have N0 := Fr.nil n0
  have Kp0 : Keep h0 h0 [] := Keep.refl _ _
  refine Goes.start ?_
  refine Goes.by (B := s₁.setTop (mkF m 0 #[.val (.ref a0)] [])) (fun t k => castTop (efFirstY m a0) k) ?_
  refine Goes.by (fun _ => XS.aloadN X0.here hx rfl (hb hby d13_0) rfl rfl) ?_
  obtain ⟨T1, X1, e1, st1⟩ := getF X0 hx hZ hown (host := "") (Or.inl (wq hw 29 rfl)) Via.refl e0 F0 (g := (mkF m 1 #[.val (.ref a0)] [(.ref a0)])) rfl rfl (hb hby d13_1)
  refine Goes.by st1 ?_
  refine Goes.by (fun _ => XS.ifYes X1.here hx rfl (pc0 := 4) (pc' := 13) rfl (hb hby d13_4) rfl ((if0 _ _).trans (feq HC).2) (by decide) (by decide)) ?_
  refine Goes.by (fun _ => XS.aloadN X1.here hx rfl (hb hby d13_13) rfl rfl) ?_
  obtain ⟨T2, X2, e2, st2⟩ := getF X1 hx hZ hown (host := "") (Or.inl (wq hw 11 rfl)) Via.refl e1 F1 (g := (mkF m 14 #[.val (.ref a0)] [(.ref a0)])) rfl rfl (hb hby d13_14)
  refine Goes.by st2 ?_
  refine Goes.by (fun _ => XS.iconst X2.here hx rfl (hb hby d13_17)) ?_
  obtain ⟨cl3, cl3A, cl3I, cl3T⟩ := id F2
  refine Goes.by (X2.aaload hx (j := (0 : Int32)) (v := (.ref x1)) (by rw [e2]; exact cl3A.1) (State.isArrayOf_alike hZ.alike cl3A.2.1) rfl cl3A.2.2 cl3I cl3T (g := (mkF m 18 #[.val (.ref a0)] [(.int (0 : Int32)), (.ref ar)])) rfl rfl (hb hby d13_18)) ?_
  refine Goes.by (fun _ => getFR X2 hx hZ hown (wq hw 57 rfl) e2 F3 (g := (mkF m 19 #[.val (.ref a0)] [(.ref x1)])) rfl rfl (hb hby d13_19)) ?_
  obtain ⟨fs, hr, hrun, hended, hW, hsame⟩ := X2.leave (v := some (.long t1)) (fun h => by rw [Bd.returns] at h; cases h)
  refine Goes.mk _ _ ?_ ⟨hrun, hended, _, _, rfl, ?_, ⟨_, rfl⟩, hW, hsame.mono (by decide) (by decide)⟩
  · exact retOut X2 hx Bd.returns rfl (Or.inr (Or.inl ⟨rfl, rfl, _, rfl⟩)) (hb hby d13_22) hr
  · show QFirstY Z a0 cn ar kA x1 vs t1 h0 n0 _ T2.heap _
    rw [e2]
    exact ⟨rfl, N0, rfl⟩
def upd {α : Type} (f : Addr → α) (a : Addr) (v : α) : Addr → α := fun x => if x = a then v else f x
theorem upd_at {α : Type} (f : Addr → α) (a : Addr) (v : α) : upd f a v a = v := if_pos rfl
theorem upd_ne {α : Type} (f : Addr → α) {a x : Addr} (v : α) (h : x ≠ a) : upd f a v x = f x := if_neg h
/-- a chain: each one's next is the one behind it, whose prev it is -/
def Lk (N P : Addr → Value) : List Addr → Prop
  | [] => True
  | [_] => True
  | x :: y :: r => N x = .ref y ∧ P y = .ref x ∧ Lk N P (y :: r)
theorem Lk.congr {N P N' P' : Addr → Value} : ∀ (c : List Addr), (∀ u ∈ c.dropLast, N' u = N u) → (∀ u ∈ c.tail, P' u = P u) → Lk N P c → Lk N' P' c
  | [], _, _, _ => trivial
  | [_], _, _, _ => trivial
  | x :: y :: r, h1, h2, ⟨a, b, k⟩ => by
    refine ⟨(h1 x (by simp)).trans a, (h2 y (by simp)).trans b, ?_⟩
    refine Lk.congr (y :: r) (fun u hu => h1 u (by simp; exact Or.inr hu)) (fun u hu => h2 u ?_) k
    exact List.mem_of_mem_tail hu
theorem Lk.split {N P : Addr → Value} (z : Addr) (d : List Addr) : ∀ (c : List Addr), Lk N P (c ++ z :: d) ↔ (Lk N P (c ++ [z]) ∧ Lk N P (z :: d))
  | [] => by simp [Lk]
  | [x] => by
    show (N x = .ref z ∧ P z = .ref x ∧ Lk N P (z :: d)) ↔ ((N x = .ref z ∧ P z = .ref x ∧ Lk N P [z]) ∧ Lk N P (z :: d))
    simp only [Lk, and_true]
    constructor
    · intro ⟨a, b, c⟩; exact ⟨⟨a, b⟩, c⟩
    · intro ⟨⟨a, b⟩, c⟩; exact ⟨a, b, c⟩
  | x :: y :: r => by
    have ih := Lk.split (N := N) (P := P) z d (y :: r)
    show (N x = .ref y ∧ P y = .ref x ∧ Lk N P ((y :: r) ++ z :: d)) ↔ ((N x = .ref y ∧ P y = .ref x ∧ Lk N P ((y :: r) ++ [z])) ∧ Lk N P (z :: d))
    rw [ih]
    constructor
    · intro ⟨a, b, c, e⟩; exact ⟨⟨a, b, c⟩, e⟩
    · intro ⟨⟨a, b, c⟩, e⟩; exact ⟨a, b, c, e⟩
/-- what the order holds: heads by rising ticks, each with the ring of the links that are filed under its tick -/
def Inv (hs : List Addr) (τ : Addr → Int64) (N P : Addr → Value) (ls : List Addr) (tk : Addr → Option Int64) : Prop :=
  hs.Pairwise (fun a b => τ a < τ b) ∧ (∀ x ∈ hs, x ∉ ls) ∧
  (∀ x ∈ hs, ∃ ms : List Addr, ms ≠ [] ∧ ms.Nodup ∧ Lk N P (x :: (ms ++ [x])) ∧ ∀ l, l ∈ ms ↔ (l ∈ ls ∧ tk l = some (τ x))) ∧
  (∀ l ∈ ls, tk l = none → N l = .null) ∧ (∀ l ∈ ls, ∀ t, tk l = some t → ∃ x ∈ hs, τ x = t)
theorem own_tinj {τ : Addr → Int64} : ∀ {hs : List Addr}, hs.Pairwise (fun a b => τ a < τ b) → ∀ {x y : Addr}, x ∈ hs → y ∈ hs → τ x = τ y → x = y
  | [], _, _, _, hx, _, _ => nomatch hx
  | a :: r, hp, x, y, hx, hy, e => by
    rw [List.pairwise_cons] at hp
    rcases List.mem_cons.mp hx with hx1 | hx1
    · rcases List.mem_cons.mp hy with hy1 | hy1
      · exact hx1.trans hy1.symm
      · exact absurd (show τ y < τ y by have q := hp.1 y hy1; rw [← hx1, e] at q; exact q) Int64.lt_irrefl
    · rcases List.mem_cons.mp hy with hy1 | hy1
      · exact absurd (show τ x < τ x by have q := hp.1 x hx1; rw [← hy1, ← e] at q; exact q) Int64.lt_irrefl
      · exact own_tinj hp.2 hx1 hy1 e
/-- a link that is filed has a next -/
theorem Inv.filed {hs : List Addr} {τ : Addr → Int64} {N P : Addr → Value} {ls : List Addr} {tk : Addr → Option Int64} (I : Inv hs τ N P ls tk) {l : Addr} (hl : l ∈ ls) {t : Int64} (ht : tk l = some t) :
    ∃ x ∈ hs, τ x = t ∧ ∃ m1 m2, (m1 ++ l :: m2).Nodup ∧ x ∉ m1 ++ l :: m2 ∧ Lk N P ((x :: m1) ++ l :: (m2 ++ [x])) ∧ ∀ l', l' ∈ m1 ++ l :: m2 ↔ (l' ∈ ls ∧ tk l' = some t) := by
  obtain ⟨i1, i2, i3, i4, i5⟩ := I
  obtain ⟨x, hx, rfl⟩ := i5 l hl t ht
  obtain ⟨ms, m0, mn, mk, mm⟩ := i3 x hx
  have hm : l ∈ ms := (mm l).mpr ⟨hl, ht⟩
  obtain ⟨m1, m2, rfl⟩ := List.append_of_mem hm
  refine ⟨x, hx, rfl, m1, m2, mn, fun q => i2 x hx ((mm x).mp q).1, ?_, mm⟩
  simpa using mk
theorem own_lk_next {N P : Addr → Value} {l : Addr} : ∀ (d : List Addr), d ≠ [] → Lk N P (l :: d) → ∃ y r, d = y :: r ∧ N l = .ref y ∧ P y = .ref l
  | [], h, _ => absurd rfl h
  | y :: r, _, ⟨a, b, _⟩ => ⟨y, r, rfl, a, b⟩
theorem own_lk_prev {N P : Addr → Value} {l : Addr} : ∀ (c : List Addr), c ≠ [] → Lk N P (c ++ [l]) → ∃ r u, c = r ++ [u] ∧ N u = .ref l ∧ P l = .ref u := fun c h k => by
  have e : c = c.dropLast ++ [c.getLast h] := (List.dropLast_concat_getLast h).symm
  rw [e] at k
  have k2 := ((Lk.split (N := N) (P := P) (c.getLast h) [l] c.dropLast).mp (by simpa using k)).2
  exact ⟨c.dropLast, c.getLast h, e, k2.1, k2.2.1⟩

theorem Inv.append {hs : List Addr} {τ : Addr → Int64} {N P : Addr → Value} {ls : List Addr} {tk : Addr → Option Int64} (I : Inv hs τ N P ls tk) {l x z : Addr} {t : Int64} (hl : l ∈ ls) (hn : tk l = none) (hx : x ∈ hs) (ht : τ x = t) (hz : P x = .ref z) :
    z ∈ ls ∧ z ≠ l ∧ Inv hs τ (upd (upd N l (.ref x)) z (.ref l)) (upd (upd P l (.ref z)) x (.ref l)) ls (upd tk l (some t)) := by
  subst ht
  obtain ⟨i1, i2, i3, i4, i5⟩ := I
  obtain ⟨ms, m0, mn, mk, mm⟩ := i3 x hx
  have hxl : x ≠ l := fun e => i2 x hx (e ▸ hl)
  have mk' : Lk N P ((x :: ms) ++ [x]) := mk
  obtain ⟨r, z', er, n1, p1⟩ := own_lk_prev (x :: ms) (by simp) mk'
  have ez : z' = z := by rw [hz] at p1; exact (Value.ref.inj p1).symm
  subst ez
  have hzm : z' ∈ ms := by
    have : (x :: ms).getLast (by simp) = z' := by simp [er]
    rw [List.getLast_cons m0] at this
    exact this ▸ List.getLast_mem m0
  have zl := (mm z').mp hzm
  have hzl : z' ≠ l := fun e => by rw [e, hn] at zl; exact nomatch zl.2
  have hxz : x ≠ z' := fun e => i2 x hx (e ▸ zl.1)
  have hlm : l ∉ ms := fun q => by have := ((mm l).mp q).2; rw [hn] at this; exact nomatch this
  have hxm : x ∉ ms := fun q => i2 x hx ((mm x).mp q).1
  have nd : (x :: ms).Nodup := List.nodup_cons.mpr ⟨hxm, mn⟩
  have hrz : z' ∉ r := by
    rw [er, List.nodup_append] at nd
    intro q
    exact nd.2.2 z' q z' (by simp) rfl
  refine ⟨zl.1, hzl, i1, i2, fun y hy => ?_, fun l' h1 h2 => ?_, fun l' h1 t' h2 => ?_⟩
  · by_cases e : y = x
    · subst e
      refine ⟨ms ++ [l], by simp, ?_, ?_, fun l' => ?_⟩
      · rw [List.nodup_append]
        exact ⟨mn, by simp, fun a ha b hb => by rw [List.mem_singleton.mp hb]; exact fun q => hlm (q ▸ ha)⟩
      · have e2 : y :: ((ms ++ [l]) ++ [y]) = r ++ z' :: [l, y] := by
          have : y :: ms = r ++ [z'] := er
          calc y :: ((ms ++ [l]) ++ [y]) = (y :: ms) ++ [l, y] := by simp
            _ = _ := by rw [this]; simp
        rw [e2, Lk.split]
        constructor
        · have k1 : Lk N P (r ++ [z']) := by
            have := (Lk.split (N := N) (P := P) z' [y] r).mp (by
              have e3 : r ++ z' :: [y] = y :: (ms ++ [y]) := by
                have : y :: ms = r ++ [z'] := er
                calc r ++ z' :: [y] = (r ++ [z']) ++ [y] := by simp
                  _ = _ := by rw [← this]; simp
              rw [e3]; exact mk)
            exact this.1
          refine Lk.congr _ (fun u hu => ?_) (fun u hu => ?_) k1
          · have hu' : u ∈ r := by simpa using hu
            have hum : u ∈ y :: ms := by rw [er]; exact List.mem_append_left _ hu'
            have h1 : u ≠ z' := fun q => hrz (q ▸ hu')
            have h2 : u ≠ l := fun q => by
              rcases List.mem_cons.mp hum with q2 | q2
              · exact hxl (q2.symm.trans q)
              · exact hlm (q ▸ q2)
            rw [upd_ne _ _ h1, upd_ne _ _ h2]
          · have hum : u ∈ ms := by
              have q : u ∈ (y :: ms).tail := by rw [er]; exact hu
              exact q
            have h1 : u ≠ y := fun q => hxm (q ▸ hum)
            have h2 : u ≠ l := fun q => hlm (q ▸ hum)
            rw [upd_ne _ _ h1, upd_ne _ _ h2]
        · refine ⟨upd_at _ _ _, ?_, ?_, upd_at _ _ _, trivial⟩
          · rw [upd_ne _ _ (Ne.symm hxl), upd_at]
          · rw [upd_ne _ _ (Ne.symm hzl), upd_at]
      · by_cases e3 : l' = l
        · subst e3
          rw [upd_at]
          simp [hl]
        · rw [upd_ne _ _ e3, List.mem_append, List.mem_singleton, ← mm l']
          exact ⟨fun q => q.elim id (fun q => absurd q e3), Or.inl⟩
    · obtain ⟨ns, k0, kn, kk, km⟩ := i3 y hy
      have hty : τ x ≠ τ y := fun q => e (own_tinj i1 hy hx q.symm)
      have hyl : y ≠ l := fun q => i2 y hy (q ▸ hl)
      have hyz : y ≠ z' := fun q => i2 y hy (q ▸ zl.1)
      have huz : ∀ u ∈ ns, u ≠ z' ∧ u ≠ l ∧ u ≠ x := fun u hu => by
        have q := (km u).mp hu
        refine ⟨fun e4 => ?_, fun e4 => ?_, fun e4 => ?_⟩
        · rw [e4, zl.2] at q; exact hty (Option.some.inj q.2)
        · rw [e4, hn] at q; exact nomatch q.2
        · exact i2 x hx (e4 ▸ q.1)
      have hall : ∀ u ∈ y :: (ns ++ [y]), u ≠ z' ∧ u ≠ l ∧ u ≠ x := fun u hu => by
        rcases List.mem_cons.mp hu with q | q
        · rw [q]; exact ⟨hyz, hyl, e⟩
        · rcases List.mem_append.mp q with q | q
          · exact huz u q
          · rw [List.mem_singleton.mp q]; exact ⟨hyz, hyl, e⟩
      refine ⟨ns, k0, kn, Lk.congr _ (fun u hu => ?_) (fun u hu => ?_) kk, fun l' => ?_⟩
      · have q := hall u ((List.dropLast_sublist _).subset hu)
        rw [upd_ne _ _ q.1, upd_ne _ _ q.2.1]
      · have q := hall u (List.mem_of_mem_tail hu)
        rw [upd_ne _ _ q.2.2, upd_ne _ _ q.2.1]
      · rw [km l']
        by_cases e3 : l' = l
        · subst e3
          rw [upd_at, hn]
          constructor
          · intro q; exact nomatch q.2
          · intro q; exact absurd (Option.some.inj q.2) hty
        · rw [upd_ne _ _ e3]
  · have e3 : l' ≠ l := fun q => by rw [q, upd_at] at h2; exact nomatch h2
    rw [upd_ne _ _ e3] at h2
    have e4 : l' ≠ z' := fun q => by rw [q, zl.2] at h2; exact nomatch h2
    rw [upd_ne _ _ e4, upd_ne _ _ e3]; exact i4 l' h1 h2
  · by_cases e3 : l' = l
    · rw [e3, upd_at] at h2; exact ⟨x, hx, Option.some.inj h2⟩
    · rw [upd_ne _ _ e3] at h2; exact i5 l' h1 t' h2
theorem Inv.insert {pre post : List Addr} {τ : Addr → Int64} {N P : Addr → Value} {ls : List Addr} {tk : Addr → Option Int64} (I : Inv (pre ++ post) τ N P ls tk) {l b : Addr} {t : Int64} (hl : l ∈ ls) (hn : tk l = none)
    (h1 : ∀ x ∈ pre, τ x < t) (h2 : ∀ x ∈ post, t < τ x) (hb : b ∉ pre ++ post) (hbl : b ∉ ls) :
    Inv (pre ++ b :: post) (upd τ b t) (upd (upd N l (.ref b)) b (.ref l)) (upd (upd P l (.ref b)) b (.ref l)) ls (upd tk l (some t)) := by
  obtain ⟨i1, i2, i3, i4, i5⟩ := I
  have hlb : l ≠ b := fun e => hbl (e ▸ hl)
  have hne : ∀ x ∈ pre ++ post, x ≠ b := fun x hx e => hb (e ▸ hx)
  have hmem : ∀ x, x ∈ pre ++ b :: post ↔ (x = b ∨ x ∈ pre ++ post) := fun x => by
    simp only [List.mem_append, List.mem_cons]
    constructor
    · rintro (q | q | q)
      · exact Or.inr (Or.inl q)
      · exact Or.inl q
      · exact Or.inr (Or.inr q)
    · rintro (q | q | q)
      · exact Or.inr (Or.inl q)
      · exact Or.inl q
      · exact Or.inr (Or.inr q)
  have hτ : ∀ x ∈ pre ++ post, upd τ b t x = τ x := fun x hx => upd_ne _ _ (hne x hx)
  have htne : ∀ x ∈ pre ++ post, τ x ≠ t := fun x hx e => by
    rcases List.mem_append.mp hx with q | q
    · exact absurd (e ▸ h1 x q) Int64.lt_irrefl
    · exact absurd (e ▸ h2 x q) Int64.lt_irrefl
  refine ⟨?_, fun x hx => ?_, fun x hx => ?_, fun l' a1 a2 => ?_, fun l' a1 t' a2 => ?_⟩
  · rw [List.pairwise_append] at i1 ⊢
    rw [List.pairwise_cons]
    refine ⟨?_, ⟨fun y hy => ?_, ?_⟩, fun a ha c hc => ?_⟩
    · refine List.Pairwise.imp_of_mem (fun {a c} ha hc q => ?_) i1.1
      rw [hτ a (List.mem_append_left _ ha), hτ c (List.mem_append_left _ hc)]; exact q
    · rw [upd_at, hτ y (List.mem_append_right _ hy)]; exact h2 y hy
    · refine List.Pairwise.imp_of_mem (fun {a c} ha hc q => ?_) i1.2.1
      rw [hτ a (List.mem_append_right _ ha), hτ c (List.mem_append_right _ hc)]; exact q
    · rw [hτ a (List.mem_append_left _ ha)]
      rcases List.mem_cons.mp hc with q | q
      · rw [q, upd_at]; exact h1 a ha
      · rw [hτ c (List.mem_append_right _ q)]; exact i1.2.2 a ha c q
  · rcases (hmem x).mp hx with q | q
    · rw [q]; exact hbl
    · exact i2 x q
  · rcases (hmem x).mp hx with q | q
    · subst q
      refine ⟨[l], by simp, by simp, ⟨upd_at _ _ _, ?_, ?_, upd_at _ _ _, trivial⟩, fun l' => ?_⟩
      · rw [upd_ne _ _ hlb, upd_at]
      · rw [upd_ne _ _ hlb, upd_at]
      · rw [upd_at, List.mem_singleton]
        constructor
        · intro e; rw [e, upd_at]; exact ⟨hl, rfl⟩
        · intro ⟨a1, a2⟩
          by_cases e : l' = l
          · exact e
          · rw [upd_ne _ _ e] at a2
            obtain ⟨y, hy, ey⟩ := i5 l' a1 t a2
            exact absurd ey (htne y hy)
    · obtain ⟨ns, k0, kn, kk, km⟩ := i3 x q
      have hxb := hne x q
      have hxl : x ≠ l := fun e => i2 x q (e ▸ hl)
      have hu : ∀ u ∈ ns, u ≠ b ∧ u ≠ l := fun u hu => by
        have z := (km u).mp hu
        exact ⟨fun e => hbl (e ▸ z.1), fun e => by rw [e, hn] at z; exact nomatch z.2⟩
      have hall : ∀ u ∈ x :: (ns ++ [x]), u ≠ b ∧ u ≠ l := fun u hu' => by
        rcases List.mem_cons.mp hu' with z | z
        · rw [z]; exact ⟨hxb, hxl⟩
        · rcases List.mem_append.mp z with z | z
          · exact hu u z
          · rw [List.mem_singleton.mp z]; exact ⟨hxb, hxl⟩
      refine ⟨ns, k0, kn, Lk.congr _ (fun u hu' => ?_) (fun u hu' => ?_) kk, fun l' => ?_⟩
      · have z := hall u ((List.dropLast_sublist _).subset hu')
        rw [upd_ne _ _ z.1, upd_ne _ _ z.2]
      · have z := hall u (List.mem_of_mem_tail hu')
        rw [upd_ne _ _ z.1, upd_ne _ _ z.2]
      · rw [km l', hτ x q]
        by_cases e : l' = l
        · subst e
          rw [upd_at, hn]
          constructor
          · intro z; exact nomatch z.2
          · intro z; exact absurd (Option.some.inj z.2).symm (htne x q)
        · rw [upd_ne _ _ e]
  · have e3 : l' ≠ l := fun q => by rw [q, upd_at] at a2; exact nomatch a2
    rw [upd_ne _ _ e3] at a2
    have e4 : l' ≠ b := fun q => hbl (q ▸ a1)
    rw [upd_ne _ _ e4, upd_ne _ _ e3]; exact i4 l' a1 a2
  · by_cases e3 : l' = l
    · rw [e3, upd_at] at a2; exact ⟨b, (hmem b).mpr (Or.inl rfl), by rw [upd_at]; exact Option.some.inj a2⟩
    · rw [upd_ne _ _ e3] at a2
      obtain ⟨y, hy, ey⟩ := i5 l' a1 t' a2
      exact ⟨y, (hmem y).mpr (Or.inr hy), (hτ y hy).trans ey⟩
theorem own_bounds {N P : Addr → Value} {x l : Addr} {m1 m2 : List Addr} (k : Lk N P ((x :: m1) ++ l :: (m2 ++ [x]))) {u v : Addr} (hu : P l = .ref u) (hv : N l = .ref v) :
    (∃ c1, x :: m1 = c1 ++ [u]) ∧ (∃ c2, m2 ++ [x] = v :: c2) := by
  have k1 := (Lk.split (N := N) (P := P) l (m2 ++ [x]) (x :: m1)).mp k
  obtain ⟨r, u', e1, -, p1⟩ := own_lk_prev (x :: m1) (by simp) k1.1
  obtain ⟨v', r', e2, n1, -⟩ := own_lk_next (m2 ++ [x]) (by simp) k1.2
  rw [hu] at p1
  rw [hv] at n1
  cases p1
  cases n1
  exact ⟨⟨r, e1⟩, ⟨r', e2⟩⟩
/-- the ring without l -/
theorem own_cut {N P : Addr → Value} {x l u v : Addr} {m1 m2 c1 c2 : List Addr} (k : Lk N P ((x :: m1) ++ l :: (m2 ++ [x]))) (e1 : x :: m1 = c1 ++ [u]) (e2 : m2 ++ [x] = v :: c2) (nd : (m1 ++ l :: m2).Nodup) (hx : x ∉ m1 ++ l :: m2) :
    Lk (upd (upd N u (.ref v)) l .null) (upd (upd P v (.ref u)) l .null) (x :: ((m1 ++ m2) ++ [x])) := by
  have k1 := (Lk.split (N := N) (P := P) l (m2 ++ [x]) (x :: m1)).mp k
  have ka : Lk N P (c1 ++ [u]) := by
    have := k1.1
    rw [e1] at this
    exact ((Lk.split (N := N) (P := P) u [l] c1).mp (by simpa using this)).1
  have kb : Lk N P (v :: c2) := by
    have := k1.2
    rw [e2] at this
    exact this.2.2
  rw [List.nodup_append] at nd
  obtain ⟨n1, n2, n3⟩ := nd
  rw [List.nodup_cons] at n2
  have hl1 : l ∉ m1 := fun q => n3 l q l (by simp) rfl
  have hl2 : l ∉ m2 := n2.1
  have hx1 : x ∉ m1 := fun q => hx (List.mem_append_left _ q)
  have hx2 : x ∉ m2 := fun q => hx (List.mem_append_right _ (List.mem_cons_of_mem _ q))
  have hxl : x ≠ l := fun q => hx (by rw [q]; simp)
  have d12 : ∀ a ∈ m1, a ∉ m2 := fun a ha q => n3 a ha a (List.mem_cons_of_mem _ q) rfl
  have e : x :: ((m1 ++ m2) ++ [x]) = c1 ++ u :: (v :: c2) := by
    calc x :: ((m1 ++ m2) ++ [x]) = (x :: m1) ++ (m2 ++ [x]) := by simp
      _ = _ := by rw [e1, e2]; simp
  have ndA : (c1 ++ [u]).Nodup := by rw [← e1]; exact List.nodup_cons.mpr ⟨hx1, n1⟩
  have ndB : (v :: c2).Nodup := by
    rw [← e2, List.nodup_append]
    exact ⟨n2.2, by simp, fun a ha b hb => by rw [List.mem_singleton.mp hb]; exact fun q => hx2 (q ▸ ha)⟩
  have hul : u ≠ l := fun q => by
    have : u ∈ x :: m1 := by rw [e1]; simp
    rcases List.mem_cons.mp this with z | z
    · exact hxl (z.symm.trans q)
    · exact hl1 (q ▸ z)
  have hvl : v ≠ l := fun q => by
    have : v ∈ m2 ++ [x] := by rw [e2]; simp
    rcases List.mem_append.mp this with z | z
    · exact hl2 (q ▸ z)
    · exact hxl ((List.mem_singleton.mp z).symm.trans q)
  rw [e, Lk.split]
  refine ⟨Lk.congr _ (fun a ha => ?_) (fun a ha => ?_) ka, ?_, ?_, Lk.congr _ (fun a ha => ?_) (fun a ha => ?_) kb⟩
  · have ha' : a ∈ c1 := by simpa using ha
    have h1 : a ≠ u := fun q => by
      rw [List.nodup_append] at ndA
      exact ndA.2.2 a ha' u (by simp) q
    have h2 : a ≠ l := fun q => by
      have : a ∈ x :: m1 := by rw [e1]; exact List.mem_append_left _ ha'
      rcases List.mem_cons.mp this with z | z
      · exact hxl (z.symm.trans q)
      · exact hl1 (q ▸ z)
    rw [upd_ne _ _ h2, upd_ne _ _ h1]
  · have ha' : a ∈ m1 := by
      have : a ∈ (x :: m1).tail := by rw [e1]; exact ha
      exact this
    have h1 : a ≠ v := fun q => by
      have : v ∈ m2 ++ [x] := by rw [e2]; simp
      rcases List.mem_append.mp this with z | z
      · exact d12 a ha' (q ▸ z)
      · exact hx1 (by rw [← List.mem_singleton.mp z, ← q]; exact ha')
    have h2 : a ≠ l := fun q => hl1 (q ▸ ha')
    rw [upd_ne _ _ h2, upd_ne _ _ h1]
  · rw [upd_ne _ _ hul, upd_at]
  · rw [upd_ne _ _ hvl, upd_at]
  · have ha' : a ∈ m2 := by
      have : a ∈ (m2 ++ [x]).dropLast := by rw [e2]; exact ha
      simpa using this
    have h1 : a ≠ u := fun q => by
      have : u ∈ x :: m1 := by rw [e1]; simp
      rcases List.mem_cons.mp this with z | z
      · exact hx2 (by rw [← z, ← q]; exact ha')
      · exact d12 u z (q ▸ ha')
    have h2 : a ≠ l := fun q => hl2 (q ▸ ha')
    rw [upd_ne _ _ h2, upd_ne _ _ h1]
  · have ha' : a ∈ c2 := ha
    rw [List.nodup_cons] at ndB
    have h1 : a ≠ v := fun q => ndB.1 (q ▸ ha')
    have h2 : a ≠ l := fun q => by
      have : a ∈ m2 ++ [x] := by rw [e2]; exact List.mem_cons_of_mem _ ha'
      rcases List.mem_append.mp this with z | z
      · exact hl2 (q ▸ z)
      · exact hxl ((List.mem_singleton.mp z).symm.trans q)
    rw [upd_ne _ _ h2, upd_ne _ _ h1]
/-- what removing l does to the other rings: nothing -/
theorem own_rest {hs : List Addr} {τ : Addr → Int64} {N P : Addr → Value} {ls : List Addr} {tk : Addr → Option Int64} (I : Inv hs τ N P ls tk) {l x u v : Addr} {m1 m2 c1 c2 : List Addr} (hx : x ∈ hs) (hm : ∀ l', l' ∈ m1 ++ l :: m2 ↔ (l' ∈ ls ∧ tk l' = some (τ x)))
    (e1 : x :: m1 = c1 ++ [u]) (e2 : m2 ++ [x] = v :: c2) : ∀ y ∈ hs, y ≠ x → ∃ ms : List Addr, ms ≠ [] ∧ ms.Nodup ∧ Lk (upd (upd N u (.ref v)) l .null) (upd (upd P v (.ref u)) l .null) (y :: (ms ++ [y])) ∧ ∀ l', l' ∈ ms ↔ (l' ∈ ls ∧ upd tk l none l' = some (τ y)) := fun y hy e => by
  obtain ⟨i1, i2, i3, i4, i5⟩ := I
  obtain ⟨ns, k0, kn, kk, km⟩ := i3 y hy
  have hl := (hm l).mp (by simp)
  have hty : τ x ≠ τ y := fun q => e (own_tinj i1 hy hx q.symm)
  have hin : ∀ a, a = x ∨ a ∈ m1 ++ l :: m2 → a ≠ y ∧ a ∉ ns := fun a ha => by
    rcases ha with q | q
    · rw [q]; exact ⟨fun z => e z.symm, fun z => i2 x hx ((km x).mp z).1⟩
    · have z := (hm a).mp q
      refine ⟨fun w => i2 y hy (w ▸ z.1), fun w => ?_⟩
      have w' := ((km a).mp w).2
      rw [z.2] at w'; exact hty (Option.some.inj w')
  have hu : u = x ∨ u ∈ m1 ++ l :: m2 := by
    have : u ∈ x :: m1 := by rw [e1]; simp
    rcases List.mem_cons.mp this with z | z
    · exact Or.inl z
    · exact Or.inr (List.mem_append_left _ z)
  have hv : v = x ∨ v ∈ m1 ++ l :: m2 := by
    have : v ∈ m2 ++ [x] := by rw [e2]; simp
    rcases List.mem_append.mp this with z | z
    · exact Or.inr (List.mem_append_right _ (List.mem_cons_of_mem _ z))
    · exact Or.inl (List.mem_singleton.mp z)
  have hu' := hin u hu
  have hv' := hin v hv
  have hl' := hin l (Or.inr (by simp))
  have hall : ∀ a ∈ y :: (ns ++ [y]), a ≠ u ∧ a ≠ v ∧ a ≠ l := fun a ha => by
    have key : ∀ w : Addr, w ≠ y ∧ w ∉ ns → a ≠ w := fun w hw q => by
      rcases List.mem_cons.mp ha with z | z
      · exact hw.1 (q.symm.trans z)
      · rcases List.mem_append.mp z with z | z
        · exact hw.2 (q ▸ z)
        · exact hw.1 (q.symm.trans (List.mem_singleton.mp z))
    exact ⟨key u hu', key v hv', key l hl'⟩
  refine ⟨ns, k0, kn, Lk.congr _ (fun a ha => ?_) (fun a ha => ?_) kk, fun l' => ?_⟩
  · have q := hall a ((List.dropLast_sublist _).subset ha)
    rw [upd_ne _ _ q.2.2, upd_ne _ _ q.1]
  · have q := hall a (List.mem_of_mem_tail ha)
    rw [upd_ne _ _ q.2.2, upd_ne _ _ q.2.1]
  · rw [km l']
    by_cases e3 : l' = l
    · subst e3
      rw [upd_at, hl.2]
      constructor
      · intro q; exact absurd (Option.some.inj q.2) hty
      · intro q; exact nomatch q.2
    · rw [upd_ne _ _ e3]
theorem Inv.cut {hs : List Addr} {τ : Addr → Int64} {N P : Addr → Value} {ls : List Addr} {tk : Addr → Option Int64} (I : Inv hs τ N P ls tk) {l u v : Addr} {t : Int64} (hl : l ∈ ls) (ht : tk l = some t) (hu : P l = .ref u) (hv : N l = .ref v) :
    u ≠ l ∧ v ≠ l ∧ (u ∈ hs ∨ u ∈ ls) ∧ (v ∈ hs ∨ v ∈ ls) ∧
    (u ≠ v → Inv hs τ (upd (upd N u (.ref v)) l .null) (upd (upd P v (.ref u)) l .null) ls (upd tk l none)) ∧
    (u = v → u ∈ hs ∧ τ u = t ∧ ∀ pre post, hs = pre ++ u :: post → Inv (pre ++ post) τ (upd (upd N u (.ref v)) l .null) (upd (upd P v (.ref u)) l .null) ls (upd tk l none)) := by
  obtain ⟨x, hx, et, m1, m2, nd, hxm, k, hm⟩ := I.filed hl ht
  subst et
  obtain ⟨⟨c1, e1⟩, ⟨c2, e2⟩⟩ := own_bounds k hu hv
  have hcut := own_cut k e1 e2 nd hxm
  have hrest := own_rest I hx hm e1 e2
  obtain ⟨i1, i2, i3, i4, i5⟩ := I
  have hin1 : u = x ∨ u ∈ m1 := by
    have : u ∈ x :: m1 := by rw [e1]; simp
    exact List.mem_cons.mp this
  have hin2 : v ∈ m2 ∨ v = x := by
    have : v ∈ m2 ++ [x] := by rw [e2]; simp
    exact (List.mem_append.mp this).imp id List.mem_singleton.mp
  have hxl : x ≠ l := fun q => i2 x hx (q ▸ hl)
  rw [List.nodup_append] at nd
  obtain ⟨n1, n2, n3⟩ := nd
  rw [List.nodup_cons] at n2
  have hl1 : l ∉ m1 := fun q => n3 l q l (by simp) rfl
  have hl2 : l ∉ m2 := n2.1
  have mem1 : ∀ a ∈ m1, a ∈ ls ∧ tk a = some (τ x) := fun a ha => (hm a).mp (List.mem_append_left _ ha)
  have mem2 : ∀ a ∈ m2, a ∈ ls ∧ tk a = some (τ x) := fun a ha => (hm a).mp (List.mem_append_right _ (List.mem_cons_of_mem _ ha))
  have hul : u ≠ l := fun q => by
    rcases hin1 with z | z
    · exact hxl (z.symm.trans q)
    · exact hl1 (q ▸ z)
  have hvl : v ≠ l := fun q => by
    rcases hin2 with z | z
    · exact hl2 (q ▸ z)
    · exact hxl (z.symm.trans q)
  have hmem' : ∀ l', l' ∈ m1 ++ m2 ↔ (l' ∈ ls ∧ upd tk l none l' = some (τ x)) := fun l' => by
    by_cases e3 : l' = l
    · subst e3
      rw [upd_at]
      constructor
      · intro q; rcases List.mem_append.mp q with z | z
        · exact absurd z hl1
        · exact absurd z hl2
      · intro q; exact nomatch q.2
    · rw [upd_ne _ _ e3, ← hm l']
      simp [e3]
  have hnone : ∀ l' ∈ ls, upd tk l none l' = none → upd (upd N u (.ref v)) l .null l' = .null := fun l' a1 a2 => by
    by_cases e3 : l' = l
    · rw [e3, upd_at]
    · rw [upd_ne _ _ e3] at a2
      have e4 : l' ≠ u := fun q => by
        rcases hin1 with z | z
        · exact i2 x hx (by rw [← z, ← q]; exact a1)
        · have := (mem1 u z).2; rw [← q, a2] at this; exact nomatch this
      rw [upd_ne _ _ e3, upd_ne _ _ e4]; exact i4 l' a1 a2
  refine ⟨hul, hvl, ?_, ?_, fun huv => ?_, fun huv => ?_⟩
  · rcases hin1 with z | z
    · exact Or.inl (z ▸ hx)
    · exact Or.inr (mem1 u z).1
  · rcases hin2 with z | z
    · exact Or.inr (mem2 v z).1
    · exact Or.inl (z ▸ hx)
  · have hne : m1 ++ m2 ≠ [] := fun q => by
      have q1 := List.append_eq_nil_iff.mp q
      have a1 : u = x := by rcases hin1 with z | z; exact z; rw [q1.1] at z; exact nomatch z
      have a2 : v = x := by rcases hin2 with z | z; rw [q1.2] at z; exact nomatch z; exact z
      exact huv (a1.trans a2.symm)
    refine ⟨i1, i2, fun y hy => ?_, hnone, fun l' a1 t' a2 => ?_⟩
    · by_cases e : y = x
      · subst e
        refine ⟨m1 ++ m2, hne, ?_, hcut, hmem'⟩
        rw [List.nodup_append]
        exact ⟨n1, n2.2, fun a ha b hb => n3 a ha b (List.mem_cons_of_mem _ hb)⟩
      · exact hrest y hy e
    · by_cases e3 : l' = l
      · rw [e3, upd_at] at a2; exact nomatch a2
      · rw [upd_ne _ _ e3] at a2; exact i5 l' a1 t' a2
  · have hux : u = x := by
      rcases hin1 with z | z
      · exact z
      · rcases hin2 with w | w
        · exact absurd rfl (n3 u z u (List.mem_cons_of_mem _ (huv ▸ w)))
        · exact absurd (mem1 u z).1 (by rw [huv, w]; exact i2 x hx)
    have hm1 : m1 = [] := by
      rcases m1 with _ | ⟨a, r⟩
      · rfl
      · exfalso
        have q : u ∈ a :: r := by
          have : (x :: a :: r).getLast (by simp) = u := by simp [e1]
          rw [List.getLast_cons (by simp)] at this
          exact this ▸ List.getLast_mem _
        exact i2 x hx (hux ▸ (mem1 u q).1)
    have hm2 : m2 = [] := by
      rcases m2 with _ | ⟨a, r⟩
      · rfl
      · exfalso
        have q : v = a := by simpa using (List.cons.inj e2).1.symm
        exact i2 x hx (by rw [← hux, huv, q]; exact (mem2 a (by simp)).1)
    subst hux
    refine ⟨hx, rfl, fun pre post eh => ?_⟩
    subst eh
    have hpw := i1
    rw [List.pairwise_append, List.pairwise_cons] at i1
    have hsub : ∀ y, y ∈ pre ++ post → y ∈ pre ++ u :: post := fun y q => by
      rcases List.mem_append.mp q with z | z
      · exact List.mem_append_left _ z
      · exact List.mem_append_right _ (List.mem_cons_of_mem _ z)
    have hnu : ∀ y ∈ pre ++ post, y ≠ u := fun y q e => by
      rcases List.mem_append.mp q with z | z
      · have := i1.2.2 y z u (by simp); rw [e] at this; exact absurd this Int64.lt_irrefl
      · have := i1.2.1.1 y z; rw [e] at this; exact absurd this Int64.lt_irrefl
    refine ⟨?_, fun y hy => i2 y (hsub y hy), fun y hy => hrest y (hsub y hy) (hnu y hy), hnone, fun l' a1 t' a2 => ?_⟩
    · rw [List.pairwise_append]
      exact ⟨i1.1, i1.2.1.2, fun a ha b hb => i1.2.2 a ha b (List.mem_cons_of_mem _ hb)⟩
    · by_cases e3 : l' = l
      · rw [e3, upd_at] at a2; exact nomatch a2
      · have a3 := a2
        rw [upd_ne _ _ e3] at a2
        obtain ⟨y, hy, ey⟩ := i5 l' a1 t' a2
        have hyu : y ≠ u := fun q => by
          have : l' ∈ m1 ++ m2 := (hmem' l').mpr ⟨a1, by rw [a3, ← ey, q]⟩
          rw [hm1, hm2] at this; exact nomatch this
        refine ⟨y, ?_, ey⟩
        rcases List.mem_append.mp hy with z | z
        · exact List.mem_append_left _ z
        · rcases List.mem_cons.mp z with z | z
          · exact absurd z hyu
          · exact List.mem_append_right _ z
/-- the first tick, the ticks -/
theorem Inv.first {hs : List Addr} {τ : Addr → Int64} {N P : Addr → Value} {ls : List Addr} {tk : Addr → Option Int64} (I : Inv hs τ N P ls tk) :
    (hs = [] → ∀ l ∈ ls, tk l = none) ∧ (∀ x r, hs = x :: r → (∃ l ∈ ls, tk l = some (τ x)) ∧ ∀ l ∈ ls, ∀ t, tk l = some t → ¬ t < τ x) := by
  obtain ⟨i1, i2, i3, i4, i5⟩ := I
  refine ⟨fun e l hl => ?_, fun x r e => ?_⟩
  · subst e
    cases h : tk l with
    | none => rfl
    | some t => obtain ⟨x, hx, -⟩ := i5 l hl t h; exact nomatch hx
  · subst e
    obtain ⟨ms, m0, mn, mk, mm⟩ := i3 x (by simp)
    refine ⟨?_, fun l hl t ht q => ?_⟩
    · rcases ms with _ | ⟨a, ms⟩
      · exact absurd rfl m0
      · have := (mm a).mp (by simp)
        exact ⟨a, this.1, this.2⟩
    · obtain ⟨y, hy, rfl⟩ := i5 l hl t ht
      rw [List.pairwise_cons] at i1
      rcases List.mem_cons.mp hy with z | z
      · rw [z] at q; exact Int64.lt_irrefl q
      · exact Int64.lt_asymm q (i1.1 y z)
theorem Inv.ticks {hs : List Addr} {τ : Addr → Int64} {N P : Addr → Value} {ls : List Addr} {tk : Addr → Option Int64} (I : Inv hs τ N P ls tk) : (hs.map τ).Nodup ∧ ∀ t, t ∈ hs.map τ ↔ ∃ l ∈ ls, tk l = some t := by
  obtain ⟨i1, i2, i3, i4, i5⟩ := I
  refine ⟨?_, fun t => ?_⟩
  · show (hs.map τ).Pairwise (· ≠ ·)
    rw [List.pairwise_map]
    exact i1.imp (fun {a b} q e => by rw [e] at q; exact Int64.lt_irrefl q)
  · rw [List.mem_map]
    constructor
    · intro ⟨x, hx, e⟩
      obtain ⟨ms, m0, mn, mk, mm⟩ := i3 x hx
      rcases ms with _ | ⟨a, ms⟩
      · exact absurd rfl m0
      · have := (mm a).mp (by simp)
        exact ⟨a, this.1, by rw [this.2, e]⟩
    · intro ⟨l, hl, ht⟩
      obtain ⟨x, hx, e⟩ := i5 l hl t ht
      exact ⟨x, hx, e⟩

theorem own_weak {l : Launch} {x : MethodName} {S : Spec} {P : Array Value → State → Prop} {K : Program → Env → List Frame → State → Array Value → Prop} {Q Q' : Array Value → State → Outcome → State → Prop} (h : MetFree l x S P K Q) (hq : ∀ a s o t, P a s → Q a s o t → Q' a s o t) : MetFree l x S P K Q' := by
  intro p e ha hc hk s m args below hf happ hP hK
  obtain ⟨n, o, h1, h2, h3, h4⟩ := h p e ha hc hk s m args below hf happ hP hK
  exact ⟨n, o, h1, h2, h3, hq _ _ _ _ hP h4⟩
/-- the order at D lies so in the heap: its array A, its heads hs with their ticks, the links ls -/
def Rep (Z : State) (h : Heap) (n0 : Nat) (D A : Addr) (kA : ClassId) (hs : List Addr) (τ : Addr → Int64) (N P : Addr → Value) (ls : List Addr) : Prop :=
  Exa Z h D cD ∧ Fld Z h D cD "heads" dA (.ref A) ∧ Fld Z h D cD "count" "I" (.int (Int32.ofNat hs.length)) ∧ Arv Z h A kA (.object cH) (4 : Int32) (hs.map Value.ref ++ List.replicate (4 - hs.length) .null) .null ∧ Ovr Z kA cH ∧ n0 ≤ D ∧ n0 ≤ A ∧
  (∀ x ∈ hs, n0 ≤ x ∧ Exa Z h x cH ∧ Fld Z h x cH "tick" "J" (.long (τ x)) ∧ Fld Z h x cL "next" dL (N x) ∧ Fld Z h x cL "prev" dL (P x)) ∧
  (∀ x ∈ ls, n0 ≤ x ∧ Exa Z h x cL ∧ Fld Z h x cL "next" dL (N x) ∧ Fld Z h x cL "prev" dL (P x))
def Apart (D A : Addr) (hs ls : List Addr) : Prop := D ≠ A ∧ (∀ x ∈ hs, x ≠ D ∧ x ≠ A) ∧ (∀ x ∈ ls, x ≠ D ∧ x ≠ A ∧ ∀ y ∈ hs, x ≠ y)
section RepLaws
variable {Z : State} {h0 h : Heap} {n0 : Nat} {D A : Addr} {kA : ClassId} {hs : List Addr} {τ : Addr → Int64} {N P : Addr → Value} {ls : List Addr} {tk : Addr → Option Int64}
theorem Rep.apart {az : Array Value} {k1 k2 k3 : Nat} (hR : Rep Z h n0 D A kA hs τ N P ls) (wD : (Jvm.Cond.instantiable cD k1).before az Z = true) (wH : (Jvm.Cond.instantiable cH k2).before az Z = true) (wL : (Jvm.Cond.instantiable cL k3).before az Z = true) : Apart D A hs ls := by
  obtain ⟨rE, rH, rC, rV, rO, gD, gA, rh, rl⟩ := hR
  obtain ⟨c, A', -⟩ := rV
  exact ⟨ne_arr rE wD A', fun x hx => ⟨ne_exa (rh x hx).2.1 rE (by decide), ne_arr (rh x hx).2.1 wH A'⟩, fun x hx => ⟨ne_exa (rl x hx).2.1 rE (by decide), ne_arr (rl x hx).2.1 wL A', fun y hy => ne_exa (rl x hx).2.1 (rh y hy).2.1 (by decide)⟩⟩
theorem Rep.old (hR : Rep Z h0 n0 D A kA hs τ N P ls) (ap : Apart D A hs ls) {l x z : Addr} (hl : l ∈ ls) (hx : x ∈ hs) (hz : z ∈ ls) (hzl : z ≠ l) (K : Keep h0 h [l, z, x])
    (F1 : Fld Z h l cL "next" dL (.ref x)) (F2 : Fld Z h l cL "prev" dL (.ref z)) (F3 : Fld Z h z cL "next" dL (.ref l)) (F4 : Fld Z h z cL "prev" dL (P z)) (F5 : Fld Z h x cL "next" dL (N x)) (F6 : Fld Z h x cL "prev" dL (.ref l)) (F7 : Fld Z h x cH "tick" "J" (.long (τ x))) :
    Rep Z h n0 D A kA hs τ (upd (upd N l (.ref x)) z (.ref l)) (upd (upd P l (.ref z)) x (.ref l)) ls := by
  obtain ⟨rE, rH, rC, rV, rO, gD, gA, rh, rl⟩ := hR
  obtain ⟨a1, a2, a3⟩ := ap
  have nD : D ∉ [l, z, x] := ninS (a3 l hl).1.symm (ninS (a3 z hz).1.symm (ninS (a2 x hx).1.symm nin0))
  have nA : A ∉ [l, z, x] := ninS (a3 l hl).2.1.symm (ninS (a3 z hz).2.1.symm (ninS (a2 x hx).2.symm nin0))
  refine ⟨rE.keep K, rH.keep K nD, rC.keep K nD, rV.keep K nA, rO, gD, gA, fun y hy => ?_, fun y hy => ?_⟩
  · obtain ⟨g, E, T, n, p⟩ := rh y hy
    have y1 : y ≠ l := ((a3 l hl).2.2 y hy).symm
    have y2 : y ≠ z := ((a3 z hz).2.2 y hy).symm
    by_cases e : y = x
    · subst e
      refine ⟨g, E.keep K, F7, ?_, ?_⟩
      · rw [upd_ne _ _ y2, upd_ne _ _ y1]; exact F5
      · rw [upd_at]; exact F6
    · have ni : y ∉ [l, z, x] := ninS y1 (ninS y2 (ninS e nin0))
      refine ⟨g, E.keep K, T.keep K ni, ?_, ?_⟩
      · rw [upd_ne _ _ y2, upd_ne _ _ y1]; exact n.keep K ni
      · rw [upd_ne _ _ e, upd_ne _ _ y1]; exact p.keep K ni
  · obtain ⟨g, E, n, p⟩ := rl y hy
    have y3 : y ≠ x := (a3 y hy).2.2 x hx
    by_cases e1 : y = l
    · subst e1
      refine ⟨g, E.keep K, ?_, ?_⟩
      · rw [upd_ne _ _ hzl.symm, upd_at]; exact F1
      · rw [upd_ne _ _ y3, upd_at]; exact F2
    · by_cases e2 : y = z
      · subst e2
        refine ⟨g, E.keep K, ?_, ?_⟩
        · rw [upd_at]; exact F3
        · rw [upd_ne _ _ y3, upd_ne _ _ e1]; exact F4
      · have ni : y ∉ [l, z, x] := ninS e1 (ninS e2 (ninS y3 nin0))
        refine ⟨g, E.keep K, ?_, ?_⟩
        · rw [upd_ne _ _ e2, upd_ne _ _ e1]; exact n.keep K ni
        · rw [upd_ne _ _ y3, upd_ne _ _ e1]; exact p.keep K ni
theorem Rep.fresh (hR : Rep Z h0 n0 D A kA hs τ N P ls) {b : Addr} (sz : h0.size ≤ b) : b ∉ hs ∧ b ∉ ls := by
  obtain ⟨rE, rH, rC, rV, rO, gD, gA, rh, rl⟩ := hR
  exact ⟨fun q => Nat.not_lt.mpr sz (rh b q).2.1.lt, fun q => Nat.not_lt.mpr sz (rl b q).2.1.lt⟩
theorem Rep.new {pre post : List Addr} (hR : Rep Z h0 n0 D A kA (pre ++ post) τ N P ls) (ap : Apart D A (pre ++ post) ls) {l b : Addr} {t : Int64} (hl : l ∈ ls) (K : Keep h0 h [A, D, l]) (sz : h0.size ≤ b) (gb : n0 ≤ b)
    (F1 : Fld Z h D cD "heads" dA (.ref A)) (F2 : Fld Z h D cD "count" "I" (.int (Int32.ofNat (pre ++ b :: post).length))) (F3 : Arv Z h A kA (.object cH) (4 : Int32) ((pre ++ b :: post).map Value.ref ++ List.replicate (4 - (pre ++ b :: post).length) .null) .null)
    (F4 : Exa Z h b cH) (F5 : Fld Z h b cH "tick" "J" (.long t)) (F6 : Fld Z h b cL "next" dL (.ref l)) (F7 : Fld Z h b cL "prev" dL (.ref l)) (F8 : Fld Z h l cL "next" dL (.ref b)) (F9 : Fld Z h l cL "prev" dL (.ref b)) :
    Rep Z h n0 D A kA (pre ++ b :: post) (upd τ b t) (upd (upd N l (.ref b)) b (.ref l)) (upd (upd P l (.ref b)) b (.ref l)) ls := by
  have fr := hR.fresh sz
  obtain ⟨rE, rH, rC, rV, rO, gD, gA, rh, rl⟩ := hR
  obtain ⟨a1, a2, a3⟩ := ap
  refine ⟨rE.keep K, F1, F2, F3, rO, gD, gA, fun y hy => ?_, fun y hy => ?_⟩
  · by_cases e : y = b
    · subst e
      refine ⟨gb, F4, ?_, ?_, ?_⟩
      · rw [upd_at]; exact F5
      · rw [upd_at]; exact F6
      · rw [upd_at]; exact F7
    · have hy' : y ∈ pre ++ post := by
        rcases List.mem_append.mp hy with q | q
        · exact List.mem_append_left _ q
        · rcases List.mem_cons.mp q with q | q
          · exact absurd q e
          · exact List.mem_append_right _ q
      obtain ⟨g, E, T, n, p⟩ := rh y hy'
      have y1 : y ≠ l := ((a3 l hl).2.2 y hy').symm
      have ni : y ∉ [A, D, l] := ninS (a2 y hy').2 (ninS (a2 y hy').1 (ninS y1 nin0))
      refine ⟨g, E.keep K, ?_, ?_, ?_⟩
      · rw [upd_ne _ _ e]; exact T.keep K ni
      · rw [upd_ne _ _ e, upd_ne _ _ y1]; exact n.keep K ni
      · rw [upd_ne _ _ e, upd_ne _ _ y1]; exact p.keep K ni
  · obtain ⟨g, E, n, p⟩ := rl y hy
    have yb : y ≠ b := fun q => fr.2 (q ▸ hy)
    by_cases e1 : y = l
    · subst e1
      refine ⟨g, E.keep K, ?_, ?_⟩
      · rw [upd_ne _ _ yb, upd_at]; exact F8
      · rw [upd_ne _ _ yb, upd_at]; exact F9
    · have ni : y ∉ [A, D, l] := ninS (a3 y hy).2.1 (ninS (a3 y hy).1 (ninS e1 nin0))
      refine ⟨g, E.keep K, ?_, ?_⟩
      · rw [upd_ne _ _ yb, upd_ne _ _ e1]; exact n.keep K ni
      · rw [upd_ne _ _ yb, upd_ne _ _ e1]; exact p.keep K ni
theorem Rep.cut (hR : Rep Z h0 n0 D A kA hs τ N P ls) (ap : Apart D A hs ls) {l u w : Addr} (hl : l ∈ ls) (hu : u ∈ hs ∨ u ∈ ls) (hw : w ∈ hs ∨ w ∈ ls) (hul : u ≠ l) (hwl : w ≠ l) (huw : u ≠ w) (K : Keep h0 h [u, w, l])
    (F1 : Fld Z h l cL "next" dL .null) (F2 : Fld Z h l cL "prev" dL .null) (F3 : Fld Z h u cL "next" dL (.ref w)) (F4 : Fld Z h u cL "prev" dL (P u)) (F5 : Fld Z h w cL "next" dL (N w)) (F6 : Fld Z h w cL "prev" dL (.ref u)) (F7 : u ∈ hs → Fld Z h u cH "tick" "J" (.long (τ u))) (F8 : w ∈ hs → Fld Z h w cH "tick" "J" (.long (τ w))) :
    Rep Z h n0 D A kA hs τ (upd (upd N u (.ref w)) l .null) (upd (upd P w (.ref u)) l .null) ls := by
  obtain ⟨rE, rH, rC, rV, rO, gD, gA, rh, rl⟩ := hR
  obtain ⟨a1, a2, a3⟩ := ap
  have node : ∀ y, (y ∈ hs ∨ y ∈ ls) → D ≠ y ∧ A ≠ y := fun y hy => by
    rcases hy with q | q
    · exact ⟨(a2 y q).1.symm, (a2 y q).2.symm⟩
    · exact ⟨(a3 y q).1.symm, (a3 y q).2.1.symm⟩
  have nD : D ∉ [u, w, l] := ninS (node u hu).1 (ninS (node w hw).1 (ninS (a3 l hl).1.symm nin0))
  have nA : A ∉ [u, w, l] := ninS (node u hu).2 (ninS (node w hw).2 (ninS (a3 l hl).2.1.symm nin0))
  have key : ∀ y, y ≠ l → ∀ (n : Fld Z h0 y cL "next" dL (N y)) (p : Fld Z h0 y cL "prev" dL (P y)), Fld Z h y cL "next" dL (upd (upd N u (.ref w)) l .null y) ∧ Fld Z h y cL "prev" dL (upd (upd P w (.ref u)) l .null y) := fun y yl n p => by
    rw [upd_ne _ _ yl, upd_ne _ _ yl]
    by_cases e1 : y = u
    · subst e1
      rw [upd_at, upd_ne _ _ huw]; exact ⟨F3, F4⟩
    · rw [upd_ne _ _ e1]
      by_cases e2 : y = w
      · subst e2
        rw [upd_at]; exact ⟨F5, F6⟩
      · rw [upd_ne _ _ e2]
        have ni : y ∉ [u, w, l] := ninS e1 (ninS e2 (ninS yl nin0))
        exact ⟨n.keep K ni, p.keep K ni⟩
  refine ⟨rE.keep K, rH.keep K nD, rC.keep K nD, rV.keep K nA, rO, gD, gA, fun y hy => ?_, fun y hy => ?_⟩
  · obtain ⟨g, E, T, n, p⟩ := rh y hy
    have yl : y ≠ l := ((a3 l hl).2.2 y hy).symm
    have q := key y yl n p
    refine ⟨g, E.keep K, ?_, q.1, q.2⟩
    by_cases e1 : y = u
    · subst e1; exact F7 hy
    · by_cases e2 : y = w
      · subst e2; exact F8 hy
      · exact T.keep K (ninS e1 (ninS e2 (ninS yl nin0)))
  · obtain ⟨g, E, n, p⟩ := rl y hy
    by_cases yl : y = l
    · subst yl
      refine ⟨g, E.keep K, ?_, ?_⟩
      · rw [upd_at]; exact F1
      · rw [upd_at]; exact F2
    · have q := key y yl n p
      exact ⟨g, E.keep K, q.1, q.2⟩
theorem Rep.drop {pre post : List Addr} {x : Addr} (hR : Rep Z h0 n0 D A kA (pre ++ x :: post) τ N P ls) (ap : Apart D A (pre ++ x :: post) ls) (hnu : ∀ y ∈ pre ++ post, y ≠ x) {l : Addr} (hl : l ∈ ls) (K : Keep h0 h [x, l, D, A])
    (F1 : Fld Z h D cD "heads" dA (.ref A)) (F2 : Fld Z h D cD "count" "I" (.int (Int32.ofNat (pre ++ post).length))) (F3 : Arv Z h A kA (.object cH) (4 : Int32) ((pre ++ post).map Value.ref ++ List.replicate (4 - (pre ++ post).length) .null) .null)
    (F4 : Fld Z h l cL "next" dL .null) (F5 : Fld Z h l cL "prev" dL .null) :
    Rep Z h n0 D A kA (pre ++ post) τ (upd (upd N x (.ref x)) l .null) (upd (upd P x (.ref x)) l .null) ls := by
  obtain ⟨rE, rH, rC, rV, rO, gD, gA, rh, rl⟩ := hR
  obtain ⟨a1, a2, a3⟩ := ap
  have hsub : ∀ y, y ∈ pre ++ post → y ∈ pre ++ x :: post := fun y q => by
    rcases List.mem_append.mp q with z | z
    · exact List.mem_append_left _ z
    · exact List.mem_append_right _ (List.mem_cons_of_mem _ z)
  have hx : x ∈ pre ++ x :: post := by simp
  refine ⟨rE.keep K, F1, F2, F3, rO, gD, gA, fun y hy => ?_, fun y hy => ?_⟩
  · have hy' := hsub y hy
    obtain ⟨g, E, T, n, p⟩ := rh y hy'
    have y1 : y ≠ l := ((a3 l hl).2.2 y hy').symm
    have y2 := hnu y hy
    have ni : y ∉ [x, l, D, A] := ninS y2 (ninS y1 (ninS (a2 y hy').1 (ninS (a2 y hy').2 nin0)))
    refine ⟨g, E.keep K, T.keep K ni, ?_, ?_⟩
    · rw [upd_ne _ _ y1, upd_ne _ _ y2]; exact n.keep K ni
    · rw [upd_ne _ _ y1, upd_ne _ _ y2]; exact p.keep K ni
  · obtain ⟨g, E, n, p⟩ := rl y hy
    have y3 : y ≠ x := (a3 y hy).2.2 x hx
    by_cases e1 : y = l
    · subst e1
      refine ⟨g, E.keep K, ?_, ?_⟩
      · rw [upd_at]; exact F4
      · rw [upd_at]; exact F5
    · have ni : y ∉ [x, l, D, A] := ninS y3 (ninS e1 (ninS (a3 y hy).1 (ninS (a3 y hy).2.1 nin0)))
      refine ⟨g, E.keep K, ?_, ?_⟩
      · rw [upd_ne _ _ e1, upd_ne _ _ y3]; exact n.keep K ni
      · rw [upd_ne _ _ e1, upd_ne _ _ y3]; exact p.keep K ni
end RepLaws
/-- the last of a ring -/
theorem Inv.last {hs : List Addr} {τ : Addr → Int64} {N P : Addr → Value} {ls : List Addr} {tk : Addr → Option Int64} (I : Inv hs τ N P ls tk) {l x : Addr} (hn : tk l = none) (hx : x ∈ hs) : ∃ z, P x = .ref z ∧ z ∈ ls ∧ z ≠ l := by
  obtain ⟨i1, i2, i3, i4, i5⟩ := I
  obtain ⟨ms, m0, mn, mk, mm⟩ := i3 x hx
  have mk' : Lk N P ((x :: ms) ++ [x]) := mk
  obtain ⟨r, z, er, n1, p1⟩ := own_lk_prev (x :: ms) (by simp) mk'
  have hzm : z ∈ ms := by
    have : (x :: ms).getLast (by simp) = z := by simp [er]
    rw [List.getLast_cons m0] at this
    exact this ▸ List.getLast_mem m0
  have zl := (mm z).mp hzm
  exact ⟨z, p1, zl.1, fun e => by rw [e, hn] at zl; exact nomatch zl.2⟩
/-- both neighbours of a filed link -/
theorem Inv.sides {hs : List Addr} {τ : Addr → Int64} {N P : Addr → Value} {ls : List Addr} {tk : Addr → Option Int64} (I : Inv hs τ N P ls tk) {l : Addr} (hl : l ∈ ls) {t : Int64} (ht : tk l = some t) : ∃ u w, P l = .ref u ∧ N l = .ref w := by
  obtain ⟨x, hx, et, m1, m2, nd, hxm, k, hm⟩ := I.filed hl ht
  have k1 := (Lk.split (N := N) (P := P) l (m2 ++ [x]) (x :: m1)).mp k
  obtain ⟨r, u, e1, -, p1⟩ := own_lk_prev (x :: m1) (by simp) k1.1
  obtain ⟨w, r', e2, n1, -⟩ := own_lk_next (m2 ++ [x]) (by simp) k1.2
  exact ⟨u, w, p1, n1⟩

theorem own_pos1_0 (q t1 : Int64)  (h : fDue1 q t1 = (0 : Int32))  : q < t1 := by

  unfold fDue1 at h
  simp only [Int64.lt_iff_toInt_lt] at h ⊢
  repeat' split at h
  all_goals first | exact absurd h (by decide) | omega
theorem own_pos1_1 (q t1 : Int64)  (h : fDue1 q t1 = (1 : Int32)) (ne : ¬ (t1 = q)) : t1 < q := by

  have ne' : t1.toInt ≠ q.toInt := fun z => ne (Int64.toInt_inj.mp z)
  unfold fDue1 at h
  simp only [Int64.lt_iff_toInt_lt] at h ⊢
  repeat' split at h
  all_goals first | exact absurd h (by decide) | omega
theorem own_hd1_1 (t1 : Int64)  : fDue1 t1 t1 = (1 : Int32) := by

  unfold fDue1
  simp only [Int64.lt_iff_toInt_lt]
  repeat' split
  all_goals first | rfl | (exfalso; omega)
theorem own_pos2_0 (q t1 t2 : Int64) (s1 : t1 < t2) (h : fDue2 q t1 t2 = (0 : Int32))  : q < t1 ∧ q < t2 := by
  rw [Int64.lt_iff_toInt_lt] at s1
  unfold fDue2 at h
  simp only [Int64.lt_iff_toInt_lt] at h ⊢
  repeat' split at h
  all_goals first | exact absurd h (by decide) | omega
theorem own_pos2_1 (q t1 t2 : Int64) (s1 : t1 < t2) (h : fDue2 q t1 t2 = (1 : Int32)) (ne : ¬ (t1 = q)) : t1 < q ∧ q < t2 := by
  rw [Int64.lt_iff_toInt_lt] at s1
  have ne' : t1.toInt ≠ q.toInt := fun z => ne (Int64.toInt_inj.mp z)
  unfold fDue2 at h
  simp only [Int64.lt_iff_toInt_lt] at h ⊢
  repeat' split at h
  all_goals first | exact absurd h (by decide) | omega
theorem own_pos2_2 (q t1 t2 : Int64) (s1 : t1 < t2) (h : fDue2 q t1 t2 = (2 : Int32)) (ne : ¬ (t2 = q)) : t1 < q ∧ t2 < q := by
  rw [Int64.lt_iff_toInt_lt] at s1
  have ne' : t2.toInt ≠ q.toInt := fun z => ne (Int64.toInt_inj.mp z)
  unfold fDue2 at h
  simp only [Int64.lt_iff_toInt_lt] at h ⊢
  repeat' split at h
  all_goals first | exact absurd h (by decide) | omega
theorem own_hd2_1 (t1 t2 : Int64) (s1 : t1 < t2) : fDue2 t1 t1 t2 = (1 : Int32) := by
  rw [Int64.lt_iff_toInt_lt] at s1
  unfold fDue2
  simp only [Int64.lt_iff_toInt_lt]
  repeat' split
  all_goals first | rfl | (exfalso; omega)
theorem own_hd2_2 (t1 t2 : Int64) (s1 : t1 < t2) : fDue2 t2 t1 t2 = (2 : Int32) := by
  rw [Int64.lt_iff_toInt_lt] at s1
  unfold fDue2
  simp only [Int64.lt_iff_toInt_lt]
  repeat' split
  all_goals first | rfl | (exfalso; omega)
theorem own_pos3_0 (q t1 t2 t3 : Int64) (s1 : t1 < t2) (s2 : t2 < t3) (h : fDue3 q t1 t2 t3 = (0 : Int32))  : q < t1 ∧ q < t2 ∧ q < t3 := by
  rw [Int64.lt_iff_toInt_lt] at s1
  rw [Int64.lt_iff_toInt_lt] at s2
  unfold fDue3 at h
  simp only [Int64.lt_iff_toInt_lt] at h ⊢
  repeat' split at h
  all_goals first | exact absurd h (by decide) | omega
theorem own_pos3_1 (q t1 t2 t3 : Int64) (s1 : t1 < t2) (s2 : t2 < t3) (h : fDue3 q t1 t2 t3 = (1 : Int32)) (ne : ¬ (t1 = q)) : t1 < q ∧ q < t2 ∧ q < t3 := by
  rw [Int64.lt_iff_toInt_lt] at s1
  rw [Int64.lt_iff_toInt_lt] at s2
  have ne' : t1.toInt ≠ q.toInt := fun z => ne (Int64.toInt_inj.mp z)
  unfold fDue3 at h
  simp only [Int64.lt_iff_toInt_lt] at h ⊢
  repeat' split at h
  all_goals first | exact absurd h (by decide) | omega
theorem own_pos3_2 (q t1 t2 t3 : Int64) (s1 : t1 < t2) (s2 : t2 < t3) (h : fDue3 q t1 t2 t3 = (2 : Int32)) (ne : ¬ (t2 = q)) : t1 < q ∧ t2 < q ∧ q < t3 := by
  rw [Int64.lt_iff_toInt_lt] at s1
  rw [Int64.lt_iff_toInt_lt] at s2
  have ne' : t2.toInt ≠ q.toInt := fun z => ne (Int64.toInt_inj.mp z)
  unfold fDue3 at h
  simp only [Int64.lt_iff_toInt_lt] at h ⊢
  repeat' split at h
  all_goals first | exact absurd h (by decide) | omega
theorem own_pos3_3 (q t1 t2 t3 : Int64) (s1 : t1 < t2) (s2 : t2 < t3) (h : fDue3 q t1 t2 t3 = (3 : Int32)) (ne : ¬ (t3 = q)) : t1 < q ∧ t2 < q ∧ t3 < q := by
  rw [Int64.lt_iff_toInt_lt] at s1
  rw [Int64.lt_iff_toInt_lt] at s2
  have ne' : t3.toInt ≠ q.toInt := fun z => ne (Int64.toInt_inj.mp z)
  unfold fDue3 at h
  simp only [Int64.lt_iff_toInt_lt] at h ⊢
  repeat' split at h
  all_goals first | exact absurd h (by decide) | omega
theorem own_hd3_1 (t1 t2 t3 : Int64) (s1 : t1 < t2) (s2 : t2 < t3) : fDue3 t1 t1 t2 t3 = (1 : Int32) := by
  rw [Int64.lt_iff_toInt_lt] at s1
  rw [Int64.lt_iff_toInt_lt] at s2
  unfold fDue3
  simp only [Int64.lt_iff_toInt_lt]
  repeat' split
  all_goals first | rfl | (exfalso; omega)
theorem own_hd3_2 (t1 t2 t3 : Int64) (s1 : t1 < t2) (s2 : t2 < t3) : fDue3 t2 t1 t2 t3 = (2 : Int32) := by
  rw [Int64.lt_iff_toInt_lt] at s1
  rw [Int64.lt_iff_toInt_lt] at s2
  unfold fDue3
  simp only [Int64.lt_iff_toInt_lt]
  repeat' split
  all_goals first | rfl | (exfalso; omega)
theorem own_hd3_3 (t1 t2 t3 : Int64) (s1 : t1 < t2) (s2 : t2 < t3) : fDue3 t3 t1 t2 t3 = (3 : Int32) := by
  rw [Int64.lt_iff_toInt_lt] at s1
  rw [Int64.lt_iff_toInt_lt] at s2
  unfold fDue3
  simp only [Int64.lt_iff_toInt_lt]
  repeat' split
  all_goals first | rfl | (exfalso; omega)
theorem own_hne {τ : Addr → Int64} {a b : Addr} (h : τ a < τ b) : a ≠ b := fun e => by rw [e] at h; exact Int64.lt_irrefl h
theorem own_nu {τ : Addr → Int64} {pre post : List Addr} {x : Addr} (h : (pre ++ x :: post).Pairwise (fun a b => τ a < τ b)) : ∀ y ∈ pre ++ post, y ≠ x := fun y q e => by
  rw [List.pairwise_append, List.pairwise_cons] at h
  rcases List.mem_append.mp q with z | z
  · have := h.2.2 y z x (by simp)
    rw [e] at this; exact Int64.lt_irrefl this
  · have := h.2.1.1 y z
    rw [e] at this; exact Int64.lt_irrefl this
def QFileR (Z : State) (a0 a1 : Addr) (q2 : Int64) (ar : Addr) (kA : ClassId) (ls : List Addr) (tk : Addr → Option Int64) (k : Nat) (h0 : Heap) (n0 : Nat) (v : Option Value) (h : Heap) (L : List Loc) : Prop :=
  ∃ (hs : List Addr) (τ : Addr → Int64) (N P : Addr → Value), v = none ∧ Fr n0 L ∧ h0.size ≤ h.size ∧ Rep Z h n0 a0 ar kA hs τ N P ls ∧ Inv hs τ N P ls (upd tk a1 (some q2)) ∧ hs.length ≤ k + 1
set_option maxRecDepth 65536 in
set_option maxHeartbeats 40000000 in
theorem rmFileR (l : Launch) (Z : State) (az : Array Value) (hw : ∀ d ∈ tables_1, d.before az Z = true) (ws : List Jvm.Cond) (a0 a1 : Addr) (q2 : Int64) (ar : Addr) (kA : ClassId) (hs : List Addr) (τ : Addr → Int64) (N P : Addr → Value) (ls : List Addr) (tk : Addr → Option Int64) (h0 : Heap) (n0 : Nat) (Z0 : n0 ≤ h0.size) (hR : Rep Z h0 n0 a0 ar kA hs τ N P ls) (hI : Inv hs τ N P ls tk) (hl : a1 ∈ ls) (ht : tk a1 = none) (hn : hs.length ≤ 2) :
    MetFree l y2 (head1 (Jvm.Cond.code y2 prog_4_method_5_code 5 none :: ws) ({ frames := 4, cells := 1, slots := 3, locals := 55 } : Room)) (fun a U => a = #[(.ref a0), (.ref a1), (.long q2)] ∧ Z.Warmed39 U.vm ∧ U.heap = h0) (fun _ _ _ _ _ => True) (fun _ U o U' => ∃ v L, o = .returned v ∧ QFileR Z a0 a1 q2 ar kA ls tk hs.length h0 n0 v U'.heap L ∧ FrameEnd U o U' L ({ frames := 4, cells := 1, slots := 3, locals := 55 } : Room).cells ({ frames := 4, cells := 1, slots := 3, locals := 55 } : Room).slots) := by
  have ap := hR.apart (wq hw 1 rfl) (wq hw 39 rfl) (wq hw 14 rfl)
  have hR' := hR
  obtain ⟨rE, rH, rC, rV, rO, gD, gA, rh, rl⟩ := hR'
  have ap' := ap
  obtain ⟨p1, p2, p3⟩ := ap'
  obtain ⟨gl, El, Nl, Pl⟩ := rl a1 hl
  rcases hs with _ | ⟨x1, _ | ⟨x2, _ | ⟨x3, r⟩⟩⟩
  · refine own_weak (rmFile0 l Z az hw ws a0 a1 q2 ar kA (N a1) (P a1) h0 n0 Z0 rE rH rC rV rO El Nl Pl p1 (p3 a1 hl).1 (p3 a1 hl).2.1 gD gA gl) (fun _ _ _ _ _ hq => ?_)
    obtain ⟨v, L, ho, hQ, hF⟩ := hq
    refine ⟨v, L, ho, ?_, hF⟩
    rcases hQ with ⟨b, hv, hN, K, sz, F1, F2, F3, F4, F5, F6, F7, F8, F9⟩
    exact ⟨[] ++ b :: [], _, _, _, hv, hN, K.1, Rep.new (pre := []) (post := []) hR ap hl K sz (Nat.le_trans Z0 sz) F1 F2 F3 F4 F5 F6 F7 F8 F9, Inv.insert (pre := []) (post := []) hI hl ht all0 all0 (hR.fresh sz).1 (hR.fresh sz).2, Nat.le_refl _⟩
  · have m1 : x1 ∈ [x1] := by simp
    obtain ⟨g1, E1, T1, N1, P1⟩ := rh x1 m1
    obtain ⟨z1, ez1, hz1, nz1⟩ := hI.last ht m1
    rw [ez1] at P1
    obtain ⟨gz1, Ez1, Nz1, Pz1⟩ := rl z1 hz1
    refine own_weak (rmFile1 l Z az hw ws a0 a1 q2 ar kA x1 (τ x1) (N a1) (P a1) z1 (N z1) (N x1) (P z1) h0 n0 Z0 rE rH rC rV rO E1 T1 El Nl Pl P1 Ez1 Nz1 N1 Pz1 p1 (p2 x1 m1).1 (p2 x1 m1).2 (p3 a1 hl).1 (p3 a1 hl).2.1 ((p3 a1 hl).2.2 x1 m1) (Ne.symm nz1) (Ne.symm ((p3 z1 hz1).2.2 x1 m1)) gD gA gl g1 gz1) (fun _ _ _ _ _ hq => ?_)
    obtain ⟨v, L, ho, hQ, hF⟩ := hq
    refine ⟨v, L, ho, ?_, hF⟩
    rcases hQ with ⟨c0, hv, hN, K, F1, F2, F3, F4, F5, F6, F7⟩ | ⟨b, c0, c1, hv, hN, K, sz, F1, F2, F3, F4, F5, F6, F7, F8, F9⟩ | ⟨b, c0, c1, hv, hN, K, sz, F1, F2, F3, F4, F5, F6, F7, F8, F9⟩
    · exact ⟨[x1], τ, _, _, hv, hN, K.1, hR.old ap hl m1 hz1 nz1 K F1 F2 F3 F4 F5 F6 F7, (hI.append hl ht m1 c0 ez1).2.2, Nat.le_succ _⟩
    · have hp := own_pos1_0 q2 (τ x1)  c1 
      exact ⟨[] ++ b :: [x1], _, _, _, hv, hN, K.1, Rep.new (pre := []) (post := [x1]) hR ap hl K sz (Nat.le_trans Z0 sz) F1 F2 F3 F4 F5 F6 F7 F8 F9, Inv.insert (pre := []) (post := [x1]) hI hl ht all0 (allS (hp) all0) (hR.fresh sz).1 (hR.fresh sz).2, Nat.le_refl _⟩
    · have hp := own_pos1_1 q2 (τ x1)  c1 c0
      exact ⟨[x1] ++ b :: [], _, _, _, hv, hN, K.1, Rep.new (pre := [x1]) (post := []) hR ap hl K sz (Nat.le_trans Z0 sz) F1 F2 F3 F4 F5 F6 F7 F8 F9, Inv.insert (pre := [x1]) (post := []) hI hl ht (allS (hp) all0) all0 (hR.fresh sz).1 (hR.fresh sz).2, Nat.le_refl _⟩
  · have m1 : x1 ∈ [x1, x2] := by simp
    obtain ⟨g1, E1, T1, N1, P1⟩ := rh x1 m1
    have m2 : x2 ∈ [x1, x2] := by simp
    obtain ⟨g2, E2, T2, N2, P2⟩ := rh x2 m2
    have s1 : τ x1 < τ x2 := (List.pairwise_cons.mp hI.1).1 x2 (by simp)
    obtain ⟨z1, ez1, hz1, nz1⟩ := hI.last ht m1
    rw [ez1] at P1
    obtain ⟨gz1, Ez1, Nz1, Pz1⟩ := rl z1 hz1
    obtain ⟨z2, ez2, hz2, nz2⟩ := hI.last ht m2
    rw [ez2] at P2
    obtain ⟨gz2, Ez2, Nz2, Pz2⟩ := rl z2 hz2
    refine own_weak (rmFile2 l Z az hw ws a0 a1 q2 ar kA x1 x2 (τ x1) (τ x2) (N a1) (P a1) z1 z2 (N z1) (N z2) (N x1) (N x2) (P z1) (P z2) h0 n0 Z0 rE rH rC rV rO E1 T1 E2 T2 El Nl Pl P1 Ez1 Nz1 N1 Pz1 P2 Ez2 Nz2 N2 Pz2 p1 (p2 x1 m1).1 (p2 x2 m2).1 (p2 x1 m1).2 (p2 x2 m2).2 (p3 a1 hl).1 (p3 a1 hl).2.1 ((p3 a1 hl).2.2 x1 m1) (Ne.symm nz1) (Ne.symm ((p3 z1 hz1).2.2 x1 m1)) ((p3 a1 hl).2.2 x2 m2) (Ne.symm nz2) (Ne.symm ((p3 z2 hz2).2.2 x2 m2)) gD gA gl g1 g2 gz1 gz2) (fun _ _ _ _ _ hq => ?_)
    obtain ⟨v, L, ho, hQ, hF⟩ := hq
    refine ⟨v, L, ho, ?_, hF⟩
    rcases hQ with ⟨c0, hv, hN, K, F1, F2, F3, F4, F5, F6, F7⟩ | ⟨b, c0, c1, hv, hN, K, sz, F1, F2, F3, F4, F5, F6, F7, F8, F9⟩ | ⟨c0, c1, c2, hv, hN, K, F1, F2, F3, F4, F5, F6, F7⟩ | ⟨b, c0, c1, c2, hv, hN, K, sz, F1, F2, F3, F4, F5, F6, F7, F8, F9⟩ | ⟨b, c0, c1, hv, hN, K, sz, F1, F2, F3, F4, F5, F6, F7, F8, F9⟩
    · exact ⟨[x1, x2], τ, _, _, hv, hN, K.1, hR.old ap hl m2 hz2 nz2 K F1 F2 F3 F4 F5 F6 F7, (hI.append hl ht m2 c0 ez2).2.2, Nat.le_succ _⟩
    · have hp := own_pos2_0 q2 (τ x1) (τ x2) s1 c1 
      exact ⟨[] ++ b :: [x1, x2], _, _, _, hv, hN, K.1, Rep.new (pre := []) (post := [x1, x2]) hR ap hl K sz (Nat.le_trans Z0 sz) F1 F2 F3 F4 F5 F6 F7 F8 F9, Inv.insert (pre := []) (post := [x1, x2]) hI hl ht all0 (allS (hp.1) (allS (hp.2) all0)) (hR.fresh sz).1 (hR.fresh sz).2, Nat.le_refl _⟩
    · exact ⟨[x1, x2], τ, _, _, hv, hN, K.1, hR.old ap hl m1 hz1 nz1 K F1 F2 F3 F4 F5 F6 F7, (hI.append hl ht m1 c2 ez1).2.2, Nat.le_succ _⟩
    · have hp := own_pos2_1 q2 (τ x1) (τ x2) s1 c1 c2
      exact ⟨[x1] ++ b :: [x2], _, _, _, hv, hN, K.1, Rep.new (pre := [x1]) (post := [x2]) hR ap hl K sz (Nat.le_trans Z0 sz) F1 F2 F3 F4 F5 F6 F7 F8 F9, Inv.insert (pre := [x1]) (post := [x2]) hI hl ht (allS (hp.1) all0) (allS (hp.2) all0) (hR.fresh sz).1 (hR.fresh sz).2, Nat.le_refl _⟩
    · have hp := own_pos2_2 q2 (τ x1) (τ x2) s1 c1 c0
      exact ⟨[x1, x2] ++ b :: [], _, _, _, hv, hN, K.1, Rep.new (pre := [x1, x2]) (post := []) hR ap hl K sz (Nat.le_trans Z0 sz) F1 F2 F3 F4 F5 F6 F7 F8 F9, Inv.insert (pre := [x1, x2]) (post := []) hI hl ht (allS (hp.1) (allS (hp.2) all0)) all0 (hR.fresh sz).1 (hR.fresh sz).2, Nat.le_refl _⟩
  · exact absurd hn (by simp)
def QRemR (Z : State) (a0 a1 : Addr) (ar : Addr) (kA : ClassId) (ls : List Addr) (tk : Addr → Option Int64) (k : Nat) (h0 : Heap) (n0 : Nat) (v : Option Value) (h : Heap) (L : List Loc) : Prop :=
  ∃ (hs : List Addr) (τ : Addr → Int64) (N P : Addr → Value), v = none ∧ Fr n0 L ∧ h0.size ≤ h.size ∧ Rep Z h n0 a0 ar kA hs τ N P ls ∧ Inv hs τ N P ls (upd tk a1 none) ∧ hs.length ≤ k
set_option maxRecDepth 65536 in
set_option maxHeartbeats 40000000 in
theorem rmRemR (l : Launch) (Z : State) (az : Array Value) (hw : ∀ d ∈ tables_1, d.before az Z = true) (ws : List Jvm.Cond) (a0 a1 : Addr) (t : Int64) (ar : Addr) (kA : ClassId) (hs : List Addr) (τ : Addr → Int64) (N P : Addr → Value) (ls : List Addr) (tk : Addr → Option Int64) (h0 : Heap) (n0 : Nat) (Z0 : n0 ≤ h0.size) (hR : Rep Z h0 n0 a0 ar kA hs τ N P ls) (hI : Inv hs τ N P ls tk) (hl : a1 ∈ ls) (ht : tk a1 = some t) (hn : hs.length ≤ 3) :
    MetFree l y7 (head1 (Jvm.Cond.code y7 prog_4_method_6_code 3 none :: ws) ({ frames := 2, cells := 0, slots := 0, locals := 32 } : Room)) (fun a U => a = #[(.ref a0), (.ref a1)] ∧ Z.Warmed39 U.vm ∧ U.heap = h0) (fun _ _ _ _ _ => True) (fun _ U o U' => ∃ v L, o = .returned v ∧ QRemR Z a0 a1 ar kA ls tk hs.length h0 n0 v U'.heap L ∧ FrameEnd U o U' L ({ frames := 2, cells := 0, slots := 0, locals := 32 } : Room).cells ({ frames := 2, cells := 0, slots := 0, locals := 32 } : Room).slots) := by
  have ap := hR.apart (wq hw 1 rfl) (wq hw 39 rfl) (wq hw 14 rfl)
  have hR' := hR
  obtain ⟨rE, rH, rC, rV, rO, gD, gA, rh, rl⟩ := hR'
  have ap' := ap
  obtain ⟨p1, p2, p3⟩ := ap'
  obtain ⟨gl, El, Nl, Pl⟩ := rl a1 hl
  obtain ⟨u, w, eu, ew⟩ := hI.sides hl ht
  obtain ⟨c1, c2, c3, c4, c5, c6⟩ := hI.cut hl ht eu ew
  rw [eu] at Pl
  rw [ew] at Nl
  by_cases e : u = w
  · subst e
    obtain ⟨hu, etu, hdrop⟩ := c6 rfl
    rcases hs with _ | ⟨x1, _ | ⟨x2, _ | ⟨x3, _ | ⟨x4, r⟩⟩⟩⟩
    · exact nomatch hu
    · have m1 : x1 ∈ [x1] := by simp
      obtain ⟨g1, E1, T1, N1, P1⟩ := rh x1 m1
      have hu' : u = x1 := by simpa using hu
      have e1 := hu'
      rw [e1] at Pl Nl hdrop
      refine own_weak (rmRemL1_1 l Z az hw ws a0 a1 ar kA x1 (τ x1) (N x1) (P x1) h0 n0 Z0 rE rH rC rV rO E1 T1 El Pl Nl N1 P1 p1 (p2 x1 m1).1 (p2 x1 m1).2 (p3 a1 hl).1 (p3 a1 hl).2.1 ((p3 a1 hl).2.2 x1 m1) gD gA gl g1 (own_hd1_1 (τ x1) )) (fun _ _ _ _ _ hq => ?_)
      obtain ⟨v, L, ho, hQ, hF⟩ := hq
      refine ⟨v, L, ho, ?_, hF⟩
      obtain ⟨hv, hN, K, F1, F2, F3, F4, F5⟩ := hQ
      exact ⟨[] ++ [], τ, _, _, hv, hN, K.1, Rep.drop (pre := []) (post := []) hR ap (own_nu (pre := []) (post := []) hI.1) hl K F1 F2 F3 F4 F5, hdrop [] [] rfl, Nat.le_succ _⟩
    · have m1 : x1 ∈ [x1, x2] := by simp
      obtain ⟨g1, E1, T1, N1, P1⟩ := rh x1 m1
      have m2 : x2 ∈ [x1, x2] := by simp
      obtain ⟨g2, E2, T2, N2, P2⟩ := rh x2 m2
      have s1 : τ x1 < τ x2 := (List.pairwise_cons.mp hI.1).1 x2 (by simp)
      have hu' : u = x1 ∨ u = x2 := by simpa using hu
      rcases hu' with e1 | e2
      · rw [e1] at Pl Nl hdrop
        refine own_weak (rmRemL2_1 l Z az hw ws a0 a1 ar kA x1 x2 (τ x1) (τ x2) (N x1) (P x1) h0 n0 Z0 rE rH rC rV rO E1 T1 E2 T2 El Pl Nl N1 P1 p1 (p2 x1 m1).1 (p2 x2 m2).1 (p2 x1 m1).2 (p2 x2 m2).2 (p3 a1 hl).1 (p3 a1 hl).2.1 ((p3 a1 hl).2.2 x1 m1) ((p3 a1 hl).2.2 x2 m2) (own_hne s1) gD gA gl g1 (own_hd2_1 (τ x1) (τ x2) s1)) (fun _ _ _ _ _ hq => ?_)
        obtain ⟨v, L, ho, hQ, hF⟩ := hq
        refine ⟨v, L, ho, ?_, hF⟩
        obtain ⟨hv, hN, K, F1, F2, F3, F4, F5⟩ := hQ
        exact ⟨[] ++ [x2], τ, _, _, hv, hN, K.1, Rep.drop (pre := []) (post := [x2]) hR ap (own_nu (pre := []) (post := [x2]) hI.1) hl K F1 F2 F3 F4 F5, hdrop [] [x2] rfl, Nat.le_succ _⟩
      · rw [e2] at Pl Nl hdrop
        refine own_weak (rmRemL2_2 l Z az hw ws a0 a1 ar kA x1 x2 (τ x1) (τ x2) (N x2) (P x2) h0 n0 Z0 rE rH rC rV rO E1 T1 E2 T2 El Pl Nl N2 P2 p1 (p2 x1 m1).1 (p2 x2 m2).1 (p2 x1 m1).2 (p2 x2 m2).2 (p3 a1 hl).1 (p3 a1 hl).2.1 ((p3 a1 hl).2.2 x1 m1) ((p3 a1 hl).2.2 x2 m2) (Ne.symm (own_hne s1)) gD gA gl g2 (own_hd2_2 (τ x1) (τ x2) s1)) (fun _ _ _ _ _ hq => ?_)
        obtain ⟨v, L, ho, hQ, hF⟩ := hq
        refine ⟨v, L, ho, ?_, hF⟩
        obtain ⟨hv, hN, K, F1, F2, F3, F4, F5⟩ := hQ
        exact ⟨[x1] ++ [], τ, _, _, hv, hN, K.1, Rep.drop (pre := [x1]) (post := []) hR ap (own_nu (pre := [x1]) (post := []) hI.1) hl K F1 F2 F3 F4 F5, hdrop [x1] [] rfl, Nat.le_succ _⟩
    · have m1 : x1 ∈ [x1, x2, x3] := by simp
      obtain ⟨g1, E1, T1, N1, P1⟩ := rh x1 m1
      have m2 : x2 ∈ [x1, x2, x3] := by simp
      obtain ⟨g2, E2, T2, N2, P2⟩ := rh x2 m2
      have m3 : x3 ∈ [x1, x2, x3] := by simp
      obtain ⟨g3, E3, T3, N3, P3⟩ := rh x3 m3
      have s1 : τ x1 < τ x2 := (List.pairwise_cons.mp hI.1).1 x2 (by simp)
      have s2 : τ x2 < τ x3 := (List.pairwise_cons.mp (List.pairwise_cons.mp hI.1).2).1 x3 (by simp)
      have hu' : u = x1 ∨ u = x2 ∨ u = x3 := by simpa using hu
      rcases hu' with e1 | e2 | e3
      · rw [e1] at Pl Nl hdrop
        refine own_weak (rmRemL3_1 l Z az hw ws a0 a1 ar kA x1 x2 x3 (τ x1) (τ x2) (τ x3) (N x1) (P x1) h0 n0 Z0 rE rH rC rV rO E1 T1 E2 T2 E3 T3 El Pl Nl N1 P1 p1 (p2 x1 m1).1 (p2 x2 m2).1 (p2 x3 m3).1 (p2 x1 m1).2 (p2 x2 m2).2 (p2 x3 m3).2 (p3 a1 hl).1 (p3 a1 hl).2.1 ((p3 a1 hl).2.2 x1 m1) ((p3 a1 hl).2.2 x2 m2) ((p3 a1 hl).2.2 x3 m3) (own_hne s1) (own_hne (Int64.lt_trans s1 s2)) gD gA gl g1 (own_hd3_1 (τ x1) (τ x2) (τ x3) s1 s2)) (fun _ _ _ _ _ hq => ?_)
        obtain ⟨v, L, ho, hQ, hF⟩ := hq
        refine ⟨v, L, ho, ?_, hF⟩
        obtain ⟨hv, hN, K, F1, F2, F3, F4, F5⟩ := hQ
        exact ⟨[] ++ [x2, x3], τ, _, _, hv, hN, K.1, Rep.drop (pre := []) (post := [x2, x3]) hR ap (own_nu (pre := []) (post := [x2, x3]) hI.1) hl K F1 F2 F3 F4 F5, hdrop [] [x2, x3] rfl, Nat.le_succ _⟩
      · rw [e2] at Pl Nl hdrop
        refine own_weak (rmRemL3_2 l Z az hw ws a0 a1 ar kA x1 x2 x3 (τ x1) (τ x2) (τ x3) (N x2) (P x2) h0 n0 Z0 rE rH rC rV rO E1 T1 E2 T2 E3 T3 El Pl Nl N2 P2 p1 (p2 x1 m1).1 (p2 x2 m2).1 (p2 x3 m3).1 (p2 x1 m1).2 (p2 x2 m2).2 (p2 x3 m3).2 (p3 a1 hl).1 (p3 a1 hl).2.1 ((p3 a1 hl).2.2 x1 m1) ((p3 a1 hl).2.2 x2 m2) ((p3 a1 hl).2.2 x3 m3) (Ne.symm (own_hne s1)) (own_hne s2) gD gA gl g2 (own_hd3_2 (τ x1) (τ x2) (τ x3) s1 s2)) (fun _ _ _ _ _ hq => ?_)
        obtain ⟨v, L, ho, hQ, hF⟩ := hq
        refine ⟨v, L, ho, ?_, hF⟩
        obtain ⟨hv, hN, K, F1, F2, F3, F4, F5⟩ := hQ
        exact ⟨[x1] ++ [x3], τ, _, _, hv, hN, K.1, Rep.drop (pre := [x1]) (post := [x3]) hR ap (own_nu (pre := [x1]) (post := [x3]) hI.1) hl K F1 F2 F3 F4 F5, hdrop [x1] [x3] rfl, Nat.le_succ _⟩
      · rw [e3] at Pl Nl hdrop
        refine own_weak (rmRemL3_3 l Z az hw ws a0 a1 ar kA x1 x2 x3 (τ x1) (τ x2) (τ x3) (N x3) (P x3) h0 n0 Z0 rE rH rC rV rO E1 T1 E2 T2 E3 T3 El Pl Nl N3 P3 p1 (p2 x1 m1).1 (p2 x2 m2).1 (p2 x3 m3).1 (p2 x1 m1).2 (p2 x2 m2).2 (p2 x3 m3).2 (p3 a1 hl).1 (p3 a1 hl).2.1 ((p3 a1 hl).2.2 x1 m1) ((p3 a1 hl).2.2 x2 m2) ((p3 a1 hl).2.2 x3 m3) (Ne.symm (own_hne (Int64.lt_trans s1 s2))) (Ne.symm (own_hne s2)) gD gA gl g3 (own_hd3_3 (τ x1) (τ x2) (τ x3) s1 s2)) (fun _ _ _ _ _ hq => ?_)
        obtain ⟨v, L, ho, hQ, hF⟩ := hq
        refine ⟨v, L, ho, ?_, hF⟩
        obtain ⟨hv, hN, K, F1, F2, F3, F4, F5⟩ := hQ
        exact ⟨[x1, x2] ++ [], τ, _, _, hv, hN, K.1, Rep.drop (pre := [x1, x2]) (post := []) hR ap (own_nu (pre := [x1, x2]) (post := []) hI.1) hl K F1 F2 F3 F4 F5, hdrop [x1, x2] [] rfl, Nat.le_succ _⟩
    · exact absurd hn (by simp)
  · rcases c3 with hu | hu <;> rcases c4 with hv | hv
    · obtain ⟨gu, Eu, Tu, Nu, Pu⟩ := rh u hu
      obtain ⟨gv, Ev, Tv, Nv, Pv⟩ := rh w hv
      refine own_weak (rmRemHH l Z az hw ws a0 a1 u w (N u) (P u) (N w) (P w) (τ u) (τ w)  h0 n0 Z0 El Pl Nl Eu Nu Pu Ev Nv Pv Tu Tv  (Ne.symm c1) (Ne.symm c2) e gl gu gv) (fun _ _ _ _ _ hq => ?_)
      obtain ⟨v, L, ho, hQ, hF⟩ := hq
      refine ⟨v, L, ho, ?_, hF⟩
      obtain ⟨hv', hN, K, F1, F2, F3, F4, F5, F6, Fu, Fv⟩ := hQ
      exact ⟨hs, τ, _, _, hv', hN, K.1, hR.cut ap hl (Or.inl hu) (Or.inl hv) c1 c2 e K F1 F2 F3 F4 F5 F6 (fun _ => Fu) (fun _ => Fv), c5 e, Nat.le_refl _⟩
    · obtain ⟨gu, Eu, Tu, Nu, Pu⟩ := rh u hu
      obtain ⟨gv, Ev, Nv, Pv⟩ := rl w hv
      refine own_weak (rmRemHL l Z az hw ws a0 a1 u w (N u) (P u) (N w) (P w) (τ u)  h0 n0 Z0 El Pl Nl Eu Nu Pu Ev Nv Pv Tu  (Ne.symm c1) (Ne.symm c2) e gl gu gv) (fun _ _ _ _ _ hq => ?_)
      obtain ⟨v, L, ho, hQ, hF⟩ := hq
      refine ⟨v, L, ho, ?_, hF⟩
      obtain ⟨hv', hN, K, F1, F2, F3, F4, F5, F6, Fu⟩ := hQ
      exact ⟨hs, τ, _, _, hv', hN, K.1, hR.cut ap hl (Or.inl hu) (Or.inr hv) c1 c2 e K F1 F2 F3 F4 F5 F6 (fun _ => Fu) (fun q => absurd rfl ((p3 w hv).2.2 w q)), c5 e, Nat.le_refl _⟩
    · obtain ⟨gu, Eu, Nu, Pu⟩ := rl u hu
      obtain ⟨gv, Ev, Tv, Nv, Pv⟩ := rh w hv
      refine own_weak (rmRemLH l Z az hw ws a0 a1 u w (N u) (P u) (N w) (P w) (τ w)  h0 n0 Z0 El Pl Nl Eu Nu Pu Ev Nv Pv Tv  (Ne.symm c1) (Ne.symm c2) e gl gu gv) (fun _ _ _ _ _ hq => ?_)
      obtain ⟨v, L, ho, hQ, hF⟩ := hq
      refine ⟨v, L, ho, ?_, hF⟩
      obtain ⟨hv', hN, K, F1, F2, F3, F4, F5, F6, Fv⟩ := hQ
      exact ⟨hs, τ, _, _, hv', hN, K.1, hR.cut ap hl (Or.inr hu) (Or.inl hv) c1 c2 e K F1 F2 F3 F4 F5 F6 (fun q => absurd rfl ((p3 u hu).2.2 u q)) (fun _ => Fv), c5 e, Nat.le_refl _⟩
    · obtain ⟨gu, Eu, Nu, Pu⟩ := rl u hu
      obtain ⟨gv, Ev, Nv, Pv⟩ := rl w hv
      refine own_weak (rmRemLL l Z az hw ws a0 a1 u w (N u) (P u) (N w) (P w)  h0 n0 Z0 El Pl Nl Eu Nu Pu Ev Nv Pv  (Ne.symm c1) (Ne.symm c2) e gl gu gv) (fun _ _ _ _ _ hq => ?_)
      obtain ⟨v, L, ho, hQ, hF⟩ := hq
      refine ⟨v, L, ho, ?_, hF⟩
      obtain ⟨hv', hN, K, F1, F2, F3, F4, F5, F6⟩ := hQ
      exact ⟨hs, τ, _, _, hv', hN, K.1, hR.cut ap hl (Or.inr hu) (Or.inr hv) c1 c2 e K F1 F2 F3 F4 F5 F6 (fun q => absurd rfl ((p3 u hu).2.2 u q)) (fun q => absurd rfl ((p3 w hv).2.2 w q)), c5 e, Nat.le_refl _⟩
theorem Inv.none {τ : Addr → Int64} {P : Addr → Value} (ls : List Addr) : Inv [] τ (fun _ => .null) P ls (fun _ => none) :=
  ⟨List.Pairwise.nil, (fun _ q => nomatch q), (fun _ q => nomatch q), (fun _ _ _ => rfl), (fun _ _ _ q => nomatch q)⟩
theorem Rep.nextN {Z : State} {h : Heap} {n0 : Nat} {D A : Addr} {kA : ClassId} {hs : List Addr} {τ : Addr → Int64} {N P : Addr → Value} {ls : List Addr} {tk : Addr → Option Int64} (hR : Rep Z h n0 D A kA hs τ N P ls) (hI : Inv hs τ N P ls tk) {l : Addr} (hl : l ∈ ls) (ht : tk l = none) : Fld Z h l cL "next" dL .null := by
  obtain ⟨-, -, -, -, -, -, -, -, rl⟩ := hR
  have q := (rl l hl).2.2.1
  rw [hI.2.2.2.1 l hl ht] at q
  exact q
theorem Rep.nextY {Z : State} {h : Heap} {n0 : Nat} {D A : Addr} {kA : ClassId} {hs : List Addr} {τ : Addr → Int64} {N P : Addr → Value} {ls : List Addr} {tk : Addr → Option Int64} (hR : Rep Z h n0 D A kA hs τ N P ls) (hI : Inv hs τ N P ls tk) {l : Addr} (hl : l ∈ ls) {t : Int64} (ht : tk l = some t) : ∃ w, Fld Z h l cL "next" dL (.ref w) := by
  obtain ⟨-, -, -, -, -, -, -, -, rl⟩ := hR
  obtain ⟨u, w, eu, ew⟩ := hI.sides hl ht
  have q := (rl l hl).2.2.1
  rw [ew] at q
  exact ⟨w, q⟩
def IsMin (ls : List Addr) (tk : Addr → Option Int64) (r : Int64) : Prop := ((∀ l ∈ ls, tk l = none) ∧ r = (9223372036854775807 : Int64)) ∨ ((∃ l ∈ ls, tk l = some r) ∧ ∀ l ∈ ls, ∀ t, tk l = some t → ¬ t < r)
theorem own_len4 {hs : List Addr} (h0 : hs ≠ []) (h4 : hs.length ≤ 4) : ¬ (Int32.ofNat hs.length = (0 : Int32)) := by
  have h1 : hs.length ≠ 0 := fun q => h0 (List.length_eq_zero_iff.mp q)
  have c : hs.length = 1 ∨ hs.length = 2 ∨ hs.length = 3 ∨ hs.length = 4 := by omega
  rcases c with c | c | c | c <;> rw [c] <;> decide

def QFirstR (ls : List Addr) (tk : Addr → Option Int64) (h0 : Heap) (n0 : Nat) (v : Option Value) (h : Heap) (L : List Loc) : Prop := ∃ r : Int64, v = some (.long r) ∧ Fr n0 L ∧ h = h0 ∧ IsMin ls tk r
set_option maxRecDepth 65536 in
set_option maxHeartbeats 40000000 in
theorem rmFirstR (l : Launch) (Z : State) (az : Array Value) (hw : ∀ d ∈ tables_1, d.before az Z = true) (ws : List Jvm.Cond) (a0 : Addr) (ar : Addr) (kA : ClassId) (hs : List Addr) (τ : Addr → Int64) (N P : Addr → Value) (ls : List Addr) (tk : Addr → Option Int64) (h0 : Heap) (n0 : Nat) (Z0 : n0 ≤ h0.size) (hR : Rep Z h0 n0 a0 ar kA hs τ N P ls) (hI : Inv hs τ N P ls tk) (hn : hs.length ≤ 4) :
    MetFree l y10 (head1 (Jvm.Cond.code y10 prog_4_method_3_code 1 (some .long) :: ws) ({ frames := 0, cells := 0, slots := 0, locals := 0 } : Room)) (fun a U => a = #[(.ref a0)] ∧ Z.Warmed39 U.vm ∧ U.heap = h0) (fun _ _ _ _ _ => True) (fun _ U o U' => ∃ v L, o = .returned v ∧ QFirstR ls tk h0 n0 v U'.heap L ∧ FrameEnd U o U' L ({ frames := 0, cells := 0, slots := 0, locals := 0 } : Room).cells ({ frames := 0, cells := 0, slots := 0, locals := 0 } : Room).slots) := by
  have hR' := hR
  obtain ⟨rE, rH, rC, rV, rO, gD, gA, rh, rl⟩ := hR'
  rcases hs with _ | ⟨x, r⟩
  · refine own_weak (rmFirst0 l Z az hw ws a0 h0 n0 Z0 rC) (fun _ _ _ _ _ hq => ?_)
    obtain ⟨v, L, ho, ⟨hv, hN, hh⟩, hF⟩ := hq
    exact ⟨v, L, ho, ⟨_, hv, hN, hh, Or.inl ⟨hI.first.1 rfl, rfl⟩⟩, hF⟩
  · have hc : ¬ (Int32.ofNat (x :: r).length = (0 : Int32)) := own_len4 (by simp) hn
    have el : Elt Z h0 ar (.object cH) (0 : Int32) (.ref x) := Elt.of rV ⟨by decide, by decide⟩ rfl
    refine own_weak (rmFirstY l Z az hw ws a0 (Int32.ofNat (x :: r).length) ar kA x [] (τ x) h0 n0 Z0 rC rH el (rh x (by simp)).2.2.1 hc) (fun _ _ _ _ _ hq => ?_)
    obtain ⟨v, L, ho, ⟨hv, hN, hh⟩, hF⟩ := hq
    exact ⟨v, L, ho, ⟨_, hv, hN, hh, Or.inr (hI.first.2 x r rfl)⟩, hF⟩
theorem d10_0 : decode jdk_29_method_70_code 0 = .ok (.lload_n 0, 1) := by decide +kernel
theorem d10_1 : decode jdk_29_method_70_code 1 = .ok (.lload_n 2, 1) := by decide +kernel
theorem d10_2 : decode jdk_29_method_70_code 2 = .ok (.lcmp, 1) := by decide +kernel
theorem d10_3 : decode jdk_29_method_70_code 3 = .ok (.ifCond .gt 7, 3) := by decide +kernel
theorem d10_10 : decode jdk_29_method_70_code 10 = .ok (.lload_n 2, 1) := by decide +kernel
theorem d10_11 : decode jdk_29_method_70_code 11 = .ok (.lreturn, 1) := by decide +kernel
theorem d10_6 : decode jdk_29_method_70_code 6 = .ok (.lload_n 0, 1) := by decide +kernel
theorem d10_7 : decode jdk_29_method_70_code 7 = .ok (.goto 4, 3) := by decide +kernel
def fMin (q0 : Int64) (q1 : Int64) : Int64 := (if q1 < q0 then q1 else q0)
def QMin (Z : State) (q0 : Int64) (q1 : Int64) (h0 : Heap) (n0 : Nat) (v : Option Value) (h : Heap) (L : List Loc) : Prop := v = some (.long (fMin q0 q1)) ∧ Fr n0 L ∧ h = h0
theorem efMin (m : MethodId) (x0 : Int64) (x1 : Int64) : entryFrame m #[(.long x0), (.long x1)] 4 = mkF m 0 #[.val (.long x0), .second, .val (.long x1), .second] [] := by first | (simp [entryFrame, mkF, argsToLocals, Value.category]; done) | rfl
set_option maxRecDepth 65536 in
set_option maxHeartbeats 40000000 in
theorem rmMin (l : Launch) (Z : State) (az : Array Value) (hw : ∀ d ∈ tables_1, d.before az Z = true) (ws : List Jvm.Cond) (q0 : Int64) (q1 : Int64) (h0 : Heap) (n0 : Nat) (Z0 : n0 ≤ h0.size) :
    MetFree l (⟨"java/lang/Math", "min", "(JJ)J"⟩ : MethodName) (head1 (Jvm.Cond.code (⟨"java/lang/Math", "min", "(JJ)J"⟩ : MethodName) jdk_29_method_70_code 4 (some .long) :: ws) ({ frames := 0, cells := 0, slots := 0, locals := 0 } : Room)) (fun a U => a = #[(.long q0), (.long q1)] ∧ Z.Warmed39 U.vm ∧ U.heap = h0) (fun _ _ _ _ _ => True) (fun _ U o U' => ∃ v L, o = .returned v ∧ QMin Z q0 q1 h0 n0 v U'.heap L ∧ FrameEnd U o U' L ({ frames := 0, cells := 0, slots := 0, locals := 0 } : Room).cells ({ frames := 0, cells := 0, slots := 0, locals := 0 } : Room).slots) := by
  refine MetFree.of_bodySF (Jvm.Free.JP.mathPlain rfl (by decide +kernel)) hisR ?_
  intro p e s m args below meth c s₁ Bd hml0 hP hK
  obtain ⟨rfl, hZ, hh⟩ := hP
  have hx := Bd.exec
  have hby := Bd.bytes
  have hml : c.maxLocals = 4 := hml0
  have hown : s.vm.findClass "java/lang/Math" = some m.cls := findClass_of_methodNamed Bd.named
  have hnm := (name_of_methodNamed Bd.named Bd.method).1
  have X0 : Stand p l e ({ frames := 0, cells := 0, slots := 0, locals := 0 } : Room) s m #[(.long q0), (.long q1)] below meth c s₁ [] 0 0 := Stand.of_body Bd
  have e0 : s₁.heap = h0 := by rw [← hh, Bd.state]; rfl
  have N0 := Fr.nil n0
  have Kp0 : Keep h0 h0 [] := Keep.refl _ _
  refine Goes.start ?_
  refine Goes.by (B := s₁.setTop (mkF m 0 #[.val (.long q0), .second, .val (.long q1), .second] [])) (fun t k => castTop (efMin m q0 q1) k) ?_
  refine Goes.by (B := s₁.setTop (mkF m 3 #[.val (.long q0), .second, .val (.long q1), .second] [(.int (lcmpW q0 q1))])) (fun t k => ?_) ?_
  · refine XS.lloadN X0.here hx rfl (hb hby d10_0) rfl ?_
    refine XS.lloadN X0.here hx rfl (hb hby d10_1) rfl ?_
    refine XS.lcmp X0.here hx rfl (hb hby d10_2) rfl ?_
    exact k
  by_cases hc1 : q1 < q0
  · refine Goes.by (fun _ => XS.ifYes X0.here hx rfl (pc0 := 3) (pc' := 10) rfl (hb hby d10_3) rfl ((if0 _ _).trans (tlt ((lw_gt q0 q1).mpr hc1)).2.2.1) (by decide) (by decide)) ?_
    refine Goes.by (fun _ => XS.lloadN X0.here hx rfl (hb hby d10_10) rfl) ?_
    obtain ⟨fs, hr, hrun, hended, hW, hsame⟩ := X0.leave (v := some (.long q1)) (fun h => by rw [Bd.returns] at h; cases h)
    refine Goes.mk _ _ ?_ ⟨hrun, hended, _, _, rfl, ?_, ⟨_, rfl⟩, hW, hsame.mono (by decide) (by decide)⟩
    · exact retOut X0 hx Bd.returns rfl (Or.inr (Or.inl ⟨rfl, rfl, _, rfl⟩)) (hb hby d10_11) hr
    · show QMin Z q0 q1 h0 n0 _ s₁.heap _
      rw [e0]
      exact ⟨(by simp only [fMin, if_pos hc1]), N0, rfl⟩
  · refine Goes.by (fun _ => XS.ifNo X0.here hx rfl (hb hby d10_3) rfl ((if0 _ _).trans (flt (fun z => hc1 ((lw_gt q0 q1).mp z))).2.2.1)) ?_
    refine Goes.by (fun _ => XS.lloadN X0.here hx rfl (hb hby d10_6) rfl) ?_
    refine Goes.by (fun _ => XS.goto X0.here hx rfl (pc0 := 7) (pc' := 11) rfl (hb hby d10_7) (by decide) (by decide)) ?_
    obtain ⟨fs, hr, hrun, hended, hW, hsame⟩ := X0.leave (v := some (.long q0)) (fun h => by rw [Bd.returns] at h; cases h)
    refine Goes.mk _ _ ?_ ⟨hrun, hended, _, _, rfl, ?_, ⟨_, rfl⟩, hW, hsame.mono (by decide) (by decide)⟩
    · exact retOut X0 hx Bd.returns rfl (Or.inr (Or.inl ⟨rfl, rfl, _, rfl⟩)) (hb hby d10_11) hr
    · show QMin Z q0 q1 h0 n0 _ s₁.heap _
      rw [e0]
      exact ⟨(by simp only [fMin, if_neg hc1]), N0, rfl⟩
theorem d8_0 : decode method_3_code 0 = .ok (.iload_n 3, 1) := by decide +kernel
theorem d8_1 : decode method_3_code 1 = .ok (.ifCond .ne 5, 3) := by decide +kernel
theorem d8_4 : decode method_3_code 4 = .ok (.aload_n 0, 1) := by decide +kernel
theorem d8_5 : decode method_3_code 5 = .ok (.areturn, 1) := by decide +kernel
def QPick0 (Z : State) (l0 : Addr) (l1 : Addr) (l2 : Addr) (h0 : Heap) (n0 : Nat) (v : Option Value) (h : Heap) (L : List Loc) : Prop := v = some (.ref l0) ∧ Fr n0 L ∧ h = h0
theorem own_pn_com_example_admit_one_admitone_engine_DueOrderRemovePinLaw : plainName "com/example/admit_one/admitone/engine/DueOrderRemovePinLaw" = true := by first | (simp [plainName, overriddenIn]; done) | decide +kernel
theorem efPick0 (m : MethodId) (x0 : Addr) (x1 : Addr) (x2 : Addr) (x3 : Int32) : entryFrame m #[(.ref x0), (.ref x1), (.ref x2), (.int x3)] 4 = mkF m 0 #[.val (.ref x0), .val (.ref x1), .val (.ref x2), .val (.int x3)] [] := by first | (simp [entryFrame, mkF, argsToLocals, Value.category]; done) | rfl
set_option maxRecDepth 65536 in
set_option maxHeartbeats 40000000 in
theorem rmPick0 (l : Launch) (Z : State) (az : Array Value) (hw : ∀ d ∈ tables_1, d.before az Z = true) (ws : List Jvm.Cond) (l0 : Addr) (l1 : Addr) (l2 : Addr) (h0 : Heap) (n0 : Nat) (Z0 : n0 ≤ h0.size) :
    MetFree l y6 (head1 (Jvm.Cond.code y6 method_3_code 4 (some (.object cL)) :: ws) ({ frames := 0, cells := 0, slots := 0, locals := 0 } : Room)) (fun a U => a = #[(.ref l0), (.ref l1), (.ref l2), (.int (0 : Int32))] ∧ Z.Warmed39 U.vm ∧ U.heap = h0) (fun _ _ _ _ _ => True) (fun _ U o U' => ∃ v L, o = .returned v ∧ QPick0 Z l0 l1 l2 h0 n0 v U'.heap L ∧ FrameEnd U o U' L ({ frames := 0, cells := 0, slots := 0, locals := 0 } : Room).cells ({ frames := 0, cells := 0, slots := 0, locals := 0 } : Room).slots) := by
  refine MetFree.of_bodySF (plainFor_of_name own_pn_com_example_admit_one_admitone_engine_DueOrderRemovePinLaw) hisR ?_
  intro p e s m args below meth c s₁ Bd hml0 hP hK
  obtain ⟨rfl, hZ, hh⟩ := hP
  have hx := Bd.exec
  have hby := Bd.bytes
  have hml : c.maxLocals = 4 := hml0
  have hown : s.vm.findClass "com/example/admit_one/admitone/engine/DueOrderRemovePinLaw" = some m.cls := findClass_of_methodNamed Bd.named
  have hnm := (name_of_methodNamed Bd.named Bd.method).1
  have X0 : Stand p l e ({ frames := 0, cells := 0, slots := 0, locals := 0 } : Room) s m #[(.ref l0), (.ref l1), (.ref l2), (.int (0 : Int32))] below meth c s₁ [] 0 0 := Stand.of_body Bd
  have e0 : s₁.heap = h0 := by rw [← hh, Bd.state]; rfl
  have N0 := Fr.nil n0
  have Kp0 : Keep h0 h0 [] := Keep.refl _ _
  refine Goes.start ?_
  refine Goes.by (B := s₁.setTop (mkF m 0 #[.val (.ref l0), .val (.ref l1), .val (.ref l2), .val (.int (0 : Int32))] [])) (fun t k => castTop (efPick0 m l0 l1 l2 (0 : Int32)) k) ?_
  refine Goes.by (fun _ => XS.iloadN X0.here hx rfl (hb hby d8_0) rfl) ?_
  refine Goes.by (fun _ => XS.ifNo X0.here hx rfl (hb hby d8_1) rfl ((if0 _ _).trans (teq (by decide : (0 : Int32) = (0 : Int32))).2)) ?_
  refine Goes.by (fun _ => XS.aloadN X0.here hx rfl (hb hby d8_4) rfl rfl) ?_
  obtain ⟨fs, hr, hrun, hended, hW, hsame⟩ := X0.leave (v := some (.ref l0)) (fun h => by rw [Bd.returns] at h; cases h)
  refine Goes.mk _ _ ?_ ⟨hrun, hended, _, _, rfl, ?_, ⟨_, rfl⟩, hW, hsame.mono (by decide) (by decide)⟩
  · exact retOut X0 hx Bd.returns rfl (Or.inr (Or.inr (Or.inr (Or.inr ⟨rfl, rfl, rfl⟩)))) (hb hby d8_5) hr
  · show QPick0 Z l0 l1 l2 h0 n0 _ s₁.heap _
    rw [e0]
    exact ⟨rfl, N0, rfl⟩
theorem d8_6 : decode method_3_code 6 = .ok (.iload_n 3, 1) := by decide +kernel
theorem d8_7 : decode method_3_code 7 = .ok (.iconst 1, 1) := by decide +kernel
theorem d8_8 : decode method_3_code 8 = .ok (.if_icmp .ne 5, 3) := by decide +kernel
theorem d8_11 : decode method_3_code 11 = .ok (.aload_n 1, 1) := by decide +kernel
theorem d8_12 : decode method_3_code 12 = .ok (.areturn, 1) := by decide +kernel
def QPick1 (Z : State) (l0 : Addr) (l1 : Addr) (l2 : Addr) (h0 : Heap) (n0 : Nat) (v : Option Value) (h : Heap) (L : List Loc) : Prop := v = some (.ref l1) ∧ Fr n0 L ∧ h = h0
theorem efPick1 (m : MethodId) (x0 : Addr) (x1 : Addr) (x2 : Addr) (x3 : Int32) : entryFrame m #[(.ref x0), (.ref x1), (.ref x2), (.int x3)] 4 = mkF m 0 #[.val (.ref x0), .val (.ref x1), .val (.ref x2), .val (.int x3)] [] := by first | (simp [entryFrame, mkF, argsToLocals, Value.category]; done) | rfl
set_option maxRecDepth 65536 in
set_option maxHeartbeats 40000000 in
theorem rmPick1 (l : Launch) (Z : State) (az : Array Value) (hw : ∀ d ∈ tables_1, d.before az Z = true) (ws : List Jvm.Cond) (l0 : Addr) (l1 : Addr) (l2 : Addr) (h0 : Heap) (n0 : Nat) (Z0 : n0 ≤ h0.size) :
    MetFree l y6 (head1 (Jvm.Cond.code y6 method_3_code 4 (some (.object cL)) :: ws) ({ frames := 0, cells := 0, slots := 0, locals := 0 } : Room)) (fun a U => a = #[(.ref l0), (.ref l1), (.ref l2), (.int (1 : Int32))] ∧ Z.Warmed39 U.vm ∧ U.heap = h0) (fun _ _ _ _ _ => True) (fun _ U o U' => ∃ v L, o = .returned v ∧ QPick1 Z l0 l1 l2 h0 n0 v U'.heap L ∧ FrameEnd U o U' L ({ frames := 0, cells := 0, slots := 0, locals := 0 } : Room).cells ({ frames := 0, cells := 0, slots := 0, locals := 0 } : Room).slots) := by
  refine MetFree.of_bodySF (plainFor_of_name own_pn_com_example_admit_one_admitone_engine_DueOrderRemovePinLaw) hisR ?_
  intro p e s m args below meth c s₁ Bd hml0 hP hK
  obtain ⟨rfl, hZ, hh⟩ := hP
  have hx := Bd.exec
  have hby := Bd.bytes
  have hml : c.maxLocals = 4 := hml0
  have hown : s.vm.findClass "com/example/admit_one/admitone/engine/DueOrderRemovePinLaw" = some m.cls := findClass_of_methodNamed Bd.named
  have hnm := (name_of_methodNamed Bd.named Bd.method).1
  have X0 : Stand p l e ({ frames := 0, cells := 0, slots := 0, locals := 0 } : Room) s m #[(.ref l0), (.ref l1), (.ref l2), (.int (1 : Int32))] below meth c s₁ [] 0 0 := Stand.of_body Bd
  have e0 : s₁.heap = h0 := by rw [← hh, Bd.state]; rfl
  have N0 := Fr.nil n0
  have Kp0 : Keep h0 h0 [] := Keep.refl _ _
  refine Goes.start ?_
  refine Goes.by (B := s₁.setTop (mkF m 0 #[.val (.ref l0), .val (.ref l1), .val (.ref l2), .val (.int (1 : Int32))] [])) (fun t k => castTop (efPick1 m l0 l1 l2 (1 : Int32)) k) ?_
  refine Goes.by (B := s₁.setTop (mkF m 12 #[.val (.ref l0), .val (.ref l1), .val (.ref l2), .val (.int (1 : Int32))] [(.ref l1)])) (fun t k => ?_) ?_
  · refine XS.iloadN X0.here hx rfl (hb hby d8_0) rfl ?_
    refine XS.ifYes X0.here hx rfl (pc0 := 1) (pc' := 6) rfl (hb hby d8_1) rfl ((if0 _ _).trans (feq (by decide : ¬ ((1 : Int32) = (0 : Int32)))).2) (by decide) (by decide) ?_
    refine XS.iloadN X0.here hx rfl (hb hby d8_6) rfl ?_
    refine XS.iconst X0.here hx rfl (hb hby d8_7) ?_
    refine XS.icmpNo X0.here hx rfl (hb hby d8_8) rfl (teq (by decide : (1 : Int32) = (1 : Int32))).2 ?_
    refine XS.aloadN X0.here hx rfl (hb hby d8_11) rfl rfl ?_
    exact k
  obtain ⟨fs, hr, hrun, hended, hW, hsame⟩ := X0.leave (v := some (.ref l1)) (fun h => by rw [Bd.returns] at h; cases h)
  refine Goes.mk _ _ ?_ ⟨hrun, hended, _, _, rfl, ?_, ⟨_, rfl⟩, hW, hsame.mono (by decide) (by decide)⟩
  · exact retOut X0 hx Bd.returns rfl (Or.inr (Or.inr (Or.inr (Or.inr ⟨rfl, rfl, rfl⟩)))) (hb hby d8_12) hr
  · show QPick1 Z l0 l1 l2 h0 n0 _ s₁.heap _
    rw [e0]
    exact ⟨rfl, N0, rfl⟩
theorem d8_13 : decode method_3_code 13 = .ok (.aload_n 2, 1) := by decide +kernel
theorem d8_14 : decode method_3_code 14 = .ok (.areturn, 1) := by decide +kernel
def QPick2 (Z : State) (l0 : Addr) (l1 : Addr) (l2 : Addr) (h0 : Heap) (n0 : Nat) (v : Option Value) (h : Heap) (L : List Loc) : Prop := v = some (.ref l2) ∧ Fr n0 L ∧ h = h0
theorem efPick2 (m : MethodId) (x0 : Addr) (x1 : Addr) (x2 : Addr) (x3 : Int32) : entryFrame m #[(.ref x0), (.ref x1), (.ref x2), (.int x3)] 4 = mkF m 0 #[.val (.ref x0), .val (.ref x1), .val (.ref x2), .val (.int x3)] [] := by first | (simp [entryFrame, mkF, argsToLocals, Value.category]; done) | rfl
set_option maxRecDepth 65536 in
set_option maxHeartbeats 40000000 in
theorem rmPick2 (l : Launch) (Z : State) (az : Array Value) (hw : ∀ d ∈ tables_1, d.before az Z = true) (ws : List Jvm.Cond) (l0 : Addr) (l1 : Addr) (l2 : Addr) (h0 : Heap) (n0 : Nat) (Z0 : n0 ≤ h0.size) :
    MetFree l y6 (head1 (Jvm.Cond.code y6 method_3_code 4 (some (.object cL)) :: ws) ({ frames := 0, cells := 0, slots := 0, locals := 0 } : Room)) (fun a U => a = #[(.ref l0), (.ref l1), (.ref l2), (.int (2 : Int32))] ∧ Z.Warmed39 U.vm ∧ U.heap = h0) (fun _ _ _ _ _ => True) (fun _ U o U' => ∃ v L, o = .returned v ∧ QPick2 Z l0 l1 l2 h0 n0 v U'.heap L ∧ FrameEnd U o U' L ({ frames := 0, cells := 0, slots := 0, locals := 0 } : Room).cells ({ frames := 0, cells := 0, slots := 0, locals := 0 } : Room).slots) := by
  refine MetFree.of_bodySF (plainFor_of_name own_pn_com_example_admit_one_admitone_engine_DueOrderRemovePinLaw) hisR ?_
  intro p e s m args below meth c s₁ Bd hml0 hP hK
  obtain ⟨rfl, hZ, hh⟩ := hP
  have hx := Bd.exec
  have hby := Bd.bytes
  have hml : c.maxLocals = 4 := hml0
  have hown : s.vm.findClass "com/example/admit_one/admitone/engine/DueOrderRemovePinLaw" = some m.cls := findClass_of_methodNamed Bd.named
  have hnm := (name_of_methodNamed Bd.named Bd.method).1
  have X0 : Stand p l e ({ frames := 0, cells := 0, slots := 0, locals := 0 } : Room) s m #[(.ref l0), (.ref l1), (.ref l2), (.int (2 : Int32))] below meth c s₁ [] 0 0 := Stand.of_body Bd
  have e0 : s₁.heap = h0 := by rw [← hh, Bd.state]; rfl
  have N0 := Fr.nil n0
  have Kp0 : Keep h0 h0 [] := Keep.refl _ _
  refine Goes.start ?_
  refine Goes.by (B := s₁.setTop (mkF m 0 #[.val (.ref l0), .val (.ref l1), .val (.ref l2), .val (.int (2 : Int32))] [])) (fun t k => castTop (efPick2 m l0 l1 l2 (2 : Int32)) k) ?_
  refine Goes.by (B := s₁.setTop (mkF m 14 #[.val (.ref l0), .val (.ref l1), .val (.ref l2), .val (.int (2 : Int32))] [(.ref l2)])) (fun t k => ?_) ?_
  · refine XS.iloadN X0.here hx rfl (hb hby d8_0) rfl ?_
    refine XS.ifYes X0.here hx rfl (pc0 := 1) (pc' := 6) rfl (hb hby d8_1) rfl ((if0 _ _).trans (feq (by decide : ¬ ((2 : Int32) = (0 : Int32)))).2) (by decide) (by decide) ?_
    refine XS.iloadN X0.here hx rfl (hb hby d8_6) rfl ?_
    refine XS.iconst X0.here hx rfl (hb hby d8_7) ?_
    refine XS.icmpYes X0.here hx rfl (pc0 := 8) (pc' := 13) rfl (hb hby d8_8) rfl (feq (by decide : ¬ ((2 : Int32) = (1 : Int32)))).2 (by decide) (by decide) ?_
    refine XS.aloadN X0.here hx rfl (hb hby d8_13) rfl rfl ?_
    exact k
  obtain ⟨fs, hr, hrun, hended, hW, hsame⟩ := X0.leave (v := some (.ref l2)) (fun h => by rw [Bd.returns] at h; cases h)
  refine Goes.mk _ _ ?_ ⟨hrun, hended, _, _, rfl, ?_, ⟨_, rfl⟩, hW, hsame.mono (by decide) (by decide)⟩
  · exact retOut X0 hx Bd.returns rfl (Or.inr (Or.inr (Or.inr (Or.inr ⟨rfl, rfl, rfl⟩)))) (hb hby d8_14) hr
  · show QPick2 Z l0 l1 l2 h0 n0 _ s₁.heap _
    rw [e0]
    exact ⟨rfl, N0, rfl⟩
theorem own_cnt0 {hs : List Addr} {τ : Addr → Int64} {N P : Addr → Value} {ls : List Addr} {tk : Addr → Option Int64} (I : Inv hs τ N P ls tk) (h : ∀ t, ¬ ∃ l ∈ ls, tk l = some t) : Int32.ofNat hs.length = (0 : Int32) := by
  have q := I.ticks.2
  rcases hs with _ | ⟨x, r⟩
  · rfl
  · exact absurd ((q (τ x)).mp (by simp)) (h _)
theorem own_cnt1 {hs : List Addr} {τ : Addr → Int64} {N P : Addr → Value} {ls : List Addr} {tk : Addr → Option Int64} (I : Inv hs τ N P ls tk) {a : Int64} (h : ∀ t, (∃ l ∈ ls, tk l = some t) ↔ a = t) : Int32.ofNat hs.length = (1 : Int32) := by
  have q := I.ticks
  rcases hs with _ | ⟨x, _ | ⟨y, r⟩⟩
  · exact nomatch (q.2 a).mpr ((h a).mpr rfl)
  · rfl
  · have e1 := (h (τ x)).mp ((q.2 (τ x)).mp (by simp))
    have e2 := (h (τ y)).mp ((q.2 (τ y)).mp (by simp))
    have nd := q.1
    simp only [List.map_cons, List.nodup_cons, List.mem_cons] at nd
    exact absurd (Or.inl (e1.symm.trans e2)) nd.1
theorem own_cnt2 {hs : List Addr} {τ : Addr → Int64} {N P : Addr → Value} {ls : List Addr} {tk : Addr → Option Int64} (I : Inv hs τ N P ls tk) {a b : Int64} (h : ∀ t, (∃ l ∈ ls, tk l = some t) ↔ (a = t ∨ b = t)) (hab : ¬ (b = a)) : Int32.ofNat hs.length = (2 : Int32) := by
  have q := I.ticks
  have key : ∀ x ∈ hs, a = τ x ∨ b = τ x := fun x hx => (h (τ x)).mp ((q.2 (τ x)).mp (List.mem_map_of_mem hx))
  have ha : a ∈ hs.map τ := (q.2 a).mpr ((h a).mpr (Or.inl rfl))
  have hb : b ∈ hs.map τ := (q.2 b).mpr ((h b).mpr (Or.inr rfl))
  have nd := q.1
  rcases hs with _ | ⟨x, _ | ⟨y, _ | ⟨z, r⟩⟩⟩
  · exact nomatch ha
  · simp only [List.map_cons, List.map_nil, List.mem_singleton] at ha hb
    exact absurd (hb.trans ha.symm) hab
  · rfl
  · simp only [List.map_cons, List.nodup_cons, List.mem_cons, not_or] at nd
    have kx := key x (by simp)
    have ky := key y (by simp)
    have kz := key z (by simp)
    exfalso
    rcases kx with kx | kx <;> rcases ky with ky | ky <;> rcases kz with kz | kz
    · exact nd.1.1 (kx.symm.trans ky)
    · exact nd.1.1 (kx.symm.trans ky)
    · exact nd.1.2.1 (kx.symm.trans kz)
    · exact nd.2.1.1 (ky.symm.trans kz)
    · exact nd.2.1.1 (ky.symm.trans kz)
    · exact nd.1.2.1 (kx.symm.trans kz)
    · exact nd.1.1 (kx.symm.trans ky)
    · exact nd.1.1 (kx.symm.trans ky)
theorem own_min_le (a b : Int64) : (fMin a b = a ∨ fMin a b = b) ∧ ¬ a < fMin a b ∧ ¬ b < fMin a b := by
  unfold fMin
  split
  · rename_i h
    exact ⟨Or.inr rfl, Int64.lt_asymm h, Int64.lt_irrefl⟩
  · rename_i h
    exact ⟨Or.inl rfl, Int64.lt_irrefl, h⟩
theorem own_fold : ∀ (T : List Int64) (m : Int64), ((T.foldl fMin m = m ∨ T.foldl fMin m ∈ T) ∧ ¬ m < T.foldl fMin m ∧ ∀ t ∈ T, ¬ t < T.foldl fMin m)
  | [], m => ⟨Or.inl rfl, Int64.lt_irrefl, fun _ q => nomatch q⟩
  | t :: T, m => by
    obtain ⟨i1, i2, i3⟩ := own_fold T (fMin m t)
    obtain ⟨j1, j2, j3⟩ := own_min_le m t
    have tr : ∀ {x y z : Int64}, ¬ x < y → ¬ y < z → ¬ x < z := fun {x y z} h1 h2 => by
      simp only [Int64.lt_iff_toInt_lt] at *; omega
    refine ⟨?_, tr j2 i2, fun u hu => ?_⟩
    · rcases i1 with i1 | i1
      · rcases j1 with j1 | j1
        · exact Or.inl (i1.trans j1)
        · exact Or.inr (List.mem_cons.mpr (Or.inl (i1.trans j1)))
      · exact Or.inr (List.mem_cons_of_mem _ i1)
    · rcases List.mem_cons.mp hu with e | e
      · rw [e]; exact tr j3 i2
      · exact i3 u e
theorem own_first {ls : List Addr} {tk : Addr → Option Int64} {r : Int64} (h : IsMin ls tk r) (T : List Int64) (hT : ∀ t, (∃ l ∈ ls, tk l = some t) ↔ t ∈ T) : r = T.foldl fMin (9223372036854775807 : Int64) := by
  obtain ⟨f1, f2, f3⟩ := own_fold T (9223372036854775807 : Int64)
  have hmax : ∀ x : Int64, ¬ (9223372036854775807 : Int64) < x := fun x => by
    have := rng64 x
    have l : (9223372036854775807 : Int64).toInt = 9223372036854775807 := by decide
    rw [Int64.lt_iff_toInt_lt, l]; omega
  rcases h with ⟨h1, h2⟩ | ⟨h1, h2⟩
  · have e : T = [] := by
      rcases T with _ | ⟨t, T⟩
      · rfl
      · obtain ⟨l, hl, ht⟩ := (hT t).mpr (by simp)
        rw [h1 l hl] at ht; exact nomatch ht
    rw [e]; exact h2
  · have hr : r ∈ T := (hT r).mp h1
    have hle : ∀ t ∈ T, ¬ t < r := fun t ht => by
      obtain ⟨l, hl, e⟩ := (hT t).mpr ht
      exact h2 l hl t e
    have a1 := f3 r hr
    have a2 : ¬ T.foldl fMin (9223372036854775807 : Int64) < r := by
      rcases f1 with f1 | f1
      · rw [f1]; exact hmax r
      · exact hle _ f1
    simp only [Int64.lt_iff_toInt_lt] at a1 a2
    exact Int64.toInt_inj.mp (by omega)

theorem own_rem3 (x r : Int32) (h : ((x &&& (3 : Int32)) % (3 : Int32)) = r) : r = 0 ∨ r = 1 ∨ r = 2 := by
  have m := c_mask x (3 : Int32) 2 (by decide) (by decide)
  have e : ((2 ^ 2 : Nat) : Int) = 4 := rfl
  rw [e] at m
  have q := (c_irem (x &&& (3 : Int32)) (3 : Int32) 3 (by decide)).1 (by omega)
  rw [h] at q
  have c : r.toInt = 0 ∨ r.toInt = 1 ∨ r.toInt = 2 := by omega
  rcases c with c | c | c
  · exact Or.inl (Int32.toInt_inj.mp c)
  · exact Or.inr (Or.inl (Int32.toInt_inj.mp c))
  · exact Or.inr (Or.inr (Int32.toInt_inj.mp c))
theorem own_n3 (x n : Int32) (h : ((1 : Int32) + ((x &&& (3 : Int32)) % (3 : Int32))) = n) : n = 1 ∨ n = 2 ∨ n = 3 := by
  rcases own_rem3 x _ rfl with e | e | e <;> rw [e] at h
  · exact Or.inl (h.symm.trans (by decide))
  · exact Or.inr (Or.inl (h.symm.trans (by decide)))
  · exact Or.inr (Or.inr (h.symm.trans (by decide)))
theorem own_stp (c : Prop) [Decidable c] (s : Int32) (h : (if c then (2 : Int32) else (1 : Int32)) = s) : s = 1 ∨ s = 2 := by
  by_cases q : c
  · rw [if_pos q] at h; exact Or.inr h.symm
  · rw [if_neg q] at h; exact Or.inl h.symm

theorem own_pd5 : parseMethodDescriptor "(JJ)J" = some ⟨[.long, .long], some .long⟩ := by decide +kernel
theorem own_pd6 : parseMethodDescriptor "(Lcom/example/admit_one/admitone/engine/DueOrder$Link;)Z" = some ⟨[(.object cL)], some .boolean⟩ := by decide +kernel
theorem own_pd7 : parseMethodDescriptor "()I" = some ⟨[], some .int⟩ := by decide +kernel
theorem own_pd8 : parseMethodDescriptor "()J" = some ⟨[], some .long⟩ := by decide +kernel
theorem own_pd9 : parseMethodDescriptor "(Lcom/example/admit_one/admitone/engine/DueOrder$Link;Lcom/example/admit_one/admitone/engine/DueOrder$Link;Lcom/example/admit_one/admitone/engine/DueOrder$Link;I)Lcom/example/admit_one/admitone/engine/DueOrder$Link;" = some ⟨[(.object cL), (.object cL), (.object cL), .int], some (.object cL)⟩ := by decide +kernel
theorem own_pd10 : parseMethodDescriptor "(Lcom/example/admit_one/admitone/engine/DueOrder$Link;)V" = some ⟨[(.object cL)], none⟩ := by decide +kernel
theorem own_pd11 : parseMethodDescriptor "(Lcom/example/admit_one/admitone/engine/DueOrder$Link;J)V" = some ⟨[(.object cL), .long], none⟩ := by decide +kernel
def Q0 (Z : State) (q0 : Int64) (q1 : Int64) (q2 : Int64) (p3 : Int32) (h0 : Heap) (n0 : Nat) (v : Option Value) (h : Heap) (L : List Loc) : Prop := v = some (.int 1) ∧ Fr n0 L
set_option maxRecDepth 65536 in
set_option maxHeartbeats 40000000 in
theorem tail_011 (l : Launch) (Z : State) (az : Array Value) (hw : ∀ d ∈ tables_1, d.before az Z = true) (ws : List Jvm.Cond) (q0 q1 q2 : Int64) (p3 : Int32) (h0 : Heap) (n0 : Nat) (u1 u2 : Int64) (c2 : Int32) {p : Program} {e : Env} {s : State} {m : MethodId} {below : List Frame} {meth : Method} {c : Code} {s₁ : State} (Bd : BodyLoose p l x (head1 (Jvm.Cond.code x code maxLocals ret :: ws) room_1) code maxLocals ret e s m #[(.long q0), (.long q1), (.long q2), (.int p3)] below meth c s₁) (hx : p.tables.exec = Jvm.exec) (hby : c.code = code) (hml : c.maxLocals = 32) (hown : s.vm.findClass "com/example/admit_one/admitone/engine/DueOrderRemovePinLaw" = some m.cls) (hZ : Z.Warmed39 s.vm) (oD la lb lc ar : Addr) (kA : ClassId) (x14 x15 x16 x17 x18 : Int32) : ∀ (T : State) (locs : List Loc) (hs : List Addr) (τ : Addr → Int64) (N P : Addr → Value) (tk : Addr → Option Int64), Stand p l e room_1 s m #[(.long q0), (.long q1), (.long q2), (.int p3)] below meth c T locs 8 21 → Fr n0 locs → n0 ≤ T.heap.size → Rep Z T.heap n0 oD ar kA hs τ N P [la, lb, lc] → Inv hs τ N P [la, lb, lc] tk → tk la = none → tk lb = (some u1) → tk lc = (some u2) → hs.length ≤ 3 → Goes p.tables e below (fun s₂ o => s₂.status = .running ∧ Ended s₂ below o ∧ ∃ v L, o = .returned v ∧ Q0 Z q0 q1 q2 p3 h0 n0 v s₂.heap L ∧ FrameEnd s o s₂ L 8 21) (T.setTop (mkF m 342 (sh10 q0 q1 q2 p3 q0 u1 c2 u2 x14 x15 x16 x17 x18 oD la lb lc (0 : Int32) (1 : Int32) (1 : Int32)) [])) := by
  intro T locs hs τ N P tk XT NT ZT RT IT vt0 vt1 vt2 LT
  refine Goes.by (B := T.setTop (mkF m 376 (sh11 q0 q1 q2 p3 q0 u1 c2 u2 x14 x15 x16 x17 x18 oD la lb lc (0 : Int32) (1 : Int32) (1 : Int32) ((0 : Int32) + (1 : Int32))) [(.int (1 : Int32))])) (fun t k => ?_) ?_
  · refine XS.iconst XT.here hx rfl (hb hby at_342) ?_
    refine XS.istore XT.here hx rfl (hb hby at_343) rfl (l' := (sh11 q0 q1 q2 p3 q0 u1 c2 u2 x14 x15 x16 x17 x18 oD la lb lc (0 : Int32) (1 : Int32) (1 : Int32) (0 : Int32))) rfl ?_
    refine XS.iload XT.here hx rfl (hb hby at_345) rfl ?_
    refine XS.ifYes XT.here hx rfl (pc0 := 347) (pc' := 353) rfl (hb hby at_347) rfl ((if0 _ _).trans (teq (by decide : (0 : Int32) = (0 : Int32))).1) (by decide) (by decide) ?_
    refine XS.iload XT.here hx rfl (hb hby at_353) rfl ?_
    refine XS.ifNo XT.here hx rfl (hb hby at_355) rfl ((if0 _ _).trans (feq (by decide : ¬ ((1 : Int32) = (0 : Int32)))).1) ?_
    refine XS.iload XT.here hx rfl (hb hby at_358) rfl ?_
    refine XS.ifYes XT.here hx rfl (pc0 := 360) (pc' := 371) rfl (hb hby at_360) rfl ((if0 _ _).trans (teq (by decide : (0 : Int32) = (0 : Int32))).1) (by decide) (by decide) ?_
    refine XS.iinc XT.here hx rfl (hb hby at_371) rfl (l' := (sh11 q0 q1 q2 p3 q0 u1 c2 u2 x14 x15 x16 x17 x18 oD la lb lc (0 : Int32) (1 : Int32) (1 : Int32) ((0 : Int32) + (1 : Int32)))) rfl ?_
    refine XS.iload XT.here hx rfl (hb hby at_374) rfl ?_
    exact k
  refine Goes.by (B := T.setTop (mkF m 402 (sh11 q0 q1 q2 p3 q0 u1 c2 u2 x14 x15 x16 x17 x18 oD la lb lc (0 : Int32) (1 : Int32) (1 : Int32) ((0 : Int32) + (1 : Int32))) [(.int (lcmpW u2 u1))])) (fun t k => ?_) ?_
  · refine XS.ifNo XT.here hx rfl (hb hby at_376) rfl ((if0 _ _).trans (feq (by decide : ¬ ((1 : Int32) = (0 : Int32)))).1) ?_
    refine XS.iload XT.here hx rfl (hb hby at_379) rfl ?_
    refine XS.ifYes XT.here hx rfl (pc0 := 381) (pc' := 392) rfl (hb hby at_381) rfl ((if0 _ _).trans (teq (by decide : (0 : Int32) = (0 : Int32))).1) (by decide) (by decide) ?_
    refine XS.iload XT.here hx rfl (hb hby at_392) rfl ?_
    refine XS.ifNo XT.here hx rfl (hb hby at_394) rfl ((if0 _ _).trans (feq (by decide : ¬ ((1 : Int32) = (0 : Int32)))).1) ?_
    refine XS.lload XT.here hx rfl (hb hby at_397) rfl ?_
    refine XS.lload XT.here hx rfl (hb hby at_399) rfl ?_
    refine XS.lcmp XT.here hx rfl (hb hby at_401) rfl ?_
    exact k
  refine Goes.by (B := T.setTop (mkF m 408 (sh11 q0 q1 q2 p3 q0 u1 c2 u2 x14 x15 x16 x17 x18 oD la lb lc (0 : Int32) (1 : Int32) (1 : Int32) (if u2 = u1 then ((0 : Int32) + (1 : Int32)) else (((0 : Int32) + (1 : Int32)) + (1 : Int32)))) [])) (fun t k => ?_) ?_
  · by_cases hm5 : u2 = u1
    · simp only [if_pos hm5] at k
      show Steps p.tables e below (T.setTop (mkF m 402 (sh11 q0 q1 q2 p3 q0 u1 c2 u2 x14 x15 x16 x17 x18 oD la lb lc (0 : Int32) (1 : Int32) (1 : Int32) ((0 : Int32) + (1 : Int32))) [(.int (lcmpW u2 u1))])) t
      refine XS.ifYes XT.here hx rfl (pc0 := 402) (pc' := 408) rfl (hb hby at_402) rfl ((if0 _ _).trans (teq ((lw_eq u2 u1).mpr hm5)).1) (by decide) (by decide) ?_
      exact k
    · simp only [if_neg hm5] at k
      show Steps p.tables e below (T.setTop (mkF m 402 (sh11 q0 q1 q2 p3 q0 u1 c2 u2 x14 x15 x16 x17 x18 oD la lb lc (0 : Int32) (1 : Int32) (1 : Int32) ((0 : Int32) + (1 : Int32))) [(.int (lcmpW u2 u1))])) t
      refine XS.ifNo XT.here hx rfl (hb hby at_402) rfl ((if0 _ _).trans (feq (fun z => hm5 ((lw_eq u2 u1).mp z))).1) ?_
      show Steps p.tables e below (T.setTop (mkF m 405 (sh11 q0 q1 q2 p3 q0 u1 c2 u2 x14 x15 x16 x17 x18 oD la lb lc (0 : Int32) (1 : Int32) (1 : Int32) ((0 : Int32) + (1 : Int32))) [])) t
      refine XS.iinc XT.here hx rfl (hb hby at_405) rfl (l' := (sh11 q0 q1 q2 p3 q0 u1 c2 u2 x14 x15 x16 x17 x18 oD la lb lc (0 : Int32) (1 : Int32) (1 : Int32) (((0 : Int32) + (1 : Int32)) + (1 : Int32)))) rfl ?_
      exact k
  refine Goes.by (B := T.setTop (mkF m 436 (sh12 q0 q1 q2 p3 q0 u1 c2 u2 x14 x15 x16 x17 x18 oD la lb lc (0 : Int32) (1 : Int32) (1 : Int32) (if u2 = u1 then ((0 : Int32) + (1 : Int32)) else (((0 : Int32) + (1 : Int32)) + (1 : Int32))) (9223372036854775807 : Int64)) [(.long u1), (.long (9223372036854775807 : Int64))])) (fun t k => ?_) ?_
  · refine XT.ldc2Long hx hown (mvT hZ (wq hw 67 rfl)) (g := (mkF m 408 (sh11 q0 q1 q2 p3 q0 u1 c2 u2 x14 x15 x16 x17 x18 oD la lb lc (0 : Int32) (1 : Int32) (1 : Int32) (if u2 = u1 then ((0 : Int32) + (1 : Int32)) else (((0 : Int32) + (1 : Int32)) + (1 : Int32)))) [])) rfl (hb hby at_408) _ ?_
    refine XS.lstore XT.here hx rfl (hb hby at_411) rfl (l' := (sh12 q0 q1 q2 p3 q0 u1 c2 u2 x14 x15 x16 x17 x18 oD la lb lc (0 : Int32) (1 : Int32) (1 : Int32) (if u2 = u1 then ((0 : Int32) + (1 : Int32)) else (((0 : Int32) + (1 : Int32)) + (1 : Int32))) (9223372036854775807 : Int64))) rfl ?_
    refine XS.iload XT.here hx rfl (hb hby at_413) rfl ?_
    refine XS.ifYes XT.here hx rfl (pc0 := 415) (pc' := 427) rfl (hb hby at_415) rfl ((if0 _ _).trans (teq (by decide : (0 : Int32) = (0 : Int32))).1) (by decide) (by decide) ?_
    refine XS.iload XT.here hx rfl (hb hby at_427) rfl ?_
    refine XS.ifNo XT.here hx rfl (hb hby at_429) rfl ((if0 _ _).trans (feq (by decide : ¬ ((1 : Int32) = (0 : Int32)))).1) ?_
    refine XS.lload XT.here hx rfl (hb hby at_432) rfl ?_
    refine XS.lload XT.here hx rfl (hb hby at_434) rfl ?_
    exact k
  obtain ⟨_, T6, L6, Lc6, X6, hF6, hQ6, st6⟩ := own_cs XT hx hZ hown (wq hw 68 rfl) (wq hw 69 rfl) (wq hw 70 rfl) (wq hw 71 rfl) (rmMin l Z az hw [] (9223372036854775807 : Int64) u1 T.heap n0 ZT ) (W := 0) (g := (mkF m 436 (sh12 q0 q1 q2 p3 q0 u1 c2 u2 x14 x15 x16 x17 x18 oD la lb lc (0 : Int32) (1 : Int32) (1 : Int32) (if u2 = u1 then ((0 : Int32) + (1 : Int32)) else (((0 : Int32) + (1 : Int32)) + (1 : Int32))) (9223372036854775807 : Int64)) [(.long u1), (.long (9223372036854775807 : Int64))])) rfl (by rw [hml]; rfl) (argsL := [(.long (9223372036854775807 : Int64)), (.long u1)]) (rest := []) rfl (lenOf own_pd5 rfl) rfl (hb hby at_436) rfl NT (c' := 8) (s' := 21)
  obtain ⟨rfl, N6q, e6⟩ := hQ6
  have N7 := hF6 N6q
  refine Goes.by st6 ?_
  refine Goes.by (B := T6.setTop (mkF m 450 (sh12 q0 q1 q2 p3 q0 u1 c2 u2 x14 x15 x16 x17 x18 oD la lb lc (0 : Int32) (1 : Int32) (1 : Int32) (if u2 = u1 then ((0 : Int32) + (1 : Int32)) else (((0 : Int32) + (1 : Int32)) + (1 : Int32))) (fMin (9223372036854775807 : Int64) u1)) [(.long u2), (.long (fMin (9223372036854775807 : Int64) u1))])) (fun t k => ?_) ?_
  · refine XS.lstore X6.here hx rfl (hb hby at_439) rfl (l' := (sh12 q0 q1 q2 p3 q0 u1 c2 u2 x14 x15 x16 x17 x18 oD la lb lc (0 : Int32) (1 : Int32) (1 : Int32) (if u2 = u1 then ((0 : Int32) + (1 : Int32)) else (((0 : Int32) + (1 : Int32)) + (1 : Int32))) (fMin (9223372036854775807 : Int64) u1))) rfl ?_
    refine XS.iload X6.here hx rfl (hb hby at_441) rfl ?_
    refine XS.ifNo X6.here hx rfl (hb hby at_443) rfl ((if0 _ _).trans (feq (by decide : ¬ ((1 : Int32) = (0 : Int32)))).1) ?_
    refine XS.lload X6.here hx rfl (hb hby at_446) rfl ?_
    refine XS.lload X6.here hx rfl (hb hby at_448) rfl ?_
    exact k
  obtain ⟨_, T8, L8, Lc8, X8, hF8, hQ8, st8⟩ := own_cs X6 hx hZ hown (wq hw 68 rfl) (wq hw 69 rfl) (wq hw 70 rfl) (wq hw 71 rfl) (rmMin l Z az hw [] (fMin (9223372036854775807 : Int64) u1) u2 T.heap n0 ZT ) (W := 0) (g := (mkF m 450 (sh12 q0 q1 q2 p3 q0 u1 c2 u2 x14 x15 x16 x17 x18 oD la lb lc (0 : Int32) (1 : Int32) (1 : Int32) (if u2 = u1 then ((0 : Int32) + (1 : Int32)) else (((0 : Int32) + (1 : Int32)) + (1 : Int32))) (fMin (9223372036854775807 : Int64) u1)) [(.long u2), (.long (fMin (9223372036854775807 : Int64) u1))])) rfl (by rw [hml]; rfl) (argsL := [(.long (fMin (9223372036854775807 : Int64) u1)), (.long u2)]) (rest := []) rfl (lenOf own_pd5 rfl) rfl (hb hby at_450) e6 N7 (c' := 8) (s' := 21)
  obtain ⟨rfl, N8q, e8⟩ := hQ8
  have N9 := hF8 N8q
  refine Goes.by st8 ?_
  refine Goes.by (fun _ => XS.lstore X8.here hx rfl (hb hby at_453) rfl (l' := (sh12 q0 q1 q2 p3 q0 u1 c2 u2 x14 x15 x16 x17 x18 oD la lb lc (0 : Int32) (1 : Int32) (1 : Int32) (if u2 = u1 then ((0 : Int32) + (1 : Int32)) else (((0 : Int32) + (1 : Int32)) + (1 : Int32))) (fMin (fMin (9223372036854775807 : Int64) u1) u2))) rfl) ?_
  refine Goes.by (fun _ => XS.aload X8.here hx rfl (hb hby at_455) rfl rfl) ?_
  have f10 : Fld Z T.heap la cL "next" dL .null := Rep.nextN RT IT (by simp) vt0
  obtain ⟨_, T11, L11, Lc11, X11, hF11, hQ11, st11⟩ := own_cs X8 hx hZ hown (wq hw 72 rfl) (wq hw 73 rfl) (wq hw 2 rfl) (wq hw 74 rfl) (rmIsN l Z az hw [] la T.heap n0 ZT f10) (W := 0) (g := (mkF m 457 (sh12 q0 q1 q2 p3 q0 u1 c2 u2 x14 x15 x16 x17 x18 oD la lb lc (0 : Int32) (1 : Int32) (1 : Int32) (if u2 = u1 then ((0 : Int32) + (1 : Int32)) else (((0 : Int32) + (1 : Int32)) + (1 : Int32))) (fMin (fMin (9223372036854775807 : Int64) u1) u2)) [(.ref la)])) rfl (by rw [hml]; rfl) (argsL := [(.ref la)]) (rest := []) rfl (lenOf own_pd6 rfl) rfl (hb hby at_457) e8 N9 (c' := 8) (s' := 21)
  obtain ⟨rfl, N11q, e11⟩ := hQ11
  have N12 := hF11 N11q
  refine Goes.by st11 ?_
  refine Goes.by (fun _ => XS.istore X11.here hx rfl (hb hby at_460) rfl (l' := (sh13 q0 q1 q2 p3 q0 u1 c2 u2 x14 x15 x16 x17 x18 oD la lb lc (0 : Int32) (1 : Int32) (1 : Int32) (if u2 = u1 then ((0 : Int32) + (1 : Int32)) else (((0 : Int32) + (1 : Int32)) + (1 : Int32))) (fMin (fMin (9223372036854775807 : Int64) u1) u2) (0 : Int32))) rfl) ?_
  refine Goes.by (fun _ => XS.aload X11.here hx rfl (hb hby at_462) rfl rfl) ?_
  obtain ⟨b14, f13⟩ := Rep.nextY RT IT (by simp) vt1
  obtain ⟨_, T15, L15, Lc15, X15, hF15, hQ15, st15⟩ := own_cs X11 hx hZ hown (wq hw 72 rfl) (wq hw 73 rfl) (wq hw 2 rfl) (wq hw 74 rfl) (rmIsY l Z az hw [] lb b14 T.heap n0 ZT f13) (W := 0) (g := (mkF m 464 (sh13 q0 q1 q2 p3 q0 u1 c2 u2 x14 x15 x16 x17 x18 oD la lb lc (0 : Int32) (1 : Int32) (1 : Int32) (if u2 = u1 then ((0 : Int32) + (1 : Int32)) else (((0 : Int32) + (1 : Int32)) + (1 : Int32))) (fMin (fMin (9223372036854775807 : Int64) u1) u2) (0 : Int32)) [(.ref lb)])) rfl (by rw [hml]; rfl) (argsL := [(.ref lb)]) (rest := []) rfl (lenOf own_pd6 rfl) rfl (hb hby at_464) e11 N12 (c' := 8) (s' := 21)
  obtain ⟨rfl, N15q, e15⟩ := hQ15
  have N16 := hF15 N15q
  refine Goes.by st15 ?_
  refine Goes.by (fun _ => XS.istore X15.here hx rfl (hb hby at_467) rfl (l' := (sh14 q0 q1 q2 p3 q0 u1 c2 u2 x14 x15 x16 x17 x18 oD la lb lc (0 : Int32) (1 : Int32) (1 : Int32) (if u2 = u1 then ((0 : Int32) + (1 : Int32)) else (((0 : Int32) + (1 : Int32)) + (1 : Int32))) (fMin (fMin (9223372036854775807 : Int64) u1) u2) (0 : Int32) (1 : Int32))) rfl) ?_
  refine Goes.by (fun _ => XS.aload X15.here hx rfl (hb hby at_469) rfl rfl) ?_
  obtain ⟨b18, f17⟩ := Rep.nextY RT IT (by simp) vt2
  obtain ⟨_, T19, L19, Lc19, X19, hF19, hQ19, st19⟩ := own_cs X15 hx hZ hown (wq hw 72 rfl) (wq hw 73 rfl) (wq hw 2 rfl) (wq hw 74 rfl) (rmIsY l Z az hw [] lc b18 T.heap n0 ZT f17) (W := 0) (g := (mkF m 471 (sh14 q0 q1 q2 p3 q0 u1 c2 u2 x14 x15 x16 x17 x18 oD la lb lc (0 : Int32) (1 : Int32) (1 : Int32) (if u2 = u1 then ((0 : Int32) + (1 : Int32)) else (((0 : Int32) + (1 : Int32)) + (1 : Int32))) (fMin (fMin (9223372036854775807 : Int64) u1) u2) (0 : Int32) (1 : Int32)) [(.ref lc)])) rfl (by rw [hml]; rfl) (argsL := [(.ref lc)]) (rest := []) rfl (lenOf own_pd6 rfl) rfl (hb hby at_471) e15 N16 (c' := 8) (s' := 21)
  obtain ⟨rfl, N19q, e19⟩ := hQ19
  have N20 := hF19 N19q
  refine Goes.by st19 ?_
  refine Goes.by (B := T19.setTop (mkF m 499 (sh15 q0 q1 q2 p3 q0 u1 c2 u2 x14 x15 x16 x17 x18 oD la lb lc (0 : Int32) (1 : Int32) (1 : Int32) (if u2 = u1 then ((0 : Int32) + (1 : Int32)) else (((0 : Int32) + (1 : Int32)) + (1 : Int32))) (fMin (fMin (9223372036854775807 : Int64) u1) u2) (0 : Int32) (1 : Int32) (1 : Int32)) [(.ref oD)])) (fun t k => ?_) ?_
  · refine XS.istore X19.here hx rfl (hb hby at_474) rfl (l' := (sh15 q0 q1 q2 p3 q0 u1 c2 u2 x14 x15 x16 x17 x18 oD la lb lc (0 : Int32) (1 : Int32) (1 : Int32) (if u2 = u1 then ((0 : Int32) + (1 : Int32)) else (((0 : Int32) + (1 : Int32)) + (1 : Int32))) (fMin (fMin (9223372036854775807 : Int64) u1) u2) (0 : Int32) (1 : Int32) (1 : Int32))) rfl ?_
    refine XS.iload X19.here hx rfl (hb hby at_476) rfl ?_
    refine XS.iload X19.here hx rfl (hb hby at_478) rfl ?_
    refine XS.icmpNo X19.here hx rfl (hb hby at_480) rfl (teq (by decide : (0 : Int32) = (0 : Int32))).2 ?_
    refine XS.iload X19.here hx rfl (hb hby at_483) rfl ?_
    refine XS.iload X19.here hx rfl (hb hby at_485) rfl ?_
    refine XS.icmpNo X19.here hx rfl (hb hby at_487) rfl (teq (by decide : (1 : Int32) = (1 : Int32))).2 ?_
    refine XS.iload X19.here hx rfl (hb hby at_490) rfl ?_
    refine XS.iload X19.here hx rfl (hb hby at_492) rfl ?_
    refine XS.icmpNo X19.here hx rfl (hb hby at_494) rfl (teq (by decide : (1 : Int32) = (1 : Int32))).2 ?_
    refine XS.aload X19.here hx rfl (hb hby at_497) rfl rfl ?_
    exact k
  obtain ⟨_, T21, L21, Lc21, X21, hF21, hQ21, st21⟩ := own_cv X19 hx hZ hown (wq hw 75 rfl) (wq hw 76 rfl) (wq hw 78 rfl) (wq hw 77 rfl) (wq hw 2 rfl) (wq hw 79 rfl) (rmTicks l Z az hw [] oD (Int32.ofNat hs.length) T.heap n0 ZT RT.2.2.1) (W := 0) (g := (mkF m 499 (sh15 q0 q1 q2 p3 q0 u1 c2 u2 x14 x15 x16 x17 x18 oD la lb lc (0 : Int32) (1 : Int32) (1 : Int32) (if u2 = u1 then ((0 : Int32) + (1 : Int32)) else (((0 : Int32) + (1 : Int32)) + (1 : Int32))) (fMin (fMin (9223372036854775807 : Int64) u1) u2) (0 : Int32) (1 : Int32) (1 : Int32)) [(.ref oD)])) rfl (by rw [hml]; rfl) RT.1 (argsL := []) (rest := []) rfl (lenOf own_pd7 rfl) rfl (hb hby at_499) e19 N20 (c' := 8) (s' := 21)
  obtain ⟨rfl, N21q, e21⟩ := hQ21
  have N22 := hF21 N21q
  refine Goes.by st21 ?_
  refine Goes.by (fun _ => XS.iload X21.here hx rfl (hb hby at_502) rfl) ?_
  refine Goes.by (fun _ => XS.icmpNo X21.here hx rfl (hb hby at_504) rfl (teq (if hE : u2 = u1 then by rw [if_pos hE]; exact own_cnt1 IT (a := u1) (fun t => by simp [vt0, vt1, vt2, hE]) else by rw [if_neg hE]; exact own_cnt2 IT (a := u1) (b := u2) (fun t => by simp [vt0, vt1, vt2]) hE)).2) ?_
  refine Goes.by (fun _ => XS.aload X21.here hx rfl (hb hby at_507) rfl rfl) ?_
  obtain ⟨_, T23, L23, Lc23, X23, hF23, hQ23, st23⟩ := own_cv X21 hx hZ hown (wq hw 80 rfl) (wq hw 81 rfl) (wq hw 83 rfl) (wq hw 82 rfl) (wq hw 2 rfl) (wq hw 84 rfl) (rmFirstR l Z az hw [] oD ar kA hs τ N P [la, lb, lc] tk T.heap n0 ZT RT IT (Nat.le_trans LT (by decide))) (W := 0) (g := (mkF m 509 (sh15 q0 q1 q2 p3 q0 u1 c2 u2 x14 x15 x16 x17 x18 oD la lb lc (0 : Int32) (1 : Int32) (1 : Int32) (if u2 = u1 then ((0 : Int32) + (1 : Int32)) else (((0 : Int32) + (1 : Int32)) + (1 : Int32))) (fMin (fMin (9223372036854775807 : Int64) u1) u2) (0 : Int32) (1 : Int32) (1 : Int32)) [(.ref oD)])) rfl (by rw [hml]; rfl) RT.1 (argsL := []) (rest := []) rfl (lenOf own_pd8 rfl) rfl (hb hby at_509) e21 N22 (c' := 8) (s' := 21)
  obtain ⟨r24, rfl, N23q, e23, mn25⟩ := hQ23
  have N26 := hF23 N23q
  refine Goes.by st23 ?_
  refine Goes.by (B := T23.setTop (mkF m 523 (sh15 q0 q1 q2 p3 q0 u1 c2 u2 x14 x15 x16 x17 x18 oD la lb lc (0 : Int32) (1 : Int32) (1 : Int32) (if u2 = u1 then ((0 : Int32) + (1 : Int32)) else (((0 : Int32) + (1 : Int32)) + (1 : Int32))) (fMin (fMin (9223372036854775807 : Int64) u1) u2) (0 : Int32) (1 : Int32) (1 : Int32)) [(.int (1 : Int32))])) (fun t k => ?_) ?_
  · refine XS.lload X23.here hx rfl (hb hby at_512) rfl ?_
    refine XS.lcmp X23.here hx rfl (hb hby at_514) rfl ?_
    refine XS.ifNo X23.here hx rfl (hb hby at_515) rfl ((if0 _ _).trans (teq ((lw_eq r24 (fMin (fMin (9223372036854775807 : Int64) u1) u2)).mpr (own_first mn25 [u1, u2] (fun t => by simp [vt0, vt1, vt2, eq_comm])))).2) ?_
    refine XS.iconst X23.here hx rfl (hb hby at_518) ?_
    refine XS.goto X23.here hx rfl (pc0 := 519) (pc' := 523) rfl (hb hby at_519) (by decide) (by decide) ?_
    exact k
  obtain ⟨fs, hr, hrun, hended, hW, hsame⟩ := X23.leave (v := some (.int (1 : Int32))) (fun h => by rw [Bd.returns] at h; cases h)
  refine Goes.mk _ _ ?_ ⟨hrun, hended, _, _, rfl, ?_, ⟨_, rfl⟩, hW, hsame.mono (by decide) (by decide)⟩
  · exact retN X23 hx (t := .boolean) Bd.returns (by simp) (hb hby at_523) hr
  · show Q0 Z q0 q1 q2 p3 h0 n0 _ T23.heap _
    rw [e23]
    exact ⟨rfl, N26⟩
set_option maxRecDepth 65536 in
set_option maxHeartbeats 40000000 in
theorem tail_101 (l : Launch) (Z : State) (az : Array Value) (hw : ∀ d ∈ tables_1, d.before az Z = true) (ws : List Jvm.Cond) (q0 q1 q2 : Int64) (p3 : Int32) (h0 : Heap) (n0 : Nat) (u1 u2 : Int64) (c2 : Int32) {p : Program} {e : Env} {s : State} {m : MethodId} {below : List Frame} {meth : Method} {c : Code} {s₁ : State} (Bd : BodyLoose p l x (head1 (Jvm.Cond.code x code maxLocals ret :: ws) room_1) code maxLocals ret e s m #[(.long q0), (.long q1), (.long q2), (.int p3)] below meth c s₁) (hx : p.tables.exec = Jvm.exec) (hby : c.code = code) (hml : c.maxLocals = 32) (hown : s.vm.findClass "com/example/admit_one/admitone/engine/DueOrderRemovePinLaw" = some m.cls) (hZ : Z.Warmed39 s.vm) (oD la lb lc ar : Addr) (kA : ClassId) (x14 x15 x16 x17 x18 : Int32) : ∀ (T : State) (locs : List Loc) (hs : List Addr) (τ : Addr → Int64) (N P : Addr → Value) (tk : Addr → Option Int64), Stand p l e room_1 s m #[(.long q0), (.long q1), (.long q2), (.int p3)] below meth c T locs 8 21 → Fr n0 locs → n0 ≤ T.heap.size → Rep Z T.heap n0 oD ar kA hs τ N P [la, lb, lc] → Inv hs τ N P [la, lb, lc] tk → tk la = (some q0) → tk lb = none → tk lc = (some u2) → hs.length ≤ 3 → Goes p.tables e below (fun s₂ o => s₂.status = .running ∧ Ended s₂ below o ∧ ∃ v L, o = .returned v ∧ Q0 Z q0 q1 q2 p3 h0 n0 v s₂.heap L ∧ FrameEnd s o s₂ L 8 21) (T.setTop (mkF m 342 (sh10 q0 q1 q2 p3 q0 u1 c2 u2 x14 x15 x16 x17 x18 oD la lb lc (1 : Int32) (0 : Int32) (1 : Int32)) [])) := by
  intro T locs hs τ N P tk XT NT ZT RT IT vt0 vt1 vt2 LT
  refine Goes.by (B := T.setTop (mkF m 381 (sh11 q0 q1 q2 p3 q0 u1 c2 u2 x14 x15 x16 x17 x18 oD la lb lc (1 : Int32) (0 : Int32) (1 : Int32) ((0 : Int32) + (1 : Int32))) [(.int (1 : Int32))])) (fun t k => ?_) ?_
  · refine XS.iconst XT.here hx rfl (hb hby at_342) ?_
    refine XS.istore XT.here hx rfl (hb hby at_343) rfl (l' := (sh11 q0 q1 q2 p3 q0 u1 c2 u2 x14 x15 x16 x17 x18 oD la lb lc (1 : Int32) (0 : Int32) (1 : Int32) (0 : Int32))) rfl ?_
    refine XS.iload XT.here hx rfl (hb hby at_345) rfl ?_
    refine XS.ifNo XT.here hx rfl (hb hby at_347) rfl ((if0 _ _).trans (feq (by decide : ¬ ((1 : Int32) = (0 : Int32)))).1) ?_
    refine XS.iinc XT.here hx rfl (hb hby at_350) rfl (l' := (sh11 q0 q1 q2 p3 q0 u1 c2 u2 x14 x15 x16 x17 x18 oD la lb lc (1 : Int32) (0 : Int32) (1 : Int32) ((0 : Int32) + (1 : Int32)))) rfl ?_
    refine XS.iload XT.here hx rfl (hb hby at_353) rfl ?_
    refine XS.ifYes XT.here hx rfl (pc0 := 355) (pc' := 374) rfl (hb hby at_355) rfl ((if0 _ _).trans (teq (by decide : (0 : Int32) = (0 : Int32))).1) (by decide) (by decide) ?_
    refine XS.iload XT.here hx rfl (hb hby at_374) rfl ?_
    refine XS.ifNo XT.here hx rfl (hb hby at_376) rfl ((if0 _ _).trans (feq (by decide : ¬ ((1 : Int32) = (0 : Int32)))).1) ?_
    refine XS.iload XT.here hx rfl (hb hby at_379) rfl ?_
    exact k
  refine Goes.by (B := T.setTop (mkF m 389 (sh11 q0 q1 q2 p3 q0 u1 c2 u2 x14 x15 x16 x17 x18 oD la lb lc (1 : Int32) (0 : Int32) (1 : Int32) ((0 : Int32) + (1 : Int32))) [(.int (lcmpW u2 q0))])) (fun t k => ?_) ?_
  · refine XS.ifNo XT.here hx rfl (hb hby at_381) rfl ((if0 _ _).trans (feq (by decide : ¬ ((1 : Int32) = (0 : Int32)))).1) ?_
    refine XS.lload XT.here hx rfl (hb hby at_384) rfl ?_
    refine XS.lload XT.here hx rfl (hb hby at_386) rfl ?_
    refine XS.lcmp XT.here hx rfl (hb hby at_388) rfl ?_
    exact k
  refine Goes.by (B := T.setTop (mkF m 408 (sh11 q0 q1 q2 p3 q0 u1 c2 u2 x14 x15 x16 x17 x18 oD la lb lc (1 : Int32) (0 : Int32) (1 : Int32) (if u2 = q0 then ((0 : Int32) + (1 : Int32)) else (((0 : Int32) + (1 : Int32)) + (1 : Int32)))) [])) (fun t k => ?_) ?_
  · by_cases hm27 : u2 = q0
    · simp only [if_pos hm27] at k
      show Steps p.tables e below (T.setTop (mkF m 389 (sh11 q0 q1 q2 p3 q0 u1 c2 u2 x14 x15 x16 x17 x18 oD la lb lc (1 : Int32) (0 : Int32) (1 : Int32) ((0 : Int32) + (1 : Int32))) [(.int (lcmpW u2 q0))])) t
      refine XS.ifYes XT.here hx rfl (pc0 := 389) (pc' := 408) rfl (hb hby at_389) rfl ((if0 _ _).trans (teq ((lw_eq u2 q0).mpr hm27)).1) (by decide) (by decide) ?_
      exact k
    · simp only [if_neg hm27] at k
      show Steps p.tables e below (T.setTop (mkF m 389 (sh11 q0 q1 q2 p3 q0 u1 c2 u2 x14 x15 x16 x17 x18 oD la lb lc (1 : Int32) (0 : Int32) (1 : Int32) ((0 : Int32) + (1 : Int32))) [(.int (lcmpW u2 q0))])) t
      refine XS.ifNo XT.here hx rfl (hb hby at_389) rfl ((if0 _ _).trans (feq (fun z => hm27 ((lw_eq u2 q0).mp z))).1) ?_
      show Steps p.tables e below (T.setTop (mkF m 392 (sh11 q0 q1 q2 p3 q0 u1 c2 u2 x14 x15 x16 x17 x18 oD la lb lc (1 : Int32) (0 : Int32) (1 : Int32) ((0 : Int32) + (1 : Int32))) [])) t
      refine XS.iload XT.here hx rfl (hb hby at_392) rfl ?_
      show Steps p.tables e below (T.setTop (mkF m 394 (sh11 q0 q1 q2 p3 q0 u1 c2 u2 x14 x15 x16 x17 x18 oD la lb lc (1 : Int32) (0 : Int32) (1 : Int32) ((0 : Int32) + (1 : Int32))) [(.int (0 : Int32))])) t
      refine XS.ifYes XT.here hx rfl (pc0 := 394) (pc' := 405) rfl (hb hby at_394) rfl ((if0 _ _).trans (teq (by decide : (0 : Int32) = (0 : Int32))).1) (by decide) (by decide) ?_
      show Steps p.tables e below (T.setTop (mkF m 405 (sh11 q0 q1 q2 p3 q0 u1 c2 u2 x14 x15 x16 x17 x18 oD la lb lc (1 : Int32) (0 : Int32) (1 : Int32) ((0 : Int32) + (1 : Int32))) [])) t
      refine XS.iinc XT.here hx rfl (hb hby at_405) rfl (l' := (sh11 q0 q1 q2 p3 q0 u1 c2 u2 x14 x15 x16 x17 x18 oD la lb lc (1 : Int32) (0 : Int32) (1 : Int32) (((0 : Int32) + (1 : Int32)) + (1 : Int32)))) rfl ?_
      exact k
  refine Goes.by (B := T.setTop (mkF m 422 (sh12 q0 q1 q2 p3 q0 u1 c2 u2 x14 x15 x16 x17 x18 oD la lb lc (1 : Int32) (0 : Int32) (1 : Int32) (if u2 = q0 then ((0 : Int32) + (1 : Int32)) else (((0 : Int32) + (1 : Int32)) + (1 : Int32))) (9223372036854775807 : Int64)) [(.long q0), (.long (9223372036854775807 : Int64))])) (fun t k => ?_) ?_
  · refine XT.ldc2Long hx hown (mvT hZ (wq hw 67 rfl)) (g := (mkF m 408 (sh11 q0 q1 q2 p3 q0 u1 c2 u2 x14 x15 x16 x17 x18 oD la lb lc (1 : Int32) (0 : Int32) (1 : Int32) (if u2 = q0 then ((0 : Int32) + (1 : Int32)) else (((0 : Int32) + (1 : Int32)) + (1 : Int32)))) [])) rfl (hb hby at_408) _ ?_
    refine XS.lstore XT.here hx rfl (hb hby at_411) rfl (l' := (sh12 q0 q1 q2 p3 q0 u1 c2 u2 x14 x15 x16 x17 x18 oD la lb lc (1 : Int32) (0 : Int32) (1 : Int32) (if u2 = q0 then ((0 : Int32) + (1 : Int32)) else (((0 : Int32) + (1 : Int32)) + (1 : Int32))) (9223372036854775807 : Int64))) rfl ?_
    refine XS.iload XT.here hx rfl (hb hby at_413) rfl ?_
    refine XS.ifNo XT.here hx rfl (hb hby at_415) rfl ((if0 _ _).trans (feq (by decide : ¬ ((1 : Int32) = (0 : Int32)))).1) ?_
    refine XS.lload XT.here hx rfl (hb hby at_418) rfl ?_
    refine XS.lload XT.here hx rfl (hb hby at_420) rfl ?_
    exact k
  obtain ⟨_, T29, L29, Lc29, X29, hF29, hQ29, st29⟩ := own_cs XT hx hZ hown (wq hw 68 rfl) (wq hw 69 rfl) (wq hw 70 rfl) (wq hw 71 rfl) (rmMin l Z az hw [] (9223372036854775807 : Int64) q0 T.heap n0 ZT ) (W := 0) (g := (mkF m 422 (sh12 q0 q1 q2 p3 q0 u1 c2 u2 x14 x15 x16 x17 x18 oD la lb lc (1 : Int32) (0 : Int32) (1 : Int32) (if u2 = q0 then ((0 : Int32) + (1 : Int32)) else (((0 : Int32) + (1 : Int32)) + (1 : Int32))) (9223372036854775807 : Int64)) [(.long q0), (.long (9223372036854775807 : Int64))])) rfl (by rw [hml]; rfl) (argsL := [(.long (9223372036854775807 : Int64)), (.long q0)]) (rest := []) rfl (lenOf own_pd5 rfl) rfl (hb hby at_422) rfl NT (c' := 8) (s' := 21)
  obtain ⟨rfl, N29q, e29⟩ := hQ29
  have N30 := hF29 N29q
  refine Goes.by st29 ?_
  refine Goes.by (B := T29.setTop (mkF m 450 (sh12 q0 q1 q2 p3 q0 u1 c2 u2 x14 x15 x16 x17 x18 oD la lb lc (1 : Int32) (0 : Int32) (1 : Int32) (if u2 = q0 then ((0 : Int32) + (1 : Int32)) else (((0 : Int32) + (1 : Int32)) + (1 : Int32))) (fMin (9223372036854775807 : Int64) q0)) [(.long u2), (.long (fMin (9223372036854775807 : Int64) q0))])) (fun t k => ?_) ?_
  · refine XS.lstore X29.here hx rfl (hb hby at_425) rfl (l' := (sh12 q0 q1 q2 p3 q0 u1 c2 u2 x14 x15 x16 x17 x18 oD la lb lc (1 : Int32) (0 : Int32) (1 : Int32) (if u2 = q0 then ((0 : Int32) + (1 : Int32)) else (((0 : Int32) + (1 : Int32)) + (1 : Int32))) (fMin (9223372036854775807 : Int64) q0))) rfl ?_
    refine XS.iload X29.here hx rfl (hb hby at_427) rfl ?_
    refine XS.ifYes X29.here hx rfl (pc0 := 429) (pc' := 441) rfl (hb hby at_429) rfl ((if0 _ _).trans (teq (by decide : (0 : Int32) = (0 : Int32))).1) (by decide) (by decide) ?_
    refine XS.iload X29.here hx rfl (hb hby at_441) rfl ?_
    refine XS.ifNo X29.here hx rfl (hb hby at_443) rfl ((if0 _ _).trans (feq (by decide : ¬ ((1 : Int32) = (0 : Int32)))).1) ?_
    refine XS.lload X29.here hx rfl (hb hby at_446) rfl ?_
    refine XS.lload X29.here hx rfl (hb hby at_448) rfl ?_
    exact k
  obtain ⟨_, T31, L31, Lc31, X31, hF31, hQ31, st31⟩ := own_cs X29 hx hZ hown (wq hw 68 rfl) (wq hw 69 rfl) (wq hw 70 rfl) (wq hw 71 rfl) (rmMin l Z az hw [] (fMin (9223372036854775807 : Int64) q0) u2 T.heap n0 ZT ) (W := 0) (g := (mkF m 450 (sh12 q0 q1 q2 p3 q0 u1 c2 u2 x14 x15 x16 x17 x18 oD la lb lc (1 : Int32) (0 : Int32) (1 : Int32) (if u2 = q0 then ((0 : Int32) + (1 : Int32)) else (((0 : Int32) + (1 : Int32)) + (1 : Int32))) (fMin (9223372036854775807 : Int64) q0)) [(.long u2), (.long (fMin (9223372036854775807 : Int64) q0))])) rfl (by rw [hml]; rfl) (argsL := [(.long (fMin (9223372036854775807 : Int64) q0)), (.long u2)]) (rest := []) rfl (lenOf own_pd5 rfl) rfl (hb hby at_450) e29 N30 (c' := 8) (s' := 21)
  obtain ⟨rfl, N31q, e31⟩ := hQ31
  have N32 := hF31 N31q
  refine Goes.by st31 ?_
  refine Goes.by (fun _ => XS.lstore X31.here hx rfl (hb hby at_453) rfl (l' := (sh12 q0 q1 q2 p3 q0 u1 c2 u2 x14 x15 x16 x17 x18 oD la lb lc (1 : Int32) (0 : Int32) (1 : Int32) (if u2 = q0 then ((0 : Int32) + (1 : Int32)) else (((0 : Int32) + (1 : Int32)) + (1 : Int32))) (fMin (fMin (9223372036854775807 : Int64) q0) u2))) rfl) ?_
  refine Goes.by (fun _ => XS.aload X31.here hx rfl (hb hby at_455) rfl rfl) ?_
  obtain ⟨b34, f33⟩ := Rep.nextY RT IT (by simp) vt0
  obtain ⟨_, T35, L35, Lc35, X35, hF35, hQ35, st35⟩ := own_cs X31 hx hZ hown (wq hw 72 rfl) (wq hw 73 rfl) (wq hw 2 rfl) (wq hw 74 rfl) (rmIsY l Z az hw [] la b34 T.heap n0 ZT f33) (W := 0) (g := (mkF m 457 (sh12 q0 q1 q2 p3 q0 u1 c2 u2 x14 x15 x16 x17 x18 oD la lb lc (1 : Int32) (0 : Int32) (1 : Int32) (if u2 = q0 then ((0 : Int32) + (1 : Int32)) else (((0 : Int32) + (1 : Int32)) + (1 : Int32))) (fMin (fMin (9223372036854775807 : Int64) q0) u2)) [(.ref la)])) rfl (by rw [hml]; rfl) (argsL := [(.ref la)]) (rest := []) rfl (lenOf own_pd6 rfl) rfl (hb hby at_457) e31 N32 (c' := 8) (s' := 21)
  obtain ⟨rfl, N35q, e35⟩ := hQ35
  have N36 := hF35 N35q
  refine Goes.by st35 ?_
  refine Goes.by (fun _ => XS.istore X35.here hx rfl (hb hby at_460) rfl (l' := (sh13 q0 q1 q2 p3 q0 u1 c2 u2 x14 x15 x16 x17 x18 oD la lb lc (1 : Int32) (0 : Int32) (1 : Int32) (if u2 = q0 then ((0 : Int32) + (1 : Int32)) else (((0 : Int32) + (1 : Int32)) + (1 : Int32))) (fMin (fMin (9223372036854775807 : Int64) q0) u2) (1 : Int32))) rfl) ?_
  refine Goes.by (fun _ => XS.aload X35.here hx rfl (hb hby at_462) rfl rfl) ?_
  have f37 : Fld Z T.heap lb cL "next" dL .null := Rep.nextN RT IT (by simp) vt1
  obtain ⟨_, T38, L38, Lc38, X38, hF38, hQ38, st38⟩ := own_cs X35 hx hZ hown (wq hw 72 rfl) (wq hw 73 rfl) (wq hw 2 rfl) (wq hw 74 rfl) (rmIsN l Z az hw [] lb T.heap n0 ZT f37) (W := 0) (g := (mkF m 464 (sh13 q0 q1 q2 p3 q0 u1 c2 u2 x14 x15 x16 x17 x18 oD la lb lc (1 : Int32) (0 : Int32) (1 : Int32) (if u2 = q0 then ((0 : Int32) + (1 : Int32)) else (((0 : Int32) + (1 : Int32)) + (1 : Int32))) (fMin (fMin (9223372036854775807 : Int64) q0) u2) (1 : Int32)) [(.ref lb)])) rfl (by rw [hml]; rfl) (argsL := [(.ref lb)]) (rest := []) rfl (lenOf own_pd6 rfl) rfl (hb hby at_464) e35 N36 (c' := 8) (s' := 21)
  obtain ⟨rfl, N38q, e38⟩ := hQ38
  have N39 := hF38 N38q
  refine Goes.by st38 ?_
  refine Goes.by (fun _ => XS.istore X38.here hx rfl (hb hby at_467) rfl (l' := (sh14 q0 q1 q2 p3 q0 u1 c2 u2 x14 x15 x16 x17 x18 oD la lb lc (1 : Int32) (0 : Int32) (1 : Int32) (if u2 = q0 then ((0 : Int32) + (1 : Int32)) else (((0 : Int32) + (1 : Int32)) + (1 : Int32))) (fMin (fMin (9223372036854775807 : Int64) q0) u2) (1 : Int32) (0 : Int32))) rfl) ?_
  refine Goes.by (fun _ => XS.aload X38.here hx rfl (hb hby at_469) rfl rfl) ?_
  obtain ⟨b41, f40⟩ := Rep.nextY RT IT (by simp) vt2
  obtain ⟨_, T42, L42, Lc42, X42, hF42, hQ42, st42⟩ := own_cs X38 hx hZ hown (wq hw 72 rfl) (wq hw 73 rfl) (wq hw 2 rfl) (wq hw 74 rfl) (rmIsY l Z az hw [] lc b41 T.heap n0 ZT f40) (W := 0) (g := (mkF m 471 (sh14 q0 q1 q2 p3 q0 u1 c2 u2 x14 x15 x16 x17 x18 oD la lb lc (1 : Int32) (0 : Int32) (1 : Int32) (if u2 = q0 then ((0 : Int32) + (1 : Int32)) else (((0 : Int32) + (1 : Int32)) + (1 : Int32))) (fMin (fMin (9223372036854775807 : Int64) q0) u2) (1 : Int32) (0 : Int32)) [(.ref lc)])) rfl (by rw [hml]; rfl) (argsL := [(.ref lc)]) (rest := []) rfl (lenOf own_pd6 rfl) rfl (hb hby at_471) e38 N39 (c' := 8) (s' := 21)
  obtain ⟨rfl, N42q, e42⟩ := hQ42
  have N43 := hF42 N42q
  refine Goes.by st42 ?_
  refine Goes.by (B := T42.setTop (mkF m 499 (sh15 q0 q1 q2 p3 q0 u1 c2 u2 x14 x15 x16 x17 x18 oD la lb lc (1 : Int32) (0 : Int32) (1 : Int32) (if u2 = q0 then ((0 : Int32) + (1 : Int32)) else (((0 : Int32) + (1 : Int32)) + (1 : Int32))) (fMin (fMin (9223372036854775807 : Int64) q0) u2) (1 : Int32) (0 : Int32) (1 : Int32)) [(.ref oD)])) (fun t k => ?_) ?_
  · refine XS.istore X42.here hx rfl (hb hby at_474) rfl (l' := (sh15 q0 q1 q2 p3 q0 u1 c2 u2 x14 x15 x16 x17 x18 oD la lb lc (1 : Int32) (0 : Int32) (1 : Int32) (if u2 = q0 then ((0 : Int32) + (1 : Int32)) else (((0 : Int32) + (1 : Int32)) + (1 : Int32))) (fMin (fMin (9223372036854775807 : Int64) q0) u2) (1 : Int32) (0 : Int32) (1 : Int32))) rfl ?_
    refine XS.iload X42.here hx rfl (hb hby at_476) rfl ?_
    refine XS.iload X42.here hx rfl (hb hby at_478) rfl ?_
    refine XS.icmpNo X42.here hx rfl (hb hby at_480) rfl (teq (by decide : (1 : Int32) = (1 : Int32))).2 ?_
    refine XS.iload X42.here hx rfl (hb hby at_483) rfl ?_
    refine XS.iload X42.here hx rfl (hb hby at_485) rfl ?_
    refine XS.icmpNo X42.here hx rfl (hb hby at_487) rfl (teq (by decide : (0 : Int32) = (0 : Int32))).2 ?_
    refine XS.iload X42.here hx rfl (hb hby at_490) rfl ?_
    refine XS.iload X42.here hx rfl (hb hby at_492) rfl ?_
    refine XS.icmpNo X42.here hx rfl (hb hby at_494) rfl (teq (by decide : (1 : Int32) = (1 : Int32))).2 ?_
    refine XS.aload X42.here hx rfl (hb hby at_497) rfl rfl ?_
    exact k
  obtain ⟨_, T44, L44, Lc44, X44, hF44, hQ44, st44⟩ := own_cv X42 hx hZ hown (wq hw 75 rfl) (wq hw 76 rfl) (wq hw 78 rfl) (wq hw 77 rfl) (wq hw 2 rfl) (wq hw 79 rfl) (rmTicks l Z az hw [] oD (Int32.ofNat hs.length) T.heap n0 ZT RT.2.2.1) (W := 0) (g := (mkF m 499 (sh15 q0 q1 q2 p3 q0 u1 c2 u2 x14 x15 x16 x17 x18 oD la lb lc (1 : Int32) (0 : Int32) (1 : Int32) (if u2 = q0 then ((0 : Int32) + (1 : Int32)) else (((0 : Int32) + (1 : Int32)) + (1 : Int32))) (fMin (fMin (9223372036854775807 : Int64) q0) u2) (1 : Int32) (0 : Int32) (1 : Int32)) [(.ref oD)])) rfl (by rw [hml]; rfl) RT.1 (argsL := []) (rest := []) rfl (lenOf own_pd7 rfl) rfl (hb hby at_499) e42 N43 (c' := 8) (s' := 21)
  obtain ⟨rfl, N44q, e44⟩ := hQ44
  have N45 := hF44 N44q
  refine Goes.by st44 ?_
  refine Goes.by (fun _ => XS.iload X44.here hx rfl (hb hby at_502) rfl) ?_
  refine Goes.by (fun _ => XS.icmpNo X44.here hx rfl (hb hby at_504) rfl (teq (if hE : u2 = q0 then by rw [if_pos hE]; exact own_cnt1 IT (a := q0) (fun t => by simp [vt0, vt1, vt2, hE]) else by rw [if_neg hE]; exact own_cnt2 IT (a := q0) (b := u2) (fun t => by simp [vt0, vt1, vt2]) hE)).2) ?_
  refine Goes.by (fun _ => XS.aload X44.here hx rfl (hb hby at_507) rfl rfl) ?_
  obtain ⟨_, T46, L46, Lc46, X46, hF46, hQ46, st46⟩ := own_cv X44 hx hZ hown (wq hw 80 rfl) (wq hw 81 rfl) (wq hw 83 rfl) (wq hw 82 rfl) (wq hw 2 rfl) (wq hw 84 rfl) (rmFirstR l Z az hw [] oD ar kA hs τ N P [la, lb, lc] tk T.heap n0 ZT RT IT (Nat.le_trans LT (by decide))) (W := 0) (g := (mkF m 509 (sh15 q0 q1 q2 p3 q0 u1 c2 u2 x14 x15 x16 x17 x18 oD la lb lc (1 : Int32) (0 : Int32) (1 : Int32) (if u2 = q0 then ((0 : Int32) + (1 : Int32)) else (((0 : Int32) + (1 : Int32)) + (1 : Int32))) (fMin (fMin (9223372036854775807 : Int64) q0) u2) (1 : Int32) (0 : Int32) (1 : Int32)) [(.ref oD)])) rfl (by rw [hml]; rfl) RT.1 (argsL := []) (rest := []) rfl (lenOf own_pd8 rfl) rfl (hb hby at_509) e44 N45 (c' := 8) (s' := 21)
  obtain ⟨r47, rfl, N46q, e46, mn48⟩ := hQ46
  have N49 := hF46 N46q
  refine Goes.by st46 ?_
  refine Goes.by (B := T46.setTop (mkF m 523 (sh15 q0 q1 q2 p3 q0 u1 c2 u2 x14 x15 x16 x17 x18 oD la lb lc (1 : Int32) (0 : Int32) (1 : Int32) (if u2 = q0 then ((0 : Int32) + (1 : Int32)) else (((0 : Int32) + (1 : Int32)) + (1 : Int32))) (fMin (fMin (9223372036854775807 : Int64) q0) u2) (1 : Int32) (0 : Int32) (1 : Int32)) [(.int (1 : Int32))])) (fun t k => ?_) ?_
  · refine XS.lload X46.here hx rfl (hb hby at_512) rfl ?_
    refine XS.lcmp X46.here hx rfl (hb hby at_514) rfl ?_
    refine XS.ifNo X46.here hx rfl (hb hby at_515) rfl ((if0 _ _).trans (teq ((lw_eq r47 (fMin (fMin (9223372036854775807 : Int64) q0) u2)).mpr (own_first mn48 [q0, u2] (fun t => by simp [vt0, vt1, vt2, eq_comm])))).2) ?_
    refine XS.iconst X46.here hx rfl (hb hby at_518) ?_
    refine XS.goto X46.here hx rfl (pc0 := 519) (pc' := 523) rfl (hb hby at_519) (by decide) (by decide) ?_
    exact k
  obtain ⟨fs, hr, hrun, hended, hW, hsame⟩ := X46.leave (v := some (.int (1 : Int32))) (fun h => by rw [Bd.returns] at h; cases h)
  refine Goes.mk _ _ ?_ ⟨hrun, hended, _, _, rfl, ?_, ⟨_, rfl⟩, hW, hsame.mono (by decide) (by decide)⟩
  · exact retN X46 hx (t := .boolean) Bd.returns (by simp) (hb hby at_523) hr
  · show Q0 Z q0 q1 q2 p3 h0 n0 _ T46.heap _
    rw [e46]
    exact ⟨rfl, N49⟩
set_option maxRecDepth 65536 in
set_option maxHeartbeats 40000000 in
theorem tail_110 (l : Launch) (Z : State) (az : Array Value) (hw : ∀ d ∈ tables_1, d.before az Z = true) (ws : List Jvm.Cond) (q0 q1 q2 : Int64) (p3 : Int32) (h0 : Heap) (n0 : Nat) (u1 u2 : Int64) (c2 : Int32) {p : Program} {e : Env} {s : State} {m : MethodId} {below : List Frame} {meth : Method} {c : Code} {s₁ : State} (Bd : BodyLoose p l x (head1 (Jvm.Cond.code x code maxLocals ret :: ws) room_1) code maxLocals ret e s m #[(.long q0), (.long q1), (.long q2), (.int p3)] below meth c s₁) (hx : p.tables.exec = Jvm.exec) (hby : c.code = code) (hml : c.maxLocals = 32) (hown : s.vm.findClass "com/example/admit_one/admitone/engine/DueOrderRemovePinLaw" = some m.cls) (hZ : Z.Warmed39 s.vm) (oD la lb lc ar : Addr) (kA : ClassId) (x14 x15 x16 x17 x18 : Int32) : ∀ (T : State) (locs : List Loc) (hs : List Addr) (τ : Addr → Int64) (N P : Addr → Value) (tk : Addr → Option Int64), Stand p l e room_1 s m #[(.long q0), (.long q1), (.long q2), (.int p3)] below meth c T locs 8 21 → Fr n0 locs → n0 ≤ T.heap.size → Rep Z T.heap n0 oD ar kA hs τ N P [la, lb, lc] → Inv hs τ N P [la, lb, lc] tk → tk la = (some q0) → tk lb = (some u1) → tk lc = none → hs.length ≤ 3 → Goes p.tables e below (fun s₂ o => s₂.status = .running ∧ Ended s₂ below o ∧ ∃ v L, o = .returned v ∧ Q0 Z q0 q1 q2 p3 h0 n0 v s₂.heap L ∧ FrameEnd s o s₂ L 8 21) (T.setTop (mkF m 342 (sh10 q0 q1 q2 p3 q0 u1 c2 u2 x14 x15 x16 x17 x18 oD la lb lc (1 : Int32) (1 : Int32) (0 : Int32)) [])) := by
  intro T locs hs τ N P tk XT NT ZT RT IT vt0 vt1 vt2 LT
  refine Goes.by (B := T.setTop (mkF m 368 (sh11 q0 q1 q2 p3 q0 u1 c2 u2 x14 x15 x16 x17 x18 oD la lb lc (1 : Int32) (1 : Int32) (0 : Int32) ((0 : Int32) + (1 : Int32))) [(.int (lcmpW u1 q0))])) (fun t k => ?_) ?_
  · refine XS.iconst XT.here hx rfl (hb hby at_342) ?_
    refine XS.istore XT.here hx rfl (hb hby at_343) rfl (l' := (sh11 q0 q1 q2 p3 q0 u1 c2 u2 x14 x15 x16 x17 x18 oD la lb lc (1 : Int32) (1 : Int32) (0 : Int32) (0 : Int32))) rfl ?_
    refine XS.iload XT.here hx rfl (hb hby at_345) rfl ?_
    refine XS.ifNo XT.here hx rfl (hb hby at_347) rfl ((if0 _ _).trans (feq (by decide : ¬ ((1 : Int32) = (0 : Int32)))).1) ?_
    refine XS.iinc XT.here hx rfl (hb hby at_350) rfl (l' := (sh11 q0 q1 q2 p3 q0 u1 c2 u2 x14 x15 x16 x17 x18 oD la lb lc (1 : Int32) (1 : Int32) (0 : Int32) ((0 : Int32) + (1 : Int32)))) rfl ?_
    refine XS.iload XT.here hx rfl (hb hby at_353) rfl ?_
    refine XS.ifNo XT.here hx rfl (hb hby at_355) rfl ((if0 _ _).trans (feq (by decide : ¬ ((1 : Int32) = (0 : Int32)))).1) ?_
    refine XS.iload XT.here hx rfl (hb hby at_358) rfl ?_
    refine XS.ifNo XT.here hx rfl (hb hby at_360) rfl ((if0 _ _).trans (feq (by decide : ¬ ((1 : Int32) = (0 : Int32)))).1) ?_
    refine XS.lload XT.here hx rfl (hb hby at_363) rfl ?_
    refine XS.lload XT.here hx rfl (hb hby at_365) rfl ?_
    refine XS.lcmp XT.here hx rfl (hb hby at_367) rfl ?_
    exact k
  refine Goes.by (B := T.setTop (mkF m 374 (sh11 q0 q1 q2 p3 q0 u1 c2 u2 x14 x15 x16 x17 x18 oD la lb lc (1 : Int32) (1 : Int32) (0 : Int32) (if u1 = q0 then ((0 : Int32) + (1 : Int32)) else (((0 : Int32) + (1 : Int32)) + (1 : Int32)))) [])) (fun t k => ?_) ?_
  · by_cases hm50 : u1 = q0
    · simp only [if_pos hm50] at k
      show Steps p.tables e below (T.setTop (mkF m 368 (sh11 q0 q1 q2 p3 q0 u1 c2 u2 x14 x15 x16 x17 x18 oD la lb lc (1 : Int32) (1 : Int32) (0 : Int32) ((0 : Int32) + (1 : Int32))) [(.int (lcmpW u1 q0))])) t
      refine XS.ifYes XT.here hx rfl (pc0 := 368) (pc' := 374) rfl (hb hby at_368) rfl ((if0 _ _).trans (teq ((lw_eq u1 q0).mpr hm50)).1) (by decide) (by decide) ?_
      exact k
    · simp only [if_neg hm50] at k
      show Steps p.tables e below (T.setTop (mkF m 368 (sh11 q0 q1 q2 p3 q0 u1 c2 u2 x14 x15 x16 x17 x18 oD la lb lc (1 : Int32) (1 : Int32) (0 : Int32) ((0 : Int32) + (1 : Int32))) [(.int (lcmpW u1 q0))])) t
      refine XS.ifNo XT.here hx rfl (hb hby at_368) rfl ((if0 _ _).trans (feq (fun z => hm50 ((lw_eq u1 q0).mp z))).1) ?_
      show Steps p.tables e below (T.setTop (mkF m 371 (sh11 q0 q1 q2 p3 q0 u1 c2 u2 x14 x15 x16 x17 x18 oD la lb lc (1 : Int32) (1 : Int32) (0 : Int32) ((0 : Int32) + (1 : Int32))) [])) t
      refine XS.iinc XT.here hx rfl (hb hby at_371) rfl (l' := (sh11 q0 q1 q2 p3 q0 u1 c2 u2 x14 x15 x16 x17 x18 oD la lb lc (1 : Int32) (1 : Int32) (0 : Int32) (((0 : Int32) + (1 : Int32)) + (1 : Int32)))) rfl ?_
      exact k
  refine Goes.by (B := T.setTop (mkF m 422 (sh12 q0 q1 q2 p3 q0 u1 c2 u2 x14 x15 x16 x17 x18 oD la lb lc (1 : Int32) (1 : Int32) (0 : Int32) (if u1 = q0 then ((0 : Int32) + (1 : Int32)) else (((0 : Int32) + (1 : Int32)) + (1 : Int32))) (9223372036854775807 : Int64)) [(.long q0), (.long (9223372036854775807 : Int64))])) (fun t k => ?_) ?_
  · refine XS.iload XT.here hx rfl (hb hby at_374) rfl ?_
    refine XS.ifYes XT.here hx rfl (pc0 := 376) (pc' := 408) rfl (hb hby at_376) rfl ((if0 _ _).trans (teq (by decide : (0 : Int32) = (0 : Int32))).1) (by decide) (by decide) ?_
    refine XT.ldc2Long hx hown (mvT hZ (wq hw 67 rfl)) (g := (mkF m 408 (sh11 q0 q1 q2 p3 q0 u1 c2 u2 x14 x15 x16 x17 x18 oD la lb lc (1 : Int32) (1 : Int32) (0 : Int32) (if u1 = q0 then ((0 : Int32) + (1 : Int32)) else (((0 : Int32) + (1 : Int32)) + (1 : Int32)))) [])) rfl (hb hby at_408) _ ?_
    refine XS.lstore XT.here hx rfl (hb hby at_411) rfl (l' := (sh12 q0 q1 q2 p3 q0 u1 c2 u2 x14 x15 x16 x17 x18 oD la lb lc (1 : Int32) (1 : Int32) (0 : Int32) (if u1 = q0 then ((0 : Int32) + (1 : Int32)) else (((0 : Int32) + (1 : Int32)) + (1 : Int32))) (9223372036854775807 : Int64))) rfl ?_
    refine XS.iload XT.here hx rfl (hb hby at_413) rfl ?_
    refine XS.ifNo XT.here hx rfl (hb hby at_415) rfl ((if0 _ _).trans (feq (by decide : ¬ ((1 : Int32) = (0 : Int32)))).1) ?_
    refine XS.lload XT.here hx rfl (hb hby at_418) rfl ?_
    refine XS.lload XT.here hx rfl (hb hby at_420) rfl ?_
    exact k
  obtain ⟨_, T51, L51, Lc51, X51, hF51, hQ51, st51⟩ := own_cs XT hx hZ hown (wq hw 68 rfl) (wq hw 69 rfl) (wq hw 70 rfl) (wq hw 71 rfl) (rmMin l Z az hw [] (9223372036854775807 : Int64) q0 T.heap n0 ZT ) (W := 0) (g := (mkF m 422 (sh12 q0 q1 q2 p3 q0 u1 c2 u2 x14 x15 x16 x17 x18 oD la lb lc (1 : Int32) (1 : Int32) (0 : Int32) (if u1 = q0 then ((0 : Int32) + (1 : Int32)) else (((0 : Int32) + (1 : Int32)) + (1 : Int32))) (9223372036854775807 : Int64)) [(.long q0), (.long (9223372036854775807 : Int64))])) rfl (by rw [hml]; rfl) (argsL := [(.long (9223372036854775807 : Int64)), (.long q0)]) (rest := []) rfl (lenOf own_pd5 rfl) rfl (hb hby at_422) rfl NT (c' := 8) (s' := 21)
  obtain ⟨rfl, N51q, e51⟩ := hQ51
  have N52 := hF51 N51q
  refine Goes.by st51 ?_
  refine Goes.by (B := T51.setTop (mkF m 436 (sh12 q0 q1 q2 p3 q0 u1 c2 u2 x14 x15 x16 x17 x18 oD la lb lc (1 : Int32) (1 : Int32) (0 : Int32) (if u1 = q0 then ((0 : Int32) + (1 : Int32)) else (((0 : Int32) + (1 : Int32)) + (1 : Int32))) (fMin (9223372036854775807 : Int64) q0)) [(.long u1), (.long (fMin (9223372036854775807 : Int64) q0))])) (fun t k => ?_) ?_
  · refine XS.lstore X51.here hx rfl (hb hby at_425) rfl (l' := (sh12 q0 q1 q2 p3 q0 u1 c2 u2 x14 x15 x16 x17 x18 oD la lb lc (1 : Int32) (1 : Int32) (0 : Int32) (if u1 = q0 then ((0 : Int32) + (1 : Int32)) else (((0 : Int32) + (1 : Int32)) + (1 : Int32))) (fMin (9223372036854775807 : Int64) q0))) rfl ?_
    refine XS.iload X51.here hx rfl (hb hby at_427) rfl ?_
    refine XS.ifNo X51.here hx rfl (hb hby at_429) rfl ((if0 _ _).trans (feq (by decide : ¬ ((1 : Int32) = (0 : Int32)))).1) ?_
    refine XS.lload X51.here hx rfl (hb hby at_432) rfl ?_
    refine XS.lload X51.here hx rfl (hb hby at_434) rfl ?_
    exact k
  obtain ⟨_, T53, L53, Lc53, X53, hF53, hQ53, st53⟩ := own_cs X51 hx hZ hown (wq hw 68 rfl) (wq hw 69 rfl) (wq hw 70 rfl) (wq hw 71 rfl) (rmMin l Z az hw [] (fMin (9223372036854775807 : Int64) q0) u1 T.heap n0 ZT ) (W := 0) (g := (mkF m 436 (sh12 q0 q1 q2 p3 q0 u1 c2 u2 x14 x15 x16 x17 x18 oD la lb lc (1 : Int32) (1 : Int32) (0 : Int32) (if u1 = q0 then ((0 : Int32) + (1 : Int32)) else (((0 : Int32) + (1 : Int32)) + (1 : Int32))) (fMin (9223372036854775807 : Int64) q0)) [(.long u1), (.long (fMin (9223372036854775807 : Int64) q0))])) rfl (by rw [hml]; rfl) (argsL := [(.long (fMin (9223372036854775807 : Int64) q0)), (.long u1)]) (rest := []) rfl (lenOf own_pd5 rfl) rfl (hb hby at_436) e51 N52 (c' := 8) (s' := 21)
  obtain ⟨rfl, N53q, e53⟩ := hQ53
  have N54 := hF53 N53q
  refine Goes.by st53 ?_
  refine Goes.by (fun _ => XS.lstore X53.here hx rfl (hb hby at_439) rfl (l' := (sh12 q0 q1 q2 p3 q0 u1 c2 u2 x14 x15 x16 x17 x18 oD la lb lc (1 : Int32) (1 : Int32) (0 : Int32) (if u1 = q0 then ((0 : Int32) + (1 : Int32)) else (((0 : Int32) + (1 : Int32)) + (1 : Int32))) (fMin (fMin (9223372036854775807 : Int64) q0) u1))) rfl) ?_
  refine Goes.by (fun _ => XS.iload X53.here hx rfl (hb hby at_441) rfl) ?_
  refine Goes.by (fun _ => XS.ifYes X53.here hx rfl (pc0 := 443) (pc' := 455) rfl (hb hby at_443) rfl ((if0 _ _).trans (teq (by decide : (0 : Int32) = (0 : Int32))).1) (by decide) (by decide)) ?_
  refine Goes.by (fun _ => XS.aload X53.here hx rfl (hb hby at_455) rfl rfl) ?_
  obtain ⟨b56, f55⟩ := Rep.nextY RT IT (by simp) vt0
  obtain ⟨_, T57, L57, Lc57, X57, hF57, hQ57, st57⟩ := own_cs X53 hx hZ hown (wq hw 72 rfl) (wq hw 73 rfl) (wq hw 2 rfl) (wq hw 74 rfl) (rmIsY l Z az hw [] la b56 T.heap n0 ZT f55) (W := 0) (g := (mkF m 457 (sh12 q0 q1 q2 p3 q0 u1 c2 u2 x14 x15 x16 x17 x18 oD la lb lc (1 : Int32) (1 : Int32) (0 : Int32) (if u1 = q0 then ((0 : Int32) + (1 : Int32)) else (((0 : Int32) + (1 : Int32)) + (1 : Int32))) (fMin (fMin (9223372036854775807 : Int64) q0) u1)) [(.ref la)])) rfl (by rw [hml]; rfl) (argsL := [(.ref la)]) (rest := []) rfl (lenOf own_pd6 rfl) rfl (hb hby at_457) e53 N54 (c' := 8) (s' := 21)
  obtain ⟨rfl, N57q, e57⟩ := hQ57
  have N58 := hF57 N57q
  refine Goes.by st57 ?_
  refine Goes.by (fun _ => XS.istore X57.here hx rfl (hb hby at_460) rfl (l' := (sh13 q0 q1 q2 p3 q0 u1 c2 u2 x14 x15 x16 x17 x18 oD la lb lc (1 : Int32) (1 : Int32) (0 : Int32) (if u1 = q0 then ((0 : Int32) + (1 : Int32)) else (((0 : Int32) + (1 : Int32)) + (1 : Int32))) (fMin (fMin (9223372036854775807 : Int64) q0) u1) (1 : Int32))) rfl) ?_
  refine Goes.by (fun _ => XS.aload X57.here hx rfl (hb hby at_462) rfl rfl) ?_
  obtain ⟨b60, f59⟩ := Rep.nextY RT IT (by simp) vt1
  obtain ⟨_, T61, L61, Lc61, X61, hF61, hQ61, st61⟩ := own_cs X57 hx hZ hown (wq hw 72 rfl) (wq hw 73 rfl) (wq hw 2 rfl) (wq hw 74 rfl) (rmIsY l Z az hw [] lb b60 T.heap n0 ZT f59) (W := 0) (g := (mkF m 464 (sh13 q0 q1 q2 p3 q0 u1 c2 u2 x14 x15 x16 x17 x18 oD la lb lc (1 : Int32) (1 : Int32) (0 : Int32) (if u1 = q0 then ((0 : Int32) + (1 : Int32)) else (((0 : Int32) + (1 : Int32)) + (1 : Int32))) (fMin (fMin (9223372036854775807 : Int64) q0) u1) (1 : Int32)) [(.ref lb)])) rfl (by rw [hml]; rfl) (argsL := [(.ref lb)]) (rest := []) rfl (lenOf own_pd6 rfl) rfl (hb hby at_464) e57 N58 (c' := 8) (s' := 21)
  obtain ⟨rfl, N61q, e61⟩ := hQ61
  have N62 := hF61 N61q
  refine Goes.by st61 ?_
  refine Goes.by (fun _ => XS.istore X61.here hx rfl (hb hby at_467) rfl (l' := (sh14 q0 q1 q2 p3 q0 u1 c2 u2 x14 x15 x16 x17 x18 oD la lb lc (1 : Int32) (1 : Int32) (0 : Int32) (if u1 = q0 then ((0 : Int32) + (1 : Int32)) else (((0 : Int32) + (1 : Int32)) + (1 : Int32))) (fMin (fMin (9223372036854775807 : Int64) q0) u1) (1 : Int32) (1 : Int32))) rfl) ?_
  refine Goes.by (fun _ => XS.aload X61.here hx rfl (hb hby at_469) rfl rfl) ?_
  have f63 : Fld Z T.heap lc cL "next" dL .null := Rep.nextN RT IT (by simp) vt2
  obtain ⟨_, T64, L64, Lc64, X64, hF64, hQ64, st64⟩ := own_cs X61 hx hZ hown (wq hw 72 rfl) (wq hw 73 rfl) (wq hw 2 rfl) (wq hw 74 rfl) (rmIsN l Z az hw [] lc T.heap n0 ZT f63) (W := 0) (g := (mkF m 471 (sh14 q0 q1 q2 p3 q0 u1 c2 u2 x14 x15 x16 x17 x18 oD la lb lc (1 : Int32) (1 : Int32) (0 : Int32) (if u1 = q0 then ((0 : Int32) + (1 : Int32)) else (((0 : Int32) + (1 : Int32)) + (1 : Int32))) (fMin (fMin (9223372036854775807 : Int64) q0) u1) (1 : Int32) (1 : Int32)) [(.ref lc)])) rfl (by rw [hml]; rfl) (argsL := [(.ref lc)]) (rest := []) rfl (lenOf own_pd6 rfl) rfl (hb hby at_471) e61 N62 (c' := 8) (s' := 21)
  obtain ⟨rfl, N64q, e64⟩ := hQ64
  have N65 := hF64 N64q
  refine Goes.by st64 ?_
  refine Goes.by (B := T64.setTop (mkF m 499 (sh15 q0 q1 q2 p3 q0 u1 c2 u2 x14 x15 x16 x17 x18 oD la lb lc (1 : Int32) (1 : Int32) (0 : Int32) (if u1 = q0 then ((0 : Int32) + (1 : Int32)) else (((0 : Int32) + (1 : Int32)) + (1 : Int32))) (fMin (fMin (9223372036854775807 : Int64) q0) u1) (1 : Int32) (1 : Int32) (0 : Int32)) [(.ref oD)])) (fun t k => ?_) ?_
  · refine XS.istore X64.here hx rfl (hb hby at_474) rfl (l' := (sh15 q0 q1 q2 p3 q0 u1 c2 u2 x14 x15 x16 x17 x18 oD la lb lc (1 : Int32) (1 : Int32) (0 : Int32) (if u1 = q0 then ((0 : Int32) + (1 : Int32)) else (((0 : Int32) + (1 : Int32)) + (1 : Int32))) (fMin (fMin (9223372036854775807 : Int64) q0) u1) (1 : Int32) (1 : Int32) (0 : Int32))) rfl ?_
    refine XS.iload X64.here hx rfl (hb hby at_476) rfl ?_
    refine XS.iload X64.here hx rfl (hb hby at_478) rfl ?_
    refine XS.icmpNo X64.here hx rfl (hb hby at_480) rfl (teq (by decide : (1 : Int32) = (1 : Int32))).2 ?_
    refine XS.iload X64.here hx rfl (hb hby at_483) rfl ?_
    refine XS.iload X64.here hx rfl (hb hby at_485) rfl ?_
    refine XS.icmpNo X64.here hx rfl (hb hby at_487) rfl (teq (by decide : (1 : Int32) = (1 : Int32))).2 ?_
    refine XS.iload X64.here hx rfl (hb hby at_490) rfl ?_
    refine XS.iload X64.here hx rfl (hb hby at_492) rfl ?_
    refine XS.icmpNo X64.here hx rfl (hb hby at_494) rfl (teq (by decide : (0 : Int32) = (0 : Int32))).2 ?_
    refine XS.aload X64.here hx rfl (hb hby at_497) rfl rfl ?_
    exact k
  obtain ⟨_, T66, L66, Lc66, X66, hF66, hQ66, st66⟩ := own_cv X64 hx hZ hown (wq hw 75 rfl) (wq hw 76 rfl) (wq hw 78 rfl) (wq hw 77 rfl) (wq hw 2 rfl) (wq hw 79 rfl) (rmTicks l Z az hw [] oD (Int32.ofNat hs.length) T.heap n0 ZT RT.2.2.1) (W := 0) (g := (mkF m 499 (sh15 q0 q1 q2 p3 q0 u1 c2 u2 x14 x15 x16 x17 x18 oD la lb lc (1 : Int32) (1 : Int32) (0 : Int32) (if u1 = q0 then ((0 : Int32) + (1 : Int32)) else (((0 : Int32) + (1 : Int32)) + (1 : Int32))) (fMin (fMin (9223372036854775807 : Int64) q0) u1) (1 : Int32) (1 : Int32) (0 : Int32)) [(.ref oD)])) rfl (by rw [hml]; rfl) RT.1 (argsL := []) (rest := []) rfl (lenOf own_pd7 rfl) rfl (hb hby at_499) e64 N65 (c' := 8) (s' := 21)
  obtain ⟨rfl, N66q, e66⟩ := hQ66
  have N67 := hF66 N66q
  refine Goes.by st66 ?_
  refine Goes.by (fun _ => XS.iload X66.here hx rfl (hb hby at_502) rfl) ?_
  refine Goes.by (fun _ => XS.icmpNo X66.here hx rfl (hb hby at_504) rfl (teq (if hE : u1 = q0 then by rw [if_pos hE]; exact own_cnt1 IT (a := q0) (fun t => by simp [vt0, vt1, vt2, hE]) else by rw [if_neg hE]; exact own_cnt2 IT (a := q0) (b := u1) (fun t => by simp [vt0, vt1, vt2]) hE)).2) ?_
  refine Goes.by (fun _ => XS.aload X66.here hx rfl (hb hby at_507) rfl rfl) ?_
  obtain ⟨_, T68, L68, Lc68, X68, hF68, hQ68, st68⟩ := own_cv X66 hx hZ hown (wq hw 80 rfl) (wq hw 81 rfl) (wq hw 83 rfl) (wq hw 82 rfl) (wq hw 2 rfl) (wq hw 84 rfl) (rmFirstR l Z az hw [] oD ar kA hs τ N P [la, lb, lc] tk T.heap n0 ZT RT IT (Nat.le_trans LT (by decide))) (W := 0) (g := (mkF m 509 (sh15 q0 q1 q2 p3 q0 u1 c2 u2 x14 x15 x16 x17 x18 oD la lb lc (1 : Int32) (1 : Int32) (0 : Int32) (if u1 = q0 then ((0 : Int32) + (1 : Int32)) else (((0 : Int32) + (1 : Int32)) + (1 : Int32))) (fMin (fMin (9223372036854775807 : Int64) q0) u1) (1 : Int32) (1 : Int32) (0 : Int32)) [(.ref oD)])) rfl (by rw [hml]; rfl) RT.1 (argsL := []) (rest := []) rfl (lenOf own_pd8 rfl) rfl (hb hby at_509) e66 N67 (c' := 8) (s' := 21)
  obtain ⟨r69, rfl, N68q, e68, mn70⟩ := hQ68
  have N71 := hF68 N68q
  refine Goes.by st68 ?_
  refine Goes.by (B := T68.setTop (mkF m 523 (sh15 q0 q1 q2 p3 q0 u1 c2 u2 x14 x15 x16 x17 x18 oD la lb lc (1 : Int32) (1 : Int32) (0 : Int32) (if u1 = q0 then ((0 : Int32) + (1 : Int32)) else (((0 : Int32) + (1 : Int32)) + (1 : Int32))) (fMin (fMin (9223372036854775807 : Int64) q0) u1) (1 : Int32) (1 : Int32) (0 : Int32)) [(.int (1 : Int32))])) (fun t k => ?_) ?_
  · refine XS.lload X68.here hx rfl (hb hby at_512) rfl ?_
    refine XS.lcmp X68.here hx rfl (hb hby at_514) rfl ?_
    refine XS.ifNo X68.here hx rfl (hb hby at_515) rfl ((if0 _ _).trans (teq ((lw_eq r69 (fMin (fMin (9223372036854775807 : Int64) q0) u1)).mpr (own_first mn70 [q0, u1] (fun t => by simp [vt0, vt1, vt2, eq_comm])))).2) ?_
    refine XS.iconst X68.here hx rfl (hb hby at_518) ?_
    refine XS.goto X68.here hx rfl (pc0 := 519) (pc' := 523) rfl (hb hby at_519) (by decide) (by decide) ?_
    exact k
  obtain ⟨fs, hr, hrun, hended, hW, hsame⟩ := X68.leave (v := some (.int (1 : Int32))) (fun h => by rw [Bd.returns] at h; cases h)
  refine Goes.mk _ _ ?_ ⟨hrun, hended, _, _, rfl, ?_, ⟨_, rfl⟩, hW, hsame.mono (by decide) (by decide)⟩
  · exact retN X68 hx (t := .boolean) Bd.returns (by simp) (hb hby at_523) hr
  · show Q0 Z q0 q1 q2 p3 h0 n0 _ T68.heap _
    rw [e68]
    exact ⟨rfl, N71⟩
set_option maxRecDepth 65536 in
set_option maxHeartbeats 40000000 in
theorem tail_001 (l : Launch) (Z : State) (az : Array Value) (hw : ∀ d ∈ tables_1, d.before az Z = true) (ws : List Jvm.Cond) (q0 q1 q2 : Int64) (p3 : Int32) (h0 : Heap) (n0 : Nat) (u1 u2 : Int64) (c2 : Int32) {p : Program} {e : Env} {s : State} {m : MethodId} {below : List Frame} {meth : Method} {c : Code} {s₁ : State} (Bd : BodyLoose p l x (head1 (Jvm.Cond.code x code maxLocals ret :: ws) room_1) code maxLocals ret e s m #[(.long q0), (.long q1), (.long q2), (.int p3)] below meth c s₁) (hx : p.tables.exec = Jvm.exec) (hby : c.code = code) (hml : c.maxLocals = 32) (hown : s.vm.findClass "com/example/admit_one/admitone/engine/DueOrderRemovePinLaw" = some m.cls) (hZ : Z.Warmed39 s.vm) (oD la lb lc ar : Addr) (kA : ClassId) (x14 x15 x16 x17 x18 : Int32) : ∀ (T : State) (locs : List Loc) (hs : List Addr) (τ : Addr → Int64) (N P : Addr → Value) (tk : Addr → Option Int64), Stand p l e room_1 s m #[(.long q0), (.long q1), (.long q2), (.int p3)] below meth c T locs 8 21 → Fr n0 locs → n0 ≤ T.heap.size → Rep Z T.heap n0 oD ar kA hs τ N P [la, lb, lc] → Inv hs τ N P [la, lb, lc] tk → tk la = none → tk lb = none → tk lc = (some u2) → hs.length ≤ 3 → Goes p.tables e below (fun s₂ o => s₂.status = .running ∧ Ended s₂ below o ∧ ∃ v L, o = .returned v ∧ Q0 Z q0 q1 q2 p3 h0 n0 v s₂.heap L ∧ FrameEnd s o s₂ L 8 21) (T.setTop (mkF m 342 (sh10 q0 q1 q2 p3 q0 u1 c2 u2 x14 x15 x16 x17 x18 oD la lb lc (0 : Int32) (0 : Int32) (1 : Int32)) [])) := by
  intro T locs hs τ N P tk XT NT ZT RT IT vt0 vt1 vt2 LT
  refine Goes.by (B := T.setTop (mkF m 392 (sh11 q0 q1 q2 p3 q0 u1 c2 u2 x14 x15 x16 x17 x18 oD la lb lc (0 : Int32) (0 : Int32) (1 : Int32) (0 : Int32)) [])) (fun t k => ?_) ?_
  · refine XS.iconst XT.here hx rfl (hb hby at_342) ?_
    refine XS.istore XT.here hx rfl (hb hby at_343) rfl (l' := (sh11 q0 q1 q2 p3 q0 u1 c2 u2 x14 x15 x16 x17 x18 oD la lb lc (0 : Int32) (0 : Int32) (1 : Int32) (0 : Int32))) rfl ?_
    refine XS.iload XT.here hx rfl (hb hby at_345) rfl ?_
    refine XS.ifYes XT.here hx rfl (pc0 := 347) (pc' := 353) rfl (hb hby at_347) rfl ((if0 _ _).trans (teq (by decide : (0 : Int32) = (0 : Int32))).1) (by decide) (by decide) ?_
    refine XS.iload XT.here hx rfl (hb hby at_353) rfl ?_
    refine XS.ifYes XT.here hx rfl (pc0 := 355) (pc' := 374) rfl (hb hby at_355) rfl ((if0 _ _).trans (teq (by decide : (0 : Int32) = (0 : Int32))).1) (by decide) (by decide) ?_
    refine XS.iload XT.here hx rfl (hb hby at_374) rfl ?_
    refine XS.ifNo XT.here hx rfl (hb hby at_376) rfl ((if0 _ _).trans (feq (by decide : ¬ ((1 : Int32) = (0 : Int32)))).1) ?_
    refine XS.iload XT.here hx rfl (hb hby at_379) rfl ?_
    refine XS.ifYes XT.here hx rfl (pc0 := 381) (pc' := 392) rfl (hb hby at_381) rfl ((if0 _ _).trans (teq (by decide : (0 : Int32) = (0 : Int32))).1) (by decide) (by decide) ?_
    exact k
  refine Goes.by (B := T.setTop (mkF m 450 (sh12 q0 q1 q2 p3 q0 u1 c2 u2 x14 x15 x16 x17 x18 oD la lb lc (0 : Int32) (0 : Int32) (1 : Int32) ((0 : Int32) + (1 : Int32)) (9223372036854775807 : Int64)) [(.long u2), (.long (9223372036854775807 : Int64))])) (fun t k => ?_) ?_
  · refine XS.iload XT.here hx rfl (hb hby at_392) rfl ?_
    refine XS.ifYes XT.here hx rfl (pc0 := 394) (pc' := 405) rfl (hb hby at_394) rfl ((if0 _ _).trans (teq (by decide : (0 : Int32) = (0 : Int32))).1) (by decide) (by decide) ?_
    refine XS.iinc XT.here hx rfl (hb hby at_405) rfl (l' := (sh11 q0 q1 q2 p3 q0 u1 c2 u2 x14 x15 x16 x17 x18 oD la lb lc (0 : Int32) (0 : Int32) (1 : Int32) ((0 : Int32) + (1 : Int32)))) rfl ?_
    refine XT.ldc2Long hx hown (mvT hZ (wq hw 67 rfl)) (g := (mkF m 408 (sh11 q0 q1 q2 p3 q0 u1 c2 u2 x14 x15 x16 x17 x18 oD la lb lc (0 : Int32) (0 : Int32) (1 : Int32) ((0 : Int32) + (1 : Int32))) [])) rfl (hb hby at_408) _ ?_
    refine XS.lstore XT.here hx rfl (hb hby at_411) rfl (l' := (sh12 q0 q1 q2 p3 q0 u1 c2 u2 x14 x15 x16 x17 x18 oD la lb lc (0 : Int32) (0 : Int32) (1 : Int32) ((0 : Int32) + (1 : Int32)) (9223372036854775807 : Int64))) rfl ?_
    refine XS.iload XT.here hx rfl (hb hby at_413) rfl ?_
    refine XS.ifYes XT.here hx rfl (pc0 := 415) (pc' := 427) rfl (hb hby at_415) rfl ((if0 _ _).trans (teq (by decide : (0 : Int32) = (0 : Int32))).1) (by decide) (by decide) ?_
    refine XS.iload XT.here hx rfl (hb hby at_427) rfl ?_
    refine XS.ifYes XT.here hx rfl (pc0 := 429) (pc' := 441) rfl (hb hby at_429) rfl ((if0 _ _).trans (teq (by decide : (0 : Int32) = (0 : Int32))).1) (by decide) (by decide) ?_
    refine XS.iload XT.here hx rfl (hb hby at_441) rfl ?_
    refine XS.ifNo XT.here hx rfl (hb hby at_443) rfl ((if0 _ _).trans (feq (by decide : ¬ ((1 : Int32) = (0 : Int32)))).1) ?_
    refine XS.lload XT.here hx rfl (hb hby at_446) rfl ?_
    refine XS.lload XT.here hx rfl (hb hby at_448) rfl ?_
    exact k
  obtain ⟨_, T72, L72, Lc72, X72, hF72, hQ72, st72⟩ := own_cs XT hx hZ hown (wq hw 68 rfl) (wq hw 69 rfl) (wq hw 70 rfl) (wq hw 71 rfl) (rmMin l Z az hw [] (9223372036854775807 : Int64) u2 T.heap n0 ZT ) (W := 0) (g := (mkF m 450 (sh12 q0 q1 q2 p3 q0 u1 c2 u2 x14 x15 x16 x17 x18 oD la lb lc (0 : Int32) (0 : Int32) (1 : Int32) ((0 : Int32) + (1 : Int32)) (9223372036854775807 : Int64)) [(.long u2), (.long (9223372036854775807 : Int64))])) rfl (by rw [hml]; rfl) (argsL := [(.long (9223372036854775807 : Int64)), (.long u2)]) (rest := []) rfl (lenOf own_pd5 rfl) rfl (hb hby at_450) rfl NT (c' := 8) (s' := 21)
  obtain ⟨rfl, N72q, e72⟩ := hQ72
  have N73 := hF72 N72q
  refine Goes.by st72 ?_
  refine Goes.by (fun _ => XS.lstore X72.here hx rfl (hb hby at_453) rfl (l' := (sh12 q0 q1 q2 p3 q0 u1 c2 u2 x14 x15 x16 x17 x18 oD la lb lc (0 : Int32) (0 : Int32) (1 : Int32) ((0 : Int32) + (1 : Int32)) (fMin (9223372036854775807 : Int64) u2))) rfl) ?_
  refine Goes.by (fun _ => XS.aload X72.here hx rfl (hb hby at_455) rfl rfl) ?_
  have f74 : Fld Z T.heap la cL "next" dL .null := Rep.nextN RT IT (by simp) vt0
  obtain ⟨_, T75, L75, Lc75, X75, hF75, hQ75, st75⟩ := own_cs X72 hx hZ hown (wq hw 72 rfl) (wq hw 73 rfl) (wq hw 2 rfl) (wq hw 74 rfl) (rmIsN l Z az hw [] la T.heap n0 ZT f74) (W := 0) (g := (mkF m 457 (sh12 q0 q1 q2 p3 q0 u1 c2 u2 x14 x15 x16 x17 x18 oD la lb lc (0 : Int32) (0 : Int32) (1 : Int32) ((0 : Int32) + (1 : Int32)) (fMin (9223372036854775807 : Int64) u2)) [(.ref la)])) rfl (by rw [hml]; rfl) (argsL := [(.ref la)]) (rest := []) rfl (lenOf own_pd6 rfl) rfl (hb hby at_457) e72 N73 (c' := 8) (s' := 21)
  obtain ⟨rfl, N75q, e75⟩ := hQ75
  have N76 := hF75 N75q
  refine Goes.by st75 ?_
  refine Goes.by (fun _ => XS.istore X75.here hx rfl (hb hby at_460) rfl (l' := (sh13 q0 q1 q2 p3 q0 u1 c2 u2 x14 x15 x16 x17 x18 oD la lb lc (0 : Int32) (0 : Int32) (1 : Int32) ((0 : Int32) + (1 : Int32)) (fMin (9223372036854775807 : Int64) u2) (0 : Int32))) rfl) ?_
  refine Goes.by (fun _ => XS.aload X75.here hx rfl (hb hby at_462) rfl rfl) ?_
  have f77 : Fld Z T.heap lb cL "next" dL .null := Rep.nextN RT IT (by simp) vt1
  obtain ⟨_, T78, L78, Lc78, X78, hF78, hQ78, st78⟩ := own_cs X75 hx hZ hown (wq hw 72 rfl) (wq hw 73 rfl) (wq hw 2 rfl) (wq hw 74 rfl) (rmIsN l Z az hw [] lb T.heap n0 ZT f77) (W := 0) (g := (mkF m 464 (sh13 q0 q1 q2 p3 q0 u1 c2 u2 x14 x15 x16 x17 x18 oD la lb lc (0 : Int32) (0 : Int32) (1 : Int32) ((0 : Int32) + (1 : Int32)) (fMin (9223372036854775807 : Int64) u2) (0 : Int32)) [(.ref lb)])) rfl (by rw [hml]; rfl) (argsL := [(.ref lb)]) (rest := []) rfl (lenOf own_pd6 rfl) rfl (hb hby at_464) e75 N76 (c' := 8) (s' := 21)
  obtain ⟨rfl, N78q, e78⟩ := hQ78
  have N79 := hF78 N78q
  refine Goes.by st78 ?_
  refine Goes.by (fun _ => XS.istore X78.here hx rfl (hb hby at_467) rfl (l' := (sh14 q0 q1 q2 p3 q0 u1 c2 u2 x14 x15 x16 x17 x18 oD la lb lc (0 : Int32) (0 : Int32) (1 : Int32) ((0 : Int32) + (1 : Int32)) (fMin (9223372036854775807 : Int64) u2) (0 : Int32) (0 : Int32))) rfl) ?_
  refine Goes.by (fun _ => XS.aload X78.here hx rfl (hb hby at_469) rfl rfl) ?_
  obtain ⟨b81, f80⟩ := Rep.nextY RT IT (by simp) vt2
  obtain ⟨_, T82, L82, Lc82, X82, hF82, hQ82, st82⟩ := own_cs X78 hx hZ hown (wq hw 72 rfl) (wq hw 73 rfl) (wq hw 2 rfl) (wq hw 74 rfl) (rmIsY l Z az hw [] lc b81 T.heap n0 ZT f80) (W := 0) (g := (mkF m 471 (sh14 q0 q1 q2 p3 q0 u1 c2 u2 x14 x15 x16 x17 x18 oD la lb lc (0 : Int32) (0 : Int32) (1 : Int32) ((0 : Int32) + (1 : Int32)) (fMin (9223372036854775807 : Int64) u2) (0 : Int32) (0 : Int32)) [(.ref lc)])) rfl (by rw [hml]; rfl) (argsL := [(.ref lc)]) (rest := []) rfl (lenOf own_pd6 rfl) rfl (hb hby at_471) e78 N79 (c' := 8) (s' := 21)
  obtain ⟨rfl, N82q, e82⟩ := hQ82
  have N83 := hF82 N82q
  refine Goes.by st82 ?_
  refine Goes.by (B := T82.setTop (mkF m 499 (sh15 q0 q1 q2 p3 q0 u1 c2 u2 x14 x15 x16 x17 x18 oD la lb lc (0 : Int32) (0 : Int32) (1 : Int32) ((0 : Int32) + (1 : Int32)) (fMin (9223372036854775807 : Int64) u2) (0 : Int32) (0 : Int32) (1 : Int32)) [(.ref oD)])) (fun t k => ?_) ?_
  · refine XS.istore X82.here hx rfl (hb hby at_474) rfl (l' := (sh15 q0 q1 q2 p3 q0 u1 c2 u2 x14 x15 x16 x17 x18 oD la lb lc (0 : Int32) (0 : Int32) (1 : Int32) ((0 : Int32) + (1 : Int32)) (fMin (9223372036854775807 : Int64) u2) (0 : Int32) (0 : Int32) (1 : Int32))) rfl ?_
    refine XS.iload X82.here hx rfl (hb hby at_476) rfl ?_
    refine XS.iload X82.here hx rfl (hb hby at_478) rfl ?_
    refine XS.icmpNo X82.here hx rfl (hb hby at_480) rfl (teq (by decide : (0 : Int32) = (0 : Int32))).2 ?_
    refine XS.iload X82.here hx rfl (hb hby at_483) rfl ?_
    refine XS.iload X82.here hx rfl (hb hby at_485) rfl ?_
    refine XS.icmpNo X82.here hx rfl (hb hby at_487) rfl (teq (by decide : (0 : Int32) = (0 : Int32))).2 ?_
    refine XS.iload X82.here hx rfl (hb hby at_490) rfl ?_
    refine XS.iload X82.here hx rfl (hb hby at_492) rfl ?_
    refine XS.icmpNo X82.here hx rfl (hb hby at_494) rfl (teq (by decide : (1 : Int32) = (1 : Int32))).2 ?_
    refine XS.aload X82.here hx rfl (hb hby at_497) rfl rfl ?_
    exact k
  obtain ⟨_, T84, L84, Lc84, X84, hF84, hQ84, st84⟩ := own_cv X82 hx hZ hown (wq hw 75 rfl) (wq hw 76 rfl) (wq hw 78 rfl) (wq hw 77 rfl) (wq hw 2 rfl) (wq hw 79 rfl) (rmTicks l Z az hw [] oD (Int32.ofNat hs.length) T.heap n0 ZT RT.2.2.1) (W := 0) (g := (mkF m 499 (sh15 q0 q1 q2 p3 q0 u1 c2 u2 x14 x15 x16 x17 x18 oD la lb lc (0 : Int32) (0 : Int32) (1 : Int32) ((0 : Int32) + (1 : Int32)) (fMin (9223372036854775807 : Int64) u2) (0 : Int32) (0 : Int32) (1 : Int32)) [(.ref oD)])) rfl (by rw [hml]; rfl) RT.1 (argsL := []) (rest := []) rfl (lenOf own_pd7 rfl) rfl (hb hby at_499) e82 N83 (c' := 8) (s' := 21)
  obtain ⟨rfl, N84q, e84⟩ := hQ84
  have N85 := hF84 N84q
  refine Goes.by st84 ?_
  refine Goes.by (fun _ => XS.iload X84.here hx rfl (hb hby at_502) rfl) ?_
  refine Goes.by (fun _ => XS.icmpNo X84.here hx rfl (hb hby at_504) rfl (teq (own_cnt1 IT (a := u2) (fun t => by simp [vt0, vt1, vt2]))).2) ?_
  refine Goes.by (fun _ => XS.aload X84.here hx rfl (hb hby at_507) rfl rfl) ?_
  obtain ⟨_, T86, L86, Lc86, X86, hF86, hQ86, st86⟩ := own_cv X84 hx hZ hown (wq hw 80 rfl) (wq hw 81 rfl) (wq hw 83 rfl) (wq hw 82 rfl) (wq hw 2 rfl) (wq hw 84 rfl) (rmFirstR l Z az hw [] oD ar kA hs τ N P [la, lb, lc] tk T.heap n0 ZT RT IT (Nat.le_trans LT (by decide))) (W := 0) (g := (mkF m 509 (sh15 q0 q1 q2 p3 q0 u1 c2 u2 x14 x15 x16 x17 x18 oD la lb lc (0 : Int32) (0 : Int32) (1 : Int32) ((0 : Int32) + (1 : Int32)) (fMin (9223372036854775807 : Int64) u2) (0 : Int32) (0 : Int32) (1 : Int32)) [(.ref oD)])) rfl (by rw [hml]; rfl) RT.1 (argsL := []) (rest := []) rfl (lenOf own_pd8 rfl) rfl (hb hby at_509) e84 N85 (c' := 8) (s' := 21)
  obtain ⟨r87, rfl, N86q, e86, mn88⟩ := hQ86
  have N89 := hF86 N86q
  refine Goes.by st86 ?_
  refine Goes.by (B := T86.setTop (mkF m 523 (sh15 q0 q1 q2 p3 q0 u1 c2 u2 x14 x15 x16 x17 x18 oD la lb lc (0 : Int32) (0 : Int32) (1 : Int32) ((0 : Int32) + (1 : Int32)) (fMin (9223372036854775807 : Int64) u2) (0 : Int32) (0 : Int32) (1 : Int32)) [(.int (1 : Int32))])) (fun t k => ?_) ?_
  · refine XS.lload X86.here hx rfl (hb hby at_512) rfl ?_
    refine XS.lcmp X86.here hx rfl (hb hby at_514) rfl ?_
    refine XS.ifNo X86.here hx rfl (hb hby at_515) rfl ((if0 _ _).trans (teq ((lw_eq r87 (fMin (9223372036854775807 : Int64) u2)).mpr (own_first mn88 [u2] (fun t => by simp [vt0, vt1, vt2, eq_comm])))).2) ?_
    refine XS.iconst X86.here hx rfl (hb hby at_518) ?_
    refine XS.goto X86.here hx rfl (pc0 := 519) (pc' := 523) rfl (hb hby at_519) (by decide) (by decide) ?_
    exact k
  obtain ⟨fs, hr, hrun, hended, hW, hsame⟩ := X86.leave (v := some (.int (1 : Int32))) (fun h => by rw [Bd.returns] at h; cases h)
  refine Goes.mk _ _ ?_ ⟨hrun, hended, _, _, rfl, ?_, ⟨_, rfl⟩, hW, hsame.mono (by decide) (by decide)⟩
  · exact retN X86 hx (t := .boolean) Bd.returns (by simp) (hb hby at_523) hr
  · show Q0 Z q0 q1 q2 p3 h0 n0 _ T86.heap _
    rw [e86]
    exact ⟨rfl, N89⟩
set_option maxRecDepth 65536 in
set_option maxHeartbeats 40000000 in
theorem tail_010 (l : Launch) (Z : State) (az : Array Value) (hw : ∀ d ∈ tables_1, d.before az Z = true) (ws : List Jvm.Cond) (q0 q1 q2 : Int64) (p3 : Int32) (h0 : Heap) (n0 : Nat) (u1 u2 : Int64) (c2 : Int32) {p : Program} {e : Env} {s : State} {m : MethodId} {below : List Frame} {meth : Method} {c : Code} {s₁ : State} (Bd : BodyLoose p l x (head1 (Jvm.Cond.code x code maxLocals ret :: ws) room_1) code maxLocals ret e s m #[(.long q0), (.long q1), (.long q2), (.int p3)] below meth c s₁) (hx : p.tables.exec = Jvm.exec) (hby : c.code = code) (hml : c.maxLocals = 32) (hown : s.vm.findClass "com/example/admit_one/admitone/engine/DueOrderRemovePinLaw" = some m.cls) (hZ : Z.Warmed39 s.vm) (oD la lb lc ar : Addr) (kA : ClassId) (x14 x15 x16 x17 x18 : Int32) : ∀ (T : State) (locs : List Loc) (hs : List Addr) (τ : Addr → Int64) (N P : Addr → Value) (tk : Addr → Option Int64), Stand p l e room_1 s m #[(.long q0), (.long q1), (.long q2), (.int p3)] below meth c T locs 8 21 → Fr n0 locs → n0 ≤ T.heap.size → Rep Z T.heap n0 oD ar kA hs τ N P [la, lb, lc] → Inv hs τ N P [la, lb, lc] tk → tk la = none → tk lb = (some u1) → tk lc = none → hs.length ≤ 3 → Goes p.tables e below (fun s₂ o => s₂.status = .running ∧ Ended s₂ below o ∧ ∃ v L, o = .returned v ∧ Q0 Z q0 q1 q2 p3 h0 n0 v s₂.heap L ∧ FrameEnd s o s₂ L 8 21) (T.setTop (mkF m 342 (sh10 q0 q1 q2 p3 q0 u1 c2 u2 x14 x15 x16 x17 x18 oD la lb lc (0 : Int32) (1 : Int32) (0 : Int32)) [])) := by
  intro T locs hs τ N P tk XT NT ZT RT IT vt0 vt1 vt2 LT
  refine Goes.by (B := T.setTop (mkF m 376 (sh11 q0 q1 q2 p3 q0 u1 c2 u2 x14 x15 x16 x17 x18 oD la lb lc (0 : Int32) (1 : Int32) (0 : Int32) ((0 : Int32) + (1 : Int32))) [(.int (0 : Int32))])) (fun t k => ?_) ?_
  · refine XS.iconst XT.here hx rfl (hb hby at_342) ?_
    refine XS.istore XT.here hx rfl (hb hby at_343) rfl (l' := (sh11 q0 q1 q2 p3 q0 u1 c2 u2 x14 x15 x16 x17 x18 oD la lb lc (0 : Int32) (1 : Int32) (0 : Int32) (0 : Int32))) rfl ?_
    refine XS.iload XT.here hx rfl (hb hby at_345) rfl ?_
    refine XS.ifYes XT.here hx rfl (pc0 := 347) (pc' := 353) rfl (hb hby at_347) rfl ((if0 _ _).trans (teq (by decide : (0 : Int32) = (0 : Int32))).1) (by decide) (by decide) ?_
    refine XS.iload XT.here hx rfl (hb hby at_353) rfl ?_
    refine XS.ifNo XT.here hx rfl (hb hby at_355) rfl ((if0 _ _).trans (feq (by decide : ¬ ((1 : Int32) = (0 : Int32)))).1) ?_
    refine XS.iload XT.here hx rfl (hb hby at_358) rfl ?_
    refine XS.ifYes XT.here hx rfl (pc0 := 360) (pc' := 371) rfl (hb hby at_360) rfl ((if0 _ _).trans (teq (by decide : (0 : Int32) = (0 : Int32))).1) (by decide) (by decide) ?_
    refine XS.iinc XT.here hx rfl (hb hby at_371) rfl (l' := (sh11 q0 q1 q2 p3 q0 u1 c2 u2 x14 x15 x16 x17 x18 oD la lb lc (0 : Int32) (1 : Int32) (0 : Int32) ((0 : Int32) + (1 : Int32)))) rfl ?_
    refine XS.iload XT.here hx rfl (hb hby at_374) rfl ?_
    exact k
  refine Goes.by (B := T.setTop (mkF m 436 (sh12 q0 q1 q2 p3 q0 u1 c2 u2 x14 x15 x16 x17 x18 oD la lb lc (0 : Int32) (1 : Int32) (0 : Int32) ((0 : Int32) + (1 : Int32)) (9223372036854775807 : Int64)) [(.long u1), (.long (9223372036854775807 : Int64))])) (fun t k => ?_) ?_
  · refine XS.ifYes XT.here hx rfl (pc0 := 376) (pc' := 408) rfl (hb hby at_376) rfl ((if0 _ _).trans (teq (by decide : (0 : Int32) = (0 : Int32))).1) (by decide) (by decide) ?_
    refine XT.ldc2Long hx hown (mvT hZ (wq hw 67 rfl)) (g := (mkF m 408 (sh11 q0 q1 q2 p3 q0 u1 c2 u2 x14 x15 x16 x17 x18 oD la lb lc (0 : Int32) (1 : Int32) (0 : Int32) ((0 : Int32) + (1 : Int32))) [])) rfl (hb hby at_408) _ ?_
    refine XS.lstore XT.here hx rfl (hb hby at_411) rfl (l' := (sh12 q0 q1 q2 p3 q0 u1 c2 u2 x14 x15 x16 x17 x18 oD la lb lc (0 : Int32) (1 : Int32) (0 : Int32) ((0 : Int32) + (1 : Int32)) (9223372036854775807 : Int64))) rfl ?_
    refine XS.iload XT.here hx rfl (hb hby at_413) rfl ?_
    refine XS.ifYes XT.here hx rfl (pc0 := 415) (pc' := 427) rfl (hb hby at_415) rfl ((if0 _ _).trans (teq (by decide : (0 : Int32) = (0 : Int32))).1) (by decide) (by decide) ?_
    refine XS.iload XT.here hx rfl (hb hby at_427) rfl ?_
    refine XS.ifNo XT.here hx rfl (hb hby at_429) rfl ((if0 _ _).trans (feq (by decide : ¬ ((1 : Int32) = (0 : Int32)))).1) ?_
    refine XS.lload XT.here hx rfl (hb hby at_432) rfl ?_
    refine XS.lload XT.here hx rfl (hb hby at_434) rfl ?_
    exact k
  obtain ⟨_, T90, L90, Lc90, X90, hF90, hQ90, st90⟩ := own_cs XT hx hZ hown (wq hw 68 rfl) (wq hw 69 rfl) (wq hw 70 rfl) (wq hw 71 rfl) (rmMin l Z az hw [] (9223372036854775807 : Int64) u1 T.heap n0 ZT ) (W := 0) (g := (mkF m 436 (sh12 q0 q1 q2 p3 q0 u1 c2 u2 x14 x15 x16 x17 x18 oD la lb lc (0 : Int32) (1 : Int32) (0 : Int32) ((0 : Int32) + (1 : Int32)) (9223372036854775807 : Int64)) [(.long u1), (.long (9223372036854775807 : Int64))])) rfl (by rw [hml]; rfl) (argsL := [(.long (9223372036854775807 : Int64)), (.long u1)]) (rest := []) rfl (lenOf own_pd5 rfl) rfl (hb hby at_436) rfl NT (c' := 8) (s' := 21)
  obtain ⟨rfl, N90q, e90⟩ := hQ90
  have N91 := hF90 N90q
  refine Goes.by st90 ?_
  refine Goes.by (fun _ => XS.lstore X90.here hx rfl (hb hby at_439) rfl (l' := (sh12 q0 q1 q2 p3 q0 u1 c2 u2 x14 x15 x16 x17 x18 oD la lb lc (0 : Int32) (1 : Int32) (0 : Int32) ((0 : Int32) + (1 : Int32)) (fMin (9223372036854775807 : Int64) u1))) rfl) ?_
  refine Goes.by (fun _ => XS.iload X90.here hx rfl (hb hby at_441) rfl) ?_
  refine Goes.by (fun _ => XS.ifYes X90.here hx rfl (pc0 := 443) (pc' := 455) rfl (hb hby at_443) rfl ((if0 _ _).trans (teq (by decide : (0 : Int32) = (0 : Int32))).1) (by decide) (by decide)) ?_
  refine Goes.by (fun _ => XS.aload X90.here hx rfl (hb hby at_455) rfl rfl) ?_
  have f92 : Fld Z T.heap la cL "next" dL .null := Rep.nextN RT IT (by simp) vt0
  obtain ⟨_, T93, L93, Lc93, X93, hF93, hQ93, st93⟩ := own_cs X90 hx hZ hown (wq hw 72 rfl) (wq hw 73 rfl) (wq hw 2 rfl) (wq hw 74 rfl) (rmIsN l Z az hw [] la T.heap n0 ZT f92) (W := 0) (g := (mkF m 457 (sh12 q0 q1 q2 p3 q0 u1 c2 u2 x14 x15 x16 x17 x18 oD la lb lc (0 : Int32) (1 : Int32) (0 : Int32) ((0 : Int32) + (1 : Int32)) (fMin (9223372036854775807 : Int64) u1)) [(.ref la)])) rfl (by rw [hml]; rfl) (argsL := [(.ref la)]) (rest := []) rfl (lenOf own_pd6 rfl) rfl (hb hby at_457) e90 N91 (c' := 8) (s' := 21)
  obtain ⟨rfl, N93q, e93⟩ := hQ93
  have N94 := hF93 N93q
  refine Goes.by st93 ?_
  refine Goes.by (fun _ => XS.istore X93.here hx rfl (hb hby at_460) rfl (l' := (sh13 q0 q1 q2 p3 q0 u1 c2 u2 x14 x15 x16 x17 x18 oD la lb lc (0 : Int32) (1 : Int32) (0 : Int32) ((0 : Int32) + (1 : Int32)) (fMin (9223372036854775807 : Int64) u1) (0 : Int32))) rfl) ?_
  refine Goes.by (fun _ => XS.aload X93.here hx rfl (hb hby at_462) rfl rfl) ?_
  obtain ⟨b96, f95⟩ := Rep.nextY RT IT (by simp) vt1
  obtain ⟨_, T97, L97, Lc97, X97, hF97, hQ97, st97⟩ := own_cs X93 hx hZ hown (wq hw 72 rfl) (wq hw 73 rfl) (wq hw 2 rfl) (wq hw 74 rfl) (rmIsY l Z az hw [] lb b96 T.heap n0 ZT f95) (W := 0) (g := (mkF m 464 (sh13 q0 q1 q2 p3 q0 u1 c2 u2 x14 x15 x16 x17 x18 oD la lb lc (0 : Int32) (1 : Int32) (0 : Int32) ((0 : Int32) + (1 : Int32)) (fMin (9223372036854775807 : Int64) u1) (0 : Int32)) [(.ref lb)])) rfl (by rw [hml]; rfl) (argsL := [(.ref lb)]) (rest := []) rfl (lenOf own_pd6 rfl) rfl (hb hby at_464) e93 N94 (c' := 8) (s' := 21)
  obtain ⟨rfl, N97q, e97⟩ := hQ97
  have N98 := hF97 N97q
  refine Goes.by st97 ?_
  refine Goes.by (fun _ => XS.istore X97.here hx rfl (hb hby at_467) rfl (l' := (sh14 q0 q1 q2 p3 q0 u1 c2 u2 x14 x15 x16 x17 x18 oD la lb lc (0 : Int32) (1 : Int32) (0 : Int32) ((0 : Int32) + (1 : Int32)) (fMin (9223372036854775807 : Int64) u1) (0 : Int32) (1 : Int32))) rfl) ?_
  refine Goes.by (fun _ => XS.aload X97.here hx rfl (hb hby at_469) rfl rfl) ?_
  have f99 : Fld Z T.heap lc cL "next" dL .null := Rep.nextN RT IT (by simp) vt2
  obtain ⟨_, T100, L100, Lc100, X100, hF100, hQ100, st100⟩ := own_cs X97 hx hZ hown (wq hw 72 rfl) (wq hw 73 rfl) (wq hw 2 rfl) (wq hw 74 rfl) (rmIsN l Z az hw [] lc T.heap n0 ZT f99) (W := 0) (g := (mkF m 471 (sh14 q0 q1 q2 p3 q0 u1 c2 u2 x14 x15 x16 x17 x18 oD la lb lc (0 : Int32) (1 : Int32) (0 : Int32) ((0 : Int32) + (1 : Int32)) (fMin (9223372036854775807 : Int64) u1) (0 : Int32) (1 : Int32)) [(.ref lc)])) rfl (by rw [hml]; rfl) (argsL := [(.ref lc)]) (rest := []) rfl (lenOf own_pd6 rfl) rfl (hb hby at_471) e97 N98 (c' := 8) (s' := 21)
  obtain ⟨rfl, N100q, e100⟩ := hQ100
  have N101 := hF100 N100q
  refine Goes.by st100 ?_
  refine Goes.by (B := T100.setTop (mkF m 499 (sh15 q0 q1 q2 p3 q0 u1 c2 u2 x14 x15 x16 x17 x18 oD la lb lc (0 : Int32) (1 : Int32) (0 : Int32) ((0 : Int32) + (1 : Int32)) (fMin (9223372036854775807 : Int64) u1) (0 : Int32) (1 : Int32) (0 : Int32)) [(.ref oD)])) (fun t k => ?_) ?_
  · refine XS.istore X100.here hx rfl (hb hby at_474) rfl (l' := (sh15 q0 q1 q2 p3 q0 u1 c2 u2 x14 x15 x16 x17 x18 oD la lb lc (0 : Int32) (1 : Int32) (0 : Int32) ((0 : Int32) + (1 : Int32)) (fMin (9223372036854775807 : Int64) u1) (0 : Int32) (1 : Int32) (0 : Int32))) rfl ?_
    refine XS.iload X100.here hx rfl (hb hby at_476) rfl ?_
    refine XS.iload X100.here hx rfl (hb hby at_478) rfl ?_
    refine XS.icmpNo X100.here hx rfl (hb hby at_480) rfl (teq (by decide : (0 : Int32) = (0 : Int32))).2 ?_
    refine XS.iload X100.here hx rfl (hb hby at_483) rfl ?_
    refine XS.iload X100.here hx rfl (hb hby at_485) rfl ?_
    refine XS.icmpNo X100.here hx rfl (hb hby at_487) rfl (teq (by decide : (1 : Int32) = (1 : Int32))).2 ?_
    refine XS.iload X100.here hx rfl (hb hby at_490) rfl ?_
    refine XS.iload X100.here hx rfl (hb hby at_492) rfl ?_
    refine XS.icmpNo X100.here hx rfl (hb hby at_494) rfl (teq (by decide : (0 : Int32) = (0 : Int32))).2 ?_
    refine XS.aload X100.here hx rfl (hb hby at_497) rfl rfl ?_
    exact k
  obtain ⟨_, T102, L102, Lc102, X102, hF102, hQ102, st102⟩ := own_cv X100 hx hZ hown (wq hw 75 rfl) (wq hw 76 rfl) (wq hw 78 rfl) (wq hw 77 rfl) (wq hw 2 rfl) (wq hw 79 rfl) (rmTicks l Z az hw [] oD (Int32.ofNat hs.length) T.heap n0 ZT RT.2.2.1) (W := 0) (g := (mkF m 499 (sh15 q0 q1 q2 p3 q0 u1 c2 u2 x14 x15 x16 x17 x18 oD la lb lc (0 : Int32) (1 : Int32) (0 : Int32) ((0 : Int32) + (1 : Int32)) (fMin (9223372036854775807 : Int64) u1) (0 : Int32) (1 : Int32) (0 : Int32)) [(.ref oD)])) rfl (by rw [hml]; rfl) RT.1 (argsL := []) (rest := []) rfl (lenOf own_pd7 rfl) rfl (hb hby at_499) e100 N101 (c' := 8) (s' := 21)
  obtain ⟨rfl, N102q, e102⟩ := hQ102
  have N103 := hF102 N102q
  refine Goes.by st102 ?_
  refine Goes.by (fun _ => XS.iload X102.here hx rfl (hb hby at_502) rfl) ?_
  refine Goes.by (fun _ => XS.icmpNo X102.here hx rfl (hb hby at_504) rfl (teq (own_cnt1 IT (a := u1) (fun t => by simp [vt0, vt1, vt2]))).2) ?_
  refine Goes.by (fun _ => XS.aload X102.here hx rfl (hb hby at_507) rfl rfl) ?_
  obtain ⟨_, T104, L104, Lc104, X104, hF104, hQ104, st104⟩ := own_cv X102 hx hZ hown (wq hw 80 rfl) (wq hw 81 rfl) (wq hw 83 rfl) (wq hw 82 rfl) (wq hw 2 rfl) (wq hw 84 rfl) (rmFirstR l Z az hw [] oD ar kA hs τ N P [la, lb, lc] tk T.heap n0 ZT RT IT (Nat.le_trans LT (by decide))) (W := 0) (g := (mkF m 509 (sh15 q0 q1 q2 p3 q0 u1 c2 u2 x14 x15 x16 x17 x18 oD la lb lc (0 : Int32) (1 : Int32) (0 : Int32) ((0 : Int32) + (1 : Int32)) (fMin (9223372036854775807 : Int64) u1) (0 : Int32) (1 : Int32) (0 : Int32)) [(.ref oD)])) rfl (by rw [hml]; rfl) RT.1 (argsL := []) (rest := []) rfl (lenOf own_pd8 rfl) rfl (hb hby at_509) e102 N103 (c' := 8) (s' := 21)
  obtain ⟨r105, rfl, N104q, e104, mn106⟩ := hQ104
  have N107 := hF104 N104q
  refine Goes.by st104 ?_
  refine Goes.by (B := T104.setTop (mkF m 523 (sh15 q0 q1 q2 p3 q0 u1 c2 u2 x14 x15 x16 x17 x18 oD la lb lc (0 : Int32) (1 : Int32) (0 : Int32) ((0 : Int32) + (1 : Int32)) (fMin (9223372036854775807 : Int64) u1) (0 : Int32) (1 : Int32) (0 : Int32)) [(.int (1 : Int32))])) (fun t k => ?_) ?_
  · refine XS.lload X104.here hx rfl (hb hby at_512) rfl ?_
    refine XS.lcmp X104.here hx rfl (hb hby at_514) rfl ?_
    refine XS.ifNo X104.here hx rfl (hb hby at_515) rfl ((if0 _ _).trans (teq ((lw_eq r105 (fMin (9223372036854775807 : Int64) u1)).mpr (own_first mn106 [u1] (fun t => by simp [vt0, vt1, vt2, eq_comm])))).2) ?_
    refine XS.iconst X104.here hx rfl (hb hby at_518) ?_
    refine XS.goto X104.here hx rfl (pc0 := 519) (pc' := 523) rfl (hb hby at_519) (by decide) (by decide) ?_
    exact k
  obtain ⟨fs, hr, hrun, hended, hW, hsame⟩ := X104.leave (v := some (.int (1 : Int32))) (fun h => by rw [Bd.returns] at h; cases h)
  refine Goes.mk _ _ ?_ ⟨hrun, hended, _, _, rfl, ?_, ⟨_, rfl⟩, hW, hsame.mono (by decide) (by decide)⟩
  · exact retN X104 hx (t := .boolean) Bd.returns (by simp) (hb hby at_523) hr
  · show Q0 Z q0 q1 q2 p3 h0 n0 _ T104.heap _
    rw [e104]
    exact ⟨rfl, N107⟩
set_option maxRecDepth 65536 in
set_option maxHeartbeats 40000000 in
theorem tail_100 (l : Launch) (Z : State) (az : Array Value) (hw : ∀ d ∈ tables_1, d.before az Z = true) (ws : List Jvm.Cond) (q0 q1 q2 : Int64) (p3 : Int32) (h0 : Heap) (n0 : Nat) (u1 u2 : Int64) (c2 : Int32) {p : Program} {e : Env} {s : State} {m : MethodId} {below : List Frame} {meth : Method} {c : Code} {s₁ : State} (Bd : BodyLoose p l x (head1 (Jvm.Cond.code x code maxLocals ret :: ws) room_1) code maxLocals ret e s m #[(.long q0), (.long q1), (.long q2), (.int p3)] below meth c s₁) (hx : p.tables.exec = Jvm.exec) (hby : c.code = code) (hml : c.maxLocals = 32) (hown : s.vm.findClass "com/example/admit_one/admitone/engine/DueOrderRemovePinLaw" = some m.cls) (hZ : Z.Warmed39 s.vm) (oD la lb lc ar : Addr) (kA : ClassId) (x14 x15 x16 x17 x18 : Int32) : ∀ (T : State) (locs : List Loc) (hs : List Addr) (τ : Addr → Int64) (N P : Addr → Value) (tk : Addr → Option Int64), Stand p l e room_1 s m #[(.long q0), (.long q1), (.long q2), (.int p3)] below meth c T locs 8 21 → Fr n0 locs → n0 ≤ T.heap.size → Rep Z T.heap n0 oD ar kA hs τ N P [la, lb, lc] → Inv hs τ N P [la, lb, lc] tk → tk la = (some q0) → tk lb = none → tk lc = none → hs.length ≤ 3 → Goes p.tables e below (fun s₂ o => s₂.status = .running ∧ Ended s₂ below o ∧ ∃ v L, o = .returned v ∧ Q0 Z q0 q1 q2 p3 h0 n0 v s₂.heap L ∧ FrameEnd s o s₂ L 8 21) (T.setTop (mkF m 342 (sh10 q0 q1 q2 p3 q0 u1 c2 u2 x14 x15 x16 x17 x18 oD la lb lc (1 : Int32) (0 : Int32) (0 : Int32)) [])) := by
  intro T locs hs τ N P tk XT NT ZT RT IT vt0 vt1 vt2 LT
  refine Goes.by (B := T.setTop (mkF m 411 (sh11 q0 q1 q2 p3 q0 u1 c2 u2 x14 x15 x16 x17 x18 oD la lb lc (1 : Int32) (0 : Int32) (0 : Int32) ((0 : Int32) + (1 : Int32))) [(.long (9223372036854775807 : Int64))])) (fun t k => ?_) ?_
  · refine XS.iconst XT.here hx rfl (hb hby at_342) ?_
    refine XS.istore XT.here hx rfl (hb hby at_343) rfl (l' := (sh11 q0 q1 q2 p3 q0 u1 c2 u2 x14 x15 x16 x17 x18 oD la lb lc (1 : Int32) (0 : Int32) (0 : Int32) (0 : Int32))) rfl ?_
    refine XS.iload XT.here hx rfl (hb hby at_345) rfl ?_
    refine XS.ifNo XT.here hx rfl (hb hby at_347) rfl ((if0 _ _).trans (feq (by decide : ¬ ((1 : Int32) = (0 : Int32)))).1) ?_
    refine XS.iinc XT.here hx rfl (hb hby at_350) rfl (l' := (sh11 q0 q1 q2 p3 q0 u1 c2 u2 x14 x15 x16 x17 x18 oD la lb lc (1 : Int32) (0 : Int32) (0 : Int32) ((0 : Int32) + (1 : Int32)))) rfl ?_
    refine XS.iload XT.here hx rfl (hb hby at_353) rfl ?_
    refine XS.ifYes XT.here hx rfl (pc0 := 355) (pc' := 374) rfl (hb hby at_355) rfl ((if0 _ _).trans (teq (by decide : (0 : Int32) = (0 : Int32))).1) (by decide) (by decide) ?_
    refine XS.iload XT.here hx rfl (hb hby at_374) rfl ?_
    refine XS.ifYes XT.here hx rfl (pc0 := 376) (pc' := 408) rfl (hb hby at_376) rfl ((if0 _ _).trans (teq (by decide : (0 : Int32) = (0 : Int32))).1) (by decide) (by decide) ?_
    refine XT.ldc2Long hx hown (mvT hZ (wq hw 67 rfl)) (g := (mkF m 408 (sh11 q0 q1 q2 p3 q0 u1 c2 u2 x14 x15 x16 x17 x18 oD la lb lc (1 : Int32) (0 : Int32) (0 : Int32) ((0 : Int32) + (1 : Int32))) [])) rfl (hb hby at_408) _ ?_
    exact k
  refine Goes.by (B := T.setTop (mkF m 422 (sh12 q0 q1 q2 p3 q0 u1 c2 u2 x14 x15 x16 x17 x18 oD la lb lc (1 : Int32) (0 : Int32) (0 : Int32) ((0 : Int32) + (1 : Int32)) (9223372036854775807 : Int64)) [(.long q0), (.long (9223372036854775807 : Int64))])) (fun t k => ?_) ?_
  · refine XS.lstore XT.here hx rfl (hb hby at_411) rfl (l' := (sh12 q0 q1 q2 p3 q0 u1 c2 u2 x14 x15 x16 x17 x18 oD la lb lc (1 : Int32) (0 : Int32) (0 : Int32) ((0 : Int32) + (1 : Int32)) (9223372036854775807 : Int64))) rfl ?_
    refine XS.iload XT.here hx rfl (hb hby at_413) rfl ?_
    refine XS.ifNo XT.here hx rfl (hb hby at_415) rfl ((if0 _ _).trans (feq (by decide : ¬ ((1 : Int32) = (0 : Int32)))).1) ?_
    refine XS.lload XT.here hx rfl (hb hby at_418) rfl ?_
    refine XS.lload XT.here hx rfl (hb hby at_420) rfl ?_
    exact k
  obtain ⟨_, T108, L108, Lc108, X108, hF108, hQ108, st108⟩ := own_cs XT hx hZ hown (wq hw 68 rfl) (wq hw 69 rfl) (wq hw 70 rfl) (wq hw 71 rfl) (rmMin l Z az hw [] (9223372036854775807 : Int64) q0 T.heap n0 ZT ) (W := 0) (g := (mkF m 422 (sh12 q0 q1 q2 p3 q0 u1 c2 u2 x14 x15 x16 x17 x18 oD la lb lc (1 : Int32) (0 : Int32) (0 : Int32) ((0 : Int32) + (1 : Int32)) (9223372036854775807 : Int64)) [(.long q0), (.long (9223372036854775807 : Int64))])) rfl (by rw [hml]; rfl) (argsL := [(.long (9223372036854775807 : Int64)), (.long q0)]) (rest := []) rfl (lenOf own_pd5 rfl) rfl (hb hby at_422) rfl NT (c' := 8) (s' := 21)
  obtain ⟨rfl, N108q, e108⟩ := hQ108
  have N109 := hF108 N108q
  refine Goes.by st108 ?_
  refine Goes.by (B := T108.setTop (mkF m 457 (sh12 q0 q1 q2 p3 q0 u1 c2 u2 x14 x15 x16 x17 x18 oD la lb lc (1 : Int32) (0 : Int32) (0 : Int32) ((0 : Int32) + (1 : Int32)) (fMin (9223372036854775807 : Int64) q0)) [(.ref la)])) (fun t k => ?_) ?_
  · refine XS.lstore X108.here hx rfl (hb hby at_425) rfl (l' := (sh12 q0 q1 q2 p3 q0 u1 c2 u2 x14 x15 x16 x17 x18 oD la lb lc (1 : Int32) (0 : Int32) (0 : Int32) ((0 : Int32) + (1 : Int32)) (fMin (9223372036854775807 : Int64) q0))) rfl ?_
    refine XS.iload X108.here hx rfl (hb hby at_427) rfl ?_
    refine XS.ifYes X108.here hx rfl (pc0 := 429) (pc' := 441) rfl (hb hby at_429) rfl ((if0 _ _).trans (teq (by decide : (0 : Int32) = (0 : Int32))).1) (by decide) (by decide) ?_
    refine XS.iload X108.here hx rfl (hb hby at_441) rfl ?_
    refine XS.ifYes X108.here hx rfl (pc0 := 443) (pc' := 455) rfl (hb hby at_443) rfl ((if0 _ _).trans (teq (by decide : (0 : Int32) = (0 : Int32))).1) (by decide) (by decide) ?_
    refine XS.aload X108.here hx rfl (hb hby at_455) rfl rfl ?_
    exact k
  obtain ⟨b111, f110⟩ := Rep.nextY RT IT (by simp) vt0
  obtain ⟨_, T112, L112, Lc112, X112, hF112, hQ112, st112⟩ := own_cs X108 hx hZ hown (wq hw 72 rfl) (wq hw 73 rfl) (wq hw 2 rfl) (wq hw 74 rfl) (rmIsY l Z az hw [] la b111 T.heap n0 ZT f110) (W := 0) (g := (mkF m 457 (sh12 q0 q1 q2 p3 q0 u1 c2 u2 x14 x15 x16 x17 x18 oD la lb lc (1 : Int32) (0 : Int32) (0 : Int32) ((0 : Int32) + (1 : Int32)) (fMin (9223372036854775807 : Int64) q0)) [(.ref la)])) rfl (by rw [hml]; rfl) (argsL := [(.ref la)]) (rest := []) rfl (lenOf own_pd6 rfl) rfl (hb hby at_457) e108 N109 (c' := 8) (s' := 21)
  obtain ⟨rfl, N112q, e112⟩ := hQ112
  have N113 := hF112 N112q
  refine Goes.by st112 ?_
  refine Goes.by (fun _ => XS.istore X112.here hx rfl (hb hby at_460) rfl (l' := (sh13 q0 q1 q2 p3 q0 u1 c2 u2 x14 x15 x16 x17 x18 oD la lb lc (1 : Int32) (0 : Int32) (0 : Int32) ((0 : Int32) + (1 : Int32)) (fMin (9223372036854775807 : Int64) q0) (1 : Int32))) rfl) ?_
  refine Goes.by (fun _ => XS.aload X112.here hx rfl (hb hby at_462) rfl rfl) ?_
  have f114 : Fld Z T.heap lb cL "next" dL .null := Rep.nextN RT IT (by simp) vt1
  obtain ⟨_, T115, L115, Lc115, X115, hF115, hQ115, st115⟩ := own_cs X112 hx hZ hown (wq hw 72 rfl) (wq hw 73 rfl) (wq hw 2 rfl) (wq hw 74 rfl) (rmIsN l Z az hw [] lb T.heap n0 ZT f114) (W := 0) (g := (mkF m 464 (sh13 q0 q1 q2 p3 q0 u1 c2 u2 x14 x15 x16 x17 x18 oD la lb lc (1 : Int32) (0 : Int32) (0 : Int32) ((0 : Int32) + (1 : Int32)) (fMin (9223372036854775807 : Int64) q0) (1 : Int32)) [(.ref lb)])) rfl (by rw [hml]; rfl) (argsL := [(.ref lb)]) (rest := []) rfl (lenOf own_pd6 rfl) rfl (hb hby at_464) e112 N113 (c' := 8) (s' := 21)
  obtain ⟨rfl, N115q, e115⟩ := hQ115
  have N116 := hF115 N115q
  refine Goes.by st115 ?_
  refine Goes.by (fun _ => XS.istore X115.here hx rfl (hb hby at_467) rfl (l' := (sh14 q0 q1 q2 p3 q0 u1 c2 u2 x14 x15 x16 x17 x18 oD la lb lc (1 : Int32) (0 : Int32) (0 : Int32) ((0 : Int32) + (1 : Int32)) (fMin (9223372036854775807 : Int64) q0) (1 : Int32) (0 : Int32))) rfl) ?_
  refine Goes.by (fun _ => XS.aload X115.here hx rfl (hb hby at_469) rfl rfl) ?_
  have f117 : Fld Z T.heap lc cL "next" dL .null := Rep.nextN RT IT (by simp) vt2
  obtain ⟨_, T118, L118, Lc118, X118, hF118, hQ118, st118⟩ := own_cs X115 hx hZ hown (wq hw 72 rfl) (wq hw 73 rfl) (wq hw 2 rfl) (wq hw 74 rfl) (rmIsN l Z az hw [] lc T.heap n0 ZT f117) (W := 0) (g := (mkF m 471 (sh14 q0 q1 q2 p3 q0 u1 c2 u2 x14 x15 x16 x17 x18 oD la lb lc (1 : Int32) (0 : Int32) (0 : Int32) ((0 : Int32) + (1 : Int32)) (fMin (9223372036854775807 : Int64) q0) (1 : Int32) (0 : Int32)) [(.ref lc)])) rfl (by rw [hml]; rfl) (argsL := [(.ref lc)]) (rest := []) rfl (lenOf own_pd6 rfl) rfl (hb hby at_471) e115 N116 (c' := 8) (s' := 21)
  obtain ⟨rfl, N118q, e118⟩ := hQ118
  have N119 := hF118 N118q
  refine Goes.by st118 ?_
  refine Goes.by (B := T118.setTop (mkF m 499 (sh15 q0 q1 q2 p3 q0 u1 c2 u2 x14 x15 x16 x17 x18 oD la lb lc (1 : Int32) (0 : Int32) (0 : Int32) ((0 : Int32) + (1 : Int32)) (fMin (9223372036854775807 : Int64) q0) (1 : Int32) (0 : Int32) (0 : Int32)) [(.ref oD)])) (fun t k => ?_) ?_
  · refine XS.istore X118.here hx rfl (hb hby at_474) rfl (l' := (sh15 q0 q1 q2 p3 q0 u1 c2 u2 x14 x15 x16 x17 x18 oD la lb lc (1 : Int32) (0 : Int32) (0 : Int32) ((0 : Int32) + (1 : Int32)) (fMin (9223372036854775807 : Int64) q0) (1 : Int32) (0 : Int32) (0 : Int32))) rfl ?_
    refine XS.iload X118.here hx rfl (hb hby at_476) rfl ?_
    refine XS.iload X118.here hx rfl (hb hby at_478) rfl ?_
    refine XS.icmpNo X118.here hx rfl (hb hby at_480) rfl (teq (by decide : (1 : Int32) = (1 : Int32))).2 ?_
    refine XS.iload X118.here hx rfl (hb hby at_483) rfl ?_
    refine XS.iload X118.here hx rfl (hb hby at_485) rfl ?_
    refine XS.icmpNo X118.here hx rfl (hb hby at_487) rfl (teq (by decide : (0 : Int32) = (0 : Int32))).2 ?_
    refine XS.iload X118.here hx rfl (hb hby at_490) rfl ?_
    refine XS.iload X118.here hx rfl (hb hby at_492) rfl ?_
    refine XS.icmpNo X118.here hx rfl (hb hby at_494) rfl (teq (by decide : (0 : Int32) = (0 : Int32))).2 ?_
    refine XS.aload X118.here hx rfl (hb hby at_497) rfl rfl ?_
    exact k
  obtain ⟨_, T120, L120, Lc120, X120, hF120, hQ120, st120⟩ := own_cv X118 hx hZ hown (wq hw 75 rfl) (wq hw 76 rfl) (wq hw 78 rfl) (wq hw 77 rfl) (wq hw 2 rfl) (wq hw 79 rfl) (rmTicks l Z az hw [] oD (Int32.ofNat hs.length) T.heap n0 ZT RT.2.2.1) (W := 0) (g := (mkF m 499 (sh15 q0 q1 q2 p3 q0 u1 c2 u2 x14 x15 x16 x17 x18 oD la lb lc (1 : Int32) (0 : Int32) (0 : Int32) ((0 : Int32) + (1 : Int32)) (fMin (9223372036854775807 : Int64) q0) (1 : Int32) (0 : Int32) (0 : Int32)) [(.ref oD)])) rfl (by rw [hml]; rfl) RT.1 (argsL := []) (rest := []) rfl (lenOf own_pd7 rfl) rfl (hb hby at_499) e118 N119 (c' := 8) (s' := 21)
  obtain ⟨rfl, N120q, e120⟩ := hQ120
  have N121 := hF120 N120q
  refine Goes.by st120 ?_
  refine Goes.by (fun _ => XS.iload X120.here hx rfl (hb hby at_502) rfl) ?_
  refine Goes.by (fun _ => XS.icmpNo X120.here hx rfl (hb hby at_504) rfl (teq (own_cnt1 IT (a := q0) (fun t => by simp [vt0, vt1, vt2]))).2) ?_
  refine Goes.by (fun _ => XS.aload X120.here hx rfl (hb hby at_507) rfl rfl) ?_
  obtain ⟨_, T122, L122, Lc122, X122, hF122, hQ122, st122⟩ := own_cv X120 hx hZ hown (wq hw 80 rfl) (wq hw 81 rfl) (wq hw 83 rfl) (wq hw 82 rfl) (wq hw 2 rfl) (wq hw 84 rfl) (rmFirstR l Z az hw [] oD ar kA hs τ N P [la, lb, lc] tk T.heap n0 ZT RT IT (Nat.le_trans LT (by decide))) (W := 0) (g := (mkF m 509 (sh15 q0 q1 q2 p3 q0 u1 c2 u2 x14 x15 x16 x17 x18 oD la lb lc (1 : Int32) (0 : Int32) (0 : Int32) ((0 : Int32) + (1 : Int32)) (fMin (9223372036854775807 : Int64) q0) (1 : Int32) (0 : Int32) (0 : Int32)) [(.ref oD)])) rfl (by rw [hml]; rfl) RT.1 (argsL := []) (rest := []) rfl (lenOf own_pd8 rfl) rfl (hb hby at_509) e120 N121 (c' := 8) (s' := 21)
  obtain ⟨r123, rfl, N122q, e122, mn124⟩ := hQ122
  have N125 := hF122 N122q
  refine Goes.by st122 ?_
  refine Goes.by (B := T122.setTop (mkF m 523 (sh15 q0 q1 q2 p3 q0 u1 c2 u2 x14 x15 x16 x17 x18 oD la lb lc (1 : Int32) (0 : Int32) (0 : Int32) ((0 : Int32) + (1 : Int32)) (fMin (9223372036854775807 : Int64) q0) (1 : Int32) (0 : Int32) (0 : Int32)) [(.int (1 : Int32))])) (fun t k => ?_) ?_
  · refine XS.lload X122.here hx rfl (hb hby at_512) rfl ?_
    refine XS.lcmp X122.here hx rfl (hb hby at_514) rfl ?_
    refine XS.ifNo X122.here hx rfl (hb hby at_515) rfl ((if0 _ _).trans (teq ((lw_eq r123 (fMin (9223372036854775807 : Int64) q0)).mpr (own_first mn124 [q0] (fun t => by simp [vt0, vt1, vt2, eq_comm])))).2) ?_
    refine XS.iconst X122.here hx rfl (hb hby at_518) ?_
    refine XS.goto X122.here hx rfl (pc0 := 519) (pc' := 523) rfl (hb hby at_519) (by decide) (by decide) ?_
    exact k
  obtain ⟨fs, hr, hrun, hended, hW, hsame⟩ := X122.leave (v := some (.int (1 : Int32))) (fun h => by rw [Bd.returns] at h; cases h)
  refine Goes.mk _ _ ?_ ⟨hrun, hended, _, _, rfl, ?_, ⟨_, rfl⟩, hW, hsame.mono (by decide) (by decide)⟩
  · exact retN X122 hx (t := .boolean) Bd.returns (by simp) (hb hby at_523) hr
  · show Q0 Z q0 q1 q2 p3 h0 n0 _ T122.heap _
    rw [e122]
    exact ⟨rfl, N125⟩
set_option maxRecDepth 65536 in
set_option maxHeartbeats 40000000 in
theorem tail_000 (l : Launch) (Z : State) (az : Array Value) (hw : ∀ d ∈ tables_1, d.before az Z = true) (ws : List Jvm.Cond) (q0 q1 q2 : Int64) (p3 : Int32) (h0 : Heap) (n0 : Nat) (u1 u2 : Int64) (c2 : Int32) {p : Program} {e : Env} {s : State} {m : MethodId} {below : List Frame} {meth : Method} {c : Code} {s₁ : State} (Bd : BodyLoose p l x (head1 (Jvm.Cond.code x code maxLocals ret :: ws) room_1) code maxLocals ret e s m #[(.long q0), (.long q1), (.long q2), (.int p3)] below meth c s₁) (hx : p.tables.exec = Jvm.exec) (hby : c.code = code) (hml : c.maxLocals = 32) (hown : s.vm.findClass "com/example/admit_one/admitone/engine/DueOrderRemovePinLaw" = some m.cls) (hZ : Z.Warmed39 s.vm) (oD la lb lc ar : Addr) (kA : ClassId) (x14 x15 x16 x17 x18 : Int32) : ∀ (T : State) (locs : List Loc) (hs : List Addr) (τ : Addr → Int64) (N P : Addr → Value) (tk : Addr → Option Int64), Stand p l e room_1 s m #[(.long q0), (.long q1), (.long q2), (.int p3)] below meth c T locs 8 21 → Fr n0 locs → n0 ≤ T.heap.size → Rep Z T.heap n0 oD ar kA hs τ N P [la, lb, lc] → Inv hs τ N P [la, lb, lc] tk → tk la = none → tk lb = none → tk lc = none → hs.length ≤ 3 → Goes p.tables e below (fun s₂ o => s₂.status = .running ∧ Ended s₂ below o ∧ ∃ v L, o = .returned v ∧ Q0 Z q0 q1 q2 p3 h0 n0 v s₂.heap L ∧ FrameEnd s o s₂ L 8 21) (T.setTop (mkF m 342 (sh10 q0 q1 q2 p3 q0 u1 c2 u2 x14 x15 x16 x17 x18 oD la lb lc (0 : Int32) (0 : Int32) (0 : Int32)) [])) := by
  intro T locs hs τ N P tk XT NT ZT RT IT vt0 vt1 vt2 LT
  refine Goes.by (B := T.setTop (mkF m 413 (sh12 q0 q1 q2 p3 q0 u1 c2 u2 x14 x15 x16 x17 x18 oD la lb lc (0 : Int32) (0 : Int32) (0 : Int32) (0 : Int32) (9223372036854775807 : Int64)) [])) (fun t k => ?_) ?_
  · refine XS.iconst XT.here hx rfl (hb hby at_342) ?_
    refine XS.istore XT.here hx rfl (hb hby at_343) rfl (l' := (sh11 q0 q1 q2 p3 q0 u1 c2 u2 x14 x15 x16 x17 x18 oD la lb lc (0 : Int32) (0 : Int32) (0 : Int32) (0 : Int32))) rfl ?_
    refine XS.iload XT.here hx rfl (hb hby at_345) rfl ?_
    refine XS.ifYes XT.here hx rfl (pc0 := 347) (pc' := 353) rfl (hb hby at_347) rfl ((if0 _ _).trans (teq (by decide : (0 : Int32) = (0 : Int32))).1) (by decide) (by decide) ?_
    refine XS.iload XT.here hx rfl (hb hby at_353) rfl ?_
    refine XS.ifYes XT.here hx rfl (pc0 := 355) (pc' := 374) rfl (hb hby at_355) rfl ((if0 _ _).trans (teq (by decide : (0 : Int32) = (0 : Int32))).1) (by decide) (by decide) ?_
    refine XS.iload XT.here hx rfl (hb hby at_374) rfl ?_
    refine XS.ifYes XT.here hx rfl (pc0 := 376) (pc' := 408) rfl (hb hby at_376) rfl ((if0 _ _).trans (teq (by decide : (0 : Int32) = (0 : Int32))).1) (by decide) (by decide) ?_
    refine XT.ldc2Long hx hown (mvT hZ (wq hw 67 rfl)) (g := (mkF m 408 (sh11 q0 q1 q2 p3 q0 u1 c2 u2 x14 x15 x16 x17 x18 oD la lb lc (0 : Int32) (0 : Int32) (0 : Int32) (0 : Int32)) [])) rfl (hb hby at_408) _ ?_
    refine XS.lstore XT.here hx rfl (hb hby at_411) rfl (l' := (sh12 q0 q1 q2 p3 q0 u1 c2 u2 x14 x15 x16 x17 x18 oD la lb lc (0 : Int32) (0 : Int32) (0 : Int32) (0 : Int32) (9223372036854775807 : Int64))) rfl ?_
    exact k
  refine Goes.by (B := T.setTop (mkF m 457 (sh12 q0 q1 q2 p3 q0 u1 c2 u2 x14 x15 x16 x17 x18 oD la lb lc (0 : Int32) (0 : Int32) (0 : Int32) (0 : Int32) (9223372036854775807 : Int64)) [(.ref la)])) (fun t k => ?_) ?_
  · refine XS.iload XT.here hx rfl (hb hby at_413) rfl ?_
    refine XS.ifYes XT.here hx rfl (pc0 := 415) (pc' := 427) rfl (hb hby at_415) rfl ((if0 _ _).trans (teq (by decide : (0 : Int32) = (0 : Int32))).1) (by decide) (by decide) ?_
    refine XS.iload XT.here hx rfl (hb hby at_427) rfl ?_
    refine XS.ifYes XT.here hx rfl (pc0 := 429) (pc' := 441) rfl (hb hby at_429) rfl ((if0 _ _).trans (teq (by decide : (0 : Int32) = (0 : Int32))).1) (by decide) (by decide) ?_
    refine XS.iload XT.here hx rfl (hb hby at_441) rfl ?_
    refine XS.ifYes XT.here hx rfl (pc0 := 443) (pc' := 455) rfl (hb hby at_443) rfl ((if0 _ _).trans (teq (by decide : (0 : Int32) = (0 : Int32))).1) (by decide) (by decide) ?_
    refine XS.aload XT.here hx rfl (hb hby at_455) rfl rfl ?_
    exact k
  have f126 : Fld Z T.heap la cL "next" dL .null := Rep.nextN RT IT (by simp) vt0
  obtain ⟨_, T127, L127, Lc127, X127, hF127, hQ127, st127⟩ := own_cs XT hx hZ hown (wq hw 72 rfl) (wq hw 73 rfl) (wq hw 2 rfl) (wq hw 74 rfl) (rmIsN l Z az hw [] la T.heap n0 ZT f126) (W := 0) (g := (mkF m 457 (sh12 q0 q1 q2 p3 q0 u1 c2 u2 x14 x15 x16 x17 x18 oD la lb lc (0 : Int32) (0 : Int32) (0 : Int32) (0 : Int32) (9223372036854775807 : Int64)) [(.ref la)])) rfl (by rw [hml]; rfl) (argsL := [(.ref la)]) (rest := []) rfl (lenOf own_pd6 rfl) rfl (hb hby at_457) rfl NT (c' := 8) (s' := 21)
  obtain ⟨rfl, N127q, e127⟩ := hQ127
  have N128 := hF127 N127q
  refine Goes.by st127 ?_
  refine Goes.by (fun _ => XS.istore X127.here hx rfl (hb hby at_460) rfl (l' := (sh13 q0 q1 q2 p3 q0 u1 c2 u2 x14 x15 x16 x17 x18 oD la lb lc (0 : Int32) (0 : Int32) (0 : Int32) (0 : Int32) (9223372036854775807 : Int64) (0 : Int32))) rfl) ?_
  refine Goes.by (fun _ => XS.aload X127.here hx rfl (hb hby at_462) rfl rfl) ?_
  have f129 : Fld Z T.heap lb cL "next" dL .null := Rep.nextN RT IT (by simp) vt1
  obtain ⟨_, T130, L130, Lc130, X130, hF130, hQ130, st130⟩ := own_cs X127 hx hZ hown (wq hw 72 rfl) (wq hw 73 rfl) (wq hw 2 rfl) (wq hw 74 rfl) (rmIsN l Z az hw [] lb T.heap n0 ZT f129) (W := 0) (g := (mkF m 464 (sh13 q0 q1 q2 p3 q0 u1 c2 u2 x14 x15 x16 x17 x18 oD la lb lc (0 : Int32) (0 : Int32) (0 : Int32) (0 : Int32) (9223372036854775807 : Int64) (0 : Int32)) [(.ref lb)])) rfl (by rw [hml]; rfl) (argsL := [(.ref lb)]) (rest := []) rfl (lenOf own_pd6 rfl) rfl (hb hby at_464) e127 N128 (c' := 8) (s' := 21)
  obtain ⟨rfl, N130q, e130⟩ := hQ130
  have N131 := hF130 N130q
  refine Goes.by st130 ?_
  refine Goes.by (fun _ => XS.istore X130.here hx rfl (hb hby at_467) rfl (l' := (sh14 q0 q1 q2 p3 q0 u1 c2 u2 x14 x15 x16 x17 x18 oD la lb lc (0 : Int32) (0 : Int32) (0 : Int32) (0 : Int32) (9223372036854775807 : Int64) (0 : Int32) (0 : Int32))) rfl) ?_
  refine Goes.by (fun _ => XS.aload X130.here hx rfl (hb hby at_469) rfl rfl) ?_
  have f132 : Fld Z T.heap lc cL "next" dL .null := Rep.nextN RT IT (by simp) vt2
  obtain ⟨_, T133, L133, Lc133, X133, hF133, hQ133, st133⟩ := own_cs X130 hx hZ hown (wq hw 72 rfl) (wq hw 73 rfl) (wq hw 2 rfl) (wq hw 74 rfl) (rmIsN l Z az hw [] lc T.heap n0 ZT f132) (W := 0) (g := (mkF m 471 (sh14 q0 q1 q2 p3 q0 u1 c2 u2 x14 x15 x16 x17 x18 oD la lb lc (0 : Int32) (0 : Int32) (0 : Int32) (0 : Int32) (9223372036854775807 : Int64) (0 : Int32) (0 : Int32)) [(.ref lc)])) rfl (by rw [hml]; rfl) (argsL := [(.ref lc)]) (rest := []) rfl (lenOf own_pd6 rfl) rfl (hb hby at_471) e130 N131 (c' := 8) (s' := 21)
  obtain ⟨rfl, N133q, e133⟩ := hQ133
  have N134 := hF133 N133q
  refine Goes.by st133 ?_
  refine Goes.by (B := T133.setTop (mkF m 499 (sh15 q0 q1 q2 p3 q0 u1 c2 u2 x14 x15 x16 x17 x18 oD la lb lc (0 : Int32) (0 : Int32) (0 : Int32) (0 : Int32) (9223372036854775807 : Int64) (0 : Int32) (0 : Int32) (0 : Int32)) [(.ref oD)])) (fun t k => ?_) ?_
  · refine XS.istore X133.here hx rfl (hb hby at_474) rfl (l' := (sh15 q0 q1 q2 p3 q0 u1 c2 u2 x14 x15 x16 x17 x18 oD la lb lc (0 : Int32) (0 : Int32) (0 : Int32) (0 : Int32) (9223372036854775807 : Int64) (0 : Int32) (0 : Int32) (0 : Int32))) rfl ?_
    refine XS.iload X133.here hx rfl (hb hby at_476) rfl ?_
    refine XS.iload X133.here hx rfl (hb hby at_478) rfl ?_
    refine XS.icmpNo X133.here hx rfl (hb hby at_480) rfl (teq (by decide : (0 : Int32) = (0 : Int32))).2 ?_
    refine XS.iload X133.here hx rfl (hb hby at_483) rfl ?_
    refine XS.iload X133.here hx rfl (hb hby at_485) rfl ?_
    refine XS.icmpNo X133.here hx rfl (hb hby at_487) rfl (teq (by decide : (0 : Int32) = (0 : Int32))).2 ?_
    refine XS.iload X133.here hx rfl (hb hby at_490) rfl ?_
    refine XS.iload X133.here hx rfl (hb hby at_492) rfl ?_
    refine XS.icmpNo X133.here hx rfl (hb hby at_494) rfl (teq (by decide : (0 : Int32) = (0 : Int32))).2 ?_
    refine XS.aload X133.here hx rfl (hb hby at_497) rfl rfl ?_
    exact k
  obtain ⟨_, T135, L135, Lc135, X135, hF135, hQ135, st135⟩ := own_cv X133 hx hZ hown (wq hw 75 rfl) (wq hw 76 rfl) (wq hw 78 rfl) (wq hw 77 rfl) (wq hw 2 rfl) (wq hw 79 rfl) (rmTicks l Z az hw [] oD (Int32.ofNat hs.length) T.heap n0 ZT RT.2.2.1) (W := 0) (g := (mkF m 499 (sh15 q0 q1 q2 p3 q0 u1 c2 u2 x14 x15 x16 x17 x18 oD la lb lc (0 : Int32) (0 : Int32) (0 : Int32) (0 : Int32) (9223372036854775807 : Int64) (0 : Int32) (0 : Int32) (0 : Int32)) [(.ref oD)])) rfl (by rw [hml]; rfl) RT.1 (argsL := []) (rest := []) rfl (lenOf own_pd7 rfl) rfl (hb hby at_499) e133 N134 (c' := 8) (s' := 21)
  obtain ⟨rfl, N135q, e135⟩ := hQ135
  have N136 := hF135 N135q
  refine Goes.by st135 ?_
  refine Goes.by (fun _ => XS.iload X135.here hx rfl (hb hby at_502) rfl) ?_
  refine Goes.by (fun _ => XS.icmpNo X135.here hx rfl (hb hby at_504) rfl (teq (own_cnt0 IT (fun t => by simp [vt0, vt1, vt2]))).2) ?_
  refine Goes.by (fun _ => XS.aload X135.here hx rfl (hb hby at_507) rfl rfl) ?_
  obtain ⟨_, T137, L137, Lc137, X137, hF137, hQ137, st137⟩ := own_cv X135 hx hZ hown (wq hw 80 rfl) (wq hw 81 rfl) (wq hw 83 rfl) (wq hw 82 rfl) (wq hw 2 rfl) (wq hw 84 rfl) (rmFirstR l Z az hw [] oD ar kA hs τ N P [la, lb, lc] tk T.heap n0 ZT RT IT (Nat.le_trans LT (by decide))) (W := 0) (g := (mkF m 509 (sh15 q0 q1 q2 p3 q0 u1 c2 u2 x14 x15 x16 x17 x18 oD la lb lc (0 : Int32) (0 : Int32) (0 : Int32) (0 : Int32) (9223372036854775807 : Int64) (0 : Int32) (0 : Int32) (0 : Int32)) [(.ref oD)])) rfl (by rw [hml]; rfl) RT.1 (argsL := []) (rest := []) rfl (lenOf own_pd8 rfl) rfl (hb hby at_509) e135 N136 (c' := 8) (s' := 21)
  obtain ⟨r138, rfl, N137q, e137, mn139⟩ := hQ137
  have N140 := hF137 N137q
  refine Goes.by st137 ?_
  refine Goes.by (B := T137.setTop (mkF m 523 (sh15 q0 q1 q2 p3 q0 u1 c2 u2 x14 x15 x16 x17 x18 oD la lb lc (0 : Int32) (0 : Int32) (0 : Int32) (0 : Int32) (9223372036854775807 : Int64) (0 : Int32) (0 : Int32) (0 : Int32)) [(.int (1 : Int32))])) (fun t k => ?_) ?_
  · refine XS.lload X137.here hx rfl (hb hby at_512) rfl ?_
    refine XS.lcmp X137.here hx rfl (hb hby at_514) rfl ?_
    refine XS.ifNo X137.here hx rfl (hb hby at_515) rfl ((if0 _ _).trans (teq ((lw_eq r138 (9223372036854775807 : Int64)).mpr (own_first mn139 [] (fun t => by simp [vt0, vt1, vt2, eq_comm])))).2) ?_
    refine XS.iconst X137.here hx rfl (hb hby at_518) ?_
    refine XS.goto X137.here hx rfl (pc0 := 519) (pc' := 523) rfl (hb hby at_519) (by decide) (by decide) ?_
    exact k
  obtain ⟨fs, hr, hrun, hended, hW, hsame⟩ := X137.leave (v := some (.int (1 : Int32))) (fun h => by rw [Bd.returns] at h; cases h)
  refine Goes.mk _ _ ?_ ⟨hrun, hended, _, _, rfl, ?_, ⟨_, rfl⟩, hW, hsame.mono (by decide) (by decide)⟩
  · exact retN X137 hx (t := .boolean) Bd.returns (by simp) (hb hby at_523) hr
  · show Q0 Z q0 q1 q2 p3 h0 n0 _ T137.heap _
    rw [e137]
    exact ⟨rfl, N140⟩
set_option maxRecDepth 65536 in
set_option maxHeartbeats 40000000 in
theorem road_0 (l : Launch) (Z : State) (az : Array Value) (hw : ∀ d ∈ tables_1, d.before az Z = true) (ws : List Jvm.Cond) (q0 q1 q2 : Int64) (p3 : Int32) (h0 : Heap) (n0 : Nat) (u1 u2 : Int64) (c2 : Int32) {p : Program} {e : Env} {s : State} {m : MethodId} {below : List Frame} {meth : Method} {c : Code} {s₁ : State} (Bd : BodyLoose p l x (head1 (Jvm.Cond.code x code maxLocals ret :: ws) room_1) code maxLocals ret e s m #[(.long q0), (.long q1), (.long q2), (.int p3)] below meth c s₁) (hx : p.tables.exec = Jvm.exec) (hby : c.code = code) (hml : c.maxLocals = 32) (hown : s.vm.findClass "com/example/admit_one/admitone/engine/DueOrderRemovePinLaw" = some m.cls) (hZ : Z.Warmed39 s.vm) (oD la lb lc ar : Addr) (kA : ClassId) (nn stp s1 s2 : Int32) (hn3 : nn = 1 ∨ nn = 2 ∨ nn = 3) (hst : stp = 1 ∨ stp = 2) (hs1 : (((0 : Int32) + stp) % (3 : Int32)) = s1) (hs2 : (((0 : Int32) + ((2 : Int32) * stp)) % (3 : Int32)) = s2) (nt01 : la ≠ lb) (nt02 : la ≠ lc) (nt12 : lb ≠ lc) : ∀ (T : State) (locs : List Loc) (hs : List Addr) (τ : Addr → Int64) (N P : Addr → Value) (tk : Addr → Option Int64), Stand p l e room_1 s m #[(.long q0), (.long q1), (.long q2), (.int p3)] below meth c T locs 8 21 → Fr n0 locs → n0 ≤ T.heap.size → Rep Z T.heap n0 oD ar kA hs τ N P [la, lb, lc] → Inv hs τ N P [la, lb, lc] tk → tk la = (some q0) → tk lb = (some u1) → tk lc = (some u2) → hs.length ≤ 3 → Goes p.tables e below (fun s₂ o => s₂.status = .running ∧ Ended s₂ below o ∧ ∃ v L, o = .returned v ∧ Q0 Z q0 q1 q2 p3 h0 n0 v s₂.heap L ∧ FrameEnd s o s₂ L 8 21) (T.setTop (mkF m 174 (sh16 q0 q1 q2 p3 q0 u1 c2 u2 (0 : Int32) stp nn s1 s2 oD la lb lc) [])) := by
  intro T locs hs τ N P tk XT NT ZT RT IT vt0 vt1 vt2 LT
  refine Goes.by (B := T.setTop (mkF m 184 (sh16 q0 q1 q2 p3 q0 u1 c2 u2 (0 : Int32) stp nn s1 s2 oD la lb lc) [(.int (0 : Int32)), (.ref lc), (.ref lb), (.ref la), (.ref oD)])) (fun t k => ?_) ?_
  · refine XS.aload XT.here hx rfl (hb hby at_174) rfl rfl ?_
    refine XS.aload XT.here hx rfl (hb hby at_176) rfl rfl ?_
    refine XS.aload XT.here hx rfl (hb hby at_178) rfl rfl ?_
    refine XS.aload XT.here hx rfl (hb hby at_180) rfl rfl ?_
    refine XS.iload XT.here hx rfl (hb hby at_182) rfl ?_
    exact k
  obtain ⟨_, T141, L141, Lc141, X141, hF141, hQ141, st141⟩ := own_cs XT hx hZ hown (wq hw 58 rfl) (wq hw 59 rfl) (wq hw 60 rfl) (wq hw 61 rfl) (rmPick0 l Z az hw [] la lb lc T.heap n0 ZT ) (W := 1) (g := (mkF m 184 (sh16 q0 q1 q2 p3 q0 u1 c2 u2 (0 : Int32) stp nn s1 s2 oD la lb lc) [(.int (0 : Int32)), (.ref lc), (.ref lb), (.ref la), (.ref oD)])) rfl (by rw [hml]; rfl) (argsL := [(.ref la), (.ref lb), (.ref lc), (.int (0 : Int32))]) (rest := [(.ref oD)]) rfl (lenOf own_pd9 rfl) rfl (hb hby at_184) rfl NT (c' := 8) (s' := 21)
  obtain ⟨rfl, N141q, e141⟩ := hQ141
  have N142 := hF141 N141q
  refine Goes.by st141 ?_
  obtain ⟨_, T143, L143, Lc143, X143, hF143, hQ143, st143⟩ := own_cv X141 hx hZ hown (wq hw 62 rfl) (wq hw 63 rfl) (wq hw 65 rfl) (wq hw 64 rfl) (wq hw 2 rfl) (wq hw 66 rfl) (rmRemR l Z az hw [] oD la q0 ar kA hs τ N P [la, lb, lc] tk T.heap n0 ZT RT IT (by simp) vt0 (Nat.le_trans LT (by decide))) (W := 0) (g := (mkF m 187 (sh16 q0 q1 q2 p3 q0 u1 c2 u2 (0 : Int32) stp nn s1 s2 oD la lb lc) [(.ref la), (.ref oD)])) rfl (by rw [hml]; rfl) RT.1 (argsL := [(.ref la)]) (rest := []) rfl (lenOf own_pd10 rfl) rfl (hb hby at_187) e141 N142 (c' := 8) (s' := 21)
  obtain ⟨hs144, τ145, Nn146, Pp147, rfl, N143q, zq150, R148, I149, lq151⟩ := hQ143
  have Z152 : n0 ≤ T143.heap.size := Nat.le_trans ZT zq150
  obtain ⟨tk153, etk153⟩ : ∃ z, z = upd tk la none := ⟨_, rfl⟩
  rw [← etk153] at I149
  have v154 : tk153 la = none := by rw [etk153]; exact upd_at _ _ _
  have v155 : tk153 lb = (some u1) := by rw [etk153, upd_ne _ _ (Ne.symm nt01)]; exact vt1
  have v156 : tk153 lc = (some u2) := by rw [etk153, upd_ne _ _ (Ne.symm nt02)]; exact vt2
  have le157 : hs144.length ≤ 3 := Nat.le_trans lq151 LT
  have N158 := hF143 N143q
  refine Goes.by st143 ?_
  rcases hn3 with rfl | h23
  · refine Goes.by (fun _ => XS.iload X143.here hx rfl (hb hby at_190) rfl) ?_
    refine Goes.by (fun _ => XS.iconst X143.here hx rfl (hb hby at_192)) ?_
    refine Goes.by (fun _ => XS.icmpYes X143.here hx rfl (pc0 := 193) (pc' := 212) rfl (hb hby at_193) rfl (tlt (by decide : (1 : Int32) < (2 : Int32))).1 (by decide) (by decide)) ?_
    refine Goes.by (B := T143.setTop (mkF m 274 (sh17 q0 q1 q2 p3 q0 u1 c2 u2 (0 : Int32) stp (1 : Int32) s1 s2 oD la lb lc (0 : Int32)) [])) (fun t k => ?_) ?_
    · refine XS.iload X143.here hx rfl (hb hby at_212) rfl ?_
      refine XS.iconst X143.here hx rfl (hb hby at_214) ?_
      refine XS.icmpYes X143.here hx rfl (pc0 := 215) (pc' := 234) rfl (hb hby at_215) rfl (tlt (by decide : (1 : Int32) < (3 : Int32))).1 (by decide) (by decide) ?_
      refine XS.iload X143.here hx rfl (hb hby at_234) rfl ?_
      refine XS.ifYes X143.here hx rfl (pc0 := 236) (pc' := 265) rfl (hb hby at_236) rfl ((if0 _ _).trans (teq (by decide : (0 : Int32) = (0 : Int32))).1) (by decide) (by decide) ?_
      refine XS.iconst X143.here hx rfl (hb hby at_265) ?_
      refine XS.istore X143.here hx rfl (hb hby at_266) rfl (l' := (sh17 q0 q1 q2 p3 q0 u1 c2 u2 (0 : Int32) stp (1 : Int32) s1 s2 oD la lb lc (0 : Int32))) rfl ?_
      refine XS.iload X143.here hx rfl (hb hby at_268) rfl ?_
      refine XS.iconst X143.here hx rfl (hb hby at_270) ?_
      refine XS.icmpNo X143.here hx rfl (hb hby at_271) rfl (feq (by decide : ¬ ((0 : Int32) = (1 : Int32)))).1 ?_
      exact k
    refine Goes.by (B := T143.setTop (mkF m 307 (sh18 q0 q1 q2 p3 q0 u1 c2 u2 (0 : Int32) stp (1 : Int32) s1 s2 oD la lb lc (0 : Int32) (1 : Int32)) [(.int (0 : Int32))])) (fun t k => ?_) ?_
    · refine XS.iload X143.here hx rfl (hb hby at_274) rfl ?_
      refine XS.iconst X143.here hx rfl (hb hby at_276) ?_
      refine XS.icmpYes X143.here hx rfl (pc0 := 277) (pc' := 286) rfl (hb hby at_277) rfl (tlt (by decide : (1 : Int32) < (2 : Int32))).1 (by decide) (by decide) ?_
      refine XS.iload X143.here hx rfl (hb hby at_286) rfl ?_
      refine XS.iconst X143.here hx rfl (hb hby at_288) ?_
      refine XS.icmpYes X143.here hx rfl (pc0 := 289) (pc' := 298) rfl (hb hby at_289) rfl (tlt (by decide : (1 : Int32) < (3 : Int32))).1 (by decide) (by decide) ?_
      refine XS.iconst X143.here hx rfl (hb hby at_298) ?_
      refine XS.goto X143.here hx rfl (pc0 := 299) (pc' := 303) rfl (hb hby at_299) (by decide) (by decide) ?_
      refine XS.istore X143.here hx rfl (hb hby at_303) rfl (l' := (sh18 q0 q1 q2 p3 q0 u1 c2 u2 (0 : Int32) stp (1 : Int32) s1 s2 oD la lb lc (0 : Int32) (1 : Int32))) rfl ?_
      refine XS.iload X143.here hx rfl (hb hby at_305) rfl ?_
      exact k
    refine Goes.by (B := T143.setTop (mkF m 342 (sh10 q0 q1 q2 p3 q0 u1 c2 u2 (0 : Int32) stp (1 : Int32) s1 s2 oD la lb lc (0 : Int32) (1 : Int32) (1 : Int32)) [])) (fun t k => ?_) ?_
    · refine XS.iconst X143.here hx rfl (hb hby at_307) ?_
      refine XS.icmpNo X143.here hx rfl (hb hby at_308) rfl (feq (by decide : ¬ ((0 : Int32) = (2 : Int32)))).1 ?_
      refine XS.iload X143.here hx rfl (hb hby at_311) rfl ?_
      refine XS.iconst X143.here hx rfl (hb hby at_313) ?_
      refine XS.icmpYes X143.here hx rfl (pc0 := 314) (pc' := 323) rfl (hb hby at_314) rfl (tlt (by decide : (1 : Int32) < (2 : Int32))).1 (by decide) (by decide) ?_
      refine XS.iload X143.here hx rfl (hb hby at_323) rfl ?_
      refine XS.iconst X143.here hx rfl (hb hby at_325) ?_
      refine XS.icmpYes X143.here hx rfl (pc0 := 326) (pc' := 335) rfl (hb hby at_326) rfl (tlt (by decide : (1 : Int32) < (3 : Int32))).1 (by decide) (by decide) ?_
      refine XS.iconst X143.here hx rfl (hb hby at_335) ?_
      refine XS.goto X143.here hx rfl (pc0 := 336) (pc' := 340) rfl (hb hby at_336) (by decide) (by decide) ?_
      refine XS.istore X143.here hx rfl (hb hby at_340) rfl (l' := (sh10 q0 q1 q2 p3 q0 u1 c2 u2 (0 : Int32) stp (1 : Int32) s1 s2 oD la lb lc (0 : Int32) (1 : Int32) (1 : Int32))) rfl ?_
      exact k
    exact tail_011 l Z az hw ws q0 q1 q2 p3 h0 n0 u1 u2 c2 Bd hx hby hml hown hZ oD la lb lc ar kA _ _ _ _ _ _ _ _ _ _ _ _ X143 N158 Z152 R148 I149 v154 v155 v156 (Nat.le_trans le157 (by decide))
  · have hlt : ¬ (nn < (2 : Int32)) := by rcases h23 with rfl | rfl <;> decide
    rcases hst with rfl | rfl
    · obtain rfl : s1 = (1 : Int32) := hs1.symm.trans (by decide)
      obtain rfl : s2 = (2 : Int32) := hs2.symm.trans (by decide)
      refine Goes.by (B := T143.setTop (mkF m 206 (sh16 q0 q1 q2 p3 q0 u1 c2 u2 (0 : Int32) (1 : Int32) nn (1 : Int32) (2 : Int32) oD la lb lc) [(.int (1 : Int32)), (.ref lc), (.ref lb), (.ref la), (.ref oD)])) (fun t k => ?_) ?_
      · refine XS.iload X143.here hx rfl (hb hby at_190) rfl ?_
        refine XS.iconst X143.here hx rfl (hb hby at_192) ?_
        refine XS.icmpNo X143.here hx rfl (hb hby at_193) rfl (flt hlt).1 ?_
        refine XS.aload X143.here hx rfl (hb hby at_196) rfl rfl ?_
        refine XS.aload X143.here hx rfl (hb hby at_198) rfl rfl ?_
        refine XS.aload X143.here hx rfl (hb hby at_200) rfl rfl ?_
        refine XS.aload X143.here hx rfl (hb hby at_202) rfl rfl ?_
        refine XS.iload X143.here hx rfl (hb hby at_204) rfl ?_
        exact k
      obtain ⟨_, T159, L159, Lc159, X159, hF159, hQ159, st159⟩ := own_cs X143 hx hZ hown (wq hw 58 rfl) (wq hw 59 rfl) (wq hw 60 rfl) (wq hw 61 rfl) (rmPick1 l Z az hw [] la lb lc T143.heap n0 Z152 ) (W := 1) (g := (mkF m 206 (sh16 q0 q1 q2 p3 q0 u1 c2 u2 (0 : Int32) (1 : Int32) nn (1 : Int32) (2 : Int32) oD la lb lc) [(.int (1 : Int32)), (.ref lc), (.ref lb), (.ref la), (.ref oD)])) rfl (by rw [hml]; rfl) (argsL := [(.ref la), (.ref lb), (.ref lc), (.int (1 : Int32))]) (rest := [(.ref oD)]) rfl (lenOf own_pd9 rfl) rfl (hb hby at_206) rfl N158 (c' := 8) (s' := 21)
      obtain ⟨rfl, N159q, e159⟩ := hQ159
      have N160 := hF159 N159q
      refine Goes.by st159 ?_
      obtain ⟨_, T161, L161, Lc161, X161, hF161, hQ161, st161⟩ := own_cv X159 hx hZ hown (wq hw 62 rfl) (wq hw 63 rfl) (wq hw 65 rfl) (wq hw 64 rfl) (wq hw 2 rfl) (wq hw 66 rfl) (rmRemR l Z az hw [] oD lb u1 ar kA hs144 τ145 Nn146 Pp147 [la, lb, lc] tk153 T143.heap n0 Z152 R148 I149 (by simp) v155 (Nat.le_trans le157 (by decide))) (W := 0) (g := (mkF m 209 (sh16 q0 q1 q2 p3 q0 u1 c2 u2 (0 : Int32) (1 : Int32) nn (1 : Int32) (2 : Int32) oD la lb lc) [(.ref lb), (.ref oD)])) rfl (by rw [hml]; rfl) R148.1 (argsL := [(.ref lb)]) (rest := []) rfl (lenOf own_pd10 rfl) rfl (hb hby at_209) e159 N160 (c' := 8) (s' := 21)
      obtain ⟨hs162, τ163, Nn164, Pp165, rfl, N161q, zq168, R166, I167, lq169⟩ := hQ161
      have Z170 : n0 ≤ T161.heap.size := Nat.le_trans Z152 zq168
      obtain ⟨tk171, etk171⟩ : ∃ z, z = upd tk153 lb none := ⟨_, rfl⟩
      rw [← etk171] at I167
      have v172 : tk171 la = none := by rw [etk171, upd_ne _ _ nt01]; exact v154
      have v173 : tk171 lb = none := by rw [etk171]; exact upd_at _ _ _
      have v174 : tk171 lc = (some u2) := by rw [etk171, upd_ne _ _ (Ne.symm nt12)]; exact v156
      have le175 : hs162.length ≤ 3 := Nat.le_trans lq169 le157
      have N176 := hF161 N161q
      refine Goes.by st161 ?_
      rcases h23 with rfl | rfl
      · refine Goes.by (B := T161.setTop (mkF m 274 (sh17 q0 q1 q2 p3 q0 u1 c2 u2 (0 : Int32) (1 : Int32) (2 : Int32) (1 : Int32) (2 : Int32) oD la lb lc (0 : Int32)) [])) (fun t k => ?_) ?_
        · refine XS.iload X161.here hx rfl (hb hby at_212) rfl ?_
          refine XS.iconst X161.here hx rfl (hb hby at_214) ?_
          refine XS.icmpYes X161.here hx rfl (pc0 := 215) (pc' := 234) rfl (hb hby at_215) rfl (tlt (by decide : (2 : Int32) < (3 : Int32))).1 (by decide) (by decide) ?_
          refine XS.iload X161.here hx rfl (hb hby at_234) rfl ?_
          refine XS.ifYes X161.here hx rfl (pc0 := 236) (pc' := 265) rfl (hb hby at_236) rfl ((if0 _ _).trans (teq (by decide : (0 : Int32) = (0 : Int32))).1) (by decide) (by decide) ?_
          refine XS.iconst X161.here hx rfl (hb hby at_265) ?_
          refine XS.istore X161.here hx rfl (hb hby at_266) rfl (l' := (sh17 q0 q1 q2 p3 q0 u1 c2 u2 (0 : Int32) (1 : Int32) (2 : Int32) (1 : Int32) (2 : Int32) oD la lb lc (0 : Int32))) rfl ?_
          refine XS.iload X161.here hx rfl (hb hby at_268) rfl ?_
          refine XS.iconst X161.here hx rfl (hb hby at_270) ?_
          refine XS.icmpNo X161.here hx rfl (hb hby at_271) rfl (feq (by decide : ¬ ((0 : Int32) = (1 : Int32)))).1 ?_
          exact k
        refine Goes.by (B := T161.setTop (mkF m 308 (sh18 q0 q1 q2 p3 q0 u1 c2 u2 (0 : Int32) (1 : Int32) (2 : Int32) (1 : Int32) (2 : Int32) oD la lb lc (0 : Int32) (0 : Int32)) [(.int (2 : Int32)), (.int (0 : Int32))])) (fun t k => ?_) ?_
        · refine XS.iload X161.here hx rfl (hb hby at_274) rfl ?_
          refine XS.iconst X161.here hx rfl (hb hby at_276) ?_
          refine XS.icmpNo X161.here hx rfl (hb hby at_277) rfl (flt (by decide : ¬ ((2 : Int32) < (2 : Int32)))).1 ?_
          refine XS.iload X161.here hx rfl (hb hby at_280) rfl ?_
          refine XS.iconst X161.here hx rfl (hb hby at_282) ?_
          refine XS.icmpYes X161.here hx rfl (pc0 := 283) (pc' := 302) rfl (hb hby at_283) rfl (teq (by decide : (1 : Int32) = (1 : Int32))).1 (by decide) (by decide) ?_
          refine XS.iconst X161.here hx rfl (hb hby at_302) ?_
          refine XS.istore X161.here hx rfl (hb hby at_303) rfl (l' := (sh18 q0 q1 q2 p3 q0 u1 c2 u2 (0 : Int32) (1 : Int32) (2 : Int32) (1 : Int32) (2 : Int32) oD la lb lc (0 : Int32) (0 : Int32))) rfl ?_
          refine XS.iload X161.here hx rfl (hb hby at_305) rfl ?_
          refine XS.iconst X161.here hx rfl (hb hby at_307) ?_
          exact k
        refine Goes.by (B := T161.setTop (mkF m 342 (sh10 q0 q1 q2 p3 q0 u1 c2 u2 (0 : Int32) (1 : Int32) (2 : Int32) (1 : Int32) (2 : Int32) oD la lb lc (0 : Int32) (0 : Int32) (1 : Int32)) [])) (fun t k => ?_) ?_
        · refine XS.icmpNo X161.here hx rfl (hb hby at_308) rfl (feq (by decide : ¬ ((0 : Int32) = (2 : Int32)))).1 ?_
          refine XS.iload X161.here hx rfl (hb hby at_311) rfl ?_
          refine XS.iconst X161.here hx rfl (hb hby at_313) ?_
          refine XS.icmpNo X161.here hx rfl (hb hby at_314) rfl (flt (by decide : ¬ ((2 : Int32) < (2 : Int32)))).1 ?_
          refine XS.iload X161.here hx rfl (hb hby at_317) rfl ?_
          refine XS.iconst X161.here hx rfl (hb hby at_319) ?_
          refine XS.icmpNo X161.here hx rfl (hb hby at_320) rfl (feq (by decide : ¬ ((1 : Int32) = (2 : Int32)))).1 ?_
          refine XS.iload X161.here hx rfl (hb hby at_323) rfl ?_
          refine XS.iconst X161.here hx rfl (hb hby at_325) ?_
          refine XS.icmpYes X161.here hx rfl (pc0 := 326) (pc' := 335) rfl (hb hby at_326) rfl (tlt (by decide : (2 : Int32) < (3 : Int32))).1 (by decide) (by decide) ?_
          refine XS.iconst X161.here hx rfl (hb hby at_335) ?_
          refine XS.goto X161.here hx rfl (pc0 := 336) (pc' := 340) rfl (hb hby at_336) (by decide) (by decide) ?_
          refine XS.istore X161.here hx rfl (hb hby at_340) rfl (l' := (sh10 q0 q1 q2 p3 q0 u1 c2 u2 (0 : Int32) (1 : Int32) (2 : Int32) (1 : Int32) (2 : Int32) oD la lb lc (0 : Int32) (0 : Int32) (1 : Int32))) rfl ?_
          exact k
        exact tail_001 l Z az hw ws q0 q1 q2 p3 h0 n0 u1 u2 c2 Bd hx hby hml hown hZ oD la lb lc ar kA _ _ _ _ _ _ _ _ _ _ _ _ X161 N176 Z170 R166 I167 v172 v173 v174 (Nat.le_trans le175 (by decide))
      · refine Goes.by (B := T161.setTop (mkF m 228 (sh16 q0 q1 q2 p3 q0 u1 c2 u2 (0 : Int32) (1 : Int32) (3 : Int32) (1 : Int32) (2 : Int32) oD la lb lc) [(.int (2 : Int32)), (.ref lc), (.ref lb), (.ref la), (.ref oD)])) (fun t k => ?_) ?_
        · refine XS.iload X161.here hx rfl (hb hby at_212) rfl ?_
          refine XS.iconst X161.here hx rfl (hb hby at_214) ?_
          refine XS.icmpNo X161.here hx rfl (hb hby at_215) rfl (flt (by decide : ¬ ((3 : Int32) < (3 : Int32)))).1 ?_
          refine XS.aload X161.here hx rfl (hb hby at_218) rfl rfl ?_
          refine XS.aload X161.here hx rfl (hb hby at_220) rfl rfl ?_
          refine XS.aload X161.here hx rfl (hb hby at_222) rfl rfl ?_
          refine XS.aload X161.here hx rfl (hb hby at_224) rfl rfl ?_
          refine XS.iload X161.here hx rfl (hb hby at_226) rfl ?_
          exact k
        obtain ⟨_, T177, L177, Lc177, X177, hF177, hQ177, st177⟩ := own_cs X161 hx hZ hown (wq hw 58 rfl) (wq hw 59 rfl) (wq hw 60 rfl) (wq hw 61 rfl) (rmPick2 l Z az hw [] la lb lc T161.heap n0 Z170 ) (W := 1) (g := (mkF m 228 (sh16 q0 q1 q2 p3 q0 u1 c2 u2 (0 : Int32) (1 : Int32) (3 : Int32) (1 : Int32) (2 : Int32) oD la lb lc) [(.int (2 : Int32)), (.ref lc), (.ref lb), (.ref la), (.ref oD)])) rfl (by rw [hml]; rfl) (argsL := [(.ref la), (.ref lb), (.ref lc), (.int (2 : Int32))]) (rest := [(.ref oD)]) rfl (lenOf own_pd9 rfl) rfl (hb hby at_228) rfl N176 (c' := 8) (s' := 21)
        obtain ⟨rfl, N177q, e177⟩ := hQ177
        have N178 := hF177 N177q
        refine Goes.by st177 ?_
        obtain ⟨_, T179, L179, Lc179, X179, hF179, hQ179, st179⟩ := own_cv X177 hx hZ hown (wq hw 62 rfl) (wq hw 63 rfl) (wq hw 65 rfl) (wq hw 64 rfl) (wq hw 2 rfl) (wq hw 66 rfl) (rmRemR l Z az hw [] oD lc u2 ar kA hs162 τ163 Nn164 Pp165 [la, lb, lc] tk171 T161.heap n0 Z170 R166 I167 (by simp) v174 (Nat.le_trans le175 (by decide))) (W := 0) (g := (mkF m 231 (sh16 q0 q1 q2 p3 q0 u1 c2 u2 (0 : Int32) (1 : Int32) (3 : Int32) (1 : Int32) (2 : Int32) oD la lb lc) [(.ref lc), (.ref oD)])) rfl (by rw [hml]; rfl) R166.1 (argsL := [(.ref lc)]) (rest := []) rfl (lenOf own_pd10 rfl) rfl (hb hby at_231) e177 N178 (c' := 8) (s' := 21)
        obtain ⟨hs180, τ181, Nn182, Pp183, rfl, N179q, zq186, R184, I185, lq187⟩ := hQ179
        have Z188 : n0 ≤ T179.heap.size := Nat.le_trans Z170 zq186
        obtain ⟨tk189, etk189⟩ : ∃ z, z = upd tk171 lc none := ⟨_, rfl⟩
        rw [← etk189] at I185
        have v190 : tk189 la = none := by rw [etk189, upd_ne _ _ nt02]; exact v172
        have v191 : tk189 lb = none := by rw [etk189, upd_ne _ _ nt12]; exact v173
        have v192 : tk189 lc = none := by rw [etk189]; exact upd_at _ _ _
        have le193 : hs180.length ≤ 3 := Nat.le_trans lq187 le175
        have N194 := hF179 N179q
        refine Goes.by st179 ?_
        refine Goes.by (B := T179.setTop (mkF m 280 (sh17 q0 q1 q2 p3 q0 u1 c2 u2 (0 : Int32) (1 : Int32) (3 : Int32) (1 : Int32) (2 : Int32) oD la lb lc (0 : Int32)) [])) (fun t k => ?_) ?_
        · refine XS.iload X179.here hx rfl (hb hby at_234) rfl ?_
          refine XS.ifYes X179.here hx rfl (pc0 := 236) (pc' := 265) rfl (hb hby at_236) rfl ((if0 _ _).trans (teq (by decide : (0 : Int32) = (0 : Int32))).1) (by decide) (by decide) ?_
          refine XS.iconst X179.here hx rfl (hb hby at_265) ?_
          refine XS.istore X179.here hx rfl (hb hby at_266) rfl (l' := (sh17 q0 q1 q2 p3 q0 u1 c2 u2 (0 : Int32) (1 : Int32) (3 : Int32) (1 : Int32) (2 : Int32) oD la lb lc (0 : Int32))) rfl ?_
          refine XS.iload X179.here hx rfl (hb hby at_268) rfl ?_
          refine XS.iconst X179.here hx rfl (hb hby at_270) ?_
          refine XS.icmpNo X179.here hx rfl (hb hby at_271) rfl (feq (by decide : ¬ ((0 : Int32) = (1 : Int32)))).1 ?_
          refine XS.iload X179.here hx rfl (hb hby at_274) rfl ?_
          refine XS.iconst X179.here hx rfl (hb hby at_276) ?_
          refine XS.icmpNo X179.here hx rfl (hb hby at_277) rfl (flt (by decide : ¬ ((3 : Int32) < (2 : Int32)))).1 ?_
          exact k
        refine Goes.by (B := T179.setTop (mkF m 314 (sh18 q0 q1 q2 p3 q0 u1 c2 u2 (0 : Int32) (1 : Int32) (3 : Int32) (1 : Int32) (2 : Int32) oD la lb lc (0 : Int32) (0 : Int32)) [(.int (2 : Int32)), (.int (3 : Int32))])) (fun t k => ?_) ?_
        · refine XS.iload X179.here hx rfl (hb hby at_280) rfl ?_
          refine XS.iconst X179.here hx rfl (hb hby at_282) ?_
          refine XS.icmpYes X179.here hx rfl (pc0 := 283) (pc' := 302) rfl (hb hby at_283) rfl (teq (by decide : (1 : Int32) = (1 : Int32))).1 (by decide) (by decide) ?_
          refine XS.iconst X179.here hx rfl (hb hby at_302) ?_
          refine XS.istore X179.here hx rfl (hb hby at_303) rfl (l' := (sh18 q0 q1 q2 p3 q0 u1 c2 u2 (0 : Int32) (1 : Int32) (3 : Int32) (1 : Int32) (2 : Int32) oD la lb lc (0 : Int32) (0 : Int32))) rfl ?_
          refine XS.iload X179.here hx rfl (hb hby at_305) rfl ?_
          refine XS.iconst X179.here hx rfl (hb hby at_307) ?_
          refine XS.icmpNo X179.here hx rfl (hb hby at_308) rfl (feq (by decide : ¬ ((0 : Int32) = (2 : Int32)))).1 ?_
          refine XS.iload X179.here hx rfl (hb hby at_311) rfl ?_
          refine XS.iconst X179.here hx rfl (hb hby at_313) ?_
          exact k
        refine Goes.by (B := T179.setTop (mkF m 342 (sh10 q0 q1 q2 p3 q0 u1 c2 u2 (0 : Int32) (1 : Int32) (3 : Int32) (1 : Int32) (2 : Int32) oD la lb lc (0 : Int32) (0 : Int32) (0 : Int32)) [])) (fun t k => ?_) ?_
        · refine XS.icmpNo X179.here hx rfl (hb hby at_314) rfl (flt (by decide : ¬ ((3 : Int32) < (2 : Int32)))).1 ?_
          refine XS.iload X179.here hx rfl (hb hby at_317) rfl ?_
          refine XS.iconst X179.here hx rfl (hb hby at_319) ?_
          refine XS.icmpNo X179.here hx rfl (hb hby at_320) rfl (feq (by decide : ¬ ((1 : Int32) = (2 : Int32)))).1 ?_
          refine XS.iload X179.here hx rfl (hb hby at_323) rfl ?_
          refine XS.iconst X179.here hx rfl (hb hby at_325) ?_
          refine XS.icmpNo X179.here hx rfl (hb hby at_326) rfl (flt (by decide : ¬ ((3 : Int32) < (3 : Int32)))).1 ?_
          refine XS.iload X179.here hx rfl (hb hby at_329) rfl ?_
          refine XS.iconst X179.here hx rfl (hb hby at_331) ?_
          refine XS.icmpYes X179.here hx rfl (pc0 := 332) (pc' := 339) rfl (hb hby at_332) rfl (teq (by decide : (2 : Int32) = (2 : Int32))).1 (by decide) (by decide) ?_
          refine XS.iconst X179.here hx rfl (hb hby at_339) ?_
          refine XS.istore X179.here hx rfl (hb hby at_340) rfl (l' := (sh10 q0 q1 q2 p3 q0 u1 c2 u2 (0 : Int32) (1 : Int32) (3 : Int32) (1 : Int32) (2 : Int32) oD la lb lc (0 : Int32) (0 : Int32) (0 : Int32))) rfl ?_
          exact k
        exact tail_000 l Z az hw ws q0 q1 q2 p3 h0 n0 u1 u2 c2 Bd hx hby hml hown hZ oD la lb lc ar kA _ _ _ _ _ _ _ _ _ _ _ _ X179 N194 Z188 R184 I185 v190 v191 v192 (Nat.le_trans le193 (by decide))
    · obtain rfl : s1 = (2 : Int32) := hs1.symm.trans (by decide)
      obtain rfl : s2 = (1 : Int32) := hs2.symm.trans (by decide)
      refine Goes.by (B := T143.setTop (mkF m 206 (sh16 q0 q1 q2 p3 q0 u1 c2 u2 (0 : Int32) (2 : Int32) nn (2 : Int32) (1 : Int32) oD la lb lc) [(.int (2 : Int32)), (.ref lc), (.ref lb), (.ref la), (.ref oD)])) (fun t k => ?_) ?_
      · refine XS.iload X143.here hx rfl (hb hby at_190) rfl ?_
        refine XS.iconst X143.here hx rfl (hb hby at_192) ?_
        refine XS.icmpNo X143.here hx rfl (hb hby at_193) rfl (flt hlt).1 ?_
        refine XS.aload X143.here hx rfl (hb hby at_196) rfl rfl ?_
        refine XS.aload X143.here hx rfl (hb hby at_198) rfl rfl ?_
        refine XS.aload X143.here hx rfl (hb hby at_200) rfl rfl ?_
        refine XS.aload X143.here hx rfl (hb hby at_202) rfl rfl ?_
        refine XS.iload X143.here hx rfl (hb hby at_204) rfl ?_
        exact k
      obtain ⟨_, T195, L195, Lc195, X195, hF195, hQ195, st195⟩ := own_cs X143 hx hZ hown (wq hw 58 rfl) (wq hw 59 rfl) (wq hw 60 rfl) (wq hw 61 rfl) (rmPick2 l Z az hw [] la lb lc T143.heap n0 Z152 ) (W := 1) (g := (mkF m 206 (sh16 q0 q1 q2 p3 q0 u1 c2 u2 (0 : Int32) (2 : Int32) nn (2 : Int32) (1 : Int32) oD la lb lc) [(.int (2 : Int32)), (.ref lc), (.ref lb), (.ref la), (.ref oD)])) rfl (by rw [hml]; rfl) (argsL := [(.ref la), (.ref lb), (.ref lc), (.int (2 : Int32))]) (rest := [(.ref oD)]) rfl (lenOf own_pd9 rfl) rfl (hb hby at_206) rfl N158 (c' := 8) (s' := 21)
      obtain ⟨rfl, N195q, e195⟩ := hQ195
      have N196 := hF195 N195q
      refine Goes.by st195 ?_
      obtain ⟨_, T197, L197, Lc197, X197, hF197, hQ197, st197⟩ := own_cv X195 hx hZ hown (wq hw 62 rfl) (wq hw 63 rfl) (wq hw 65 rfl) (wq hw 64 rfl) (wq hw 2 rfl) (wq hw 66 rfl) (rmRemR l Z az hw [] oD lc u2 ar kA hs144 τ145 Nn146 Pp147 [la, lb, lc] tk153 T143.heap n0 Z152 R148 I149 (by simp) v156 (Nat.le_trans le157 (by decide))) (W := 0) (g := (mkF m 209 (sh16 q0 q1 q2 p3 q0 u1 c2 u2 (0 : Int32) (2 : Int32) nn (2 : Int32) (1 : Int32) oD la lb lc) [(.ref lc), (.ref oD)])) rfl (by rw [hml]; rfl) R148.1 (argsL := [(.ref lc)]) (rest := []) rfl (lenOf own_pd10 rfl) rfl (hb hby at_209) e195 N196 (c' := 8) (s' := 21)
      obtain ⟨hs198, τ199, Nn200, Pp201, rfl, N197q, zq204, R202, I203, lq205⟩ := hQ197
      have Z206 : n0 ≤ T197.heap.size := Nat.le_trans Z152 zq204
      obtain ⟨tk207, etk207⟩ : ∃ z, z = upd tk153 lc none := ⟨_, rfl⟩
      rw [← etk207] at I203
      have v208 : tk207 la = none := by rw [etk207, upd_ne _ _ nt02]; exact v154
      have v209 : tk207 lb = (some u1) := by rw [etk207, upd_ne _ _ nt12]; exact v155
      have v210 : tk207 lc = none := by rw [etk207]; exact upd_at _ _ _
      have le211 : hs198.length ≤ 3 := Nat.le_trans lq205 le157
      have N212 := hF197 N197q
      refine Goes.by st197 ?_
      rcases h23 with rfl | rfl
      · refine Goes.by (B := T197.setTop (mkF m 274 (sh17 q0 q1 q2 p3 q0 u1 c2 u2 (0 : Int32) (2 : Int32) (2 : Int32) (2 : Int32) (1 : Int32) oD la lb lc (0 : Int32)) [])) (fun t k => ?_) ?_
        · refine XS.iload X197.here hx rfl (hb hby at_212) rfl ?_
          refine XS.iconst X197.here hx rfl (hb hby at_214) ?_
          refine XS.icmpYes X197.here hx rfl (pc0 := 215) (pc' := 234) rfl (hb hby at_215) rfl (tlt (by decide : (2 : Int32) < (3 : Int32))).1 (by decide) (by decide) ?_
          refine XS.iload X197.here hx rfl (hb hby at_234) rfl ?_
          refine XS.ifYes X197.here hx rfl (pc0 := 236) (pc' := 265) rfl (hb hby at_236) rfl ((if0 _ _).trans (teq (by decide : (0 : Int32) = (0 : Int32))).1) (by decide) (by decide) ?_
          refine XS.iconst X197.here hx rfl (hb hby at_265) ?_
          refine XS.istore X197.here hx rfl (hb hby at_266) rfl (l' := (sh17 q0 q1 q2 p3 q0 u1 c2 u2 (0 : Int32) (2 : Int32) (2 : Int32) (2 : Int32) (1 : Int32) oD la lb lc (0 : Int32))) rfl ?_
          refine XS.iload X197.here hx rfl (hb hby at_268) rfl ?_
          refine XS.iconst X197.here hx rfl (hb hby at_270) ?_
          refine XS.icmpNo X197.here hx rfl (hb hby at_271) rfl (feq (by decide : ¬ ((0 : Int32) = (1 : Int32)))).1 ?_
          exact k
        refine Goes.by (B := T197.setTop (mkF m 299 (sh17 q0 q1 q2 p3 q0 u1 c2 u2 (0 : Int32) (2 : Int32) (2 : Int32) (2 : Int32) (1 : Int32) oD la lb lc (0 : Int32)) [(.int (1 : Int32))])) (fun t k => ?_) ?_
        · refine XS.iload X197.here hx rfl (hb hby at_274) rfl ?_
          refine XS.iconst X197.here hx rfl (hb hby at_276) ?_
          refine XS.icmpNo X197.here hx rfl (hb hby at_277) rfl (flt (by decide : ¬ ((2 : Int32) < (2 : Int32)))).1 ?_
          refine XS.iload X197.here hx rfl (hb hby at_280) rfl ?_
          refine XS.iconst X197.here hx rfl (hb hby at_282) ?_
          refine XS.icmpNo X197.here hx rfl (hb hby at_283) rfl (feq (by decide : ¬ ((2 : Int32) = (1 : Int32)))).1 ?_
          refine XS.iload X197.here hx rfl (hb hby at_286) rfl ?_
          refine XS.iconst X197.here hx rfl (hb hby at_288) ?_
          refine XS.icmpYes X197.here hx rfl (pc0 := 289) (pc' := 298) rfl (hb hby at_289) rfl (tlt (by decide : (2 : Int32) < (3 : Int32))).1 (by decide) (by decide) ?_
          refine XS.iconst X197.here hx rfl (hb hby at_298) ?_
          exact k
        refine Goes.by (B := T197.setTop (mkF m 342 (sh10 q0 q1 q2 p3 q0 u1 c2 u2 (0 : Int32) (2 : Int32) (2 : Int32) (2 : Int32) (1 : Int32) oD la lb lc (0 : Int32) (1 : Int32) (0 : Int32)) [])) (fun t k => ?_) ?_
        · refine XS.goto X197.here hx rfl (pc0 := 299) (pc' := 303) rfl (hb hby at_299) (by decide) (by decide) ?_
          refine XS.istore X197.here hx rfl (hb hby at_303) rfl (l' := (sh18 q0 q1 q2 p3 q0 u1 c2 u2 (0 : Int32) (2 : Int32) (2 : Int32) (2 : Int32) (1 : Int32) oD la lb lc (0 : Int32) (1 : Int32))) rfl ?_
          refine XS.iload X197.here hx rfl (hb hby at_305) rfl ?_
          refine XS.iconst X197.here hx rfl (hb hby at_307) ?_
          refine XS.icmpNo X197.here hx rfl (hb hby at_308) rfl (feq (by decide : ¬ ((0 : Int32) = (2 : Int32)))).1 ?_
          refine XS.iload X197.here hx rfl (hb hby at_311) rfl ?_
          refine XS.iconst X197.here hx rfl (hb hby at_313) ?_
          refine XS.icmpNo X197.here hx rfl (hb hby at_314) rfl (flt (by decide : ¬ ((2 : Int32) < (2 : Int32)))).1 ?_
          refine XS.iload X197.here hx rfl (hb hby at_317) rfl ?_
          refine XS.iconst X197.here hx rfl (hb hby at_319) ?_
          refine XS.icmpYes X197.here hx rfl (pc0 := 320) (pc' := 339) rfl (hb hby at_320) rfl (teq (by decide : (2 : Int32) = (2 : Int32))).1 (by decide) (by decide) ?_
          refine XS.iconst X197.here hx rfl (hb hby at_339) ?_
          refine XS.istore X197.here hx rfl (hb hby at_340) rfl (l' := (sh10 q0 q1 q2 p3 q0 u1 c2 u2 (0 : Int32) (2 : Int32) (2 : Int32) (2 : Int32) (1 : Int32) oD la lb lc (0 : Int32) (1 : Int32) (0 : Int32))) rfl ?_
          exact k
        exact tail_010 l Z az hw ws q0 q1 q2 p3 h0 n0 u1 u2 c2 Bd hx hby hml hown hZ oD la lb lc ar kA _ _ _ _ _ _ _ _ _ _ _ _ X197 N212 Z206 R202 I203 v208 v209 v210 (Nat.le_trans le211 (by decide))
      · refine Goes.by (B := T197.setTop (mkF m 228 (sh16 q0 q1 q2 p3 q0 u1 c2 u2 (0 : Int32) (2 : Int32) (3 : Int32) (2 : Int32) (1 : Int32) oD la lb lc) [(.int (1 : Int32)), (.ref lc), (.ref lb), (.ref la), (.ref oD)])) (fun t k => ?_) ?_
        · refine XS.iload X197.here hx rfl (hb hby at_212) rfl ?_
          refine XS.iconst X197.here hx rfl (hb hby at_214) ?_
          refine XS.icmpNo X197.here hx rfl (hb hby at_215) rfl (flt (by decide : ¬ ((3 : Int32) < (3 : Int32)))).1 ?_
          refine XS.aload X197.here hx rfl (hb hby at_218) rfl rfl ?_
          refine XS.aload X197.here hx rfl (hb hby at_220) rfl rfl ?_
          refine XS.aload X197.here hx rfl (hb hby at_222) rfl rfl ?_
          refine XS.aload X197.here hx rfl (hb hby at_224) rfl rfl ?_
          refine XS.iload X197.here hx rfl (hb hby at_226) rfl ?_
          exact k
        obtain ⟨_, T213, L213, Lc213, X213, hF213, hQ213, st213⟩ := own_cs X197 hx hZ hown (wq hw 58 rfl) (wq hw 59 rfl) (wq hw 60 rfl) (wq hw 61 rfl) (rmPick1 l Z az hw [] la lb lc T197.heap n0 Z206 ) (W := 1) (g := (mkF m 228 (sh16 q0 q1 q2 p3 q0 u1 c2 u2 (0 : Int32) (2 : Int32) (3 : Int32) (2 : Int32) (1 : Int32) oD la lb lc) [(.int (1 : Int32)), (.ref lc), (.ref lb), (.ref la), (.ref oD)])) rfl (by rw [hml]; rfl) (argsL := [(.ref la), (.ref lb), (.ref lc), (.int (1 : Int32))]) (rest := [(.ref oD)]) rfl (lenOf own_pd9 rfl) rfl (hb hby at_228) rfl N212 (c' := 8) (s' := 21)
        obtain ⟨rfl, N213q, e213⟩ := hQ213
        have N214 := hF213 N213q
        refine Goes.by st213 ?_
        obtain ⟨_, T215, L215, Lc215, X215, hF215, hQ215, st215⟩ := own_cv X213 hx hZ hown (wq hw 62 rfl) (wq hw 63 rfl) (wq hw 65 rfl) (wq hw 64 rfl) (wq hw 2 rfl) (wq hw 66 rfl) (rmRemR l Z az hw [] oD lb u1 ar kA hs198 τ199 Nn200 Pp201 [la, lb, lc] tk207 T197.heap n0 Z206 R202 I203 (by simp) v209 (Nat.le_trans le211 (by decide))) (W := 0) (g := (mkF m 231 (sh16 q0 q1 q2 p3 q0 u1 c2 u2 (0 : Int32) (2 : Int32) (3 : Int32) (2 : Int32) (1 : Int32) oD la lb lc) [(.ref lb), (.ref oD)])) rfl (by rw [hml]; rfl) R202.1 (argsL := [(.ref lb)]) (rest := []) rfl (lenOf own_pd10 rfl) rfl (hb hby at_231) e213 N214 (c' := 8) (s' := 21)
        obtain ⟨hs216, τ217, Nn218, Pp219, rfl, N215q, zq222, R220, I221, lq223⟩ := hQ215
        have Z224 : n0 ≤ T215.heap.size := Nat.le_trans Z206 zq222
        obtain ⟨tk225, etk225⟩ : ∃ z, z = upd tk207 lb none := ⟨_, rfl⟩
        rw [← etk225] at I221
        have v226 : tk225 la = none := by rw [etk225, upd_ne _ _ nt01]; exact v208
        have v227 : tk225 lb = none := by rw [etk225]; exact upd_at _ _ _
        have v228 : tk225 lc = none := by rw [etk225, upd_ne _ _ (Ne.symm nt12)]; exact v210
        have le229 : hs216.length ≤ 3 := Nat.le_trans lq223 le211
        have N230 := hF215 N215q
        refine Goes.by st215 ?_
        refine Goes.by (B := T215.setTop (mkF m 280 (sh17 q0 q1 q2 p3 q0 u1 c2 u2 (0 : Int32) (2 : Int32) (3 : Int32) (2 : Int32) (1 : Int32) oD la lb lc (0 : Int32)) [])) (fun t k => ?_) ?_
        · refine XS.iload X215.here hx rfl (hb hby at_234) rfl ?_
          refine XS.ifYes X215.here hx rfl (pc0 := 236) (pc' := 265) rfl (hb hby at_236) rfl ((if0 _ _).trans (teq (by decide : (0 : Int32) = (0 : Int32))).1) (by decide) (by decide) ?_
          refine XS.iconst X215.here hx rfl (hb hby at_265) ?_
          refine XS.istore X215.here hx rfl (hb hby at_266) rfl (l' := (sh17 q0 q1 q2 p3 q0 u1 c2 u2 (0 : Int32) (2 : Int32) (3 : Int32) (2 : Int32) (1 : Int32) oD la lb lc (0 : Int32))) rfl ?_
          refine XS.iload X215.here hx rfl (hb hby at_268) rfl ?_
          refine XS.iconst X215.here hx rfl (hb hby at_270) ?_
          refine XS.icmpNo X215.here hx rfl (hb hby at_271) rfl (feq (by decide : ¬ ((0 : Int32) = (1 : Int32)))).1 ?_
          refine XS.iload X215.here hx rfl (hb hby at_274) rfl ?_
          refine XS.iconst X215.here hx rfl (hb hby at_276) ?_
          refine XS.icmpNo X215.here hx rfl (hb hby at_277) rfl (flt (by decide : ¬ ((3 : Int32) < (2 : Int32)))).1 ?_
          exact k
        refine Goes.by (B := T215.setTop (mkF m 303 (sh17 q0 q1 q2 p3 q0 u1 c2 u2 (0 : Int32) (2 : Int32) (3 : Int32) (2 : Int32) (1 : Int32) oD la lb lc (0 : Int32)) [(.int (0 : Int32))])) (fun t k => ?_) ?_
        · refine XS.iload X215.here hx rfl (hb hby at_280) rfl ?_
          refine XS.iconst X215.here hx rfl (hb hby at_282) ?_
          refine XS.icmpNo X215.here hx rfl (hb hby at_283) rfl (feq (by decide : ¬ ((2 : Int32) = (1 : Int32)))).1 ?_
          refine XS.iload X215.here hx rfl (hb hby at_286) rfl ?_
          refine XS.iconst X215.here hx rfl (hb hby at_288) ?_
          refine XS.icmpNo X215.here hx rfl (hb hby at_289) rfl (flt (by decide : ¬ ((3 : Int32) < (3 : Int32)))).1 ?_
          refine XS.iload X215.here hx rfl (hb hby at_292) rfl ?_
          refine XS.iconst X215.here hx rfl (hb hby at_294) ?_
          refine XS.icmpYes X215.here hx rfl (pc0 := 295) (pc' := 302) rfl (hb hby at_295) rfl (teq (by decide : (1 : Int32) = (1 : Int32))).1 (by decide) (by decide) ?_
          refine XS.iconst X215.here hx rfl (hb hby at_302) ?_
          exact k
        refine Goes.by (B := T215.setTop (mkF m 342 (sh10 q0 q1 q2 p3 q0 u1 c2 u2 (0 : Int32) (2 : Int32) (3 : Int32) (2 : Int32) (1 : Int32) oD la lb lc (0 : Int32) (0 : Int32) (0 : Int32)) [])) (fun t k => ?_) ?_
        · refine XS.istore X215.here hx rfl (hb hby at_303) rfl (l' := (sh18 q0 q1 q2 p3 q0 u1 c2 u2 (0 : Int32) (2 : Int32) (3 : Int32) (2 : Int32) (1 : Int32) oD la lb lc (0 : Int32) (0 : Int32))) rfl ?_
          refine XS.iload X215.here hx rfl (hb hby at_305) rfl ?_
          refine XS.iconst X215.here hx rfl (hb hby at_307) ?_
          refine XS.icmpNo X215.here hx rfl (hb hby at_308) rfl (feq (by decide : ¬ ((0 : Int32) = (2 : Int32)))).1 ?_
          refine XS.iload X215.here hx rfl (hb hby at_311) rfl ?_
          refine XS.iconst X215.here hx rfl (hb hby at_313) ?_
          refine XS.icmpNo X215.here hx rfl (hb hby at_314) rfl (flt (by decide : ¬ ((3 : Int32) < (2 : Int32)))).1 ?_
          refine XS.iload X215.here hx rfl (hb hby at_317) rfl ?_
          refine XS.iconst X215.here hx rfl (hb hby at_319) ?_
          refine XS.icmpYes X215.here hx rfl (pc0 := 320) (pc' := 339) rfl (hb hby at_320) rfl (teq (by decide : (2 : Int32) = (2 : Int32))).1 (by decide) (by decide) ?_
          refine XS.iconst X215.here hx rfl (hb hby at_339) ?_
          refine XS.istore X215.here hx rfl (hb hby at_340) rfl (l' := (sh10 q0 q1 q2 p3 q0 u1 c2 u2 (0 : Int32) (2 : Int32) (3 : Int32) (2 : Int32) (1 : Int32) oD la lb lc (0 : Int32) (0 : Int32) (0 : Int32))) rfl ?_
          exact k
        exact tail_000 l Z az hw ws q0 q1 q2 p3 h0 n0 u1 u2 c2 Bd hx hby hml hown hZ oD la lb lc ar kA _ _ _ _ _ _ _ _ _ _ _ _ X215 N230 Z224 R220 I221 v226 v227 v228 (Nat.le_trans le229 (by decide))
set_option maxRecDepth 65536 in
set_option maxHeartbeats 40000000 in
theorem road_1 (l : Launch) (Z : State) (az : Array Value) (hw : ∀ d ∈ tables_1, d.before az Z = true) (ws : List Jvm.Cond) (q0 q1 q2 : Int64) (p3 : Int32) (h0 : Heap) (n0 : Nat) (u1 u2 : Int64) (c2 : Int32) {p : Program} {e : Env} {s : State} {m : MethodId} {below : List Frame} {meth : Method} {c : Code} {s₁ : State} (Bd : BodyLoose p l x (head1 (Jvm.Cond.code x code maxLocals ret :: ws) room_1) code maxLocals ret e s m #[(.long q0), (.long q1), (.long q2), (.int p3)] below meth c s₁) (hx : p.tables.exec = Jvm.exec) (hby : c.code = code) (hml : c.maxLocals = 32) (hown : s.vm.findClass "com/example/admit_one/admitone/engine/DueOrderRemovePinLaw" = some m.cls) (hZ : Z.Warmed39 s.vm) (oD la lb lc ar : Addr) (kA : ClassId) (nn stp s1 s2 : Int32) (hn3 : nn = 1 ∨ nn = 2 ∨ nn = 3) (hst : stp = 1 ∨ stp = 2) (hs1 : (((1 : Int32) + stp) % (3 : Int32)) = s1) (hs2 : (((1 : Int32) + ((2 : Int32) * stp)) % (3 : Int32)) = s2) (nt01 : la ≠ lb) (nt02 : la ≠ lc) (nt12 : lb ≠ lc) : ∀ (T : State) (locs : List Loc) (hs : List Addr) (τ : Addr → Int64) (N P : Addr → Value) (tk : Addr → Option Int64), Stand p l e room_1 s m #[(.long q0), (.long q1), (.long q2), (.int p3)] below meth c T locs 8 21 → Fr n0 locs → n0 ≤ T.heap.size → Rep Z T.heap n0 oD ar kA hs τ N P [la, lb, lc] → Inv hs τ N P [la, lb, lc] tk → tk la = (some q0) → tk lb = (some u1) → tk lc = (some u2) → hs.length ≤ 3 → Goes p.tables e below (fun s₂ o => s₂.status = .running ∧ Ended s₂ below o ∧ ∃ v L, o = .returned v ∧ Q0 Z q0 q1 q2 p3 h0 n0 v s₂.heap L ∧ FrameEnd s o s₂ L 8 21) (T.setTop (mkF m 174 (sh16 q0 q1 q2 p3 q0 u1 c2 u2 (1 : Int32) stp nn s1 s2 oD la lb lc) [])) := by
  intro T locs hs τ N P tk XT NT ZT RT IT vt0 vt1 vt2 LT
  refine Goes.by (B := T.setTop (mkF m 184 (sh16 q0 q1 q2 p3 q0 u1 c2 u2 (1 : Int32) stp nn s1 s2 oD la lb lc) [(.int (1 : Int32)), (.ref lc), (.ref lb), (.ref la), (.ref oD)])) (fun t k => ?_) ?_
  · refine XS.aload XT.here hx rfl (hb hby at_174) rfl rfl ?_
    refine XS.aload XT.here hx rfl (hb hby at_176) rfl rfl ?_
    refine XS.aload XT.here hx rfl (hb hby at_178) rfl rfl ?_
    refine XS.aload XT.here hx rfl (hb hby at_180) rfl rfl ?_
    refine XS.iload XT.here hx rfl (hb hby at_182) rfl ?_
    exact k
  obtain ⟨_, T231, L231, Lc231, X231, hF231, hQ231, st231⟩ := own_cs XT hx hZ hown (wq hw 58 rfl) (wq hw 59 rfl) (wq hw 60 rfl) (wq hw 61 rfl) (rmPick1 l Z az hw [] la lb lc T.heap n0 ZT ) (W := 1) (g := (mkF m 184 (sh16 q0 q1 q2 p3 q0 u1 c2 u2 (1 : Int32) stp nn s1 s2 oD la lb lc) [(.int (1 : Int32)), (.ref lc), (.ref lb), (.ref la), (.ref oD)])) rfl (by rw [hml]; rfl) (argsL := [(.ref la), (.ref lb), (.ref lc), (.int (1 : Int32))]) (rest := [(.ref oD)]) rfl (lenOf own_pd9 rfl) rfl (hb hby at_184) rfl NT (c' := 8) (s' := 21)
  obtain ⟨rfl, N231q, e231⟩ := hQ231
  have N232 := hF231 N231q
  refine Goes.by st231 ?_
  obtain ⟨_, T233, L233, Lc233, X233, hF233, hQ233, st233⟩ := own_cv X231 hx hZ hown (wq hw 62 rfl) (wq hw 63 rfl) (wq hw 65 rfl) (wq hw 64 rfl) (wq hw 2 rfl) (wq hw 66 rfl) (rmRemR l Z az hw [] oD lb u1 ar kA hs τ N P [la, lb, lc] tk T.heap n0 ZT RT IT (by simp) vt1 (Nat.le_trans LT (by decide))) (W := 0) (g := (mkF m 187 (sh16 q0 q1 q2 p3 q0 u1 c2 u2 (1 : Int32) stp nn s1 s2 oD la lb lc) [(.ref lb), (.ref oD)])) rfl (by rw [hml]; rfl) RT.1 (argsL := [(.ref lb)]) (rest := []) rfl (lenOf own_pd10 rfl) rfl (hb hby at_187) e231 N232 (c' := 8) (s' := 21)
  obtain ⟨hs234, τ235, Nn236, Pp237, rfl, N233q, zq240, R238, I239, lq241⟩ := hQ233
  have Z242 : n0 ≤ T233.heap.size := Nat.le_trans ZT zq240
  obtain ⟨tk243, etk243⟩ : ∃ z, z = upd tk lb none := ⟨_, rfl⟩
  rw [← etk243] at I239
  have v244 : tk243 la = (some q0) := by rw [etk243, upd_ne _ _ nt01]; exact vt0
  have v245 : tk243 lb = none := by rw [etk243]; exact upd_at _ _ _
  have v246 : tk243 lc = (some u2) := by rw [etk243, upd_ne _ _ (Ne.symm nt12)]; exact vt2
  have le247 : hs234.length ≤ 3 := Nat.le_trans lq241 LT
  have N248 := hF233 N233q
  refine Goes.by st233 ?_
  rcases hn3 with rfl | h23
  · refine Goes.by (fun _ => XS.iload X233.here hx rfl (hb hby at_190) rfl) ?_
    refine Goes.by (fun _ => XS.iconst X233.here hx rfl (hb hby at_192)) ?_
    refine Goes.by (fun _ => XS.icmpYes X233.here hx rfl (pc0 := 193) (pc' := 212) rfl (hb hby at_193) rfl (tlt (by decide : (1 : Int32) < (2 : Int32))).1 (by decide) (by decide)) ?_
    refine Goes.by (B := T233.setTop (mkF m 253 (sh16 q0 q1 q2 p3 q0 u1 c2 u2 (1 : Int32) stp (1 : Int32) s1 s2 oD la lb lc) [(.int (3 : Int32)), (.int (1 : Int32))])) (fun t k => ?_) ?_
    · refine XS.iload X233.here hx rfl (hb hby at_212) rfl ?_
      refine XS.iconst X233.here hx rfl (hb hby at_214) ?_
      refine XS.icmpYes X233.here hx rfl (pc0 := 215) (pc' := 234) rfl (hb hby at_215) rfl (tlt (by decide : (1 : Int32) < (3 : Int32))).1 (by decide) (by decide) ?_
      refine XS.iload X233.here hx rfl (hb hby at_234) rfl ?_
      refine XS.ifNo X233.here hx rfl (hb hby at_236) rfl ((if0 _ _).trans (feq (by decide : ¬ ((1 : Int32) = (0 : Int32)))).1) ?_
      refine XS.iload X233.here hx rfl (hb hby at_239) rfl ?_
      refine XS.iconst X233.here hx rfl (hb hby at_241) ?_
      refine XS.icmpYes X233.here hx rfl (pc0 := 242) (pc' := 250) rfl (hb hby at_242) rfl (tlt (by decide : (1 : Int32) < (2 : Int32))).1 (by decide) (by decide) ?_
      refine XS.iload X233.here hx rfl (hb hby at_250) rfl ?_
      refine XS.iconst X233.here hx rfl (hb hby at_252) ?_
      exact k
    refine Goes.by (B := T233.setTop (mkF m 307 (sh18 q0 q1 q2 p3 q0 u1 c2 u2 (1 : Int32) stp (1 : Int32) s1 s2 oD la lb lc (1 : Int32) (0 : Int32)) [(.int (1 : Int32))])) (fun t k => ?_) ?_
    · refine XS.icmpYes X233.here hx rfl (pc0 := 253) (pc' := 261) rfl (hb hby at_253) rfl (tlt (by decide : (1 : Int32) < (3 : Int32))).1 (by decide) (by decide) ?_
      refine XS.iconst X233.here hx rfl (hb hby at_261) ?_
      refine XS.goto X233.here hx rfl (pc0 := 262) (pc' := 266) rfl (hb hby at_262) (by decide) (by decide) ?_
      refine XS.istore X233.here hx rfl (hb hby at_266) rfl (l' := (sh17 q0 q1 q2 p3 q0 u1 c2 u2 (1 : Int32) stp (1 : Int32) s1 s2 oD la lb lc (1 : Int32))) rfl ?_
      refine XS.iload X233.here hx rfl (hb hby at_268) rfl ?_
      refine XS.iconst X233.here hx rfl (hb hby at_270) ?_
      refine XS.icmpYes X233.here hx rfl (pc0 := 271) (pc' := 302) rfl (hb hby at_271) rfl (teq (by decide : (1 : Int32) = (1 : Int32))).1 (by decide) (by decide) ?_
      refine XS.iconst X233.here hx rfl (hb hby at_302) ?_
      refine XS.istore X233.here hx rfl (hb hby at_303) rfl (l' := (sh18 q0 q1 q2 p3 q0 u1 c2 u2 (1 : Int32) stp (1 : Int32) s1 s2 oD la lb lc (1 : Int32) (0 : Int32))) rfl ?_
      refine XS.iload X233.here hx rfl (hb hby at_305) rfl ?_
      exact k
    refine Goes.by (B := T233.setTop (mkF m 342 (sh10 q0 q1 q2 p3 q0 u1 c2 u2 (1 : Int32) stp (1 : Int32) s1 s2 oD la lb lc (1 : Int32) (0 : Int32) (1 : Int32)) [])) (fun t k => ?_) ?_
    · refine XS.iconst X233.here hx rfl (hb hby at_307) ?_
      refine XS.icmpNo X233.here hx rfl (hb hby at_308) rfl (feq (by decide : ¬ ((1 : Int32) = (2 : Int32)))).1 ?_
      refine XS.iload X233.here hx rfl (hb hby at_311) rfl ?_
      refine XS.iconst X233.here hx rfl (hb hby at_313) ?_
      refine XS.icmpYes X233.here hx rfl (pc0 := 314) (pc' := 323) rfl (hb hby at_314) rfl (tlt (by decide : (1 : Int32) < (2 : Int32))).1 (by decide) (by decide) ?_
      refine XS.iload X233.here hx rfl (hb hby at_323) rfl ?_
      refine XS.iconst X233.here hx rfl (hb hby at_325) ?_
      refine XS.icmpYes X233.here hx rfl (pc0 := 326) (pc' := 335) rfl (hb hby at_326) rfl (tlt (by decide : (1 : Int32) < (3 : Int32))).1 (by decide) (by decide) ?_
      refine XS.iconst X233.here hx rfl (hb hby at_335) ?_
      refine XS.goto X233.here hx rfl (pc0 := 336) (pc' := 340) rfl (hb hby at_336) (by decide) (by decide) ?_
      refine XS.istore X233.here hx rfl (hb hby at_340) rfl (l' := (sh10 q0 q1 q2 p3 q0 u1 c2 u2 (1 : Int32) stp (1 : Int32) s1 s2 oD la lb lc (1 : Int32) (0 : Int32) (1 : Int32))) rfl ?_
      exact k
    exact tail_101 l Z az hw ws q0 q1 q2 p3 h0 n0 u1 u2 c2 Bd hx hby hml hown hZ oD la lb lc ar kA _ _ _ _ _ _ _ _ _ _ _ _ X233 N248 Z242 R238 I239 v244 v245 v246 (Nat.le_trans le247 (by decide))
  · have hlt : ¬ (nn < (2 : Int32)) := by rcases h23 with rfl | rfl <;> decide
    rcases hst with rfl | rfl
    · obtain rfl : s1 = (2 : Int32) := hs1.symm.trans (by decide)
      obtain rfl : s2 = (0 : Int32) := hs2.symm.trans (by decide)
      refine Goes.by (B := T233.setTop (mkF m 206 (sh16 q0 q1 q2 p3 q0 u1 c2 u2 (1 : Int32) (1 : Int32) nn (2 : Int32) (0 : Int32) oD la lb lc) [(.int (2 : Int32)), (.ref lc), (.ref lb), (.ref la), (.ref oD)])) (fun t k => ?_) ?_
      · refine XS.iload X233.here hx rfl (hb hby at_190) rfl ?_
        refine XS.iconst X233.here hx rfl (hb hby at_192) ?_
        refine XS.icmpNo X233.here hx rfl (hb hby at_193) rfl (flt hlt).1 ?_
        refine XS.aload X233.here hx rfl (hb hby at_196) rfl rfl ?_
        refine XS.aload X233.here hx rfl (hb hby at_198) rfl rfl ?_
        refine XS.aload X233.here hx rfl (hb hby at_200) rfl rfl ?_
        refine XS.aload X233.here hx rfl (hb hby at_202) rfl rfl ?_
        refine XS.iload X233.here hx rfl (hb hby at_204) rfl ?_
        exact k
      obtain ⟨_, T249, L249, Lc249, X249, hF249, hQ249, st249⟩ := own_cs X233 hx hZ hown (wq hw 58 rfl) (wq hw 59 rfl) (wq hw 60 rfl) (wq hw 61 rfl) (rmPick2 l Z az hw [] la lb lc T233.heap n0 Z242 ) (W := 1) (g := (mkF m 206 (sh16 q0 q1 q2 p3 q0 u1 c2 u2 (1 : Int32) (1 : Int32) nn (2 : Int32) (0 : Int32) oD la lb lc) [(.int (2 : Int32)), (.ref lc), (.ref lb), (.ref la), (.ref oD)])) rfl (by rw [hml]; rfl) (argsL := [(.ref la), (.ref lb), (.ref lc), (.int (2 : Int32))]) (rest := [(.ref oD)]) rfl (lenOf own_pd9 rfl) rfl (hb hby at_206) rfl N248 (c' := 8) (s' := 21)
      obtain ⟨rfl, N249q, e249⟩ := hQ249
      have N250 := hF249 N249q
      refine Goes.by st249 ?_
      obtain ⟨_, T251, L251, Lc251, X251, hF251, hQ251, st251⟩ := own_cv X249 hx hZ hown (wq hw 62 rfl) (wq hw 63 rfl) (wq hw 65 rfl) (wq hw 64 rfl) (wq hw 2 rfl) (wq hw 66 rfl) (rmRemR l Z az hw [] oD lc u2 ar kA hs234 τ235 Nn236 Pp237 [la, lb, lc] tk243 T233.heap n0 Z242 R238 I239 (by simp) v246 (Nat.le_trans le247 (by decide))) (W := 0) (g := (mkF m 209 (sh16 q0 q1 q2 p3 q0 u1 c2 u2 (1 : Int32) (1 : Int32) nn (2 : Int32) (0 : Int32) oD la lb lc) [(.ref lc), (.ref oD)])) rfl (by rw [hml]; rfl) R238.1 (argsL := [(.ref lc)]) (rest := []) rfl (lenOf own_pd10 rfl) rfl (hb hby at_209) e249 N250 (c' := 8) (s' := 21)
      obtain ⟨hs252, τ253, Nn254, Pp255, rfl, N251q, zq258, R256, I257, lq259⟩ := hQ251
      have Z260 : n0 ≤ T251.heap.size := Nat.le_trans Z242 zq258
      obtain ⟨tk261, etk261⟩ : ∃ z, z = upd tk243 lc none := ⟨_, rfl⟩
      rw [← etk261] at I257
      have v262 : tk261 la = (some q0) := by rw [etk261, upd_ne _ _ nt02]; exact v244
      have v263 : tk261 lb = none := by rw [etk261, upd_ne _ _ nt12]; exact v245
      have v264 : tk261 lc = none := by rw [etk261]; exact upd_at _ _ _
      have le265 : hs252.length ≤ 3 := Nat.le_trans lq259 le247
      have N266 := hF251 N251q
      refine Goes.by st251 ?_
      rcases h23 with rfl | rfl
      · refine Goes.by (B := T251.setTop (mkF m 250 (sh16 q0 q1 q2 p3 q0 u1 c2 u2 (1 : Int32) (1 : Int32) (2 : Int32) (2 : Int32) (0 : Int32) oD la lb lc) [])) (fun t k => ?_) ?_
        · refine XS.iload X251.here hx rfl (hb hby at_212) rfl ?_
          refine XS.iconst X251.here hx rfl (hb hby at_214) ?_
          refine XS.icmpYes X251.here hx rfl (pc0 := 215) (pc' := 234) rfl (hb hby at_215) rfl (tlt (by decide : (2 : Int32) < (3 : Int32))).1 (by decide) (by decide) ?_
          refine XS.iload X251.here hx rfl (hb hby at_234) rfl ?_
          refine XS.ifNo X251.here hx rfl (hb hby at_236) rfl ((if0 _ _).trans (feq (by decide : ¬ ((1 : Int32) = (0 : Int32)))).1) ?_
          refine XS.iload X251.here hx rfl (hb hby at_239) rfl ?_
          refine XS.iconst X251.here hx rfl (hb hby at_241) ?_
          refine XS.icmpNo X251.here hx rfl (hb hby at_242) rfl (flt (by decide : ¬ ((2 : Int32) < (2 : Int32)))).1 ?_
          refine XS.iload X251.here hx rfl (hb hby at_245) rfl ?_
          refine XS.ifNo X251.here hx rfl (hb hby at_247) rfl ((if0 _ _).trans (feq (by decide : ¬ ((2 : Int32) = (0 : Int32)))).1) ?_
          exact k
        refine Goes.by (B := T251.setTop (mkF m 303 (sh17 q0 q1 q2 p3 q0 u1 c2 u2 (1 : Int32) (1 : Int32) (2 : Int32) (2 : Int32) (0 : Int32) oD la lb lc (1 : Int32)) [(.int (0 : Int32))])) (fun t k => ?_) ?_
        · refine XS.iload X251.here hx rfl (hb hby at_250) rfl ?_
          refine XS.iconst X251.here hx rfl (hb hby at_252) ?_
          refine XS.icmpYes X251.here hx rfl (pc0 := 253) (pc' := 261) rfl (hb hby at_253) rfl (tlt (by decide : (2 : Int32) < (3 : Int32))).1 (by decide) (by decide) ?_
          refine XS.iconst X251.here hx rfl (hb hby at_261) ?_
          refine XS.goto X251.here hx rfl (pc0 := 262) (pc' := 266) rfl (hb hby at_262) (by decide) (by decide) ?_
          refine XS.istore X251.here hx rfl (hb hby at_266) rfl (l' := (sh17 q0 q1 q2 p3 q0 u1 c2 u2 (1 : Int32) (1 : Int32) (2 : Int32) (2 : Int32) (0 : Int32) oD la lb lc (1 : Int32))) rfl ?_
          refine XS.iload X251.here hx rfl (hb hby at_268) rfl ?_
          refine XS.iconst X251.here hx rfl (hb hby at_270) ?_
          refine XS.icmpYes X251.here hx rfl (pc0 := 271) (pc' := 302) rfl (hb hby at_271) rfl (teq (by decide : (1 : Int32) = (1 : Int32))).1 (by decide) (by decide) ?_
          refine XS.iconst X251.here hx rfl (hb hby at_302) ?_
          exact k
        refine Goes.by (B := T251.setTop (mkF m 342 (sh10 q0 q1 q2 p3 q0 u1 c2 u2 (1 : Int32) (1 : Int32) (2 : Int32) (2 : Int32) (0 : Int32) oD la lb lc (1 : Int32) (0 : Int32) (0 : Int32)) [])) (fun t k => ?_) ?_
        · refine XS.istore X251.here hx rfl (hb hby at_303) rfl (l' := (sh18 q0 q1 q2 p3 q0 u1 c2 u2 (1 : Int32) (1 : Int32) (2 : Int32) (2 : Int32) (0 : Int32) oD la lb lc (1 : Int32) (0 : Int32))) rfl ?_
          refine XS.iload X251.here hx rfl (hb hby at_305) rfl ?_
          refine XS.iconst X251.here hx rfl (hb hby at_307) ?_
          refine XS.icmpNo X251.here hx rfl (hb hby at_308) rfl (feq (by decide : ¬ ((1 : Int32) = (2 : Int32)))).1 ?_
          refine XS.iload X251.here hx rfl (hb hby at_311) rfl ?_
          refine XS.iconst X251.here hx rfl (hb hby at_313) ?_
          refine XS.icmpNo X251.here hx rfl (hb hby at_314) rfl (flt (by decide : ¬ ((2 : Int32) < (2 : Int32)))).1 ?_
          refine XS.iload X251.here hx rfl (hb hby at_317) rfl ?_
          refine XS.iconst X251.here hx rfl (hb hby at_319) ?_
          refine XS.icmpYes X251.here hx rfl (pc0 := 320) (pc' := 339) rfl (hb hby at_320) rfl (teq (by decide : (2 : Int32) = (2 : Int32))).1 (by decide) (by decide) ?_
          refine XS.iconst X251.here hx rfl (hb hby at_339) ?_
          refine XS.istore X251.here hx rfl (hb hby at_340) rfl (l' := (sh10 q0 q1 q2 p3 q0 u1 c2 u2 (1 : Int32) (1 : Int32) (2 : Int32) (2 : Int32) (0 : Int32) oD la lb lc (1 : Int32) (0 : Int32) (0 : Int32))) rfl ?_
          exact k
        exact tail_100 l Z az hw ws q0 q1 q2 p3 h0 n0 u1 u2 c2 Bd hx hby hml hown hZ oD la lb lc ar kA _ _ _ _ _ _ _ _ _ _ _ _ X251 N266 Z260 R256 I257 v262 v263 v264 (Nat.le_trans le265 (by decide))
      · refine Goes.by (B := T251.setTop (mkF m 228 (sh16 q0 q1 q2 p3 q0 u1 c2 u2 (1 : Int32) (1 : Int32) (3 : Int32) (2 : Int32) (0 : Int32) oD la lb lc) [(.int (0 : Int32)), (.ref lc), (.ref lb), (.ref la), (.ref oD)])) (fun t k => ?_) ?_
        · refine XS.iload X251.here hx rfl (hb hby at_212) rfl ?_
          refine XS.iconst X251.here hx rfl (hb hby at_214) ?_
          refine XS.icmpNo X251.here hx rfl (hb hby at_215) rfl (flt (by decide : ¬ ((3 : Int32) < (3 : Int32)))).1 ?_
          refine XS.aload X251.here hx rfl (hb hby at_218) rfl rfl ?_
          refine XS.aload X251.here hx rfl (hb hby at_220) rfl rfl ?_
          refine XS.aload X251.here hx rfl (hb hby at_222) rfl rfl ?_
          refine XS.aload X251.here hx rfl (hb hby at_224) rfl rfl ?_
          refine XS.iload X251.here hx rfl (hb hby at_226) rfl ?_
          exact k
        obtain ⟨_, T267, L267, Lc267, X267, hF267, hQ267, st267⟩ := own_cs X251 hx hZ hown (wq hw 58 rfl) (wq hw 59 rfl) (wq hw 60 rfl) (wq hw 61 rfl) (rmPick0 l Z az hw [] la lb lc T251.heap n0 Z260 ) (W := 1) (g := (mkF m 228 (sh16 q0 q1 q2 p3 q0 u1 c2 u2 (1 : Int32) (1 : Int32) (3 : Int32) (2 : Int32) (0 : Int32) oD la lb lc) [(.int (0 : Int32)), (.ref lc), (.ref lb), (.ref la), (.ref oD)])) rfl (by rw [hml]; rfl) (argsL := [(.ref la), (.ref lb), (.ref lc), (.int (0 : Int32))]) (rest := [(.ref oD)]) rfl (lenOf own_pd9 rfl) rfl (hb hby at_228) rfl N266 (c' := 8) (s' := 21)
        obtain ⟨rfl, N267q, e267⟩ := hQ267
        have N268 := hF267 N267q
        refine Goes.by st267 ?_
        obtain ⟨_, T269, L269, Lc269, X269, hF269, hQ269, st269⟩ := own_cv X267 hx hZ hown (wq hw 62 rfl) (wq hw 63 rfl) (wq hw 65 rfl) (wq hw 64 rfl) (wq hw 2 rfl) (wq hw 66 rfl) (rmRemR l Z az hw [] oD la q0 ar kA hs252 τ253 Nn254 Pp255 [la, lb, lc] tk261 T251.heap n0 Z260 R256 I257 (by simp) v262 (Nat.le_trans le265 (by decide))) (W := 0) (g := (mkF m 231 (sh16 q0 q1 q2 p3 q0 u1 c2 u2 (1 : Int32) (1 : Int32) (3 : Int32) (2 : Int32) (0 : Int32) oD la lb lc) [(.ref la), (.ref oD)])) rfl (by rw [hml]; rfl) R256.1 (argsL := [(.ref la)]) (rest := []) rfl (lenOf own_pd10 rfl) rfl (hb hby at_231) e267 N268 (c' := 8) (s' := 21)
        obtain ⟨hs270, τ271, Nn272, Pp273, rfl, N269q, zq276, R274, I275, lq277⟩ := hQ269
        have Z278 : n0 ≤ T269.heap.size := Nat.le_trans Z260 zq276
        obtain ⟨tk279, etk279⟩ : ∃ z, z = upd tk261 la none := ⟨_, rfl⟩
        rw [← etk279] at I275
        have v280 : tk279 la = none := by rw [etk279]; exact upd_at _ _ _
        have v281 : tk279 lb = none := by rw [etk279, upd_ne _ _ (Ne.symm nt01)]; exact v263
        have v282 : tk279 lc = none := by rw [etk279, upd_ne _ _ (Ne.symm nt02)]; exact v264
        have le283 : hs270.length ≤ 3 := Nat.le_trans lq277 le265
        have N284 := hF269 N269q
        refine Goes.by st269 ?_
        refine Goes.by (B := T269.setTop (mkF m 256 (sh16 q0 q1 q2 p3 q0 u1 c2 u2 (1 : Int32) (1 : Int32) (3 : Int32) (2 : Int32) (0 : Int32) oD la lb lc) [])) (fun t k => ?_) ?_
        · refine XS.iload X269.here hx rfl (hb hby at_234) rfl ?_
          refine XS.ifNo X269.here hx rfl (hb hby at_236) rfl ((if0 _ _).trans (feq (by decide : ¬ ((1 : Int32) = (0 : Int32)))).1) ?_
          refine XS.iload X269.here hx rfl (hb hby at_239) rfl ?_
          refine XS.iconst X269.here hx rfl (hb hby at_241) ?_
          refine XS.icmpNo X269.here hx rfl (hb hby at_242) rfl (flt (by decide : ¬ ((3 : Int32) < (2 : Int32)))).1 ?_
          refine XS.iload X269.here hx rfl (hb hby at_245) rfl ?_
          refine XS.ifNo X269.here hx rfl (hb hby at_247) rfl ((if0 _ _).trans (feq (by decide : ¬ ((2 : Int32) = (0 : Int32)))).1) ?_
          refine XS.iload X269.here hx rfl (hb hby at_250) rfl ?_
          refine XS.iconst X269.here hx rfl (hb hby at_252) ?_
          refine XS.icmpNo X269.here hx rfl (hb hby at_253) rfl (flt (by decide : ¬ ((3 : Int32) < (3 : Int32)))).1 ?_
          exact k
        refine Goes.by (B := T269.setTop (mkF m 307 (sh18 q0 q1 q2 p3 q0 u1 c2 u2 (1 : Int32) (1 : Int32) (3 : Int32) (2 : Int32) (0 : Int32) oD la lb lc (0 : Int32) (0 : Int32)) [(.int (1 : Int32))])) (fun t k => ?_) ?_
        · refine XS.iload X269.here hx rfl (hb hby at_256) rfl ?_
          refine XS.ifYes X269.here hx rfl (pc0 := 258) (pc' := 265) rfl (hb hby at_258) rfl ((if0 _ _).trans (teq (by decide : (0 : Int32) = (0 : Int32))).1) (by decide) (by decide) ?_
          refine XS.iconst X269.here hx rfl (hb hby at_265) ?_
          refine XS.istore X269.here hx rfl (hb hby at_266) rfl (l' := (sh17 q0 q1 q2 p3 q0 u1 c2 u2 (1 : Int32) (1 : Int32) (3 : Int32) (2 : Int32) (0 : Int32) oD la lb lc (0 : Int32))) rfl ?_
          refine XS.iload X269.here hx rfl (hb hby at_268) rfl ?_
          refine XS.iconst X269.here hx rfl (hb hby at_270) ?_
          refine XS.icmpYes X269.here hx rfl (pc0 := 271) (pc' := 302) rfl (hb hby at_271) rfl (teq (by decide : (1 : Int32) = (1 : Int32))).1 (by decide) (by decide) ?_
          refine XS.iconst X269.here hx rfl (hb hby at_302) ?_
          refine XS.istore X269.here hx rfl (hb hby at_303) rfl (l' := (sh18 q0 q1 q2 p3 q0 u1 c2 u2 (1 : Int32) (1 : Int32) (3 : Int32) (2 : Int32) (0 : Int32) oD la lb lc (0 : Int32) (0 : Int32))) rfl ?_
          refine XS.iload X269.here hx rfl (hb hby at_305) rfl ?_
          exact k
        refine Goes.by (B := T269.setTop (mkF m 342 (sh10 q0 q1 q2 p3 q0 u1 c2 u2 (1 : Int32) (1 : Int32) (3 : Int32) (2 : Int32) (0 : Int32) oD la lb lc (0 : Int32) (0 : Int32) (0 : Int32)) [])) (fun t k => ?_) ?_
        · refine XS.iconst X269.here hx rfl (hb hby at_307) ?_
          refine XS.icmpNo X269.here hx rfl (hb hby at_308) rfl (feq (by decide : ¬ ((1 : Int32) = (2 : Int32)))).1 ?_
          refine XS.iload X269.here hx rfl (hb hby at_311) rfl ?_
          refine XS.iconst X269.here hx rfl (hb hby at_313) ?_
          refine XS.icmpNo X269.here hx rfl (hb hby at_314) rfl (flt (by decide : ¬ ((3 : Int32) < (2 : Int32)))).1 ?_
          refine XS.iload X269.here hx rfl (hb hby at_317) rfl ?_
          refine XS.iconst X269.here hx rfl (hb hby at_319) ?_
          refine XS.icmpYes X269.here hx rfl (pc0 := 320) (pc' := 339) rfl (hb hby at_320) rfl (teq (by decide : (2 : Int32) = (2 : Int32))).1 (by decide) (by decide) ?_
          refine XS.iconst X269.here hx rfl (hb hby at_339) ?_
          refine XS.istore X269.here hx rfl (hb hby at_340) rfl (l' := (sh10 q0 q1 q2 p3 q0 u1 c2 u2 (1 : Int32) (1 : Int32) (3 : Int32) (2 : Int32) (0 : Int32) oD la lb lc (0 : Int32) (0 : Int32) (0 : Int32))) rfl ?_
          exact k
        exact tail_000 l Z az hw ws q0 q1 q2 p3 h0 n0 u1 u2 c2 Bd hx hby hml hown hZ oD la lb lc ar kA _ _ _ _ _ _ _ _ _ _ _ _ X269 N284 Z278 R274 I275 v280 v281 v282 (Nat.le_trans le283 (by decide))
    · obtain rfl : s1 = (0 : Int32) := hs1.symm.trans (by decide)
      obtain rfl : s2 = (2 : Int32) := hs2.symm.trans (by decide)
      refine Goes.by (B := T233.setTop (mkF m 206 (sh16 q0 q1 q2 p3 q0 u1 c2 u2 (1 : Int32) (2 : Int32) nn (0 : Int32) (2 : Int32) oD la lb lc) [(.int (0 : Int32)), (.ref lc), (.ref lb), (.ref la), (.ref oD)])) (fun t k => ?_) ?_
      · refine XS.iload X233.here hx rfl (hb hby at_190) rfl ?_
        refine XS.iconst X233.here hx rfl (hb hby at_192) ?_
        refine XS.icmpNo X233.here hx rfl (hb hby at_193) rfl (flt hlt).1 ?_
        refine XS.aload X233.here hx rfl (hb hby at_196) rfl rfl ?_
        refine XS.aload X233.here hx rfl (hb hby at_198) rfl rfl ?_
        refine XS.aload X233.here hx rfl (hb hby at_200) rfl rfl ?_
        refine XS.aload X233.here hx rfl (hb hby at_202) rfl rfl ?_
        refine XS.iload X233.here hx rfl (hb hby at_204) rfl ?_
        exact k
      obtain ⟨_, T285, L285, Lc285, X285, hF285, hQ285, st285⟩ := own_cs X233 hx hZ hown (wq hw 58 rfl) (wq hw 59 rfl) (wq hw 60 rfl) (wq hw 61 rfl) (rmPick0 l Z az hw [] la lb lc T233.heap n0 Z242 ) (W := 1) (g := (mkF m 206 (sh16 q0 q1 q2 p3 q0 u1 c2 u2 (1 : Int32) (2 : Int32) nn (0 : Int32) (2 : Int32) oD la lb lc) [(.int (0 : Int32)), (.ref lc), (.ref lb), (.ref la), (.ref oD)])) rfl (by rw [hml]; rfl) (argsL := [(.ref la), (.ref lb), (.ref lc), (.int (0 : Int32))]) (rest := [(.ref oD)]) rfl (lenOf own_pd9 rfl) rfl (hb hby at_206) rfl N248 (c' := 8) (s' := 21)
      obtain ⟨rfl, N285q, e285⟩ := hQ285
      have N286 := hF285 N285q
      refine Goes.by st285 ?_
      obtain ⟨_, T287, L287, Lc287, X287, hF287, hQ287, st287⟩ := own_cv X285 hx hZ hown (wq hw 62 rfl) (wq hw 63 rfl) (wq hw 65 rfl) (wq hw 64 rfl) (wq hw 2 rfl) (wq hw 66 rfl) (rmRemR l Z az hw [] oD la q0 ar kA hs234 τ235 Nn236 Pp237 [la, lb, lc] tk243 T233.heap n0 Z242 R238 I239 (by simp) v244 (Nat.le_trans le247 (by decide))) (W := 0) (g := (mkF m 209 (sh16 q0 q1 q2 p3 q0 u1 c2 u2 (1 : Int32) (2 : Int32) nn (0 : Int32) (2 : Int32) oD la lb lc) [(.ref la), (.ref oD)])) rfl (by rw [hml]; rfl) R238.1 (argsL := [(.ref la)]) (rest := []) rfl (lenOf own_pd10 rfl) rfl (hb hby at_209) e285 N286 (c' := 8) (s' := 21)
      obtain ⟨hs288, τ289, Nn290, Pp291, rfl, N287q, zq294, R292, I293, lq295⟩ := hQ287
      have Z296 : n0 ≤ T287.heap.size := Nat.le_trans Z242 zq294
      obtain ⟨tk297, etk297⟩ : ∃ z, z = upd tk243 la none := ⟨_, rfl⟩
      rw [← etk297] at I293
      have v298 : tk297 la = none := by rw [etk297]; exact upd_at _ _ _
      have v299 : tk297 lb = none := by rw [etk297, upd_ne _ _ (Ne.symm nt01)]; exact v245
      have v300 : tk297 lc = (some u2) := by rw [etk297, upd_ne _ _ (Ne.symm nt02)]; exact v246
      have le301 : hs288.length ≤ 3 := Nat.le_trans lq295 le247
      have N302 := hF287 N287q
      refine Goes.by st287 ?_
      rcases h23 with rfl | rfl
      · refine Goes.by (B := T287.setTop (mkF m 265 (sh16 q0 q1 q2 p3 q0 u1 c2 u2 (1 : Int32) (2 : Int32) (2 : Int32) (0 : Int32) (2 : Int32) oD la lb lc) [])) (fun t k => ?_) ?_
        · refine XS.iload X287.here hx rfl (hb hby at_212) rfl ?_
          refine XS.iconst X287.here hx rfl (hb hby at_214) ?_
          refine XS.icmpYes X287.here hx rfl (pc0 := 215) (pc' := 234) rfl (hb hby at_215) rfl (tlt (by decide : (2 : Int32) < (3 : Int32))).1 (by decide) (by decide) ?_
          refine XS.iload X287.here hx rfl (hb hby at_234) rfl ?_
          refine XS.ifNo X287.here hx rfl (hb hby at_236) rfl ((if0 _ _).trans (feq (by decide : ¬ ((1 : Int32) = (0 : Int32)))).1) ?_
          refine XS.iload X287.here hx rfl (hb hby at_239) rfl ?_
          refine XS.iconst X287.here hx rfl (hb hby at_241) ?_
          refine XS.icmpNo X287.here hx rfl (hb hby at_242) rfl (flt (by decide : ¬ ((2 : Int32) < (2 : Int32)))).1 ?_
          refine XS.iload X287.here hx rfl (hb hby at_245) rfl ?_
          refine XS.ifYes X287.here hx rfl (pc0 := 247) (pc' := 265) rfl (hb hby at_247) rfl ((if0 _ _).trans (teq (by decide : (0 : Int32) = (0 : Int32))).1) (by decide) (by decide) ?_
          exact k
        refine Goes.by (B := T287.setTop (mkF m 311 (sh18 q0 q1 q2 p3 q0 u1 c2 u2 (1 : Int32) (2 : Int32) (2 : Int32) (0 : Int32) (2 : Int32) oD la lb lc (0 : Int32) (0 : Int32)) [])) (fun t k => ?_) ?_
        · refine XS.iconst X287.here hx rfl (hb hby at_265) ?_
          refine XS.istore X287.here hx rfl (hb hby at_266) rfl (l' := (sh17 q0 q1 q2 p3 q0 u1 c2 u2 (1 : Int32) (2 : Int32) (2 : Int32) (0 : Int32) (2 : Int32) oD la lb lc (0 : Int32))) rfl ?_
          refine XS.iload X287.here hx rfl (hb hby at_268) rfl ?_
          refine XS.iconst X287.here hx rfl (hb hby at_270) ?_
          refine XS.icmpYes X287.here hx rfl (pc0 := 271) (pc' := 302) rfl (hb hby at_271) rfl (teq (by decide : (1 : Int32) = (1 : Int32))).1 (by decide) (by decide) ?_
          refine XS.iconst X287.here hx rfl (hb hby at_302) ?_
          refine XS.istore X287.here hx rfl (hb hby at_303) rfl (l' := (sh18 q0 q1 q2 p3 q0 u1 c2 u2 (1 : Int32) (2 : Int32) (2 : Int32) (0 : Int32) (2 : Int32) oD la lb lc (0 : Int32) (0 : Int32))) rfl ?_
          refine XS.iload X287.here hx rfl (hb hby at_305) rfl ?_
          refine XS.iconst X287.here hx rfl (hb hby at_307) ?_
          refine XS.icmpNo X287.here hx rfl (hb hby at_308) rfl (feq (by decide : ¬ ((1 : Int32) = (2 : Int32)))).1 ?_
          exact k
        refine Goes.by (B := T287.setTop (mkF m 342 (sh10 q0 q1 q2 p3 q0 u1 c2 u2 (1 : Int32) (2 : Int32) (2 : Int32) (0 : Int32) (2 : Int32) oD la lb lc (0 : Int32) (0 : Int32) (1 : Int32)) [])) (fun t k => ?_) ?_
        · refine XS.iload X287.here hx rfl (hb hby at_311) rfl ?_
          refine XS.iconst X287.here hx rfl (hb hby at_313) ?_
          refine XS.icmpNo X287.here hx rfl (hb hby at_314) rfl (flt (by decide : ¬ ((2 : Int32) < (2 : Int32)))).1 ?_
          refine XS.iload X287.here hx rfl (hb hby at_317) rfl ?_
          refine XS.iconst X287.here hx rfl (hb hby at_319) ?_
          refine XS.icmpNo X287.here hx rfl (hb hby at_320) rfl (feq (by decide : ¬ ((0 : Int32) = (2 : Int32)))).1 ?_
          refine XS.iload X287.here hx rfl (hb hby at_323) rfl ?_
          refine XS.iconst X287.here hx rfl (hb hby at_325) ?_
          refine XS.icmpYes X287.here hx rfl (pc0 := 326) (pc' := 335) rfl (hb hby at_326) rfl (tlt (by decide : (2 : Int32) < (3 : Int32))).1 (by decide) (by decide) ?_
          refine XS.iconst X287.here hx rfl (hb hby at_335) ?_
          refine XS.goto X287.here hx rfl (pc0 := 336) (pc' := 340) rfl (hb hby at_336) (by decide) (by decide) ?_
          refine XS.istore X287.here hx rfl (hb hby at_340) rfl (l' := (sh10 q0 q1 q2 p3 q0 u1 c2 u2 (1 : Int32) (2 : Int32) (2 : Int32) (0 : Int32) (2 : Int32) oD la lb lc (0 : Int32) (0 : Int32) (1 : Int32))) rfl ?_
          exact k
        exact tail_001 l Z az hw ws q0 q1 q2 p3 h0 n0 u1 u2 c2 Bd hx hby hml hown hZ oD la lb lc ar kA _ _ _ _ _ _ _ _ _ _ _ _ X287 N302 Z296 R292 I293 v298 v299 v300 (Nat.le_trans le301 (by decide))
      · refine Goes.by (B := T287.setTop (mkF m 228 (sh16 q0 q1 q2 p3 q0 u1 c2 u2 (1 : Int32) (2 : Int32) (3 : Int32) (0 : Int32) (2 : Int32) oD la lb lc) [(.int (2 : Int32)), (.ref lc), (.ref lb), (.ref la), (.ref oD)])) (fun t k => ?_) ?_
        · refine XS.iload X287.here hx rfl (hb hby at_212) rfl ?_
          refine XS.iconst X287.here hx rfl (hb hby at_214) ?_
          refine XS.icmpNo X287.here hx rfl (hb hby at_215) rfl (flt (by decide : ¬ ((3 : Int32) < (3 : Int32)))).1 ?_
          refine XS.aload X287.here hx rfl (hb hby at_218) rfl rfl ?_
          refine XS.aload X287.here hx rfl (hb hby at_220) rfl rfl ?_
          refine XS.aload X287.here hx rfl (hb hby at_222) rfl rfl ?_
          refine XS.aload X287.here hx rfl (hb hby at_224) rfl rfl ?_
          refine XS.iload X287.here hx rfl (hb hby at_226) rfl ?_
          exact k
        obtain ⟨_, T303, L303, Lc303, X303, hF303, hQ303, st303⟩ := own_cs X287 hx hZ hown (wq hw 58 rfl) (wq hw 59 rfl) (wq hw 60 rfl) (wq hw 61 rfl) (rmPick2 l Z az hw [] la lb lc T287.heap n0 Z296 ) (W := 1) (g := (mkF m 228 (sh16 q0 q1 q2 p3 q0 u1 c2 u2 (1 : Int32) (2 : Int32) (3 : Int32) (0 : Int32) (2 : Int32) oD la lb lc) [(.int (2 : Int32)), (.ref lc), (.ref lb), (.ref la), (.ref oD)])) rfl (by rw [hml]; rfl) (argsL := [(.ref la), (.ref lb), (.ref lc), (.int (2 : Int32))]) (rest := [(.ref oD)]) rfl (lenOf own_pd9 rfl) rfl (hb hby at_228) rfl N302 (c' := 8) (s' := 21)
        obtain ⟨rfl, N303q, e303⟩ := hQ303
        have N304 := hF303 N303q
        refine Goes.by st303 ?_
        obtain ⟨_, T305, L305, Lc305, X305, hF305, hQ305, st305⟩ := own_cv X303 hx hZ hown (wq hw 62 rfl) (wq hw 63 rfl) (wq hw 65 rfl) (wq hw 64 rfl) (wq hw 2 rfl) (wq hw 66 rfl) (rmRemR l Z az hw [] oD lc u2 ar kA hs288 τ289 Nn290 Pp291 [la, lb, lc] tk297 T287.heap n0 Z296 R292 I293 (by simp) v300 (Nat.le_trans le301 (by decide))) (W := 0) (g := (mkF m 231 (sh16 q0 q1 q2 p3 q0 u1 c2 u2 (1 : Int32) (2 : Int32) (3 : Int32) (0 : Int32) (2 : Int32) oD la lb lc) [(.ref lc), (.ref oD)])) rfl (by rw [hml]; rfl) R292.1 (argsL := [(.ref lc)]) (rest := []) rfl (lenOf own_pd10 rfl) rfl (hb hby at_231) e303 N304 (c' := 8) (s' := 21)
        obtain ⟨hs306, τ307, Nn308, Pp309, rfl, N305q, zq312, R310, I311, lq313⟩ := hQ305
        have Z314 : n0 ≤ T305.heap.size := Nat.le_trans Z296 zq312
        obtain ⟨tk315, etk315⟩ : ∃ z, z = upd tk297 lc none := ⟨_, rfl⟩
        rw [← etk315] at I311
        have v316 : tk315 la = none := by rw [etk315, upd_ne _ _ nt02]; exact v298
        have v317 : tk315 lb = none := by rw [etk315, upd_ne _ _ nt12]; exact v299
        have v318 : tk315 lc = none := by rw [etk315]; exact upd_at _ _ _
        have le319 : hs306.length ≤ 3 := Nat.le_trans lq313 le301
        have N320 := hF305 N305q
        refine Goes.by st305 ?_
        refine Goes.by (B := T305.setTop (mkF m 270 (sh17 q0 q1 q2 p3 q0 u1 c2 u2 (1 : Int32) (2 : Int32) (3 : Int32) (0 : Int32) (2 : Int32) oD la lb lc (0 : Int32)) [(.int (1 : Int32))])) (fun t k => ?_) ?_
        · refine XS.iload X305.here hx rfl (hb hby at_234) rfl ?_
          refine XS.ifNo X305.here hx rfl (hb hby at_236) rfl ((if0 _ _).trans (feq (by decide : ¬ ((1 : Int32) = (0 : Int32)))).1) ?_
          refine XS.iload X305.here hx rfl (hb hby at_239) rfl ?_
          refine XS.iconst X305.here hx rfl (hb hby at_241) ?_
          refine XS.icmpNo X305.here hx rfl (hb hby at_242) rfl (flt (by decide : ¬ ((3 : Int32) < (2 : Int32)))).1 ?_
          refine XS.iload X305.here hx rfl (hb hby at_245) rfl ?_
          refine XS.ifYes X305.here hx rfl (pc0 := 247) (pc' := 265) rfl (hb hby at_247) rfl ((if0 _ _).trans (teq (by decide : (0 : Int32) = (0 : Int32))).1) (by decide) (by decide) ?_
          refine XS.iconst X305.here hx rfl (hb hby at_265) ?_
          refine XS.istore X305.here hx rfl (hb hby at_266) rfl (l' := (sh17 q0 q1 q2 p3 q0 u1 c2 u2 (1 : Int32) (2 : Int32) (3 : Int32) (0 : Int32) (2 : Int32) oD la lb lc (0 : Int32))) rfl ?_
          refine XS.iload X305.here hx rfl (hb hby at_268) rfl ?_
          exact k
        refine Goes.by (B := T305.setTop (mkF m 317 (sh18 q0 q1 q2 p3 q0 u1 c2 u2 (1 : Int32) (2 : Int32) (3 : Int32) (0 : Int32) (2 : Int32) oD la lb lc (0 : Int32) (0 : Int32)) [])) (fun t k => ?_) ?_
        · refine XS.iconst X305.here hx rfl (hb hby at_270) ?_
          refine XS.icmpYes X305.here hx rfl (pc0 := 271) (pc' := 302) rfl (hb hby at_271) rfl (teq (by decide : (1 : Int32) = (1 : Int32))).1 (by decide) (by decide) ?_
          refine XS.iconst X305.here hx rfl (hb hby at_302) ?_
          refine XS.istore X305.here hx rfl (hb hby at_303) rfl (l' := (sh18 q0 q1 q2 p3 q0 u1 c2 u2 (1 : Int32) (2 : Int32) (3 : Int32) (0 : Int32) (2 : Int32) oD la lb lc (0 : Int32) (0 : Int32))) rfl ?_
          refine XS.iload X305.here hx rfl (hb hby at_305) rfl ?_
          refine XS.iconst X305.here hx rfl (hb hby at_307) ?_
          refine XS.icmpNo X305.here hx rfl (hb hby at_308) rfl (feq (by decide : ¬ ((1 : Int32) = (2 : Int32)))).1 ?_
          refine XS.iload X305.here hx rfl (hb hby at_311) rfl ?_
          refine XS.iconst X305.here hx rfl (hb hby at_313) ?_
          refine XS.icmpNo X305.here hx rfl (hb hby at_314) rfl (flt (by decide : ¬ ((3 : Int32) < (2 : Int32)))).1 ?_
          exact k
        refine Goes.by (B := T305.setTop (mkF m 342 (sh10 q0 q1 q2 p3 q0 u1 c2 u2 (1 : Int32) (2 : Int32) (3 : Int32) (0 : Int32) (2 : Int32) oD la lb lc (0 : Int32) (0 : Int32) (0 : Int32)) [])) (fun t k => ?_) ?_
        · refine XS.iload X305.here hx rfl (hb hby at_317) rfl ?_
          refine XS.iconst X305.here hx rfl (hb hby at_319) ?_
          refine XS.icmpNo X305.here hx rfl (hb hby at_320) rfl (feq (by decide : ¬ ((0 : Int32) = (2 : Int32)))).1 ?_
          refine XS.iload X305.here hx rfl (hb hby at_323) rfl ?_
          refine XS.iconst X305.here hx rfl (hb hby at_325) ?_
          refine XS.icmpNo X305.here hx rfl (hb hby at_326) rfl (flt (by decide : ¬ ((3 : Int32) < (3 : Int32)))).1 ?_
          refine XS.iload X305.here hx rfl (hb hby at_329) rfl ?_
          refine XS.iconst X305.here hx rfl (hb hby at_331) ?_
          refine XS.icmpYes X305.here hx rfl (pc0 := 332) (pc' := 339) rfl (hb hby at_332) rfl (teq (by decide : (2 : Int32) = (2 : Int32))).1 (by decide) (by decide) ?_
          refine XS.iconst X305.here hx rfl (hb hby at_339) ?_
          refine XS.istore X305.here hx rfl (hb hby at_340) rfl (l' := (sh10 q0 q1 q2 p3 q0 u1 c2 u2 (1 : Int32) (2 : Int32) (3 : Int32) (0 : Int32) (2 : Int32) oD la lb lc (0 : Int32) (0 : Int32) (0 : Int32))) rfl ?_
          exact k
        exact tail_000 l Z az hw ws q0 q1 q2 p3 h0 n0 u1 u2 c2 Bd hx hby hml hown hZ oD la lb lc ar kA _ _ _ _ _ _ _ _ _ _ _ _ X305 N320 Z314 R310 I311 v316 v317 v318 (Nat.le_trans le319 (by decide))
set_option maxRecDepth 65536 in
set_option maxHeartbeats 40000000 in
theorem road_2 (l : Launch) (Z : State) (az : Array Value) (hw : ∀ d ∈ tables_1, d.before az Z = true) (ws : List Jvm.Cond) (q0 q1 q2 : Int64) (p3 : Int32) (h0 : Heap) (n0 : Nat) (u1 u2 : Int64) (c2 : Int32) {p : Program} {e : Env} {s : State} {m : MethodId} {below : List Frame} {meth : Method} {c : Code} {s₁ : State} (Bd : BodyLoose p l x (head1 (Jvm.Cond.code x code maxLocals ret :: ws) room_1) code maxLocals ret e s m #[(.long q0), (.long q1), (.long q2), (.int p3)] below meth c s₁) (hx : p.tables.exec = Jvm.exec) (hby : c.code = code) (hml : c.maxLocals = 32) (hown : s.vm.findClass "com/example/admit_one/admitone/engine/DueOrderRemovePinLaw" = some m.cls) (hZ : Z.Warmed39 s.vm) (oD la lb lc ar : Addr) (kA : ClassId) (nn stp s1 s2 : Int32) (hn3 : nn = 1 ∨ nn = 2 ∨ nn = 3) (hst : stp = 1 ∨ stp = 2) (hs1 : (((2 : Int32) + stp) % (3 : Int32)) = s1) (hs2 : (((2 : Int32) + ((2 : Int32) * stp)) % (3 : Int32)) = s2) (nt01 : la ≠ lb) (nt02 : la ≠ lc) (nt12 : lb ≠ lc) : ∀ (T : State) (locs : List Loc) (hs : List Addr) (τ : Addr → Int64) (N P : Addr → Value) (tk : Addr → Option Int64), Stand p l e room_1 s m #[(.long q0), (.long q1), (.long q2), (.int p3)] below meth c T locs 8 21 → Fr n0 locs → n0 ≤ T.heap.size → Rep Z T.heap n0 oD ar kA hs τ N P [la, lb, lc] → Inv hs τ N P [la, lb, lc] tk → tk la = (some q0) → tk lb = (some u1) → tk lc = (some u2) → hs.length ≤ 3 → Goes p.tables e below (fun s₂ o => s₂.status = .running ∧ Ended s₂ below o ∧ ∃ v L, o = .returned v ∧ Q0 Z q0 q1 q2 p3 h0 n0 v s₂.heap L ∧ FrameEnd s o s₂ L 8 21) (T.setTop (mkF m 174 (sh16 q0 q1 q2 p3 q0 u1 c2 u2 (2 : Int32) stp nn s1 s2 oD la lb lc) [])) := by
  intro T locs hs τ N P tk XT NT ZT RT IT vt0 vt1 vt2 LT
  refine Goes.by (B := T.setTop (mkF m 184 (sh16 q0 q1 q2 p3 q0 u1 c2 u2 (2 : Int32) stp nn s1 s2 oD la lb lc) [(.int (2 : Int32)), (.ref lc), (.ref lb), (.ref la), (.ref oD)])) (fun t k => ?_) ?_
  · refine XS.aload XT.here hx rfl (hb hby at_174) rfl rfl ?_
    refine XS.aload XT.here hx rfl (hb hby at_176) rfl rfl ?_
    refine XS.aload XT.here hx rfl (hb hby at_178) rfl rfl ?_
    refine XS.aload XT.here hx rfl (hb hby at_180) rfl rfl ?_
    refine XS.iload XT.here hx rfl (hb hby at_182) rfl ?_
    exact k
  obtain ⟨_, T321, L321, Lc321, X321, hF321, hQ321, st321⟩ := own_cs XT hx hZ hown (wq hw 58 rfl) (wq hw 59 rfl) (wq hw 60 rfl) (wq hw 61 rfl) (rmPick2 l Z az hw [] la lb lc T.heap n0 ZT ) (W := 1) (g := (mkF m 184 (sh16 q0 q1 q2 p3 q0 u1 c2 u2 (2 : Int32) stp nn s1 s2 oD la lb lc) [(.int (2 : Int32)), (.ref lc), (.ref lb), (.ref la), (.ref oD)])) rfl (by rw [hml]; rfl) (argsL := [(.ref la), (.ref lb), (.ref lc), (.int (2 : Int32))]) (rest := [(.ref oD)]) rfl (lenOf own_pd9 rfl) rfl (hb hby at_184) rfl NT (c' := 8) (s' := 21)
  obtain ⟨rfl, N321q, e321⟩ := hQ321
  have N322 := hF321 N321q
  refine Goes.by st321 ?_
  obtain ⟨_, T323, L323, Lc323, X323, hF323, hQ323, st323⟩ := own_cv X321 hx hZ hown (wq hw 62 rfl) (wq hw 63 rfl) (wq hw 65 rfl) (wq hw 64 rfl) (wq hw 2 rfl) (wq hw 66 rfl) (rmRemR l Z az hw [] oD lc u2 ar kA hs τ N P [la, lb, lc] tk T.heap n0 ZT RT IT (by simp) vt2 (Nat.le_trans LT (by decide))) (W := 0) (g := (mkF m 187 (sh16 q0 q1 q2 p3 q0 u1 c2 u2 (2 : Int32) stp nn s1 s2 oD la lb lc) [(.ref lc), (.ref oD)])) rfl (by rw [hml]; rfl) RT.1 (argsL := [(.ref lc)]) (rest := []) rfl (lenOf own_pd10 rfl) rfl (hb hby at_187) e321 N322 (c' := 8) (s' := 21)
  obtain ⟨hs324, τ325, Nn326, Pp327, rfl, N323q, zq330, R328, I329, lq331⟩ := hQ323
  have Z332 : n0 ≤ T323.heap.size := Nat.le_trans ZT zq330
  obtain ⟨tk333, etk333⟩ : ∃ z, z = upd tk lc none := ⟨_, rfl⟩
  rw [← etk333] at I329
  have v334 : tk333 la = (some q0) := by rw [etk333, upd_ne _ _ nt02]; exact vt0
  have v335 : tk333 lb = (some u1) := by rw [etk333, upd_ne _ _ nt12]; exact vt1
  have v336 : tk333 lc = none := by rw [etk333]; exact upd_at _ _ _
  have le337 : hs324.length ≤ 3 := Nat.le_trans lq331 LT
  have N338 := hF323 N323q
  refine Goes.by st323 ?_
  rcases hn3 with rfl | h23
  · refine Goes.by (fun _ => XS.iload X323.here hx rfl (hb hby at_190) rfl) ?_
    refine Goes.by (fun _ => XS.iconst X323.here hx rfl (hb hby at_192)) ?_
    refine Goes.by (fun _ => XS.icmpYes X323.here hx rfl (pc0 := 193) (pc' := 212) rfl (hb hby at_193) rfl (tlt (by decide : (1 : Int32) < (2 : Int32))).1 (by decide) (by decide)) ?_
    refine Goes.by (B := T323.setTop (mkF m 253 (sh16 q0 q1 q2 p3 q0 u1 c2 u2 (2 : Int32) stp (1 : Int32) s1 s2 oD la lb lc) [(.int (3 : Int32)), (.int (1 : Int32))])) (fun t k => ?_) ?_
    · refine XS.iload X323.here hx rfl (hb hby at_212) rfl ?_
      refine XS.iconst X323.here hx rfl (hb hby at_214) ?_
      refine XS.icmpYes X323.here hx rfl (pc0 := 215) (pc' := 234) rfl (hb hby at_215) rfl (tlt (by decide : (1 : Int32) < (3 : Int32))).1 (by decide) (by decide) ?_
      refine XS.iload X323.here hx rfl (hb hby at_234) rfl ?_
      refine XS.ifNo X323.here hx rfl (hb hby at_236) rfl ((if0 _ _).trans (feq (by decide : ¬ ((2 : Int32) = (0 : Int32)))).1) ?_
      refine XS.iload X323.here hx rfl (hb hby at_239) rfl ?_
      refine XS.iconst X323.here hx rfl (hb hby at_241) ?_
      refine XS.icmpYes X323.here hx rfl (pc0 := 242) (pc' := 250) rfl (hb hby at_242) rfl (tlt (by decide : (1 : Int32) < (2 : Int32))).1 (by decide) (by decide) ?_
      refine XS.iload X323.here hx rfl (hb hby at_250) rfl ?_
      refine XS.iconst X323.here hx rfl (hb hby at_252) ?_
      exact k
    refine Goes.by (B := T323.setTop (mkF m 286 (sh17 q0 q1 q2 p3 q0 u1 c2 u2 (2 : Int32) stp (1 : Int32) s1 s2 oD la lb lc (1 : Int32)) [])) (fun t k => ?_) ?_
    · refine XS.icmpYes X323.here hx rfl (pc0 := 253) (pc' := 261) rfl (hb hby at_253) rfl (tlt (by decide : (1 : Int32) < (3 : Int32))).1 (by decide) (by decide) ?_
      refine XS.iconst X323.here hx rfl (hb hby at_261) ?_
      refine XS.goto X323.here hx rfl (pc0 := 262) (pc' := 266) rfl (hb hby at_262) (by decide) (by decide) ?_
      refine XS.istore X323.here hx rfl (hb hby at_266) rfl (l' := (sh17 q0 q1 q2 p3 q0 u1 c2 u2 (2 : Int32) stp (1 : Int32) s1 s2 oD la lb lc (1 : Int32))) rfl ?_
      refine XS.iload X323.here hx rfl (hb hby at_268) rfl ?_
      refine XS.iconst X323.here hx rfl (hb hby at_270) ?_
      refine XS.icmpNo X323.here hx rfl (hb hby at_271) rfl (feq (by decide : ¬ ((2 : Int32) = (1 : Int32)))).1 ?_
      refine XS.iload X323.here hx rfl (hb hby at_274) rfl ?_
      refine XS.iconst X323.here hx rfl (hb hby at_276) ?_
      refine XS.icmpYes X323.here hx rfl (pc0 := 277) (pc' := 286) rfl (hb hby at_277) rfl (tlt (by decide : (1 : Int32) < (2 : Int32))).1 (by decide) (by decide) ?_
      exact k
    refine Goes.by (B := T323.setTop (mkF m 342 (sh10 q0 q1 q2 p3 q0 u1 c2 u2 (2 : Int32) stp (1 : Int32) s1 s2 oD la lb lc (1 : Int32) (1 : Int32) (0 : Int32)) [])) (fun t k => ?_) ?_
    · refine XS.iload X323.here hx rfl (hb hby at_286) rfl ?_
      refine XS.iconst X323.here hx rfl (hb hby at_288) ?_
      refine XS.icmpYes X323.here hx rfl (pc0 := 289) (pc' := 298) rfl (hb hby at_289) rfl (tlt (by decide : (1 : Int32) < (3 : Int32))).1 (by decide) (by decide) ?_
      refine XS.iconst X323.here hx rfl (hb hby at_298) ?_
      refine XS.goto X323.here hx rfl (pc0 := 299) (pc' := 303) rfl (hb hby at_299) (by decide) (by decide) ?_
      refine XS.istore X323.here hx rfl (hb hby at_303) rfl (l' := (sh18 q0 q1 q2 p3 q0 u1 c2 u2 (2 : Int32) stp (1 : Int32) s1 s2 oD la lb lc (1 : Int32) (1 : Int32))) rfl ?_
      refine XS.iload X323.here hx rfl (hb hby at_305) rfl ?_
      refine XS.iconst X323.here hx rfl (hb hby at_307) ?_
      refine XS.icmpYes X323.here hx rfl (pc0 := 308) (pc' := 339) rfl (hb hby at_308) rfl (teq (by decide : (2 : Int32) = (2 : Int32))).1 (by decide) (by decide) ?_
      refine XS.iconst X323.here hx rfl (hb hby at_339) ?_
      refine XS.istore X323.here hx rfl (hb hby at_340) rfl (l' := (sh10 q0 q1 q2 p3 q0 u1 c2 u2 (2 : Int32) stp (1 : Int32) s1 s2 oD la lb lc (1 : Int32) (1 : Int32) (0 : Int32))) rfl ?_
      exact k
    exact tail_110 l Z az hw ws q0 q1 q2 p3 h0 n0 u1 u2 c2 Bd hx hby hml hown hZ oD la lb lc ar kA _ _ _ _ _ _ _ _ _ _ _ _ X323 N338 Z332 R328 I329 v334 v335 v336 (Nat.le_trans le337 (by decide))
  · have hlt : ¬ (nn < (2 : Int32)) := by rcases h23 with rfl | rfl <;> decide
    rcases hst with rfl | rfl
    · obtain rfl : s1 = (0 : Int32) := hs1.symm.trans (by decide)
      obtain rfl : s2 = (1 : Int32) := hs2.symm.trans (by decide)
      refine Goes.by (B := T323.setTop (mkF m 206 (sh16 q0 q1 q2 p3 q0 u1 c2 u2 (2 : Int32) (1 : Int32) nn (0 : Int32) (1 : Int32) oD la lb lc) [(.int (0 : Int32)), (.ref lc), (.ref lb), (.ref la), (.ref oD)])) (fun t k => ?_) ?_
      · refine XS.iload X323.here hx rfl (hb hby at_190) rfl ?_
        refine XS.iconst X323.here hx rfl (hb hby at_192) ?_
        refine XS.icmpNo X323.here hx rfl (hb hby at_193) rfl (flt hlt).1 ?_
        refine XS.aload X323.here hx rfl (hb hby at_196) rfl rfl ?_
        refine XS.aload X323.here hx rfl (hb hby at_198) rfl rfl ?_
        refine XS.aload X323.here hx rfl (hb hby at_200) rfl rfl ?_
        refine XS.aload X323.here hx rfl (hb hby at_202) rfl rfl ?_
        refine XS.iload X323.here hx rfl (hb hby at_204) rfl ?_
        exact k
      obtain ⟨_, T339, L339, Lc339, X339, hF339, hQ339, st339⟩ := own_cs X323 hx hZ hown (wq hw 58 rfl) (wq hw 59 rfl) (wq hw 60 rfl) (wq hw 61 rfl) (rmPick0 l Z az hw [] la lb lc T323.heap n0 Z332 ) (W := 1) (g := (mkF m 206 (sh16 q0 q1 q2 p3 q0 u1 c2 u2 (2 : Int32) (1 : Int32) nn (0 : Int32) (1 : Int32) oD la lb lc) [(.int (0 : Int32)), (.ref lc), (.ref lb), (.ref la), (.ref oD)])) rfl (by rw [hml]; rfl) (argsL := [(.ref la), (.ref lb), (.ref lc), (.int (0 : Int32))]) (rest := [(.ref oD)]) rfl (lenOf own_pd9 rfl) rfl (hb hby at_206) rfl N338 (c' := 8) (s' := 21)
      obtain ⟨rfl, N339q, e339⟩ := hQ339
      have N340 := hF339 N339q
      refine Goes.by st339 ?_
      obtain ⟨_, T341, L341, Lc341, X341, hF341, hQ341, st341⟩ := own_cv X339 hx hZ hown (wq hw 62 rfl) (wq hw 63 rfl) (wq hw 65 rfl) (wq hw 64 rfl) (wq hw 2 rfl) (wq hw 66 rfl) (rmRemR l Z az hw [] oD la q0 ar kA hs324 τ325 Nn326 Pp327 [la, lb, lc] tk333 T323.heap n0 Z332 R328 I329 (by simp) v334 (Nat.le_trans le337 (by decide))) (W := 0) (g := (mkF m 209 (sh16 q0 q1 q2 p3 q0 u1 c2 u2 (2 : Int32) (1 : Int32) nn (0 : Int32) (1 : Int32) oD la lb lc) [(.ref la), (.ref oD)])) rfl (by rw [hml]; rfl) R328.1 (argsL := [(.ref la)]) (rest := []) rfl (lenOf own_pd10 rfl) rfl (hb hby at_209) e339 N340 (c' := 8) (s' := 21)
      obtain ⟨hs342, τ343, Nn344, Pp345, rfl, N341q, zq348, R346, I347, lq349⟩ := hQ341
      have Z350 : n0 ≤ T341.heap.size := Nat.le_trans Z332 zq348
      obtain ⟨tk351, etk351⟩ : ∃ z, z = upd tk333 la none := ⟨_, rfl⟩
      rw [← etk351] at I347
      have v352 : tk351 la = none := by rw [etk351]; exact upd_at _ _ _
      have v353 : tk351 lb = (some u1) := by rw [etk351, upd_ne _ _ (Ne.symm nt01)]; exact v335
      have v354 : tk351 lc = none := by rw [etk351, upd_ne _ _ (Ne.symm nt02)]; exact v336
      have le355 : hs342.length ≤ 3 := Nat.le_trans lq349 le337
      have N356 := hF341 N341q
      refine Goes.by st341 ?_
      rcases h23 with rfl | rfl
      · refine Goes.by (B := T341.setTop (mkF m 265 (sh16 q0 q1 q2 p3 q0 u1 c2 u2 (2 : Int32) (1 : Int32) (2 : Int32) (0 : Int32) (1 : Int32) oD la lb lc) [])) (fun t k => ?_) ?_
        · refine XS.iload X341.here hx rfl (hb hby at_212) rfl ?_
          refine XS.iconst X341.here hx rfl (hb hby at_214) ?_
          refine XS.icmpYes X341.here hx rfl (pc0 := 215) (pc' := 234) rfl (hb hby at_215) rfl (tlt (by decide : (2 : Int32) < (3 : Int32))).1 (by decide) (by decide) ?_
          refine XS.iload X341.here hx rfl (hb hby at_234) rfl ?_
          refine XS.ifNo X341.here hx rfl (hb hby at_236) rfl ((if0 _ _).trans (feq (by decide : ¬ ((2 : Int32) = (0 : Int32)))).1) ?_
          refine XS.iload X341.here hx rfl (hb hby at_239) rfl ?_
          refine XS.iconst X341.here hx rfl (hb hby at_241) ?_
          refine XS.icmpNo X341.here hx rfl (hb hby at_242) rfl (flt (by decide : ¬ ((2 : Int32) < (2 : Int32)))).1 ?_
          refine XS.iload X341.here hx rfl (hb hby at_245) rfl ?_
          refine XS.ifYes X341.here hx rfl (pc0 := 247) (pc' := 265) rfl (hb hby at_247) rfl ((if0 _ _).trans (teq (by decide : (0 : Int32) = (0 : Int32))).1) (by decide) (by decide) ?_
          exact k
        refine Goes.by (B := T341.setTop (mkF m 283 (sh17 q0 q1 q2 p3 q0 u1 c2 u2 (2 : Int32) (1 : Int32) (2 : Int32) (0 : Int32) (1 : Int32) oD la lb lc (0 : Int32)) [(.int (1 : Int32)), (.int (0 : Int32))])) (fun t k => ?_) ?_
        · refine XS.iconst X341.here hx rfl (hb hby at_265) ?_
          refine XS.istore X341.here hx rfl (hb hby at_266) rfl (l' := (sh17 q0 q1 q2 p3 q0 u1 c2 u2 (2 : Int32) (1 : Int32) (2 : Int32) (0 : Int32) (1 : Int32) oD la lb lc (0 : Int32))) rfl ?_
          refine XS.iload X341.here hx rfl (hb hby at_268) rfl ?_
          refine XS.iconst X341.here hx rfl (hb hby at_270) ?_
          refine XS.icmpNo X341.here hx rfl (hb hby at_271) rfl (feq (by decide : ¬ ((2 : Int32) = (1 : Int32)))).1 ?_
          refine XS.iload X341.here hx rfl (hb hby at_274) rfl ?_
          refine XS.iconst X341.here hx rfl (hb hby at_276) ?_
          refine XS.icmpNo X341.here hx rfl (hb hby at_277) rfl (flt (by decide : ¬ ((2 : Int32) < (2 : Int32)))).1 ?_
          refine XS.iload X341.here hx rfl (hb hby at_280) rfl ?_
          refine XS.iconst X341.here hx rfl (hb hby at_282) ?_
          exact k
        refine Goes.by (B := T341.setTop (mkF m 342 (sh10 q0 q1 q2 p3 q0 u1 c2 u2 (2 : Int32) (1 : Int32) (2 : Int32) (0 : Int32) (1 : Int32) oD la lb lc (0 : Int32) (1 : Int32) (0 : Int32)) [])) (fun t k => ?_) ?_
        · refine XS.icmpNo X341.here hx rfl (hb hby at_283) rfl (feq (by decide : ¬ ((0 : Int32) = (1 : Int32)))).1 ?_
          refine XS.iload X341.here hx rfl (hb hby at_286) rfl ?_
          refine XS.iconst X341.here hx rfl (hb hby at_288) ?_
          refine XS.icmpYes X341.here hx rfl (pc0 := 289) (pc' := 298) rfl (hb hby at_289) rfl (tlt (by decide : (2 : Int32) < (3 : Int32))).1 (by decide) (by decide) ?_
          refine XS.iconst X341.here hx rfl (hb hby at_298) ?_
          refine XS.goto X341.here hx rfl (pc0 := 299) (pc' := 303) rfl (hb hby at_299) (by decide) (by decide) ?_
          refine XS.istore X341.here hx rfl (hb hby at_303) rfl (l' := (sh18 q0 q1 q2 p3 q0 u1 c2 u2 (2 : Int32) (1 : Int32) (2 : Int32) (0 : Int32) (1 : Int32) oD la lb lc (0 : Int32) (1 : Int32))) rfl ?_
          refine XS.iload X341.here hx rfl (hb hby at_305) rfl ?_
          refine XS.iconst X341.here hx rfl (hb hby at_307) ?_
          refine XS.icmpYes X341.here hx rfl (pc0 := 308) (pc' := 339) rfl (hb hby at_308) rfl (teq (by decide : (2 : Int32) = (2 : Int32))).1 (by decide) (by decide) ?_
          refine XS.iconst X341.here hx rfl (hb hby at_339) ?_
          refine XS.istore X341.here hx rfl (hb hby at_340) rfl (l' := (sh10 q0 q1 q2 p3 q0 u1 c2 u2 (2 : Int32) (1 : Int32) (2 : Int32) (0 : Int32) (1 : Int32) oD la lb lc (0 : Int32) (1 : Int32) (0 : Int32))) rfl ?_
          exact k
        exact tail_010 l Z az hw ws q0 q1 q2 p3 h0 n0 u1 u2 c2 Bd hx hby hml hown hZ oD la lb lc ar kA _ _ _ _ _ _ _ _ _ _ _ _ X341 N356 Z350 R346 I347 v352 v353 v354 (Nat.le_trans le355 (by decide))
      · refine Goes.by (B := T341.setTop (mkF m 228 (sh16 q0 q1 q2 p3 q0 u1 c2 u2 (2 : Int32) (1 : Int32) (3 : Int32) (0 : Int32) (1 : Int32) oD la lb lc) [(.int (1 : Int32)), (.ref lc), (.ref lb), (.ref la), (.ref oD)])) (fun t k => ?_) ?_
        · refine XS.iload X341.here hx rfl (hb hby at_212) rfl ?_
          refine XS.iconst X341.here hx rfl (hb hby at_214) ?_
          refine XS.icmpNo X341.here hx rfl (hb hby at_215) rfl (flt (by decide : ¬ ((3 : Int32) < (3 : Int32)))).1 ?_
          refine XS.aload X341.here hx rfl (hb hby at_218) rfl rfl ?_
          refine XS.aload X341.here hx rfl (hb hby at_220) rfl rfl ?_
          refine XS.aload X341.here hx rfl (hb hby at_222) rfl rfl ?_
          refine XS.aload X341.here hx rfl (hb hby at_224) rfl rfl ?_
          refine XS.iload X341.here hx rfl (hb hby at_226) rfl ?_
          exact k
        obtain ⟨_, T357, L357, Lc357, X357, hF357, hQ357, st357⟩ := own_cs X341 hx hZ hown (wq hw 58 rfl) (wq hw 59 rfl) (wq hw 60 rfl) (wq hw 61 rfl) (rmPick1 l Z az hw [] la lb lc T341.heap n0 Z350 ) (W := 1) (g := (mkF m 228 (sh16 q0 q1 q2 p3 q0 u1 c2 u2 (2 : Int32) (1 : Int32) (3 : Int32) (0 : Int32) (1 : Int32) oD la lb lc) [(.int (1 : Int32)), (.ref lc), (.ref lb), (.ref la), (.ref oD)])) rfl (by rw [hml]; rfl) (argsL := [(.ref la), (.ref lb), (.ref lc), (.int (1 : Int32))]) (rest := [(.ref oD)]) rfl (lenOf own_pd9 rfl) rfl (hb hby at_228) rfl N356 (c' := 8) (s' := 21)
        obtain ⟨rfl, N357q, e357⟩ := hQ357
        have N358 := hF357 N357q
        refine Goes.by st357 ?_
        obtain ⟨_, T359, L359, Lc359, X359, hF359, hQ359, st359⟩ := own_cv X357 hx hZ hown (wq hw 62 rfl) (wq hw 63 rfl) (wq hw 65 rfl) (wq hw 64 rfl) (wq hw 2 rfl) (wq hw 66 rfl) (rmRemR l Z az hw [] oD lb u1 ar kA hs342 τ343 Nn344 Pp345 [la, lb, lc] tk351 T341.heap n0 Z350 R346 I347 (by simp) v353 (Nat.le_trans le355 (by decide))) (W := 0) (g := (mkF m 231 (sh16 q0 q1 q2 p3 q0 u1 c2 u2 (2 : Int32) (1 : Int32) (3 : Int32) (0 : Int32) (1 : Int32) oD la lb lc) [(.ref lb), (.ref oD)])) rfl (by rw [hml]; rfl) R346.1 (argsL := [(.ref lb)]) (rest := []) rfl (lenOf own_pd10 rfl) rfl (hb hby at_231) e357 N358 (c' := 8) (s' := 21)
        obtain ⟨hs360, τ361, Nn362, Pp363, rfl, N359q, zq366, R364, I365, lq367⟩ := hQ359
        have Z368 : n0 ≤ T359.heap.size := Nat.le_trans Z350 zq366
        obtain ⟨tk369, etk369⟩ : ∃ z, z = upd tk351 lb none := ⟨_, rfl⟩
        rw [← etk369] at I365
        have v370 : tk369 la = none := by rw [etk369, upd_ne _ _ nt01]; exact v352
        have v371 : tk369 lb = none := by rw [etk369]; exact upd_at _ _ _
        have v372 : tk369 lc = none := by rw [etk369, upd_ne _ _ (Ne.symm nt12)]; exact v354
        have le373 : hs360.length ≤ 3 := Nat.le_trans lq367 le355
        have N374 := hF359 N359q
        refine Goes.by st359 ?_
        refine Goes.by (B := T359.setTop (mkF m 270 (sh17 q0 q1 q2 p3 q0 u1 c2 u2 (2 : Int32) (1 : Int32) (3 : Int32) (0 : Int32) (1 : Int32) oD la lb lc (0 : Int32)) [(.int (2 : Int32))])) (fun t k => ?_) ?_
        · refine XS.iload X359.here hx rfl (hb hby at_234) rfl ?_
          refine XS.ifNo X359.here hx rfl (hb hby at_236) rfl ((if0 _ _).trans (feq (by decide : ¬ ((2 : Int32) = (0 : Int32)))).1) ?_
          refine XS.iload X359.here hx rfl (hb hby at_239) rfl ?_
          refine XS.iconst X359.here hx rfl (hb hby at_241) ?_
          refine XS.icmpNo X359.here hx rfl (hb hby at_242) rfl (flt (by decide : ¬ ((3 : Int32) < (2 : Int32)))).1 ?_
          refine XS.iload X359.here hx rfl (hb hby at_245) rfl ?_
          refine XS.ifYes X359.here hx rfl (pc0 := 247) (pc' := 265) rfl (hb hby at_247) rfl ((if0 _ _).trans (teq (by decide : (0 : Int32) = (0 : Int32))).1) (by decide) (by decide) ?_
          refine XS.iconst X359.here hx rfl (hb hby at_265) ?_
          refine XS.istore X359.here hx rfl (hb hby at_266) rfl (l' := (sh17 q0 q1 q2 p3 q0 u1 c2 u2 (2 : Int32) (1 : Int32) (3 : Int32) (0 : Int32) (1 : Int32) oD la lb lc (0 : Int32))) rfl ?_
          refine XS.iload X359.here hx rfl (hb hby at_268) rfl ?_
          exact k
        refine Goes.by (B := T359.setTop (mkF m 289 (sh17 q0 q1 q2 p3 q0 u1 c2 u2 (2 : Int32) (1 : Int32) (3 : Int32) (0 : Int32) (1 : Int32) oD la lb lc (0 : Int32)) [(.int (3 : Int32)), (.int (3 : Int32))])) (fun t k => ?_) ?_
        · refine XS.iconst X359.here hx rfl (hb hby at_270) ?_
          refine XS.icmpNo X359.here hx rfl (hb hby at_271) rfl (feq (by decide : ¬ ((2 : Int32) = (1 : Int32)))).1 ?_
          refine XS.iload X359.here hx rfl (hb hby at_274) rfl ?_
          refine XS.iconst X359.here hx rfl (hb hby at_276) ?_
          refine XS.icmpNo X359.here hx rfl (hb hby at_277) rfl (flt (by decide : ¬ ((3 : Int32) < (2 : Int32)))).1 ?_
          refine XS.iload X359.here hx rfl (hb hby at_280) rfl ?_
          refine XS.iconst X359.here hx rfl (hb hby at_282) ?_
          refine XS.icmpNo X359.here hx rfl (hb hby at_283) rfl (feq (by decide : ¬ ((0 : Int32) = (1 : Int32)))).1 ?_
          refine XS.iload X359.here hx rfl (hb hby at_286) rfl ?_
          refine XS.iconst X359.here hx rfl (hb hby at_288) ?_
          exact k
        refine Goes.by (B := T359.setTop (mkF m 342 (sh10 q0 q1 q2 p3 q0 u1 c2 u2 (2 : Int32) (1 : Int32) (3 : Int32) (0 : Int32) (1 : Int32) oD la lb lc (0 : Int32) (0 : Int32) (0 : Int32)) [])) (fun t k => ?_) ?_
        · refine XS.icmpNo X359.here hx rfl (hb hby at_289) rfl (flt (by decide : ¬ ((3 : Int32) < (3 : Int32)))).1 ?_
          refine XS.iload X359.here hx rfl (hb hby at_292) rfl ?_
          refine XS.iconst X359.here hx rfl (hb hby at_294) ?_
          refine XS.icmpYes X359.here hx rfl (pc0 := 295) (pc' := 302) rfl (hb hby at_295) rfl (teq (by decide : (1 : Int32) = (1 : Int32))).1 (by decide) (by decide) ?_
          refine XS.iconst X359.here hx rfl (hb hby at_302) ?_
          refine XS.istore X359.here hx rfl (hb hby at_303) rfl (l' := (sh18 q0 q1 q2 p3 q0 u1 c2 u2 (2 : Int32) (1 : Int32) (3 : Int32) (0 : Int32) (1 : Int32) oD la lb lc (0 : Int32) (0 : Int32))) rfl ?_
          refine XS.iload X359.here hx rfl (hb hby at_305) rfl ?_
          refine XS.iconst X359.here hx rfl (hb hby at_307) ?_
          refine XS.icmpYes X359.here hx rfl (pc0 := 308) (pc' := 339) rfl (hb hby at_308) rfl (teq (by decide : (2 : Int32) = (2 : Int32))).1 (by decide) (by decide) ?_
          refine XS.iconst X359.here hx rfl (hb hby at_339) ?_
          refine XS.istore X359.here hx rfl (hb hby at_340) rfl (l' := (sh10 q0 q1 q2 p3 q0 u1 c2 u2 (2 : Int32) (1 : Int32) (3 : Int32) (0 : Int32) (1 : Int32) oD la lb lc (0 : Int32) (0 : Int32) (0 : Int32))) rfl ?_
          exact k
        exact tail_000 l Z az hw ws q0 q1 q2 p3 h0 n0 u1 u2 c2 Bd hx hby hml hown hZ oD la lb lc ar kA _ _ _ _ _ _ _ _ _ _ _ _ X359 N374 Z368 R364 I365 v370 v371 v372 (Nat.le_trans le373 (by decide))
    · obtain rfl : s1 = (1 : Int32) := hs1.symm.trans (by decide)
      obtain rfl : s2 = (0 : Int32) := hs2.symm.trans (by decide)
      refine Goes.by (B := T323.setTop (mkF m 206 (sh16 q0 q1 q2 p3 q0 u1 c2 u2 (2 : Int32) (2 : Int32) nn (1 : Int32) (0 : Int32) oD la lb lc) [(.int (1 : Int32)), (.ref lc), (.ref lb), (.ref la), (.ref oD)])) (fun t k => ?_) ?_
      · refine XS.iload X323.here hx rfl (hb hby at_190) rfl ?_
        refine XS.iconst X323.here hx rfl (hb hby at_192) ?_
        refine XS.icmpNo X323.here hx rfl (hb hby at_193) rfl (flt hlt).1 ?_
        refine XS.aload X323.here hx rfl (hb hby at_196) rfl rfl ?_
        refine XS.aload X323.here hx rfl (hb hby at_198) rfl rfl ?_
        refine XS.aload X323.here hx rfl (hb hby at_200) rfl rfl ?_
        refine XS.aload X323.here hx rfl (hb hby at_202) rfl rfl ?_
        refine XS.iload X323.here hx rfl (hb hby at_204) rfl ?_
        exact k
      obtain ⟨_, T375, L375, Lc375, X375, hF375, hQ375, st375⟩ := own_cs X323 hx hZ hown (wq hw 58 rfl) (wq hw 59 rfl) (wq hw 60 rfl) (wq hw 61 rfl) (rmPick1 l Z az hw [] la lb lc T323.heap n0 Z332 ) (W := 1) (g := (mkF m 206 (sh16 q0 q1 q2 p3 q0 u1 c2 u2 (2 : Int32) (2 : Int32) nn (1 : Int32) (0 : Int32) oD la lb lc) [(.int (1 : Int32)), (.ref lc), (.ref lb), (.ref la), (.ref oD)])) rfl (by rw [hml]; rfl) (argsL := [(.ref la), (.ref lb), (.ref lc), (.int (1 : Int32))]) (rest := [(.ref oD)]) rfl (lenOf own_pd9 rfl) rfl (hb hby at_206) rfl N338 (c' := 8) (s' := 21)
      obtain ⟨rfl, N375q, e375⟩ := hQ375
      have N376 := hF375 N375q
      refine Goes.by st375 ?_
      obtain ⟨_, T377, L377, Lc377, X377, hF377, hQ377, st377⟩ := own_cv X375 hx hZ hown (wq hw 62 rfl) (wq hw 63 rfl) (wq hw 65 rfl) (wq hw 64 rfl) (wq hw 2 rfl) (wq hw 66 rfl) (rmRemR l Z az hw [] oD lb u1 ar kA hs324 τ325 Nn326 Pp327 [la, lb, lc] tk333 T323.heap n0 Z332 R328 I329 (by simp) v335 (Nat.le_trans le337 (by decide))) (W := 0) (g := (mkF m 209 (sh16 q0 q1 q2 p3 q0 u1 c2 u2 (2 : Int32) (2 : Int32) nn (1 : Int32) (0 : Int32) oD la lb lc) [(.ref lb), (.ref oD)])) rfl (by rw [hml]; rfl) R328.1 (argsL := [(.ref lb)]) (rest := []) rfl (lenOf own_pd10 rfl) rfl (hb hby at_209) e375 N376 (c' := 8) (s' := 21)
      obtain ⟨hs378, τ379, Nn380, Pp381, rfl, N377q, zq384, R382, I383, lq385⟩ := hQ377
      have Z386 : n0 ≤ T377.heap.size := Nat.le_trans Z332 zq384
      obtain ⟨tk387, etk387⟩ : ∃ z, z = upd tk333 lb none := ⟨_, rfl⟩
      rw [← etk387] at I383
      have v388 : tk387 la = (some q0) := by rw [etk387, upd_ne _ _ nt01]; exact v334
      have v389 : tk387 lb = none := by rw [etk387]; exact upd_at _ _ _
      have v390 : tk387 lc = none := by rw [etk387, upd_ne _ _ (Ne.symm nt12)]; exact v336
      have le391 : hs378.length ≤ 3 := Nat.le_trans lq385 le337
      have N392 := hF377 N377q
      refine Goes.by st377 ?_
      rcases h23 with rfl | rfl
      · refine Goes.by (B := T377.setTop (mkF m 250 (sh16 q0 q1 q2 p3 q0 u1 c2 u2 (2 : Int32) (2 : Int32) (2 : Int32) (1 : Int32) (0 : Int32) oD la lb lc) [])) (fun t k => ?_) ?_
        · refine XS.iload X377.here hx rfl (hb hby at_212) rfl ?_
          refine XS.iconst X377.here hx rfl (hb hby at_214) ?_
          refine XS.icmpYes X377.here hx rfl (pc0 := 215) (pc' := 234) rfl (hb hby at_215) rfl (tlt (by decide : (2 : Int32) < (3 : Int32))).1 (by decide) (by decide) ?_
          refine XS.iload X377.here hx rfl (hb hby at_234) rfl ?_
          refine XS.ifNo X377.here hx rfl (hb hby at_236) rfl ((if0 _ _).trans (feq (by decide : ¬ ((2 : Int32) = (0 : Int32)))).1) ?_
          refine XS.iload X377.here hx rfl (hb hby at_239) rfl ?_
          refine XS.iconst X377.here hx rfl (hb hby at_241) ?_
          refine XS.icmpNo X377.here hx rfl (hb hby at_242) rfl (flt (by decide : ¬ ((2 : Int32) < (2 : Int32)))).1 ?_
          refine XS.iload X377.here hx rfl (hb hby at_245) rfl ?_
          refine XS.ifNo X377.here hx rfl (hb hby at_247) rfl ((if0 _ _).trans (feq (by decide : ¬ ((1 : Int32) = (0 : Int32)))).1) ?_
          exact k
        refine Goes.by (B := T377.setTop (mkF m 276 (sh17 q0 q1 q2 p3 q0 u1 c2 u2 (2 : Int32) (2 : Int32) (2 : Int32) (1 : Int32) (0 : Int32) oD la lb lc (1 : Int32)) [(.int (2 : Int32))])) (fun t k => ?_) ?_
        · refine XS.iload X377.here hx rfl (hb hby at_250) rfl ?_
          refine XS.iconst X377.here hx rfl (hb hby at_252) ?_
          refine XS.icmpYes X377.here hx rfl (pc0 := 253) (pc' := 261) rfl (hb hby at_253) rfl (tlt (by decide : (2 : Int32) < (3 : Int32))).1 (by decide) (by decide) ?_
          refine XS.iconst X377.here hx rfl (hb hby at_261) ?_
          refine XS.goto X377.here hx rfl (pc0 := 262) (pc' := 266) rfl (hb hby at_262) (by decide) (by decide) ?_
          refine XS.istore X377.here hx rfl (hb hby at_266) rfl (l' := (sh17 q0 q1 q2 p3 q0 u1 c2 u2 (2 : Int32) (2 : Int32) (2 : Int32) (1 : Int32) (0 : Int32) oD la lb lc (1 : Int32))) rfl ?_
          refine XS.iload X377.here hx rfl (hb hby at_268) rfl ?_
          refine XS.iconst X377.here hx rfl (hb hby at_270) ?_
          refine XS.icmpNo X377.here hx rfl (hb hby at_271) rfl (feq (by decide : ¬ ((2 : Int32) = (1 : Int32)))).1 ?_
          refine XS.iload X377.here hx rfl (hb hby at_274) rfl ?_
          exact k
        refine Goes.by (B := T377.setTop (mkF m 342 (sh10 q0 q1 q2 p3 q0 u1 c2 u2 (2 : Int32) (2 : Int32) (2 : Int32) (1 : Int32) (0 : Int32) oD la lb lc (1 : Int32) (0 : Int32) (0 : Int32)) [])) (fun t k => ?_) ?_
        · refine XS.iconst X377.here hx rfl (hb hby at_276) ?_
          refine XS.icmpNo X377.here hx rfl (hb hby at_277) rfl (flt (by decide : ¬ ((2 : Int32) < (2 : Int32)))).1 ?_
          refine XS.iload X377.here hx rfl (hb hby at_280) rfl ?_
          refine XS.iconst X377.here hx rfl (hb hby at_282) ?_
          refine XS.icmpYes X377.here hx rfl (pc0 := 283) (pc' := 302) rfl (hb hby at_283) rfl (teq (by decide : (1 : Int32) = (1 : Int32))).1 (by decide) (by decide) ?_
          refine XS.iconst X377.here hx rfl (hb hby at_302) ?_
          refine XS.istore X377.here hx rfl (hb hby at_303) rfl (l' := (sh18 q0 q1 q2 p3 q0 u1 c2 u2 (2 : Int32) (2 : Int32) (2 : Int32) (1 : Int32) (0 : Int32) oD la lb lc (1 : Int32) (0 : Int32))) rfl ?_
          refine XS.iload X377.here hx rfl (hb hby at_305) rfl ?_
          refine XS.iconst X377.here hx rfl (hb hby at_307) ?_
          refine XS.icmpYes X377.here hx rfl (pc0 := 308) (pc' := 339) rfl (hb hby at_308) rfl (teq (by decide : (2 : Int32) = (2 : Int32))).1 (by decide) (by decide) ?_
          refine XS.iconst X377.here hx rfl (hb hby at_339) ?_
          refine XS.istore X377.here hx rfl (hb hby at_340) rfl (l' := (sh10 q0 q1 q2 p3 q0 u1 c2 u2 (2 : Int32) (2 : Int32) (2 : Int32) (1 : Int32) (0 : Int32) oD la lb lc (1 : Int32) (0 : Int32) (0 : Int32))) rfl ?_
          exact k
        exact tail_100 l Z az hw ws q0 q1 q2 p3 h0 n0 u1 u2 c2 Bd hx hby hml hown hZ oD la lb lc ar kA _ _ _ _ _ _ _ _ _ _ _ _ X377 N392 Z386 R382 I383 v388 v389 v390 (Nat.le_trans le391 (by decide))
      · refine Goes.by (B := T377.setTop (mkF m 228 (sh16 q0 q1 q2 p3 q0 u1 c2 u2 (2 : Int32) (2 : Int32) (3 : Int32) (1 : Int32) (0 : Int32) oD la lb lc) [(.int (0 : Int32)), (.ref lc), (.ref lb), (.ref la), (.ref oD)])) (fun t k => ?_) ?_
        · refine XS.iload X377.here hx rfl (hb hby at_212) rfl ?_
          refine XS.iconst X377.here hx rfl (hb hby at_214) ?_
          refine XS.icmpNo X377.here hx rfl (hb hby at_215) rfl (flt (by decide : ¬ ((3 : Int32) < (3 : Int32)))).1 ?_
          refine XS.aload X377.here hx rfl (hb hby at_218) rfl rfl ?_
          refine XS.aload X377.here hx rfl (hb hby at_220) rfl rfl ?_
          refine XS.aload X377.here hx rfl (hb hby at_222) rfl rfl ?_
          refine XS.aload X377.here hx rfl (hb hby at_224) rfl rfl ?_
          refine XS.iload X377.here hx rfl (hb hby at_226) rfl ?_
          exact k
        obtain ⟨_, T393, L393, Lc393, X393, hF393, hQ393, st393⟩ := own_cs X377 hx hZ hown (wq hw 58 rfl) (wq hw 59 rfl) (wq hw 60 rfl) (wq hw 61 rfl) (rmPick0 l Z az hw [] la lb lc T377.heap n0 Z386 ) (W := 1) (g := (mkF m 228 (sh16 q0 q1 q2 p3 q0 u1 c2 u2 (2 : Int32) (2 : Int32) (3 : Int32) (1 : Int32) (0 : Int32) oD la lb lc) [(.int (0 : Int32)), (.ref lc), (.ref lb), (.ref la), (.ref oD)])) rfl (by rw [hml]; rfl) (argsL := [(.ref la), (.ref lb), (.ref lc), (.int (0 : Int32))]) (rest := [(.ref oD)]) rfl (lenOf own_pd9 rfl) rfl (hb hby at_228) rfl N392 (c' := 8) (s' := 21)
        obtain ⟨rfl, N393q, e393⟩ := hQ393
        have N394 := hF393 N393q
        refine Goes.by st393 ?_
        obtain ⟨_, T395, L395, Lc395, X395, hF395, hQ395, st395⟩ := own_cv X393 hx hZ hown (wq hw 62 rfl) (wq hw 63 rfl) (wq hw 65 rfl) (wq hw 64 rfl) (wq hw 2 rfl) (wq hw 66 rfl) (rmRemR l Z az hw [] oD la q0 ar kA hs378 τ379 Nn380 Pp381 [la, lb, lc] tk387 T377.heap n0 Z386 R382 I383 (by simp) v388 (Nat.le_trans le391 (by decide))) (W := 0) (g := (mkF m 231 (sh16 q0 q1 q2 p3 q0 u1 c2 u2 (2 : Int32) (2 : Int32) (3 : Int32) (1 : Int32) (0 : Int32) oD la lb lc) [(.ref la), (.ref oD)])) rfl (by rw [hml]; rfl) R382.1 (argsL := [(.ref la)]) (rest := []) rfl (lenOf own_pd10 rfl) rfl (hb hby at_231) e393 N394 (c' := 8) (s' := 21)
        obtain ⟨hs396, τ397, Nn398, Pp399, rfl, N395q, zq402, R400, I401, lq403⟩ := hQ395
        have Z404 : n0 ≤ T395.heap.size := Nat.le_trans Z386 zq402
        obtain ⟨tk405, etk405⟩ : ∃ z, z = upd tk387 la none := ⟨_, rfl⟩
        rw [← etk405] at I401
        have v406 : tk405 la = none := by rw [etk405]; exact upd_at _ _ _
        have v407 : tk405 lb = none := by rw [etk405, upd_ne _ _ (Ne.symm nt01)]; exact v389
        have v408 : tk405 lc = none := by rw [etk405, upd_ne _ _ (Ne.symm nt02)]; exact v390
        have le409 : hs396.length ≤ 3 := Nat.le_trans lq403 le391
        have N410 := hF395 N395q
        refine Goes.by st395 ?_
        refine Goes.by (B := T395.setTop (mkF m 256 (sh16 q0 q1 q2 p3 q0 u1 c2 u2 (2 : Int32) (2 : Int32) (3 : Int32) (1 : Int32) (0 : Int32) oD la lb lc) [])) (fun t k => ?_) ?_
        · refine XS.iload X395.here hx rfl (hb hby at_234) rfl ?_
          refine XS.ifNo X395.here hx rfl (hb hby at_236) rfl ((if0 _ _).trans (feq (by decide : ¬ ((2 : Int32) = (0 : Int32)))).1) ?_
          refine XS.iload X395.here hx rfl (hb hby at_239) rfl ?_
          refine XS.iconst X395.here hx rfl (hb hby at_241) ?_
          refine XS.icmpNo X395.here hx rfl (hb hby at_242) rfl (flt (by decide : ¬ ((3 : Int32) < (2 : Int32)))).1 ?_
          refine XS.iload X395.here hx rfl (hb hby at_245) rfl ?_
          refine XS.ifNo X395.here hx rfl (hb hby at_247) rfl ((if0 _ _).trans (feq (by decide : ¬ ((1 : Int32) = (0 : Int32)))).1) ?_
          refine XS.iload X395.here hx rfl (hb hby at_250) rfl ?_
          refine XS.iconst X395.here hx rfl (hb hby at_252) ?_
          refine XS.icmpNo X395.here hx rfl (hb hby at_253) rfl (flt (by decide : ¬ ((3 : Int32) < (3 : Int32)))).1 ?_
          exact k
        refine Goes.by (B := T395.setTop (mkF m 280 (sh17 q0 q1 q2 p3 q0 u1 c2 u2 (2 : Int32) (2 : Int32) (3 : Int32) (1 : Int32) (0 : Int32) oD la lb lc (0 : Int32)) [])) (fun t k => ?_) ?_
        · refine XS.iload X395.here hx rfl (hb hby at_256) rfl ?_
          refine XS.ifYes X395.here hx rfl (pc0 := 258) (pc' := 265) rfl (hb hby at_258) rfl ((if0 _ _).trans (teq (by decide : (0 : Int32) = (0 : Int32))).1) (by decide) (by decide) ?_
          refine XS.iconst X395.here hx rfl (hb hby at_265) ?_
          refine XS.istore X395.here hx rfl (hb hby at_266) rfl (l' := (sh17 q0 q1 q2 p3 q0 u1 c2 u2 (2 : Int32) (2 : Int32) (3 : Int32) (1 : Int32) (0 : Int32) oD la lb lc (0 : Int32))) rfl ?_
          refine XS.iload X395.here hx rfl (hb hby at_268) rfl ?_
          refine XS.iconst X395.here hx rfl (hb hby at_270) ?_
          refine XS.icmpNo X395.here hx rfl (hb hby at_271) rfl (feq (by decide : ¬ ((2 : Int32) = (1 : Int32)))).1 ?_
          refine XS.iload X395.here hx rfl (hb hby at_274) rfl ?_
          refine XS.iconst X395.here hx rfl (hb hby at_276) ?_
          refine XS.icmpNo X395.here hx rfl (hb hby at_277) rfl (flt (by decide : ¬ ((3 : Int32) < (2 : Int32)))).1 ?_
          exact k
        refine Goes.by (B := T395.setTop (mkF m 342 (sh10 q0 q1 q2 p3 q0 u1 c2 u2 (2 : Int32) (2 : Int32) (3 : Int32) (1 : Int32) (0 : Int32) oD la lb lc (0 : Int32) (0 : Int32) (0 : Int32)) [])) (fun t k => ?_) ?_
        · refine XS.iload X395.here hx rfl (hb hby at_280) rfl ?_
          refine XS.iconst X395.here hx rfl (hb hby at_282) ?_
          refine XS.icmpYes X395.here hx rfl (pc0 := 283) (pc' := 302) rfl (hb hby at_283) rfl (teq (by decide : (1 : Int32) = (1 : Int32))).1 (by decide) (by decide) ?_
          refine XS.iconst X395.here hx rfl (hb hby at_302) ?_
          refine XS.istore X395.here hx rfl (hb hby at_303) rfl (l' := (sh18 q0 q1 q2 p3 q0 u1 c2 u2 (2 : Int32) (2 : Int32) (3 : Int32) (1 : Int32) (0 : Int32) oD la lb lc (0 : Int32) (0 : Int32))) rfl ?_
          refine XS.iload X395.here hx rfl (hb hby at_305) rfl ?_
          refine XS.iconst X395.here hx rfl (hb hby at_307) ?_
          refine XS.icmpYes X395.here hx rfl (pc0 := 308) (pc' := 339) rfl (hb hby at_308) rfl (teq (by decide : (2 : Int32) = (2 : Int32))).1 (by decide) (by decide) ?_
          refine XS.iconst X395.here hx rfl (hb hby at_339) ?_
          refine XS.istore X395.here hx rfl (hb hby at_340) rfl (l' := (sh10 q0 q1 q2 p3 q0 u1 c2 u2 (2 : Int32) (2 : Int32) (3 : Int32) (1 : Int32) (0 : Int32) oD la lb lc (0 : Int32) (0 : Int32) (0 : Int32))) rfl ?_
          exact k
        exact tail_000 l Z az hw ws q0 q1 q2 p3 h0 n0 u1 u2 c2 Bd hx hby hml hown hZ oD la lb lc ar kA _ _ _ _ _ _ _ _ _ _ _ _ X395 N410 Z404 R400 I401 v406 v407 v408 (Nat.le_trans le409 (by decide))
set_option maxRecDepth 65536 in
set_option maxHeartbeats 40000000 in
theorem road (l : Launch) (Z : State) (az : Array Value) (hw : ∀ d ∈ tables_1, d.before az Z = true) (ws : List Jvm.Cond) (q0 q1 q2 : Int64) (p3 : Int32) (h0 : Heap) (n0 : Nat) (u1 u2 : Int64) (c2 : Int32) {p : Program} {e : Env} {s : State} {m : MethodId} {below : List Frame} {meth : Method} {c : Code} {s₁ : State} (Bd : BodyLoose p l x (head1 (Jvm.Cond.code x code maxLocals ret :: ws) room_1) code maxLocals ret e s m #[(.long q0), (.long q1), (.long q2), (.int p3)] below meth c s₁) (hx : p.tables.exec = Jvm.exec) (hby : c.code = code) (hml : c.maxLocals = 32) (hown : s.vm.findClass "com/example/admit_one/admitone/engine/DueOrderRemovePinLaw" = some m.cls) (hZ : Z.Warmed39 s.vm) (oD la lb lc ar : Addr) (kA : ClassId) (r : Int32) (hr3 : r = 0 ∨ r = 1 ∨ r = 2) (nn stp s1 s2 : Int32) (hn3 : nn = 1 ∨ nn = 2 ∨ nn = 3) (hst : stp = 1 ∨ stp = 2) (hs1 : ((r + stp) % (3 : Int32)) = s1) (hs2 : ((r + ((2 : Int32) * stp)) % (3 : Int32)) = s2) (nt01 : la ≠ lb) (nt02 : la ≠ lc) (nt12 : lb ≠ lc) : ∀ (T : State) (locs : List Loc) (hs : List Addr) (τ : Addr → Int64) (N P : Addr → Value) (tk : Addr → Option Int64), Stand p l e room_1 s m #[(.long q0), (.long q1), (.long q2), (.int p3)] below meth c T locs 5 12 → Fr n0 locs → n0 ≤ T.heap.size → Rep Z T.heap n0 oD ar kA hs τ N P [la, lb, lc] → Inv hs τ N P [la, lb, lc] tk → tk la = none → tk lb = none → tk lc = none → hs.length ≤ 0 → Goes p.tables e below (fun s₂ o => s₂.status = .running ∧ Ended s₂ below o ∧ ∃ v L, o = .returned v ∧ Q0 Z q0 q1 q2 p3 h0 n0 v s₂.heap L ∧ FrameEnd s o s₂ L 8 21) (T.setTop (mkF m 147 (sh16 q0 q1 q2 p3 q0 u1 c2 u2 r stp nn s1 s2 oD la lb lc) [])) := by
  intro T locs hs τ N P tk XT NT ZT RT IT vt0 vt1 vt2 LT
  refine Goes.by (fun _ => XS.aload XT.here hx rfl (hb hby at_147) rfl rfl) ?_
  refine Goes.by (fun _ => XS.aload XT.here hx rfl (hb hby at_149) rfl rfl) ?_
  refine Goes.by (fun _ => XS.lload XT.here hx rfl (hb hby at_151) rfl) ?_
  obtain ⟨_, T411, L411, Lc411, X411, hF411, hQ411, st411⟩ := own_cv XT hx hZ hown (wq hw 20 rfl) (wq hw 21 rfl) (wq hw 23 rfl) (wq hw 22 rfl) (wq hw 2 rfl) (wq hw 24 rfl) (rmFileR l Z az hw [] oD la q0 ar kA hs τ N P [la, lb, lc] tk T.heap n0 ZT RT IT (by simp) vt0 (Nat.le_trans LT (by decide))) (W := 0) (g := (mkF m 153 (sh16 q0 q1 q2 p3 q0 u1 c2 u2 r stp nn s1 s2 oD la lb lc) [(.long q0), (.ref la), (.ref oD)])) rfl (by rw [hml]; rfl) RT.1 (argsL := [(.ref la), (.long q0)]) (rest := []) rfl (lenOf own_pd11 rfl) rfl (hb hby at_153) rfl NT (c' := 6) (s' := 15)
  obtain ⟨hs412, τ413, Nn414, Pp415, rfl, N411q, zq418, R416, I417, lq419⟩ := hQ411
  have Z420 : n0 ≤ T411.heap.size := Nat.le_trans ZT zq418
  obtain ⟨tk421, etk421⟩ : ∃ z, z = upd tk la (some q0) := ⟨_, rfl⟩
  rw [← etk421] at I417
  have v422 : tk421 la = (some q0) := by rw [etk421]; exact upd_at _ _ _
  have v423 : tk421 lb = none := by rw [etk421, upd_ne _ _ (Ne.symm nt01)]; exact vt1
  have v424 : tk421 lc = none := by rw [etk421, upd_ne _ _ (Ne.symm nt02)]; exact vt2
  have le425 : hs412.length ≤ 1 := Nat.le_trans lq419 (Nat.succ_le_succ LT)
  have N426 := hF411 N411q
  refine Goes.by st411 ?_
  refine Goes.by (fun _ => XS.aload X411.here hx rfl (hb hby at_156) rfl rfl) ?_
  refine Goes.by (fun _ => XS.aload X411.here hx rfl (hb hby at_158) rfl rfl) ?_
  refine Goes.by (fun _ => XS.lload X411.here hx rfl (hb hby at_160) rfl) ?_
  obtain ⟨_, T427, L427, Lc427, X427, hF427, hQ427, st427⟩ := own_cv X411 hx hZ hown (wq hw 20 rfl) (wq hw 21 rfl) (wq hw 23 rfl) (wq hw 22 rfl) (wq hw 2 rfl) (wq hw 24 rfl) (rmFileR l Z az hw [] oD lb u1 ar kA hs412 τ413 Nn414 Pp415 [la, lb, lc] tk421 T411.heap n0 Z420 R416 I417 (by simp) v423 (Nat.le_trans le425 (by decide))) (W := 0) (g := (mkF m 162 (sh16 q0 q1 q2 p3 q0 u1 c2 u2 r stp nn s1 s2 oD la lb lc) [(.long u1), (.ref lb), (.ref oD)])) rfl (by rw [hml]; rfl) R416.1 (argsL := [(.ref lb), (.long u1)]) (rest := []) rfl (lenOf own_pd11 rfl) rfl (hb hby at_162) rfl N426 (c' := 7) (s' := 18)
  obtain ⟨hs428, τ429, Nn430, Pp431, rfl, N427q, zq434, R432, I433, lq435⟩ := hQ427
  have Z436 : n0 ≤ T427.heap.size := Nat.le_trans Z420 zq434
  obtain ⟨tk437, etk437⟩ : ∃ z, z = upd tk421 lb (some u1) := ⟨_, rfl⟩
  rw [← etk437] at I433
  have v438 : tk437 la = (some q0) := by rw [etk437, upd_ne _ _ nt01]; exact v422
  have v439 : tk437 lb = (some u1) := by rw [etk437]; exact upd_at _ _ _
  have v440 : tk437 lc = none := by rw [etk437, upd_ne _ _ (Ne.symm nt12)]; exact v424
  have le441 : hs428.length ≤ 2 := Nat.le_trans lq435 (Nat.succ_le_succ le425)
  have N442 := hF427 N427q
  refine Goes.by st427 ?_
  refine Goes.by (fun _ => XS.aload X427.here hx rfl (hb hby at_165) rfl rfl) ?_
  refine Goes.by (fun _ => XS.aload X427.here hx rfl (hb hby at_167) rfl rfl) ?_
  refine Goes.by (fun _ => XS.lload X427.here hx rfl (hb hby at_169) rfl) ?_
  obtain ⟨_, T443, L443, Lc443, X443, hF443, hQ443, st443⟩ := own_cv X427 hx hZ hown (wq hw 20 rfl) (wq hw 21 rfl) (wq hw 23 rfl) (wq hw 22 rfl) (wq hw 2 rfl) (wq hw 24 rfl) (rmFileR l Z az hw [] oD lc u2 ar kA hs428 τ429 Nn430 Pp431 [la, lb, lc] tk437 T427.heap n0 Z436 R432 I433 (by simp) v440 (Nat.le_trans le441 (by decide))) (W := 0) (g := (mkF m 171 (sh16 q0 q1 q2 p3 q0 u1 c2 u2 r stp nn s1 s2 oD la lb lc) [(.long u2), (.ref lc), (.ref oD)])) rfl (by rw [hml]; rfl) R432.1 (argsL := [(.ref lc), (.long u2)]) (rest := []) rfl (lenOf own_pd11 rfl) rfl (hb hby at_171) rfl N442 (c' := 8) (s' := 21)
  obtain ⟨hs444, τ445, Nn446, Pp447, rfl, N443q, zq450, R448, I449, lq451⟩ := hQ443
  have Z452 : n0 ≤ T443.heap.size := Nat.le_trans Z436 zq450
  obtain ⟨tk453, etk453⟩ : ∃ z, z = upd tk437 lc (some u2) := ⟨_, rfl⟩
  rw [← etk453] at I449
  have v454 : tk453 la = (some q0) := by rw [etk453, upd_ne _ _ nt02]; exact v438
  have v455 : tk453 lb = (some u1) := by rw [etk453, upd_ne _ _ nt12]; exact v439
  have v456 : tk453 lc = (some u2) := by rw [etk453]; exact upd_at _ _ _
  have le457 : hs444.length ≤ 3 := Nat.le_trans lq451 (Nat.succ_le_succ le441)
  have N458 := hF443 N443q
  refine Goes.by st443 ?_
  rcases hr3 with rfl | rfl | rfl
  · exact road_0 l Z az hw ws q0 q1 q2 p3 h0 n0 u1 u2 c2 Bd hx hby hml hown hZ oD la lb lc ar kA nn stp s1 s2 hn3 hst hs1 hs2 nt01 nt02 nt12 _ _ _ _ _ _ _ X443 N458 Z452 R448 I449 v454 v455 v456 (Nat.le_trans le457 (by decide))
  · exact road_1 l Z az hw ws q0 q1 q2 p3 h0 n0 u1 u2 c2 Bd hx hby hml hown hZ oD la lb lc ar kA nn stp s1 s2 hn3 hst hs1 hs2 nt01 nt02 nt12 _ _ _ _ _ _ _ X443 N458 Z452 R448 I449 v454 v455 v456 (Nat.le_trans le457 (by decide))
  · exact road_2 l Z az hw ws q0 q1 q2 p3 h0 n0 u1 u2 c2 Bd hx hby hml hown hZ oD la lb lc ar kA nn stp s1 s2 hn3 hst hs1 hs2 nt01 nt02 nt12 _ _ _ _ _ _ _ X443 N458 Z452 R448 I449 v454 v455 v456 (Nat.le_trans le457 (by decide))
theorem ef0 (m : MethodId) (x0 : Int64) (x1 : Int64) (x2 : Int64) (x3 : Int32) : entryFrame m #[(.long x0), (.long x1), (.long x2), (.int x3)] maxLocals = mkF m 0 #[.val (.long x0), .second, .val (.long x1), .second, .val (.long x2), .second, .val (.int x3), .unset, .unset, .unset, .unset, .unset, .unset, .unset, .unset, .unset, .unset, .unset, .unset, .unset, .unset, .unset, .unset, .unset, .unset, .unset, .unset, .unset, .unset, .unset, .unset, .unset] [] := by first | (simp [entryFrame, mkF, argsToLocals, Value.category, maxLocals]; done) | rfl
set_option maxRecDepth 65536 in
set_option maxHeartbeats 40000000 in
theorem rm0 (l : Launch) (Z : State) (az : Array Value) (hw : ∀ d ∈ tables_1, d.before az Z = true) (ws : List Jvm.Cond) (q0 : Int64) (q1 : Int64) (q2 : Int64) (p3 : Int32) (h0 : Heap) (n0 : Nat) (Z0 : n0 ≤ h0.size) :
    MetFree l x (head1 (Jvm.Cond.code x code maxLocals ret :: ws) room_1) (fun a U => a = #[(.long q0), (.long q1), (.long q2), (.int p3)] ∧ Z.Warmed39 U.vm ∧ U.heap = h0) (fun _ _ _ _ _ => True) (fun _ U o U' => ∃ v L, o = .returned v ∧ Q0 Z q0 q1 q2 p3 h0 n0 v U'.heap L ∧ FrameEnd U o U' L 8 21) := by
  refine MetFree.of_bodySF (plainFor_of_name own_pn_com_example_admit_one_admitone_engine_DueOrderRemovePinLaw) hisR ?_
  intro p e s m args below meth c s₁ Bd hml0 hP hK
  obtain ⟨rfl, hZ, hh⟩ := hP
  have hx := Bd.exec
  have hby := Bd.bytes
  have hml : c.maxLocals = 32 := hml0
  have hown : s.vm.findClass "com/example/admit_one/admitone/engine/DueOrderRemovePinLaw" = some m.cls := findClass_of_methodNamed Bd.named
  have hnm := (name_of_methodNamed Bd.named Bd.method).1
  have X0 : Stand p l e room_1 s m #[(.long q0), (.long q1), (.long q2), (.int p3)] below meth c s₁ [] 0 0 := Stand.of_body Bd
  have e0 : s₁.heap = h0 := by rw [← hh, Bd.state]; rfl
  have N0 := Fr.nil n0
  have Kp0 : Keep h0 h0 [] := Keep.refl _ _
  refine Goes.start ?_
  refine Goes.by (B := s₁.setTop (mkF m 0 #[.val (.long q0), .second, .val (.long q1), .second, .val (.long q2), .second, .val (.int p3), .unset, .unset, .unset, .unset, .unset, .unset, .unset, .unset, .unset, .unset, .unset, .unset, .unset, .unset, .unset, .unset, .unset, .unset, .unset, .unset, .unset, .unset, .unset, .unset, .unset] [])) (fun t k => castTop (ef0 m q0 q1 q2 p3) k) ?_
  refine Goes.by (B := s₁.setTop (mkF m 7 (sh1 q0 q1 q2 p3 q0) [(.int (p3 &&& (1 : Int32)))])) (fun t k => ?_) ?_
  · refine XS.lloadN X0.here hx rfl (hb hby at_0) rfl ?_
    refine XS.lstore X0.here hx rfl (hb hby at_1) rfl (l' := (sh1 q0 q1 q2 p3 q0)) rfl ?_
    refine XS.iload X0.here hx rfl (hb hby at_3) rfl ?_
    refine XS.iconst X0.here hx rfl (hb hby at_5) ?_
    refine XS.iand X0.here hx rfl (hb hby at_6) rfl ?_
    exact k
  refine Goes.by (B := s₁.setTop (mkF m 15 (sh1 q0 q1 q2 p3 q0) [(.long (if (p3 &&& (1 : Int32)) = (0 : Int32) then q1 else q0))])) (fun t k => ?_) ?_
  · by_cases hm1 : (p3 &&& (1 : Int32)) = (0 : Int32)
    · simp only [if_pos hm1] at k
      show Steps p.tables e below (s₁.setTop (mkF m 7 (sh1 q0 q1 q2 p3 q0) [(.int (p3 &&& (1 : Int32)))])) t
      refine XS.ifYes X0.here hx rfl (pc0 := 7) (pc' := 14) rfl (hb hby at_7) rfl ((if0 _ _).trans (teq hm1).1) (by decide) (by decide) ?_
      show Steps p.tables e below (s₁.setTop (mkF m 14 (sh1 q0 q1 q2 p3 q0) [])) t
      refine XS.lloadN X0.here hx rfl (hb hby at_14) rfl ?_
      exact k
    · simp only [if_neg hm1] at k
      show Steps p.tables e below (s₁.setTop (mkF m 7 (sh1 q0 q1 q2 p3 q0) [(.int (p3 &&& (1 : Int32)))])) t
      refine XS.ifNo X0.here hx rfl (hb hby at_7) rfl ((if0 _ _).trans (feq hm1).1) ?_
      show Steps p.tables e below (s₁.setTop (mkF m 10 (sh1 q0 q1 q2 p3 q0) [])) t
      refine XS.lloadN X0.here hx rfl (hb hby at_10) rfl ?_
      show Steps p.tables e below (s₁.setTop (mkF m 11 (sh1 q0 q1 q2 p3 q0) [(.long q0)])) t
      refine XS.goto X0.here hx rfl (pc0 := 11) (pc' := 15) rfl (hb hby at_11) (by decide) (by decide) ?_
      exact k
  refine Goes.by (B := s₁.setTop (mkF m 17 (sh2 q0 q1 q2 p3 q0 (if (p3 &&& (1 : Int32)) = (0 : Int32) then q1 else q0)) [])) (fun t k => ?_) ?_
  · refine XS.lstore X0.here hx rfl (hb hby at_15) rfl (l' := (sh2 q0 q1 q2 p3 q0 (if (p3 &&& (1 : Int32)) = (0 : Int32) then q1 else q0))) rfl ?_
    exact k
  generalize hg_u1 : (if (p3 &&& (1 : Int32)) = (0 : Int32) then q1 else q0) = u1
  refine Goes.by (B := s₁.setTop (mkF m 27 (sh3 q0 q1 q2 p3 q0 u1 ((((p3.toUInt32 >>> ((1 : Int32) &&& 31).toUInt32).toInt32) &&& (3 : Int32)) % (3 : Int32))) [])) (fun t k => ?_) ?_
  · refine XS.iload X0.here hx rfl (hb hby at_17) rfl ?_
    refine XS.iconst X0.here hx rfl (hb hby at_19) ?_
    refine XS.iushr X0.here hx rfl (hb hby at_20) rfl ?_
    refine XS.iconst X0.here hx rfl (hb hby at_21) ?_
    refine XS.iand X0.here hx rfl (hb hby at_22) rfl ?_
    refine XS.iconst X0.here hx rfl (hb hby at_23) ?_
    refine iremM X0 hx rfl (hb hby at_24) rfl (by decide) ?_
    refine XS.istore X0.here hx rfl (hb hby at_25) rfl (l' := (sh3 q0 q1 q2 p3 q0 u1 ((((p3.toUInt32 >>> ((1 : Int32) &&& 31).toUInt32).toInt32) &&& (3 : Int32)) % (3 : Int32)))) rfl ?_
    exact k
  generalize hg_c2 : ((((p3.toUInt32 >>> ((1 : Int32) &&& 31).toUInt32).toInt32) &&& (3 : Int32)) % (3 : Int32)) = c2
  refine Goes.by (fun _ => XS.iload X0.here hx rfl (hb hby at_27) rfl) ?_
  refine Goes.by (B := s₁.setTop (mkF m 50 (sh3 q0 q1 q2 p3 q0 u1 c2) [(.long (if c2 = (0 : Int32) then q2 else (if c2 = (1 : Int32) then q0 else u1)))])) (fun t k => ?_) ?_
  · by_cases hm2 : c2 = (0 : Int32)
    · simp only [if_pos hm2] at k
      show Steps p.tables e below (s₁.setTop (mkF m 29 (sh3 q0 q1 q2 p3 q0 u1 c2) [(.int c2)])) t
      refine XS.ifNo X0.here hx rfl (hb hby at_29) rfl ((if0 _ _).trans (teq hm2).2) ?_
      show Steps p.tables e below (s₁.setTop (mkF m 32 (sh3 q0 q1 q2 p3 q0 u1 c2) [])) t
      refine XS.lload X0.here hx rfl (hb hby at_32) rfl ?_
      show Steps p.tables e below (s₁.setTop (mkF m 34 (sh3 q0 q1 q2 p3 q0 u1 c2) [(.long q2)])) t
      refine XS.goto X0.here hx rfl (pc0 := 34) (pc' := 50) rfl (hb hby at_34) (by decide) (by decide) ?_
      exact k
    · by_cases hm3 : c2 = (1 : Int32)
      · simp only [if_neg hm2, if_pos hm3] at k
        show Steps p.tables e below (s₁.setTop (mkF m 29 (sh3 q0 q1 q2 p3 q0 u1 c2) [(.int c2)])) t
        refine XS.ifYes X0.here hx rfl (pc0 := 29) (pc' := 37) rfl (hb hby at_29) rfl ((if0 _ _).trans (feq hm2).2) (by decide) (by decide) ?_
        show Steps p.tables e below (s₁.setTop (mkF m 37 (sh3 q0 q1 q2 p3 q0 u1 c2) [])) t
        refine XS.iload X0.here hx rfl (hb hby at_37) rfl ?_
        show Steps p.tables e below (s₁.setTop (mkF m 39 (sh3 q0 q1 q2 p3 q0 u1 c2) [(.int c2)])) t
        refine XS.iconst X0.here hx rfl (hb hby at_39) ?_
        show Steps p.tables e below (s₁.setTop (mkF m 40 (sh3 q0 q1 q2 p3 q0 u1 c2) [(.int (1 : Int32)), (.int c2)])) t
        refine XS.icmpNo X0.here hx rfl (hb hby at_40) rfl (teq hm3).2 ?_
        show Steps p.tables e below (s₁.setTop (mkF m 43 (sh3 q0 q1 q2 p3 q0 u1 c2) [])) t
        refine XS.lload X0.here hx rfl (hb hby at_43) rfl ?_
        show Steps p.tables e below (s₁.setTop (mkF m 45 (sh3 q0 q1 q2 p3 q0 u1 c2) [(.long q0)])) t
        refine XS.goto X0.here hx rfl (pc0 := 45) (pc' := 50) rfl (hb hby at_45) (by decide) (by decide) ?_
        exact k
      · simp only [if_neg hm2, if_neg hm3] at k
        show Steps p.tables e below (s₁.setTop (mkF m 29 (sh3 q0 q1 q2 p3 q0 u1 c2) [(.int c2)])) t
        refine XS.ifYes X0.here hx rfl (pc0 := 29) (pc' := 37) rfl (hb hby at_29) rfl ((if0 _ _).trans (feq hm2).2) (by decide) (by decide) ?_
        show Steps p.tables e below (s₁.setTop (mkF m 37 (sh3 q0 q1 q2 p3 q0 u1 c2) [])) t
        refine XS.iload X0.here hx rfl (hb hby at_37) rfl ?_
        show Steps p.tables e below (s₁.setTop (mkF m 39 (sh3 q0 q1 q2 p3 q0 u1 c2) [(.int c2)])) t
        refine XS.iconst X0.here hx rfl (hb hby at_39) ?_
        show Steps p.tables e below (s₁.setTop (mkF m 40 (sh3 q0 q1 q2 p3 q0 u1 c2) [(.int (1 : Int32)), (.int c2)])) t
        refine XS.icmpYes X0.here hx rfl (pc0 := 40) (pc' := 48) rfl (hb hby at_40) rfl (feq hm3).2 (by decide) (by decide) ?_
        show Steps p.tables e below (s₁.setTop (mkF m 48 (sh3 q0 q1 q2 p3 q0 u1 c2) [])) t
        refine XS.lload X0.here hx rfl (hb hby at_48) rfl ?_
        exact k
  refine Goes.by (B := s₁.setTop (mkF m 52 (sh4 q0 q1 q2 p3 q0 u1 c2 (if c2 = (0 : Int32) then q2 else (if c2 = (1 : Int32) then q0 else u1))) [])) (fun t k => ?_) ?_
  · refine XS.lstore X0.here hx rfl (hb hby at_50) rfl (l' := (sh4 q0 q1 q2 p3 q0 u1 c2 (if c2 = (0 : Int32) then q2 else (if c2 = (1 : Int32) then q0 else u1)))) rfl ?_
    exact k
  generalize hg_u2 : (if c2 = (0 : Int32) then q2 else (if c2 = (1 : Int32) then q0 else u1)) = u2
  refine Goes.by (B := s₁.setTop (mkF m 62 (sh5 q0 q1 q2 p3 q0 u1 c2 u2 ((((p3.toUInt32 >>> ((3 : Int32) &&& 31).toUInt32).toInt32) &&& (3 : Int32)) % (3 : Int32))) [])) (fun t k => ?_) ?_
  · refine XS.iload X0.here hx rfl (hb hby at_52) rfl ?_
    refine XS.iconst X0.here hx rfl (hb hby at_54) ?_
    refine XS.iushr X0.here hx rfl (hb hby at_55) rfl ?_
    refine XS.iconst X0.here hx rfl (hb hby at_56) ?_
    refine XS.iand X0.here hx rfl (hb hby at_57) rfl ?_
    refine XS.iconst X0.here hx rfl (hb hby at_58) ?_
    refine iremM X0 hx rfl (hb hby at_59) rfl (by decide) ?_
    refine XS.istore X0.here hx rfl (hb hby at_60) rfl (l' := (sh5 q0 q1 q2 p3 q0 u1 c2 u2 ((((p3.toUInt32 >>> ((3 : Int32) &&& 31).toUInt32).toInt32) &&& (3 : Int32)) % (3 : Int32)))) rfl ?_
    exact k
  generalize hg_r : ((((p3.toUInt32 >>> ((3 : Int32) &&& 31).toUInt32).toInt32) &&& (3 : Int32)) % (3 : Int32)) = r
  refine Goes.by (B := s₁.setTop (mkF m 68 (sh5 q0 q1 q2 p3 q0 u1 c2 u2 r) [(.int (((p3.toUInt32 >>> ((5 : Int32) &&& 31).toUInt32).toInt32) &&& (1 : Int32)))])) (fun t k => ?_) ?_
  · refine XS.iload X0.here hx rfl (hb hby at_62) rfl ?_
    refine XS.iconst X0.here hx rfl (hb hby at_64) ?_
    refine XS.iushr X0.here hx rfl (hb hby at_65) rfl ?_
    refine XS.iconst X0.here hx rfl (hb hby at_66) ?_
    refine XS.iand X0.here hx rfl (hb hby at_67) rfl ?_
    exact k
  refine Goes.by (B := s₁.setTop (mkF m 76 (sh5 q0 q1 q2 p3 q0 u1 c2 u2 r) [(.int (if (((p3.toUInt32 >>> ((5 : Int32) &&& 31).toUInt32).toInt32) &&& (1 : Int32)) = (0 : Int32) then (2 : Int32) else (1 : Int32)))])) (fun t k => ?_) ?_
  · by_cases hm4 : (((p3.toUInt32 >>> ((5 : Int32) &&& 31).toUInt32).toInt32) &&& (1 : Int32)) = (0 : Int32)
    · simp only [if_pos hm4] at k
      show Steps p.tables e below (s₁.setTop (mkF m 68 (sh5 q0 q1 q2 p3 q0 u1 c2 u2 r) [(.int (((p3.toUInt32 >>> ((5 : Int32) &&& 31).toUInt32).toInt32) &&& (1 : Int32)))])) t
      refine XS.ifYes X0.here hx rfl (pc0 := 68) (pc' := 75) rfl (hb hby at_68) rfl ((if0 _ _).trans (teq hm4).1) (by decide) (by decide) ?_
      show Steps p.tables e below (s₁.setTop (mkF m 75 (sh5 q0 q1 q2 p3 q0 u1 c2 u2 r) [])) t
      refine XS.iconst X0.here hx rfl (hb hby at_75) ?_
      exact k
    · simp only [if_neg hm4] at k
      show Steps p.tables e below (s₁.setTop (mkF m 68 (sh5 q0 q1 q2 p3 q0 u1 c2 u2 r) [(.int (((p3.toUInt32 >>> ((5 : Int32) &&& 31).toUInt32).toInt32) &&& (1 : Int32)))])) t
      refine XS.ifNo X0.here hx rfl (hb hby at_68) rfl ((if0 _ _).trans (feq hm4).1) ?_
      show Steps p.tables e below (s₁.setTop (mkF m 71 (sh5 q0 q1 q2 p3 q0 u1 c2 u2 r) [])) t
      refine XS.iconst X0.here hx rfl (hb hby at_71) ?_
      show Steps p.tables e below (s₁.setTop (mkF m 72 (sh5 q0 q1 q2 p3 q0 u1 c2 u2 r) [(.int (1 : Int32))])) t
      refine XS.goto X0.here hx rfl (pc0 := 72) (pc' := 76) rfl (hb hby at_72) (by decide) (by decide) ?_
      exact k
  refine Goes.by (B := s₁.setTop (mkF m 78 (sh6 q0 q1 q2 p3 q0 u1 c2 u2 r (if (((p3.toUInt32 >>> ((5 : Int32) &&& 31).toUInt32).toInt32) &&& (1 : Int32)) = (0 : Int32) then (2 : Int32) else (1 : Int32))) [])) (fun t k => ?_) ?_
  · refine XS.istore X0.here hx rfl (hb hby at_76) rfl (l' := (sh6 q0 q1 q2 p3 q0 u1 c2 u2 r (if (((p3.toUInt32 >>> ((5 : Int32) &&& 31).toUInt32).toInt32) &&& (1 : Int32)) = (0 : Int32) then (2 : Int32) else (1 : Int32)))) rfl ?_
    exact k
  generalize hg_stp : (if (((p3.toUInt32 >>> ((5 : Int32) &&& 31).toUInt32).toInt32) &&& (1 : Int32)) = (0 : Int32) then (2 : Int32) else (1 : Int32)) = stp
  refine Goes.by (B := s₁.setTop (mkF m 91 (sh7 q0 q1 q2 p3 q0 u1 c2 u2 r stp ((1 : Int32) + ((((p3.toUInt32 >>> ((6 : Int32) &&& 31).toUInt32).toInt32) &&& (3 : Int32)) % (3 : Int32)))) [])) (fun t k => ?_) ?_
  · refine XS.iconst X0.here hx rfl (hb hby at_78) ?_
    refine XS.iload X0.here hx rfl (hb hby at_79) rfl ?_
    refine XS.bipush X0.here hx rfl (hb hby at_81) ?_
    refine XS.iushr X0.here hx rfl (hb hby at_83) rfl ?_
    refine XS.iconst X0.here hx rfl (hb hby at_84) ?_
    refine XS.iand X0.here hx rfl (hb hby at_85) rfl ?_
    refine XS.iconst X0.here hx rfl (hb hby at_86) ?_
    refine iremM X0 hx rfl (hb hby at_87) rfl (by decide) ?_
    refine XS.iadd X0.here hx rfl (hb hby at_88) rfl ?_
    refine XS.istore X0.here hx rfl (hb hby at_89) rfl (l' := (sh7 q0 q1 q2 p3 q0 u1 c2 u2 r stp ((1 : Int32) + ((((p3.toUInt32 >>> ((6 : Int32) &&& 31).toUInt32).toInt32) &&& (3 : Int32)) % (3 : Int32))))) rfl ?_
    exact k
  generalize hg_nn : ((1 : Int32) + ((((p3.toUInt32 >>> ((6 : Int32) &&& 31).toUInt32).toInt32) &&& (3 : Int32)) % (3 : Int32))) = nn
  refine Goes.by (B := s₁.setTop (mkF m 100 (sh8 q0 q1 q2 p3 q0 u1 c2 u2 r stp nn ((r + stp) % (3 : Int32))) [])) (fun t k => ?_) ?_
  · refine XS.iload X0.here hx rfl (hb hby at_91) rfl ?_
    refine XS.iload X0.here hx rfl (hb hby at_93) rfl ?_
    refine XS.iadd X0.here hx rfl (hb hby at_95) rfl ?_
    refine XS.iconst X0.here hx rfl (hb hby at_96) ?_
    refine iremM X0 hx rfl (hb hby at_97) rfl (by decide) ?_
    refine XS.istore X0.here hx rfl (hb hby at_98) rfl (l' := (sh8 q0 q1 q2 p3 q0 u1 c2 u2 r stp nn ((r + stp) % (3 : Int32)))) rfl ?_
    exact k
  generalize hg_s1 : ((r + stp) % (3 : Int32)) = s1
  refine Goes.by (B := s₁.setTop (mkF m 111 (sh9 q0 q1 q2 p3 q0 u1 c2 u2 r stp nn s1 ((r + ((2 : Int32) * stp)) % (3 : Int32))) [])) (fun t k => ?_) ?_
  · refine XS.iload X0.here hx rfl (hb hby at_100) rfl ?_
    refine XS.iconst X0.here hx rfl (hb hby at_102) ?_
    refine XS.iload X0.here hx rfl (hb hby at_103) rfl ?_
    refine XS.imul X0.here hx rfl (hb hby at_105) rfl ?_
    refine XS.iadd X0.here hx rfl (hb hby at_106) rfl ?_
    refine XS.iconst X0.here hx rfl (hb hby at_107) ?_
    refine iremM X0 hx rfl (hb hby at_108) rfl (by decide) ?_
    refine XS.istore X0.here hx rfl (hb hby at_109) rfl (l' := (sh9 q0 q1 q2 p3 q0 u1 c2 u2 r stp nn s1 ((r + ((2 : Int32) * stp)) % (3 : Int32)))) rfl ?_
    exact k
  generalize hg_s2 : ((r + ((2 : Int32) * stp)) % (3 : Int32)) = s2
  obtain ⟨T459, h459, X459, e459, E459, A459, D459, -, st459⟩ := newO X0 hx hZ hown (wq hw 0 rfl) (wq hw 1 rfl) (wq hw 2 rfl) e0 (g := (mkF m 111 (sh9 q0 q1 q2 p3 q0 u1 c2 u2 r stp nn s1 s2) [])) rfl (hb hby at_111) (by decide) (by decide)
  obtain ⟨b460, g459⟩ : ∃ z, z = h0.size := ⟨_, rfl⟩
  rw [← g459] at A459 D459 st459
  have ge461 : n0 ≤ b460 := Nat.le_trans Z0 (Nat.le_of_eq g459.symm)
  have sz462 : h0.size ≤ b460 := Nat.le_trans Kp0.1 (Nat.le_of_eq g459.symm)
  have f463 : Fld Z h459 b460 cD "heads" dA .null := D459 (Or.inl (wq hw 12 rfl)) (ty := (.array (.object cH))) (by decide)
  have f464 : Fld Z h459 b460 cD "count" "I" (.int (0 : Int32)) := D459 (Or.inl (wq hw 30 rfl)) (ty := .int) (by decide)
  have Kp459 : Keep h0 h459 [] := Kp0.ext E459
  have Z465 := Nat.le_trans Z0 E459.1
  refine Goes.by st459 ?_
  refine Goes.by (fun _ => XS.dup X459.here hx rfl (hb hby at_114) rfl rfl) ?_
  obtain ⟨_, T466, L466, Lc466, X466, hF466, hQ466, st466⟩ := own_ci X459 hx hZ rfl hown (wq hw 3 rfl) (wq hw 4 rfl) (wq hw 2 rfl) (wq hw 5 rfl) (rmDueI l Z az hw [] b460 h459 n0 Z465 A459 f463 f464 ge461) (W := 1) (g := (mkF m 115 (sh9 q0 q1 q2 p3 q0 u1 c2 u2 r stp nn s1 s2) [(.ref b460), (.ref b460)])) rfl (by rw [hml]; rfl) (argsL := []) (rest := [(.ref b460)]) rfl (lenOf own_pd0 rfl) rfl (hb hby at_115) e459 N0 (c' := 2) (s' := 6)
  obtain ⟨b467, c468, rfl, N466q, K466, sz474, f469, f470, f471, f472, f473⟩ := hQ466
  have ne475 : b460 ≠ b467 := Nat.ne_of_lt (Nat.lt_of_lt_of_le A459.lt sz474)
  have ge476 : n0 ≤ b467 := Nat.le_trans Z465 sz474
  have sz477 : h0.size ≤ b467 := Nat.le_trans Kp459.1 sz474
  have f478 := A459.keep K466
  have Kp466 : Keep h0 T466.heap [] := Kp459.trans K466 (allS (Or.inr sz462) all0)
  have Z479 := Nat.le_trans Z465 K466.1
  have N480 := hF466 N466q
  refine Goes.by st466 ?_
  refine Goes.by (fun _ => XS.astore X466.here hx rfl (hb hby at_118) rfl rfl (l' := (sh19 q0 q1 q2 p3 q0 u1 c2 u2 r stp nn s1 s2 b460)) rfl) ?_
  obtain ⟨T481, h481, X481, e481, E481, A481, D481, -, st481⟩ := newO X466 hx hZ hown (wq hw 13 rfl) (wq hw 14 rfl) (wq hw 15 rfl) rfl (g := (mkF m 120 (sh19 q0 q1 q2 p3 q0 u1 c2 u2 r stp nn s1 s2 b460) [])) rfl (hb hby at_120) (by decide) (by decide)
  obtain ⟨b482, g481⟩ : ∃ z, z = T466.heap.size := ⟨_, rfl⟩
  rw [← g481] at A481 D481 st481
  have ne483 : b460 ≠ b482 := Nat.ne_of_lt (Nat.lt_of_lt_of_le f469.lt (Nat.le_of_eq g481.symm))
  have ne484 : b467 ≠ b482 := Nat.ne_of_lt (Nat.lt_of_lt_of_le f472.lt (Nat.le_of_eq g481.symm))
  have ge485 : n0 ≤ b482 := Nat.le_trans Z479 (Nat.le_of_eq g481.symm)
  have sz486 : h0.size ≤ b482 := Nat.le_trans Kp466.1 (Nat.le_of_eq g481.symm)
  have f487 := f469.ext E481
  have f488 := f470.ext E481
  have f489 := f471.ext E481
  have f490 := f472.ext E481
  have f491 : Fld Z h481 b482 cL "prev" dL .null := D481 (Or.inl (wq hw 54 rfl)) (ty := (.object cL)) (by decide)
  have f492 : Fld Z h481 b482 cL "next" dL .null := D481 (Or.inl (wq hw 56 rfl)) (ty := (.object cL)) (by decide)
  have Kp481 : Keep h0 h481 [] := Kp466.ext E481
  have Z493 := Nat.le_trans Z479 E481.1
  refine Goes.by st481 ?_
  refine Goes.by (fun _ => XS.dup X481.here hx rfl (hb hby at_123) rfl rfl) ?_
  obtain ⟨_, T494, L494, Lc494, X494, hF494, hQ494, st494⟩ := own_ci X481 hx hZ rfl hown (wq hw 16 rfl) (wq hw 17 rfl) (wq hw 15 rfl) (wq hw 18 rfl) (rmLinkI l Z az hw [] b482 h481 n0 Z493 ) (W := 1) (g := (mkF m 124 (sh19 q0 q1 q2 p3 q0 u1 c2 u2 r stp nn s1 s2 b460) [(.ref b482), (.ref b482)])) rfl (by rw [hml]; rfl) (argsL := []) (rest := [(.ref b482)]) rfl (lenOf own_pd0 rfl) rfl (hb hby at_124) e481 N480 (c' := 3) (s' := 8)
  obtain ⟨rfl, N494q, e494⟩ := hQ494
  have N495 := hF494 N494q
  refine Goes.by st494 ?_
  refine Goes.by (fun _ => XS.astore X494.here hx rfl (hb hby at_127) rfl rfl (l' := (sh20 q0 q1 q2 p3 q0 u1 c2 u2 r stp nn s1 s2 b460 b482)) rfl) ?_
  obtain ⟨T496, h496, X496, e496, E496, A496, D496, -, st496⟩ := newO X494 hx hZ hown (wq hw 13 rfl) (wq hw 14 rfl) (wq hw 15 rfl) e494 (g := (mkF m 129 (sh20 q0 q1 q2 p3 q0 u1 c2 u2 r stp nn s1 s2 b460 b482) [])) rfl (hb hby at_129) (by decide) (by decide)
  obtain ⟨b497, g496⟩ : ∃ z, z = h481.size := ⟨_, rfl⟩
  rw [← g496] at A496 D496 st496
  have ne498 : b460 ≠ b497 := Nat.ne_of_lt (Nat.lt_of_lt_of_le f487.lt (Nat.le_of_eq g496.symm))
  have ne499 : b467 ≠ b497 := Nat.ne_of_lt (Nat.lt_of_lt_of_le f490.lt (Nat.le_of_eq g496.symm))
  have ne500 : b482 ≠ b497 := Nat.ne_of_lt (Nat.lt_of_lt_of_le A481.lt (Nat.le_of_eq g496.symm))
  have ge501 : n0 ≤ b497 := Nat.le_trans Z493 (Nat.le_of_eq g496.symm)
  have sz502 : h0.size ≤ b497 := Nat.le_trans Kp481.1 (Nat.le_of_eq g496.symm)
  have f503 := f487.ext E496
  have f504 := f488.ext E496
  have f505 := f489.ext E496
  have f506 := f490.ext E496
  have f507 := A481.ext E496
  have f508 := f491.ext E496
  have f509 := f492.ext E496
  have f510 : Fld Z h496 b497 cL "prev" dL .null := D496 (Or.inl (wq hw 54 rfl)) (ty := (.object cL)) (by decide)
  have f511 : Fld Z h496 b497 cL "next" dL .null := D496 (Or.inl (wq hw 56 rfl)) (ty := (.object cL)) (by decide)
  have Kp496 : Keep h0 h496 [] := Kp481.ext E496
  have Z512 := Nat.le_trans Z493 E496.1
  refine Goes.by st496 ?_
  refine Goes.by (fun _ => XS.dup X496.here hx rfl (hb hby at_132) rfl rfl) ?_
  obtain ⟨_, T513, L513, Lc513, X513, hF513, hQ513, st513⟩ := own_ci X496 hx hZ rfl hown (wq hw 16 rfl) (wq hw 17 rfl) (wq hw 15 rfl) (wq hw 18 rfl) (rmLinkI l Z az hw [] b497 h496 n0 Z512 ) (W := 1) (g := (mkF m 133 (sh20 q0 q1 q2 p3 q0 u1 c2 u2 r stp nn s1 s2 b460 b482) [(.ref b497), (.ref b497)])) rfl (by rw [hml]; rfl) (argsL := []) (rest := [(.ref b497)]) rfl (lenOf own_pd0 rfl) rfl (hb hby at_133) e496 N495 (c' := 4) (s' := 10)
  obtain ⟨rfl, N513q, e513⟩ := hQ513
  have N514 := hF513 N513q
  refine Goes.by st513 ?_
  refine Goes.by (fun _ => XS.astore X513.here hx rfl (hb hby at_136) rfl rfl (l' := (sh21 q0 q1 q2 p3 q0 u1 c2 u2 r stp nn s1 s2 b460 b482 b497)) rfl) ?_
  obtain ⟨T515, h515, X515, e515, E515, A515, D515, -, st515⟩ := newO X513 hx hZ hown (wq hw 13 rfl) (wq hw 14 rfl) (wq hw 15 rfl) e513 (g := (mkF m 138 (sh21 q0 q1 q2 p3 q0 u1 c2 u2 r stp nn s1 s2 b460 b482 b497) [])) rfl (hb hby at_138) (by decide) (by decide)
  obtain ⟨b516, g515⟩ : ∃ z, z = h496.size := ⟨_, rfl⟩
  rw [← g515] at A515 D515 st515
  have ne517 : b460 ≠ b516 := Nat.ne_of_lt (Nat.lt_of_lt_of_le f503.lt (Nat.le_of_eq g515.symm))
  have ne518 : b467 ≠ b516 := Nat.ne_of_lt (Nat.lt_of_lt_of_le f506.lt (Nat.le_of_eq g515.symm))
  have ne519 : b482 ≠ b516 := Nat.ne_of_lt (Nat.lt_of_lt_of_le f507.lt (Nat.le_of_eq g515.symm))
  have ne520 : b497 ≠ b516 := Nat.ne_of_lt (Nat.lt_of_lt_of_le A496.lt (Nat.le_of_eq g515.symm))
  have ge521 : n0 ≤ b516 := Nat.le_trans Z512 (Nat.le_of_eq g515.symm)
  have sz522 : h0.size ≤ b516 := Nat.le_trans Kp496.1 (Nat.le_of_eq g515.symm)
  have f523 := f503.ext E515
  have f524 := f504.ext E515
  have f525 := f505.ext E515
  have f526 := f506.ext E515
  have f527 := f507.ext E515
  have f528 := f508.ext E515
  have f529 := f509.ext E515
  have f530 := A496.ext E515
  have f531 := f510.ext E515
  have f532 := f511.ext E515
  have f533 : Fld Z h515 b516 cL "prev" dL .null := D515 (Or.inl (wq hw 54 rfl)) (ty := (.object cL)) (by decide)
  have f534 : Fld Z h515 b516 cL "next" dL .null := D515 (Or.inl (wq hw 56 rfl)) (ty := (.object cL)) (by decide)
  have Kp515 : Keep h0 h515 [] := Kp496.ext E515
  have Z535 := Nat.le_trans Z512 E515.1
  refine Goes.by st515 ?_
  refine Goes.by (fun _ => XS.dup X515.here hx rfl (hb hby at_141) rfl rfl) ?_
  obtain ⟨_, T536, L536, Lc536, X536, hF536, hQ536, st536⟩ := own_ci X515 hx hZ rfl hown (wq hw 16 rfl) (wq hw 17 rfl) (wq hw 15 rfl) (wq hw 18 rfl) (rmLinkI l Z az hw [] b516 h515 n0 Z535 ) (W := 1) (g := (mkF m 142 (sh21 q0 q1 q2 p3 q0 u1 c2 u2 r stp nn s1 s2 b460 b482 b497) [(.ref b516), (.ref b516)])) rfl (by rw [hml]; rfl) (argsL := []) (rest := [(.ref b516)]) rfl (lenOf own_pd0 rfl) rfl (hb hby at_142) e515 N514 (c' := 5) (s' := 12)
  obtain ⟨rfl, N536q, e536⟩ := hQ536
  have N537 := hF536 N536q
  refine Goes.by st536 ?_
  refine Goes.by (fun _ => XS.astore X536.here hx rfl (hb hby at_145) rfl rfl (l' := (sh16 q0 q1 q2 p3 q0 u1 c2 u2 r stp nn s1 s2 b460 b482 b497 b516)) rfl) ?_
  have R538 : Rep Z h515 n0 b460 b467 c468 [] (fun _ => 0) (fun _ => .null) (fun _ => .null) [b482, b497, b516] := by
    refine ⟨f523, f524, f525, f526, f473, ge461, ge476, (fun _ q => nomatch q), (fun y hy => ?_)⟩
    simp only [List.mem_cons, List.not_mem_nil, or_false] at hy
    rcases hy with e | e | e
    · rw [e]; exact ⟨ge485, f527, f529, f528⟩
    · rw [e]; exact ⟨ge501, f530, f532, f531⟩
    · rw [e]; exact ⟨ge521, A515, f534, f533⟩
  have I539 : Inv [] (fun _ => 0) (fun _ => .null) (fun _ => .null) [b482, b497, b516] (fun _ => none) := Inv.none _
  obtain ⟨tk540, etk540⟩ : ∃ z : Addr → Option Int64, z = (fun _ => none) := ⟨_, rfl⟩
  rw [← etk540] at I539
  have v541 : tk540 b482 = none := by rw [etk540]
  have v542 : tk540 b497 = none := by rw [etk540]
  have v543 : tk540 b516 = none := by rw [etk540]
  have le544 : ([] : List Addr).length ≤ 0 := Nat.le_refl _
  exact road l Z az hw ws q0 q1 q2 p3 h0 n0 u1 u2 c2 Bd hx hby hml hown hZ b460 b482 b497 b516 b467 c468 r (own_rem3 _ r hg_r) nn stp s1 s2 (own_n3 _ nn hg_nn) (own_stp _ stp hg_stp) hg_s1 hg_s2 ne500 ne519 ne520 _ _ _ _ _ _ _ X536 N537 (by rw [e536]; exact Z535) (by rw [e536]; exact R538) I539 v541 v542 v543 (Nat.le_trans le544 (by decide))
set_option maxRecDepth 65536 in
set_option maxHeartbeats 40000000 in
theorem comes_1 {Post : Tables → Env → Array Value → State → Outcome → State → Prop} (hpost : ∀ tb e args s v u, (limb_1_1.after args s (.returned v) u = true ∧ limb_1_2.after args s (.returned v) u = true ∧ True) → FrameEnd s (.returned v) u (Jvm.fieldLocs frame_1_writes args s ++ Jvm.arrayLocs frame_1_arrays args s ++ Jvm.staticLocs frame_1_statics s) 24 128 → Post tb e args s (.returned v) u) :
    ArmFor flags0 classFile x code maxLocals ret World_1 tables_1 room_1 Calls_1 rest_1 Pre_1 Post := by
  intro l hfl _ _ p e ha hc hk s m args below hf hA hF happ hP
  obtain ⟨hcalls, hrest, hpre⟩ := hP
  obtain ⟨-, -, -, hnamed, -, -, -, hat⟩ := (Spec.applies_iff hf).mp happ
  obtain ⟨hg, hn⟩ := and_e (Cond.before_iff.mp (show (Jvm.Cond.and given_1 narrow_1).before args s = true from hpre))
  obtain ⟨gg1, gg2⟩ := and_e hg
  obtain ⟨gg3, gg4⟩ := and_e gg2
  obtain ⟨gg5, gg6⟩ := and_e gg4
  obtain ⟨gg7, gg8⟩ := and_e gg6
  obtain ⟨w0, w1, w2, w3, rfl⟩ : ∃ w0 w1 w2 w3 : Value, args = #[w0, w1, w2, w3] := by
    have hs : args.size = 4 := by simpa [Cond.value, given_1] using gg1
    obtain ⟨L⟩ := args
    match L, hs with
    | [w0, w1, w2, w3], _ => exact ⟨w0, w1, w2, w3, rfl⟩
  have hw := fun d (hd : d ∈ tables_1) => atoms_spec (ws := Jvm.Cond.code x code maxLocals ret :: tables_1) hat d (List.mem_cons_of_mem _ hd)
  have hfit : Fit s := fun {y c} hc i hi => by
    obtain ⟨ha, rfl⟩ := Array.getElem?_eq_some_iff.mp hc
    have q := List.all_eq_true.mp ((Array.all_eq_true_iff_forall_mem.mp hF) _ (Array.getElem_mem ha)) i (List.mem_range.mpr hi)
    simpa [Array.getElem?_eq_getElem hi] using q
  obtain ⟨i0, ei0⟩ := isL_v gg3
  obtain rfl : w0 = (.long i0) := Option.some.inj ei0
  obtain ⟨i1, ei1⟩ := isL_v gg5
  obtain rfl : w1 = (.long i1) := Option.some.inj ei1
  obtain ⟨i2, ei2⟩ := isL_v gg7
  obtain rfl : w2 = (.long i2) := Option.some.inj ei2
  obtain ⟨i3, ei3⟩ := is_v gg8
  obtain rfl : w3 = (.int i3) := Option.some.inj ei3
  obtain ⟨n, o, h1, h2, h3, _, L, rfl, ⟨rfl, N⟩, hq⟩ := rm0 l s _ hw tables_1 i0 i1 i2 i3 s.heap s.heap.size (Nat.le_refl _)  p e ha hc hk s m _ below hf ((Spec.applies_iff_loose hf).mp happ).1 ⟨rfl, State.Warmed39.refl s, rfl⟩ trivial
  refine ⟨n, _, h1, h2, h3, hpost _ _ _ _ _ _ ⟨Cond.after_iff.mpr rfl, Cond.after_iff.mpr (eq_i res_at (Term.int_eval (1)) rfl), trivial⟩ ⟨hq.1, hq.2.1, (hq.2.2.sift fun y hy => Or.inr (N y hy)).mono (by decide) (by decide)⟩⟩
theorem main_1_1 : Claimed_1_1 := comes_1 fun _ _ _ _ _ _ h hF => ⟨h.1, hF⟩
theorem main_1_2 : Claimed_1_2 := comes_1 fun _ _ _ _ _ _ h hF => ⟨h.2.1, hF⟩
end Jvm.Pilot.@@N@@
namespace Jvm.Pilot.@@N@@
open Jvm Jvm.ClassFile Sem Op Lib Jvm.Free Jvm.Stand Jvm.Pilot.@@N@@.Jvm.D
/-! MADE BY PROGRAM (witnessworld.py) out of the Statement's table words and the real class files: 14 classes; the members and pool entries that the words name. The judged class is class 1, her method 1. -/
namespace start1
open Jvm.ClassFile
def u (s : String) : CpInfo := .utf8 (stringToUtf16 s)
/-- a pool by its gaps: so many unusable entries, then the entry; so many at the end -/
def gap : Nat → List CpInfo → List CpInfo
  | 0, r => r
  | n + 1, r => .unusable :: gap n r
def poolList (es : List (Nat × CpInfo)) (last : Nat) : List CpInfo := es.foldr (fun e r => gap e.1 (e.2 :: r)) (gap last [])
def pool (es : List (Nat × CpInfo)) (last : Nat) : Array CpInfo := ⟨poolList es last⟩
def fileOf (pool : Array CpInfo) (this : Nat) (attrs : Array Attribute := #[]) (ms : Array MethodInfo := #[]) (fl : Nat := 33) (sup : Nat := 0) (ifs : Array Nat := #[]) (fds : Array FieldInfo := #[]) : ClassFile where
  minorVersion := 0
  majorVersion := 65
  constantPool := pool
  accessFlags := fl
  thisClass := this
  superClass := sup
  interfaces := ifs
  fields := fds
  methods := ms
  attributes := attrs
def plain (name : String) (sup : Option ClassId) : Class where
  name := name
  kind := .ordinary
  loader := none
  accessFlags := 33
  super := sup
  interfaces := #[]
  cf := none
  fields := #[]
  methods := #[]
  instanceTypes := #[]
  staticTypes := #[]
  resolved := #[]
  callSites := []
  init := .initialized
  statics := none
  mirror := none

def pool0 : Array CpInfo := pool [(5, u "<init>"), (0, u "()V"), (1, .class_ 10), (1, u "java/lang/Object")] 113

def k0c0 : Code := { maxStack := 0, maxLocals := 1, code := object_method_1_code, exceptionTable := #[], attributes := #[] }
def k0m0 : Method := { name := "<init>", desc := "()V", sig := { parameters := [], returnType := none }, accessFlags := 1, code := some k0c0 }
/-- java/lang/Object -/
def k0 : Class := { plain "java/lang/Object" none with
  accessFlags := 33
  interfaces := #[]
  cf := some (fileOf pool0 8 #[] #[{ accessFlags := 1, nameIndex := 5, descriptorIndex := 6, attributes := #[] }] 33 0 #[] #[])
  fields := #[]
  methods := #[k0m0]
  instanceTypes := #[]
  staticTypes := #[]
  resolved := Array.replicate 124 none
  statics := none }

def pool1 : Array CpInfo := pool [(2, .class_ 4), (0, .nameAndType 5 6), (0, u "java/lang/Object"), (0, u "<init>"), (0, u "()V"), (0, .class_ 8), (0, u "com/example/admit_one/admitone/engine/DueOrder"), (0, .methodref 7 3), (0, .class_ 11), (0, u "com/example/admit_one/admitone/engine/DueOrder$Link"), (0, .methodref 10 3), (0, .methodref 7 14), (0, .nameAndType 15 16), (0, u "file"), (0, u "(Lcom/example/admit_one/admitone/engine/DueOrder$Link;J)V"), (0, .methodref 18 19), (0, .class_ 20), (0, .nameAndType 21 22), (0, u "com/example/admit_one/admitone/engine/DueOrderRemovePinLaw"), (0, u "pick"), (0, u "(Lcom/example/admit_one/admitone/engine/DueOrder$Link;Lcom/example/admit_one/admitone/engine/DueOrder$Link;Lcom/example/admit_one/admitone/engine/DueOrder$Link;I)Lcom/example/admit_one/admitone/engine/DueOrder$Link;"), (0, .methodref 7 24), (0, .nameAndType 25 26), (0, u "remove"), (0, u "(Lcom/example/admit_one/admitone/engine/DueOrder$Link;)V"), (2, .long 9223372036854775807), (1, .methodref 32 33), (0, .class_ 34), (0, .nameAndType 35 36), (0, u "java/lang/Math"), (0, u "min"), (0, u "(JJ)J"), (0, .methodref 7 38), (0, .nameAndType 39 40), (0, u "isFiled"), (0, u "(Lcom/example/admit_one/admitone/engine/DueOrder$Link;)Z"), (0, .methodref 7 42), (0, .nameAndType 43 44), (0, u "ticks"), (0, u "()I"), (0, .methodref 7 46), (0, .nameAndType 47 48), (0, u "firstTick"), (0, u "()J"), (2, u "law"), (0, u "(JJJI)Z")] 5

def k1m0 : Method := { name := "<init>", desc := "()V", sig := { parameters := [], returnType := none }, accessFlags := 1, code := none }
def k1c1 : Code := { maxStack := 5, maxLocals := 32, code := code, exceptionTable := #[], attributes := #[] }
def k1m1 : Method := { name := "law", desc := "(JJJI)Z", sig := { parameters := [.long, .long, .long, .int], returnType := some .boolean }, accessFlags := 9, code := some k1c1 }
def k1c2 : Code := { maxStack := 2, maxLocals := 4, code := method_3_code, exceptionTable := #[], attributes := #[] }
def k1m2 : Method := { name := "pick", desc := "(Lcom/example/admit_one/admitone/engine/DueOrder$Link;Lcom/example/admit_one/admitone/engine/DueOrder$Link;Lcom/example/admit_one/admitone/engine/DueOrder$Link;I)Lcom/example/admit_one/admitone/engine/DueOrder$Link;", sig := { parameters := [(.object "com/example/admit_one/admitone/engine/DueOrder$Link"), (.object "com/example/admit_one/admitone/engine/DueOrder$Link"), (.object "com/example/admit_one/admitone/engine/DueOrder$Link"), .int], returnType := some (.object "com/example/admit_one/admitone/engine/DueOrder$Link") }, accessFlags := 10, code := some k1c2 }
/-- com/example/admit_one/admitone/engine/DueOrderRemovePinLaw -/
def k1 : Class := { plain "com/example/admit_one/admitone/engine/DueOrderRemovePinLaw" (some 0) with
  accessFlags := 49
  interfaces := #[]
  cf := some (fileOf pool1 18 #[] #[{ accessFlags := 1, nameIndex := 5, descriptorIndex := 6, attributes := #[] }, { accessFlags := 9, nameIndex := 51, descriptorIndex := 52, attributes := #[] }, { accessFlags := 10, nameIndex := 21, descriptorIndex := 22, attributes := #[] }] 49 2 #[] #[])
  fields := #[]
  methods := #[k1m0, k1m1, k1m2]
  instanceTypes := #[]
  staticTypes := #[]
  resolved := Array.replicate 58 none
  statics := none }

def pool2 : Array CpInfo := pool [(1, .methodref 2 3), (0, .class_ 4), (0, .nameAndType 5 6), (0, u "java/lang/Object"), (0, u "<init>"), (0, u "()V"), (0, .class_ 8), (0, u "com/example/admit_one/admitone/engine/DueOrder"), (0, .class_ 10), (0, u "com/example/admit_one/admitone/engine/DueOrder$Head"), (0, .fieldref 7 12), (0, .nameAndType 13 14), (0, u "heads"), (0, u "[Lcom/example/admit_one/admitone/engine/DueOrder$Head;"), (0, .fieldref 7 16), (0, .nameAndType 17 18), (0, u "count"), (0, u "I"), (2, .long 9223372036854775807), (1, .fieldref 9 24), (0, .nameAndType 25 26), (0, u "tick"), (0, u "J"), (0, .fieldref 28 29), (0, .class_ 30), (0, .nameAndType 31 32), (0, u "com/example/admit_one/admitone/engine/DueOrder$Link"), (0, u "next"), (0, u "Lcom/example/admit_one/admitone/engine/DueOrder$Link;"), (0, .methodref 7 34), (0, .nameAndType 35 36), (0, u "headOf"), (0, u "(J)Lcom/example/admit_one/admitone/engine/DueOrder$Head;"), (0, .fieldref 28 38), (0, .nameAndType 39 32), (0, u "prev"), (0, .methodref 7 41), (0, .nameAndType 42 43), (0, u "drop"), (0, u "(Lcom/example/admit_one/admitone/engine/DueOrder$Head;)V"), (0, .methodref 7 45), (0, .nameAndType 46 47), (0, u "dueBy"), (0, u "(J)I"), (7, .methodref 56 57), (0, .class_ 58), (0, .nameAndType 59 60), (0, u "java/lang/System"), (0, u "arraycopy"), (0, u "(Ljava/lang/Object;ILjava/lang/Object;II)V"), (4, .methodref 7 66), (0, .nameAndType 67 6), (0, u "shrinkIfSparse"), (6, .methodref 9 75), (0, .nameAndType 5 76), (0, u "(J)V"), (0, u "MIN_CAPACITY"), (4, u "ticks"), (0, u "()I"), (0, u "firstTick"), (0, u "()J"), (1, u "isFiled"), (0, u "(Lcom/example/admit_one/admitone/engine/DueOrder$Link;)Z"), (0, u "file"), (0, u "(Lcom/example/admit_one/admitone/engine/DueOrder$Link;J)V"), (0, u "remove"), (0, u "(Lcom/example/admit_one/admitone/engine/DueOrder$Link;)V")] 10

def k2c0 : Code := { maxStack := 2, maxLocals := 1, code := prog_4_method_1_code, exceptionTable := #[], attributes := #[] }
def k2m0 : Method := { name := "<init>", desc := "()V", sig := { parameters := [], returnType := none }, accessFlags := 0, code := some k2c0 }
def k2c1 : Code := { maxStack := 1, maxLocals := 1, code := prog_4_method_2_code, exceptionTable := #[], attributes := #[] }
def k2m1 : Method := { name := "ticks", desc := "()I", sig := { parameters := [], returnType := some .int }, accessFlags := 0, code := some k2c1 }
def k2c2 : Code := { maxStack := 2, maxLocals := 1, code := prog_4_method_3_code, exceptionTable := #[], attributes := #[] }
def k2m2 : Method := { name := "firstTick", desc := "()J", sig := { parameters := [], returnType := some .long }, accessFlags := 0, code := some k2c2 }
def k2c3 : Code := { maxStack := 1, maxLocals := 1, code := prog_4_method_4_code, exceptionTable := #[], attributes := #[] }
def k2m3 : Method := { name := "isFiled", desc := "(Lcom/example/admit_one/admitone/engine/DueOrder$Link;)Z", sig := { parameters := [(.object "com/example/admit_one/admitone/engine/DueOrder$Link")], returnType := some .boolean }, accessFlags := 8, code := some k2c3 }
def k2c4 : Code := { maxStack := 3, maxLocals := 5, code := prog_4_method_5_code, exceptionTable := #[], attributes := #[] }
def k2m4 : Method := { name := "file", desc := "(Lcom/example/admit_one/admitone/engine/DueOrder$Link;J)V", sig := { parameters := [(.object "com/example/admit_one/admitone/engine/DueOrder$Link"), .long], returnType := none }, accessFlags := 0, code := some k2c4 }
def k2c5 : Code := { maxStack := 2, maxLocals := 3, code := prog_4_method_6_code, exceptionTable := #[], attributes := #[] }
def k2m5 : Method := { name := "remove", desc := "(Lcom/example/admit_one/admitone/engine/DueOrder$Link;)V", sig := { parameters := [(.object "com/example/admit_one/admitone/engine/DueOrder$Link")], returnType := none }, accessFlags := 0, code := some k2c5 }
def k2c6 : Code := { maxStack := 6, maxLocals := 5, code := prog_4_method_8_code, exceptionTable := #[], attributes := #[] }
def k2m6 : Method := { name := "headOf", desc := "(J)Lcom/example/admit_one/admitone/engine/DueOrder$Head;", sig := { parameters := [.long], returnType := some (.object "com/example/admit_one/admitone/engine/DueOrder$Head") }, accessFlags := 2, code := some k2c6 }
def k2c7 : Code := { maxStack := 6, maxLocals := 3, code := prog_4_method_9_code, exceptionTable := #[], attributes := #[] }
def k2m7 : Method := { name := "drop", desc := "(Lcom/example/admit_one/admitone/engine/DueOrder$Head;)V", sig := { parameters := [(.object "com/example/admit_one/admitone/engine/DueOrder$Head")], returnType := none }, accessFlags := 2, code := some k2c7 }
def k2c8 : Code := { maxStack := 4, maxLocals := 6, code := prog_4_method_10_code, exceptionTable := #[], attributes := #[] }
def k2m8 : Method := { name := "dueBy", desc := "(J)I", sig := { parameters := [.long], returnType := some .int }, accessFlags := 2, code := some k2c8 }
def k2c9 : Code := { maxStack := 3, maxLocals := 2, code := prog_4_method_11_code, exceptionTable := #[], attributes := #[] }
def k2m9 : Method := { name := "shrinkIfSparse", desc := "()V", sig := { parameters := [], returnType := none }, accessFlags := 2, code := some k2c9 }
/-- com/example/admit_one/admitone/engine/DueOrder -/
def k2 : Class := { plain "com/example/admit_one/admitone/engine/DueOrder" (some 0) with
  accessFlags := 32
  interfaces := #[]
  cf := some (fileOf pool2 7 #[.nestMembers #[9, 28]] #[{ accessFlags := 0, nameIndex := 5, descriptorIndex := 6, attributes := #[] }, { accessFlags := 0, nameIndex := 82, descriptorIndex := 83, attributes := #[] }, { accessFlags := 0, nameIndex := 84, descriptorIndex := 85, attributes := #[] }, { accessFlags := 8, nameIndex := 87, descriptorIndex := 88, attributes := #[] }, { accessFlags := 0, nameIndex := 89, descriptorIndex := 90, attributes := #[] }, { accessFlags := 0, nameIndex := 91, descriptorIndex := 92, attributes := #[] }, { accessFlags := 2, nameIndex := 35, descriptorIndex := 36, attributes := #[] }, { accessFlags := 2, nameIndex := 42, descriptorIndex := 43, attributes := #[] }, { accessFlags := 2, nameIndex := 46, descriptorIndex := 47, attributes := #[] }, { accessFlags := 2, nameIndex := 67, descriptorIndex := 6, attributes := #[] }] 32 2 #[] #[{ accessFlags := 26, nameIndex := 77, descriptorIndex := 18, attributes := #[] }, { accessFlags := 2, nameIndex := 13, descriptorIndex := 14, attributes := #[] }, { accessFlags := 2, nameIndex := 17, descriptorIndex := 18, attributes := #[] }])
  fields := #[{ name := "MIN_CAPACITY", type := .int, accessFlags := 26, slot := 0, constantValue := 0 }, { name := "heads", type := (.array (.object "com/example/admit_one/admitone/engine/DueOrder$Head")), accessFlags := 2, slot := 0, constantValue := 0 }, { name := "count", type := .int, accessFlags := 2, slot := 1, constantValue := 0 }]
  methods := #[k2m0, k2m1, k2m2, k2m3, k2m4, k2m5, k2m6, k2m7, k2m8, k2m9]
  instanceTypes := #[(.array (.object "com/example/admit_one/admitone/engine/DueOrder$Head")), .int]
  staticTypes := #[.int]
  resolved := #[none, none, none, none, none, none, none, none, none, none, none, none, none, none, none, none, none, none, none, none, none, none, none, some (.field 4 0), none, none, none, some (.field 3 0), none, none, none, none, none, none, none, none, none, some (.field 3 1), none, none, none, none, none, none, none, none, none, none, none, none, none, none, none, none, none, none, none, none, none, none, none, none, none, none, none, none, none, none, none, none, none, none, none, none, none, none, none, none, none, none, none, none, none, none, none, none, none, none, none, none, none, none, none, none, none, none, none, none, none, none, none, none, none]
  statics := none }

def pool3 : Array CpInfo := pool [(1, .methodref 2 3), (0, .class_ 4), (0, .nameAndType 5 6), (0, u "java/lang/Object"), (0, u "<init>"), (0, u "()V"), (0, .class_ 8), (0, u "com/example/admit_one/admitone/engine/DueOrder$Link"), (0, u "next"), (0, u "Lcom/example/admit_one/admitone/engine/DueOrder$Link;"), (0, u "prev"), (5, .class_ 18), (0, u "com/example/admit_one/admitone/engine/DueOrder")] 2

def k3c0 : Code := { maxStack := 1, maxLocals := 1, code := prog_6_method_1_code, exceptionTable := #[], attributes := #[] }
def k3m0 : Method := { name := "<init>", desc := "()V", sig := { parameters := [], returnType := none }, accessFlags := 0, code := some k3c0 }
/-- com/example/admit_one/admitone/engine/DueOrder$Link -/
def k3 : Class := { plain "com/example/admit_one/admitone/engine/DueOrder$Link" (some 0) with
  accessFlags := 32
  interfaces := #[]
  cf := some (fileOf pool3 7 #[.nestHost 17] #[{ accessFlags := 0, nameIndex := 5, descriptorIndex := 6, attributes := #[] }] 32 2 #[] #[{ accessFlags := 2, nameIndex := 9, descriptorIndex := 10, attributes := #[] }, { accessFlags := 2, nameIndex := 11, descriptorIndex := 10, attributes := #[] }])
  fields := #[{ name := "next", type := (.object "com/example/admit_one/admitone/engine/DueOrder$Link"), accessFlags := 2, slot := 0, constantValue := 0 }, { name := "prev", type := (.object "com/example/admit_one/admitone/engine/DueOrder$Link"), accessFlags := 2, slot := 1, constantValue := 0 }]
  methods := #[k3m0]
  instanceTypes := #[(.object "com/example/admit_one/admitone/engine/DueOrder$Link"), (.object "com/example/admit_one/admitone/engine/DueOrder$Link")]
  staticTypes := #[]
  resolved := Array.replicate 21 none
  statics := none }

def pool4 : Array CpInfo := pool [(1, .methodref 2 3), (0, .class_ 4), (0, .nameAndType 5 6), (0, u "com/example/admit_one/admitone/engine/DueOrder$Link"), (0, u "<init>"), (0, u "()V"), (0, .fieldref 8 9), (0, .class_ 10), (0, .nameAndType 11 12), (0, u "com/example/admit_one/admitone/engine/DueOrder$Head"), (0, u "tick"), (0, u "J"), (0, .fieldref 2 14), (0, .nameAndType 15 16), (0, u "next"), (0, u "Lcom/example/admit_one/admitone/engine/DueOrder$Link;"), (0, .fieldref 2 18), (0, .nameAndType 19 16), (0, u "prev"), (0, u "(J)V"), (5, .class_ 27), (0, u "com/example/admit_one/admitone/engine/DueOrder")] 3

def k4c0 : Code := { maxStack := 3, maxLocals := 3, code := prog_5_method_1_code, exceptionTable := #[], attributes := #[] }
def k4m0 : Method := { name := "<init>", desc := "(J)V", sig := { parameters := [.long], returnType := none }, accessFlags := 0, code := some k4c0 }
/-- com/example/admit_one/admitone/engine/DueOrder$Head -/
def k4 : Class := { plain "com/example/admit_one/admitone/engine/DueOrder$Head" (some 3) with
  accessFlags := 32
  interfaces := #[]
  cf := some (fileOf pool4 8 #[.nestHost 26] #[{ accessFlags := 0, nameIndex := 5, descriptorIndex := 20, attributes := #[] }] 32 2 #[] #[{ accessFlags := 18, nameIndex := 11, descriptorIndex := 12, attributes := #[] }])
  fields := #[{ name := "tick", type := .long, accessFlags := 18, slot := 2, constantValue := 0 }]
  methods := #[k4m0]
  instanceTypes := #[(.object "com/example/admit_one/admitone/engine/DueOrder$Link"), (.object "com/example/admit_one/admitone/engine/DueOrder$Link"), .long]
  staticTypes := #[]
  resolved := Array.replicate 31 none
  statics := none }

def pool5 : Array CpInfo := pool [(2, .class_ 4), (1, u "java/lang/Object"), (0, u "<init>"), (0, u "()V"), (1, .class_ 10), (1, u "java/lang/System"), (0, u "allowSecurityManager"), (0, u "I"), (16, u "cons"), (0, u "Ljava/io/Console;"), (77, .class_ 110), (1, u "java/lang/System$CallersHolder"), (43, u "initialErrStream"), (0, u "Ljava/io/PrintStream;"), (19, u "security"), (0, u "Ljava/lang/SecurityManager;"), (31, .class_ 209), (0, u "java/lang/System$1"), (7, u "props"), (0, u "Ljava/util/Properties;"), (2, u "lineSeparator"), (0, u "Ljava/lang/String;"), (96, .class_ 321), (1, u "java/lang/System$LoggerFinder"), (5, .class_ 328), (0, u "java/lang/System$Logger"), (67, u "err"), (2, u "out"), (91, u "notSupportedJnuEncoding"), (15, u "in"), (17, u "initialIn"), (0, u "Ljava/io/InputStream;"), (35, u "bootLayer"), (0, u "Ljava/lang/ModuleLayer;"), (99, .class_ 664), (0, u "java/lang/System$2"), (9, u "NEVER"), (2, u "MAYBE"), (49, u "arraycopy"), (0, u "(Ljava/lang/Object;ILjava/lang/Object;II)V"), (72, .class_ 802), (0, u "java/lang/System$Logger$Level")] 31

def k5m0 : Method := { name := "<init>", desc := "()V", sig := { parameters := [], returnType := none }, accessFlags := 2, code := none }
def k5m1 : Method := { name := "arraycopy", desc := "(Ljava/lang/Object;ILjava/lang/Object;II)V", sig := { parameters := [(.object "java/lang/Object"), .int, (.object "java/lang/Object"), .int, .int], returnType := none }, accessFlags := 265, code := none }
/-- java/lang/System -/
def k5 : Class := { plain "java/lang/System" (some 0) with
  accessFlags := 49
  interfaces := #[]
  cf := some (fileOf pool5 8 #[.nestMembers #[319, 327, 801, 108, 663, 208]] #[{ accessFlags := 2, nameIndex := 5, descriptorIndex := 6, attributes := #[] }, { accessFlags := 265, nameIndex := 727, descriptorIndex := 728, attributes := #[] }] 49 2 #[] #[{ accessFlags := 25, nameIndex := 507, descriptorIndex := 526, attributes := #[] }, { accessFlags := 25, nameIndex := 399, descriptorIndex := 155, attributes := #[] }, { accessFlags := 25, nameIndex := 396, descriptorIndex := 155, attributes := #[] }, { accessFlags := 10, nameIndex := 525, descriptorIndex := 526, attributes := #[] }, { accessFlags := 26, nameIndex := 674, descriptorIndex := 12, attributes := #[] }, { accessFlags := 26, nameIndex := 677, descriptorIndex := 12, attributes := #[] }, { accessFlags := 10, nameIndex := 11, descriptorIndex := 12, attributes := #[] }, { accessFlags := 74, nameIndex := 175, descriptorIndex := 176, attributes := #[] }, { accessFlags := 10, nameIndex := 491, descriptorIndex := 222, attributes := #[] }, { accessFlags := 74, nameIndex := 29, descriptorIndex := 30, attributes := #[] }, { accessFlags := 74, nameIndex := 154, descriptorIndex := 155, attributes := #[] }, { accessFlags := 10, nameIndex := 217, descriptorIndex := 218, attributes := #[] }, { accessFlags := 10, nameIndex := 221, descriptorIndex := 222, attributes := #[] }, { accessFlags := 8, nameIndex := 562, descriptorIndex := 563, attributes := #[] }])
  fields := #[{ name := "in", type := (.object "java/io/InputStream"), accessFlags := 25, slot := 0, constantValue := 0 }, { name := "out", type := (.object "java/io/PrintStream"), accessFlags := 25, slot := 1, constantValue := 0 }, { name := "err", type := (.object "java/io/PrintStream"), accessFlags := 25, slot := 2, constantValue := 0 }, { name := "initialIn", type := (.object "java/io/InputStream"), accessFlags := 10, slot := 3, constantValue := 0 }, { name := "NEVER", type := .int, accessFlags := 26, slot := 4, constantValue := 0 }, { name := "MAYBE", type := .int, accessFlags := 26, slot := 5, constantValue := 0 }, { name := "allowSecurityManager", type := .int, accessFlags := 10, slot := 6, constantValue := 0 }, { name := "security", type := (.object "java/lang/SecurityManager"), accessFlags := 74, slot := 7, constantValue := 0 }, { name := "notSupportedJnuEncoding", type := (.object "java/lang/String"), accessFlags := 10, slot := 8, constantValue := 0 }, { name := "cons", type := (.object "java/io/Console"), accessFlags := 74, slot := 9, constantValue := 0 }, { name := "initialErrStream", type := (.object "java/io/PrintStream"), accessFlags := 74, slot := 10, constantValue := 0 }, { name := "props", type := (.object "java/util/Properties"), accessFlags := 10, slot := 11, constantValue := 0 }, { name := "lineSeparator", type := (.object "java/lang/String"), accessFlags := 10, slot := 12, constantValue := 0 }, { name := "bootLayer", type := (.object "java/lang/ModuleLayer"), accessFlags := 8, slot := 13, constantValue := 0 }]
  methods := #[k5m0, k5m1]
  instanceTypes := #[]
  staticTypes := #[(.object "java/io/InputStream"), (.object "java/io/PrintStream"), (.object "java/io/PrintStream"), (.object "java/io/InputStream"), .int, .int, .int, (.object "java/lang/SecurityManager"), (.object "java/lang/String"), (.object "java/io/Console"), (.object "java/io/PrintStream"), (.object "java/util/Properties"), (.object "java/lang/String"), (.object "java/lang/ModuleLayer")]
  resolved := Array.replicate 834 none
  statics := none }

def pool6 : Array CpInfo := pool [(1, .class_ 2), (0, u "java/lang/Math"), (1, .class_ 6), (1, u "java/lang/Object"), (0, u "<init>"), (0, u "()V"), (89, .class_ 100), (1, u "java/lang/Math$RandomNumberGeneratorHolder"), (20, u "(JJ)J"), (50, u "negativeZeroFloatBits"), (0, u "J"), (2, u "negativeZeroDoubleBits"), (24, u "min"), (43, u "$assertionsDisabled"), (0, u "Z"), (91, u "twoToTheDoubleScaleDown"), (0, u "D"), (4, u "twoToTheDoubleScaleUp"), (9, u "E"), (3, u "PI"), (2, u "TAU"), (2, u "DEGREES_TO_RADIANS"), (0, u "RADIANS_TO_DEGREES")] 94

def k6m0 : Method := { name := "<init>", desc := "()V", sig := { parameters := [], returnType := none }, accessFlags := 2, code := none }
def k6c1 : Code := { maxStack := 4, maxLocals := 4, code := jdk_29_method_70_code, exceptionTable := #[], attributes := #[] }
def k6m1 : Method := { name := "min", desc := "(JJ)J", sig := { parameters := [.long, .long], returnType := some .long }, accessFlags := 9, code := some k6c1 }
/-- java/lang/Math -/
def k6 : Class := { plain "java/lang/Math" (some 0) with
  accessFlags := 49
  interfaces := #[]
  cf := some (fileOf pool6 1 #[.nestMembers #[98]] #[{ accessFlags := 2, nameIndex := 7, descriptorIndex := 8, attributes := #[] }, { accessFlags := 9, nameIndex := 201, descriptorIndex := 121, attributes := #[] }] 49 4 #[] #[{ accessFlags := 25, nameIndex := 354, descriptorIndex := 339, attributes := #[] }, { accessFlags := 25, nameIndex := 358, descriptorIndex := 339, attributes := #[] }, { accessFlags := 25, nameIndex := 361, descriptorIndex := 339, attributes := #[] }, { accessFlags := 26, nameIndex := 364, descriptorIndex := 339, attributes := #[] }, { accessFlags := 26, nameIndex := 365, descriptorIndex := 339, attributes := #[] }, { accessFlags := 26, nameIndex := 172, descriptorIndex := 173, attributes := #[] }, { accessFlags := 26, nameIndex := 176, descriptorIndex := 173, attributes := #[] }, { accessFlags := 8, nameIndex := 344, descriptorIndex := 339, attributes := #[] }, { accessFlags := 8, nameIndex := 338, descriptorIndex := 339, attributes := #[] }, { accessFlags := 4120, nameIndex := 245, descriptorIndex := 246, attributes := #[] }])
  fields := #[{ name := "E", type := .double, accessFlags := 25, slot := 0, constantValue := 0 }, { name := "PI", type := .double, accessFlags := 25, slot := 1, constantValue := 0 }, { name := "TAU", type := .double, accessFlags := 25, slot := 2, constantValue := 0 }, { name := "DEGREES_TO_RADIANS", type := .double, accessFlags := 26, slot := 3, constantValue := 0 }, { name := "RADIANS_TO_DEGREES", type := .double, accessFlags := 26, slot := 4, constantValue := 0 }, { name := "negativeZeroFloatBits", type := .long, accessFlags := 26, slot := 5, constantValue := 0 }, { name := "negativeZeroDoubleBits", type := .long, accessFlags := 26, slot := 6, constantValue := 0 }, { name := "twoToTheDoubleScaleUp", type := .double, accessFlags := 8, slot := 7, constantValue := 0 }, { name := "twoToTheDoubleScaleDown", type := .double, accessFlags := 8, slot := 8, constantValue := 0 }, { name := "$assertionsDisabled", type := .boolean, accessFlags := 4120, slot := 9, constantValue := 0 }]
  methods := #[k6m0, k6m1]
  instanceTypes := #[]
  staticTypes := #[.double, .double, .double, .double, .double, .long, .long, .double, .double, .boolean]
  resolved := Array.replicate 460 none
  statics := none }

def pool7 : Array CpInfo := pool [(1, u "java/lang/Cloneable"), (0, .class_ 1), (0, u "java/lang/Object"), (0, .class_ 3)] 3

/-- java/lang/Cloneable -/
def k7 : Class := { plain "java/lang/Cloneable" (some 0) with
  accessFlags := 1537
  interfaces := #[]
  cf := some (fileOf pool7 2 #[] #[] 1537 4 #[] #[])
  fields := #[]
  methods := #[]
  instanceTypes := #[]
  staticTypes := #[]
  resolved := Array.replicate 8 none
  statics := none }

def pool8 : Array CpInfo := pool [(1, u "java/io/Serializable"), (0, .class_ 1), (0, u "java/lang/Object"), (0, .class_ 3)] 3

/-- java/io/Serializable -/
def k8 : Class := { plain "java/io/Serializable" (some 0) with
  accessFlags := 1537
  interfaces := #[]
  cf := some (fileOf pool8 2 #[] #[] 1537 4 #[] #[])
  fields := #[]
  methods := #[]
  instanceTypes := #[]
  staticTypes := #[]
  resolved := Array.replicate 8 none
  statics := none }

/-- the primitive byte -/
def k9 : Class := { plain "byte" none with kind := .primitive 'B', accessFlags := 0x411 }
/-- [B -/
def k10 : Class := { plain "[B" (some 0) with kind := .array 9 .byte, interfaces := #[7, 8], accessFlags := 1041 }

/-- the primitive int -/
def k11 : Class := { plain "int" none with kind := .primitive 'I', accessFlags := 0x411 }
/-- [I -/
def k12 : Class := { plain "[I" (some 0) with kind := .array 11 .int, interfaces := #[7, 8], accessFlags := 1041 }

/-- [Lcom/example/admit_one/admitone/engine/DueOrder$Head; -/
def k13 : Class := { plain "[Lcom/example/admit_one/admitone/engine/DueOrder$Head;" (some 0) with kind := .array 4 (.object "com/example/admit_one/admitone/engine/DueOrder$Head"), interfaces := #[7, 8], accessFlags := 1041 }

def heap : Heap := #[]
def classes : Array Class := #[k0, k1, k2, k3, k4, k5, k6, k7, k8, k9, k10, k11, k12, k13]
def interned : List (Array UInt16 × Addr) := []
def slotsUsed : Nat := 0
def theMethod : MethodId := ⟨1, 1⟩
def args0 : Array Value := #[.long 5, .long 7, .long 9, .int 3]
def aboutOver (below : List Frame) : State where
  vm := { classes := classes, interned := interned.toArray }
  heap := heap
  slotsUsed := slotsUsed
  threads := #[{ frames := .invoking theMethod args0 :: below }]
def below0 : List Frame := [.native { method := ⟨0, 0⟩, args := #[] }]
def about1 : State := aboutOver below0
def p0 : Program := .bare "" "" ""
def e0 : Env := launch0.env 0 0 0
theorem w_frames : about1.frames = Frame.invoking theMethod args0 :: below0 := rfl
set_option maxRecDepth 65536 in
theorem w_args : argsFit about1.vm theMethod args0 = true := by decide +kernel
set_option maxRecDepth 65536 in
theorem w_heap : heapFits about1 = true := by decide +kernel
set_option maxRecDepth 65536 in
theorem w_runnable : about1.curStatus? = some .runnable := by decide +kernel
set_option maxRecDepth 65536 in
theorem w_alone : about1.alone = true := by decide +kernel
set_option maxRecDepth 65536 in
theorem w_named : about1.methodNamed? x = some theMethod := by decide +kernel
set_option maxRecDepth 65536 in
theorem w_hears : about1.hears theMethod below0 = true := by decide +kernel
set_option maxRecDepth 65536 in
theorem w_ripe : about1.ripe theMethod args0 below0 = true := by decide +kernel
theorem w_running : about1.status = .running := rfl
set_option maxRecDepth 65536 in
theorem w_room : about1.hasRoom e0.platform room_1 = true :=
  launch0.hasRoom_least _ room_1 (by decide +kernel) (by decide +kernel) (by decide +kernel) (by decide +kernel) (by decide +kernel) (by decide +kernel)
theorem allAtoms_all (ts : List Jvm.Cond) (a : Array Jvm.Value) (st : Jvm.State) : (allAtoms ts).before a st = ts.all (fun c => c.before a st) := by
  induction ts with
  | nil => rfl
  | cons c t ih =>
    show (Jvm.Cond.and c (allAtoms t)).before a st = _
    rw [Jvm.Cond.before_and, ih, List.all_cons]
def words1 : List Jvm.Cond := Jvm.Cond.code x code maxLocals ret :: tables_1
/-- a 'code' word, met by the world's own term for the bytes: nothing is compared byte by byte -/
theorem code_word {y : MethodName} {bytes : ByteArray} {mx : Nat} {rt : Option FieldType} {a : Array Value} {s : State} {m : MethodId} {meth : Method} {c : Code} (h1 : s.methodNamed? y = some m) (h2 : s.vm.method? m = some meth) (h3 : meth.code = some c) (h4 : c.code = bytes)
    (h5 : (c.maxLocals == mx && c.exceptionTable.isEmpty && decide (c.maxStack ≤ mostOperands) && decide (meth.sig.returnType = rt) && !meth.locks && decide (parseMethodDescriptor y.desc = some meth.sig)) = true) : (Jvm.Cond.code y bytes mx rt).before a s = true := by
  simp only [Bool.and_eq_true, beq_iff_eq, Bool.not_eq_true', decide_eq_true_eq] at h5
  obtain ⟨⟨⟨⟨⟨g1, g2⟩, g3⟩, g4⟩, g5⟩, g6⟩ := h5
  simp [Cond.before, Cond.holds, Cond.value, h1, h2, h3, h4, g1, g2, g3, g4, g5, g6]
def isCode : Jvm.Cond → Bool
  | .code _ _ _ _ => true
  | _ => false
theorem all_split {L : List Jvm.Cond} {P : Jvm.Cond → Bool} (h1 : L.all (fun c => isCode c || P c) = true) (h2 : ∀ c ∈ L.filter isCode, P c = true) : L.all P = true := by
  refine List.all_eq_true.mpr fun c hc => ?_
  have h := List.all_eq_true.mp h1 c hc
  rcases Bool.eq_false_or_eq_true (isCode c) with hi | hi
  · exact h2 c (List.mem_filter.mpr ⟨hc, hi⟩)
  · simpa [hi] using h
set_option maxRecDepth 65536 in
theorem w_c0 : (Jvm.Cond.code x code maxLocals ret).before args0 about1 = true := code_word (m := ⟨1, 1⟩) (meth := k1m1) (c := k1c1) (by decide +kernel) rfl rfl rfl (by decide +kernel)
set_option maxRecDepth 65536 in
theorem w_c1 : (Jvm.Cond.code ({ cls := "com/example/admit_one/admitone/engine/DueOrder", name := "<init>", desc := "()V" } : Jvm.MethodName) prog_4_method_1_code (1 : Nat) (Option.none : Option Jvm.ClassFile.FieldType)).before args0 about1 = true := code_word (m := ⟨2, 0⟩) (meth := k2m0) (c := k2c0) (by decide +kernel) rfl rfl rfl (by decide +kernel)
set_option maxRecDepth 65536 in
theorem w_c2 : (Jvm.Cond.code ({ cls := "java/lang/Object", name := "<init>", desc := "()V" } : Jvm.MethodName) object_method_1_code (1 : Nat) (Option.none : Option Jvm.ClassFile.FieldType)).before args0 about1 = true := code_word (m := ⟨0, 0⟩) (meth := k0m0) (c := k0c0) (by decide +kernel) rfl rfl rfl (by decide +kernel)
set_option maxRecDepth 65536 in
theorem w_c3 : (Jvm.Cond.code ({ cls := "com/example/admit_one/admitone/engine/DueOrder$Link", name := "<init>", desc := "()V" } : Jvm.MethodName) prog_6_method_1_code (1 : Nat) (Option.none : Option Jvm.ClassFile.FieldType)).before args0 about1 = true := code_word (m := ⟨3, 0⟩) (meth := k3m0) (c := k3c0) (by decide +kernel) rfl rfl rfl (by decide +kernel)
set_option maxRecDepth 65536 in
theorem w_c4 : (Jvm.Cond.code ({ cls := "com/example/admit_one/admitone/engine/DueOrder", name := "file", desc := "(Lcom/example/admit_one/admitone/engine/DueOrder$Link;J)V" } : Jvm.MethodName) prog_4_method_5_code (5 : Nat) (Option.none : Option Jvm.ClassFile.FieldType)).before args0 about1 = true := code_word (m := ⟨2, 4⟩) (meth := k2m4) (c := k2c4) (by decide +kernel) rfl rfl rfl (by decide +kernel)
set_option maxRecDepth 65536 in
theorem w_c5 : (Jvm.Cond.code ({ cls := "com/example/admit_one/admitone/engine/DueOrder", name := "headOf", desc := "(J)Lcom/example/admit_one/admitone/engine/DueOrder$Head;" } : Jvm.MethodName) prog_4_method_8_code (5 : Nat) (Option.some (Jvm.ClassFile.FieldType.object "com/example/admit_one/admitone/engine/DueOrder$Head"))).before args0 about1 = true := code_word (m := ⟨2, 6⟩) (meth := k2m6) (c := k2c6) (by decide +kernel) rfl rfl rfl (by decide +kernel)
set_option maxRecDepth 65536 in
theorem w_c6 : (Jvm.Cond.code ({ cls := "com/example/admit_one/admitone/engine/DueOrder", name := "dueBy", desc := "(J)I" } : Jvm.MethodName) prog_4_method_10_code (6 : Nat) (Option.some Jvm.ClassFile.FieldType.int)).before args0 about1 = true := code_word (m := ⟨2, 8⟩) (meth := k2m8) (c := k2c8) (by decide +kernel) rfl rfl rfl (by decide +kernel)
set_option maxRecDepth 65536 in
theorem w_c7 : (Jvm.Cond.code ({ cls := "com/example/admit_one/admitone/engine/DueOrder$Head", name := "<init>", desc := "(J)V" } : Jvm.MethodName) prog_5_method_1_code (3 : Nat) (Option.none : Option Jvm.ClassFile.FieldType)).before args0 about1 = true := code_word (m := ⟨4, 0⟩) (meth := k4m0) (c := k4c0) (by decide +kernel) rfl rfl rfl (by decide +kernel)
set_option maxRecDepth 65536 in
theorem w_c8 : (Jvm.Cond.code ({ cls := "com/example/admit_one/admitone/engine/DueOrderRemovePinLaw", name := "pick", desc := "(Lcom/example/admit_one/admitone/engine/DueOrder$Link;Lcom/example/admit_one/admitone/engine/DueOrder$Link;Lcom/example/admit_one/admitone/engine/DueOrder$Link;I)Lcom/example/admit_one/admitone/engine/DueOrder$Link;" } : Jvm.MethodName) method_3_code (4 : Nat) (Option.some (Jvm.ClassFile.FieldType.object "com/example/admit_one/admitone/engine/DueOrder$Link"))).before args0 about1 = true := code_word (m := ⟨1, 2⟩) (meth := k1m2) (c := k1c2) (by decide +kernel) rfl rfl rfl (by decide +kernel)
set_option maxRecDepth 65536 in
theorem w_c9 : (Jvm.Cond.code ({ cls := "com/example/admit_one/admitone/engine/DueOrder", name := "remove", desc := "(Lcom/example/admit_one/admitone/engine/DueOrder$Link;)V" } : Jvm.MethodName) prog_4_method_6_code (3 : Nat) (Option.none : Option Jvm.ClassFile.FieldType)).before args0 about1 = true := code_word (m := ⟨2, 5⟩) (meth := k2m5) (c := k2c5) (by decide +kernel) rfl rfl rfl (by decide +kernel)
set_option maxRecDepth 65536 in
theorem w_c10 : (Jvm.Cond.code ({ cls := "java/lang/Math", name := "min", desc := "(JJ)J" } : Jvm.MethodName) jdk_29_method_70_code (4 : Nat) (Option.some Jvm.ClassFile.FieldType.long)).before args0 about1 = true := code_word (m := ⟨6, 1⟩) (meth := k6m1) (c := k6c1) (by decide +kernel) rfl rfl rfl (by decide +kernel)
set_option maxRecDepth 65536 in
theorem w_c11 : (Jvm.Cond.code ({ cls := "com/example/admit_one/admitone/engine/DueOrder", name := "isFiled", desc := "(Lcom/example/admit_one/admitone/engine/DueOrder$Link;)Z" } : Jvm.MethodName) prog_4_method_4_code (1 : Nat) (Option.some Jvm.ClassFile.FieldType.boolean)).before args0 about1 = true := code_word (m := ⟨2, 3⟩) (meth := k2m3) (c := k2c3) (by decide +kernel) rfl rfl rfl (by decide +kernel)
set_option maxRecDepth 65536 in
theorem w_c12 : (Jvm.Cond.code ({ cls := "com/example/admit_one/admitone/engine/DueOrder", name := "ticks", desc := "()I" } : Jvm.MethodName) prog_4_method_2_code (1 : Nat) (Option.some Jvm.ClassFile.FieldType.int)).before args0 about1 = true := code_word (m := ⟨2, 1⟩) (meth := k2m1) (c := k2c1) (by decide +kernel) rfl rfl rfl (by decide +kernel)
set_option maxRecDepth 65536 in
theorem w_c13 : (Jvm.Cond.code ({ cls := "com/example/admit_one/admitone/engine/DueOrder", name := "firstTick", desc := "()J" } : Jvm.MethodName) prog_4_method_3_code (1 : Nat) (Option.some Jvm.ClassFile.FieldType.long)).before args0 about1 = true := code_word (m := ⟨2, 2⟩) (meth := k2m2) (c := k2c2) (by decide +kernel) rfl rfl rfl (by decide +kernel)
set_option maxRecDepth 65536 in
theorem w_c14 : (Jvm.Cond.code ({ cls := "com/example/admit_one/admitone/engine/DueOrder", name := "drop", desc := "(Lcom/example/admit_one/admitone/engine/DueOrder$Head;)V" } : Jvm.MethodName) prog_4_method_9_code (3 : Nat) (Option.none : Option Jvm.ClassFile.FieldType)).before args0 about1 = true := code_word (m := ⟨2, 7⟩) (meth := k2m7) (c := k2c7) (by decide +kernel) rfl rfl rfl (by decide +kernel)
set_option maxRecDepth 65536 in
theorem w_c15 : (Jvm.Cond.code ({ cls := "com/example/admit_one/admitone/engine/DueOrder", name := "shrinkIfSparse", desc := "()V" } : Jvm.MethodName) prog_4_method_11_code (2 : Nat) (Option.none : Option Jvm.ClassFile.FieldType)).before args0 about1 = true := code_word (m := ⟨2, 9⟩) (meth := k2m9) (c := k2c9) (by decide +kernel) rfl rfl rfl (by decide +kernel)
def codes1 : List Jvm.Cond := [Jvm.Cond.code x code maxLocals ret, Jvm.Cond.code ({ cls := "com/example/admit_one/admitone/engine/DueOrder", name := "<init>", desc := "()V" } : Jvm.MethodName) prog_4_method_1_code (1 : Nat) (Option.none : Option Jvm.ClassFile.FieldType), Jvm.Cond.code ({ cls := "java/lang/Object", name := "<init>", desc := "()V" } : Jvm.MethodName) object_method_1_code (1 : Nat) (Option.none : Option Jvm.ClassFile.FieldType), Jvm.Cond.code ({ cls := "com/example/admit_one/admitone/engine/DueOrder$Link", name := "<init>", desc := "()V" } : Jvm.MethodName) prog_6_method_1_code (1 : Nat) (Option.none : Option Jvm.ClassFile.FieldType), Jvm.Cond.code ({ cls := "com/example/admit_one/admitone/engine/DueOrder", name := "file", desc := "(Lcom/example/admit_one/admitone/engine/DueOrder$Link;J)V" } : Jvm.MethodName) prog_4_method_5_code (5 : Nat) (Option.none : Option Jvm.ClassFile.FieldType), Jvm.Cond.code ({ cls := "com/example/admit_one/admitone/engine/DueOrder", name := "headOf", desc := "(J)Lcom/example/admit_one/admitone/engine/DueOrder$Head;" } : Jvm.MethodName) prog_4_method_8_code (5 : Nat) (Option.some (Jvm.ClassFile.FieldType.object "com/example/admit_one/admitone/engine/DueOrder$Head")), Jvm.Cond.code ({ cls := "com/example/admit_one/admitone/engine/DueOrder", name := "dueBy", desc := "(J)I" } : Jvm.MethodName) prog_4_method_10_code (6 : Nat) (Option.some Jvm.ClassFile.FieldType.int), Jvm.Cond.code ({ cls := "com/example/admit_one/admitone/engine/DueOrder$Head", name := "<init>", desc := "(J)V" } : Jvm.MethodName) prog_5_method_1_code (3 : Nat) (Option.none : Option Jvm.ClassFile.FieldType), Jvm.Cond.code ({ cls := "com/example/admit_one/admitone/engine/DueOrderRemovePinLaw", name := "pick", desc := "(Lcom/example/admit_one/admitone/engine/DueOrder$Link;Lcom/example/admit_one/admitone/engine/DueOrder$Link;Lcom/example/admit_one/admitone/engine/DueOrder$Link;I)Lcom/example/admit_one/admitone/engine/DueOrder$Link;" } : Jvm.MethodName) method_3_code (4 : Nat) (Option.some (Jvm.ClassFile.FieldType.object "com/example/admit_one/admitone/engine/DueOrder$Link")), Jvm.Cond.code ({ cls := "com/example/admit_one/admitone/engine/DueOrder", name := "remove", desc := "(Lcom/example/admit_one/admitone/engine/DueOrder$Link;)V" } : Jvm.MethodName) prog_4_method_6_code (3 : Nat) (Option.none : Option Jvm.ClassFile.FieldType), Jvm.Cond.code ({ cls := "java/lang/Math", name := "min", desc := "(JJ)J" } : Jvm.MethodName) jdk_29_method_70_code (4 : Nat) (Option.some Jvm.ClassFile.FieldType.long), Jvm.Cond.code ({ cls := "com/example/admit_one/admitone/engine/DueOrder", name := "isFiled", desc := "(Lcom/example/admit_one/admitone/engine/DueOrder$Link;)Z" } : Jvm.MethodName) prog_4_method_4_code (1 : Nat) (Option.some Jvm.ClassFile.FieldType.boolean), Jvm.Cond.code ({ cls := "com/example/admit_one/admitone/engine/DueOrder", name := "ticks", desc := "()I" } : Jvm.MethodName) prog_4_method_2_code (1 : Nat) (Option.some Jvm.ClassFile.FieldType.int), Jvm.Cond.code ({ cls := "com/example/admit_one/admitone/engine/DueOrder", name := "firstTick", desc := "()J" } : Jvm.MethodName) prog_4_method_3_code (1 : Nat) (Option.some Jvm.ClassFile.FieldType.long), Jvm.Cond.code ({ cls := "com/example/admit_one/admitone/engine/DueOrder", name := "drop", desc := "(Lcom/example/admit_one/admitone/engine/DueOrder$Head;)V" } : Jvm.MethodName) prog_4_method_9_code (3 : Nat) (Option.none : Option Jvm.ClassFile.FieldType), Jvm.Cond.code ({ cls := "com/example/admit_one/admitone/engine/DueOrder", name := "shrinkIfSparse", desc := "()V" } : Jvm.MethodName) prog_4_method_11_code (2 : Nat) (Option.none : Option Jvm.ClassFile.FieldType)]
set_option maxRecDepth 65536 in
theorem codes_eq : words1.filter isCode = codes1 := rfl
theorem w_codes : ∀ c ∈ words1.filter isCode, c.before args0 about1 = true := by
  rw [codes_eq]
  intro c hc
  simp only [codes1, List.mem_cons, List.not_mem_nil, or_false] at hc
  rcases hc with rfl | rfl | rfl | rfl | rfl | rfl | rfl | rfl | rfl | rfl | rfl | rfl | rfl | rfl | rfl | rfl
  · exact w_c0
  · exact w_c1
  · exact w_c2
  · exact w_c3
  · exact w_c4
  · exact w_c5
  · exact w_c6
  · exact w_c7
  · exact w_c8
  · exact w_c9
  · exact w_c10
  · exact w_c11
  · exact w_c12
  · exact w_c13
  · exact w_c14
  · exact w_c15
set_option maxRecDepth 65536 in
theorem w_t1 : (words1.take 24).all (fun c => isCode c || c.before args0 about1) = true := by decide +kernel
set_option maxRecDepth 65536 in
theorem w_t2 : ((words1.drop 24).take 24).all (fun c => isCode c || c.before args0 about1) = true := by decide +kernel
set_option maxRecDepth 65536 in
theorem w_t3 : (((words1.drop 24).drop 24).take 24).all (fun c => isCode c || c.before args0 about1) = true := by decide +kernel
set_option maxRecDepth 65536 in
theorem w_t4 : (((words1.drop 24).drop 24).drop 24).all (fun c => isCode c || c.before args0 about1) = true := by decide +kernel
theorem w_tables : (allAtoms (Jvm.Cond.code x code maxLocals ret :: tables_1)).before args0 about1 = true := by
  rw [allAtoms_all]
  show words1.all (fun c => c.before args0 about1) = true
  refine all_split ?_ w_codes
  rw [← List.take_append_drop 24 words1, List.all_append, w_t1, ← List.take_append_drop 24 (words1.drop 24), List.all_append, w_t2, ← List.take_append_drop 24 ((words1.drop 24).drop 24), List.all_append, w_t3, w_t4]
  rfl
set_option maxRecDepth 65536 in
theorem w_case : (Jvm.Cond.and given_1 narrow_1).before args0 about1 = true := by decide +kernel
theorem w_applies : (headSpec (Jvm.Cond.code x code maxLocals ret :: tables_1) room_1).applies x e0.platform about1 = true :=
  (Spec.applies_iff w_frames).mpr ⟨w_running, w_runnable, w_alone, w_named, w_hears, w_ripe, w_room, w_tables⟩
theorem atStart : AtStart classFile x code maxLocals ret World_1 tables_1 room_1 Calls_1 rest_1 Pre_1 launch0 p0 e0 about1 theMethod args0 below0 :=
  ⟨lists_1, trivial, launch0.admits_env _ _ _, launch0.least_env, fairChoices_fair.cas, fairChoices_fair.clock, w_frames, w_args, w_heap, w_applies, trivial, trivial, w_case⟩
end start1
theorem witness_1 : WitnessClaimed_1 := ⟨start1.p0, start1.e0, start1.about1, start1.theMethod, start1.args0, start1.below0, start1.atStart⟩
end Jvm.Pilot.@@N@@
