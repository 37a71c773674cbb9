import JvmDerived
import JvmDerived.Pilot.@@N@@Statement
import JvmDerived.Pilot.@@N@@Code
set_option linter.unusedVariables false
set_option linter.unusedSimpArgs false
namespace Jvm.RoadKit
open Sem ClassFile Op Lib Jvm.Stand Jvm.Free Jvm.LawKit
section New
variable {p : Program} {l : Launch} {e : Env} {R : Room} {s : State} {m : MethodId} {args : Array Value} {below : List Frame} {meth : Method} {c : Code} {T : State} {locs : List Loc} {cells slots : Nat}
theorem retI (X : Stand p l e R s m args below meth c T locs cells slots) (hx : p.tables.exec = Jvm.exec) {pc : Nat} {Ls : Array Slot} {z : Int32} {rest : List Value} (hret : meth.sig.returnType = some .int) (hd : decode c.code pc = .ok (.ireturn, 1)) {fs : List Frame}
    (hl : ∀ (f : JFrame) (acts : List Action), f.method = m → f.locked = none → f.entered = [] → (doReturn e (T.setTop f) acts (some (.int z))).1 = T.setFrames fs) : Steps p.tables e below (T.setTop (mkF m pc Ls (.int z :: rest))) (T.setFrames fs) :=
  retOut X hx hret rfl (Or.inl ⟨rfl, Or.inl rfl, _, rfl⟩) hd hl
def Elt (Z : State) (h : Heap) (a : Addr) (ty : FieldType) (j : Int32) (v : Value) : Prop := ∃ cl : Cell, Arr Z h a cl ty ∧ ¬ (j < 0 ∨ cl.slots.size ≤ j.toNatClampNeg) ∧ cl.slots[j.toNatClampNeg]? = some v
theorem Elt.of {Z : State} {h : Heap} {a : Addr} {k : ClassId} {ty : FieldType} {n j : Int32} {vs : List Value} {d v : Value} (F : Arv Z h a k ty n vs d) (q : ¬ j < 0 ∧ j < n) (u : vs.getD j.toNatClampNeg d = v) : Elt Z h a ty j v := by
  obtain ⟨c, A, _, S, _, H, _⟩ := F
  exact ⟨c, A, inb_of S q, H.at (inb_of S q) u⟩
def Goes (tb : Tables) (e : Env) (below : List Frame) (P : State → Outcome → Prop) (A : State) : Prop := ∃ s₂ o, Steps tb e below A s₂ ∧ P s₂ o
theorem Goes.start {tb : Tables} {e : Env} {below : List Frame} {P : State → Outcome → Prop} {A : State} (h : Goes tb e below P A) : ∃ s₂ o, Steps tb e below A s₂ ∧ P s₂ o := h
theorem Goes.by {tb : Tables} {e : Env} {below : List Frame} {P : State → Outcome → Prop} {A B : State} (h : ∀ t, Steps tb e below B t → Steps tb e below A t) (g : Goes tb e below P B) : Goes tb e below P A := by
  obtain ⟨s₂, o, h1, h2⟩ := g
  exact ⟨s₂, o, h _ h1, h2⟩
theorem Goes.mk {tb : Tables} {e : Env} {below : List Frame} {P : State → Outcome → Prop} {A : State} (s₂ : State) (o : Outcome) (h : Steps tb e below A s₂) (hp : P s₂ o) : Goes tb e below P A := ⟨s₂, o, h, hp⟩
end New
end Jvm.RoadKit
namespace Jvm.RoadKit
open Sem ClassFile Op Lib Jvm.Stand Jvm.Free Jvm.LawKit
section Ref
variable {p : Program} {l : Launch} {e : Env} {R : Room} {s : State} {m : MethodId} {args : Array Value} {below : List Frame} {meth : Method} {c : Code} {T : State} {locs : List Loc} {cells slots : Nat} {Z : State} {a0 : Array Value} {h : Heap}
theorem own_ready (X : Stand p l e R s m args below meth c T locs cells slots) (hZ : Z.Warmed39 s.vm) {own O n d : String} {index : Nat} (hown : s.vm.findClass own = some m.cls) (w : (Cond.fieldRef own index O n d).before a0 Z = true)
    {cf i : Nat} {k : Class} {f : Field} (h2 : Z.fieldFound? O n d = some (cf, k, i, f)) : T.vm.fieldReady m.cls index cf f := by
  have hU : Z.Warmed39 T.vm := wtrans hZ X.warmed
  have w' := Cond.fieldRef_warmed39 hU w
  have hc : (Z.setVm T.vm).vm.findClass own = some m.cls := by
    show T.vm.findClass own = some m.cls
    rw [X.warmed.alike.findClass]; exact hown
  obtain ⟨c1, k1, i1, f1, e1, e2⟩ := Cond.fieldRef_spec hc w'
  obtain ⟨k', e3, -⟩ := State.fieldFound?_setVm (s := Z) hU.alike h2
  cases e1.symm.trans e3
  exact e2
theorem getFR (X : Stand p l e R s m args below meth c T locs cells slots) (hx : p.tables.exec = Jvm.exec) (hZ : Z.Warmed39 s.vm) {own O n d : String} {index : Nat} (hown : s.vm.findClass own = some m.cls) (w : (Cond.fieldRef own index O n d).before a0 Z = true)
    (eT : T.heap = h) {a : Addr} {v : Value} (F : Fld Z h a O n d v) {g : JFrame} (hg : g.method = m) {rest : List Value} (hs : g.stack = .ref a :: rest) (hd : decode c.code g.pc = .ok (.getfield index, 3)) {target : State}
    (hr : Steps p.tables e below (T.setTop { g with pc := g.pc + 3, stack := v :: rest }) target) : Steps p.tables e below (T.setTop g) target := by
  obtain ⟨cell, cf, k, i, f, h1, h2, h3, h4, -, -, h7⟩ := F
  exact (X.getfieldR hx hg (own_ready X hZ hown w h2) h3 hs (by rw [eT]; exact h1) h4 h7 hd (Steps.refl _)).trans hr
theorem putFR (X : Stand p l e R s m args below meth c T locs cells slots) (hx : p.tables.exec = Jvm.exec) (hZ : Z.Warmed39 s.vm) {own O n d C : String} {index kk : Nat} {ty : FieldType} (hown : s.vm.findClass own = some m.cls) (w : (Cond.fieldRef own index O n d).before a0 Z = true)
    (eT : T.heap = h) {a : Addr} {v old : Value} (F : Fld Z h a O n d old) (E : Exa Z h a C) (L : (Cond.lays C O n d).before a0 Z = true) (wi : (Cond.instantiable C kk).before a0 Z = true)
    (hty : parseFieldDescriptor d = some ty) (hn : narrow ty v = v) (hf : fits ty v = true) {g : JFrame} (hg : g.method = m) {rest : List Value} (hs : g.stack = v :: .ref a :: rest) (hd : decode c.code g.pc = .ok (.putfield index, 3)) :
    ∃ T' h', Stand p l e R s m args below meth c T' (locs ++ [⟨a, slotOf Z O n d⟩]) cells slots ∧ T'.heap = h' ∧ Wr h h' a (slotOf Z O n d) v ∧ ∀ target, Steps p.tables e below (T'.setTop { g with pc := g.pc + 3, stack := rest }) target → Steps p.tables e below (T.setTop g) target := by
  obtain ⟨cell, cf, k, i, f, h1, h2, h3, h4, h5, -, h7⟩ := F
  obtain ⟨cell', kc, e1, e2, e3, -⟩ := E
  cases h1.symm.trans e1
  obtain ⟨c1, k1, cf1, kf1, i1, f1, a1, a2, a3, -, a5, -, a6, -⟩ := Cond.lays_spec L
  cases h2.symm.trans a3
  cases e2.symm.trans a1
  obtain ⟨c2, k2, i1, i2, i3, -⟩ := Cond.instantiable_spec wi
  cases e2.symm.trans i1
  cases a2.symm.trans i2
  have ht := (State.fieldFound?_type h2 hty).2
  have hfit : Z.fitsSlot cell.cls cell.vm f.slot v = true := by
    have q : Z.slotType? cell.cls cell.vm f.slot = some ty := by
      simp only [State.slotType?, a2, Option.bind_eq_bind, Option.bind_some, i3]
      cases hq : cell.vm <;> first | (rw [hq] at h5; exact Bool.noConfusion h5) | (rw [a6, ht])
    simp [State.fitsSlot, q, hf]
  have hal := (wtrans hZ X.warmed : Z.Warmed39 T.vm).alike
  have hfit' : T.fitsSlot cell.cls cell.vm f.slot v = true := by
    have hq := hfit
    rw [← State.fitsSlot_setVm hal] at hq; exact hq
  have hlt := (Array.getElem?_eq_some_iff.mp h7).1
  have es : slotOf Z O n d = f.slot := by simp [slotOf, h2]
  rw [es]
  obtain ⟨X', st⟩ := X.putfieldReady hx (own_ready X hZ hown w h2) h3 (Or.inl a5) (by rw [eT]; exact h1) h4 hlt (by rw [ht]; exact hn) hfit' hg hs hd
  exact ⟨_, _, X', rfl, ⟨cell, h1, h5, hlt, by rw [← eT]; rfl⟩, st⟩
theorem own_sel {y : MethodName} {kk : Nat} (hZ : Z.Warmed39 s.vm) (wi : (Cond.instantiable y.cls kk).before a0 Z = true) (wp : (Cond.privateMethod y).before a0 Z = true) (wm : (Cond.instanceMethod y).before a0 Z = true) (hy : y.cls ≠ "java/lang/invoke/MethodHandle" ∧ y.cls ≠ "java/lang/invoke/VarHandle") : (Cond.selects y.cls y y).before args s = true := by
  obtain ⟨c, k, h1, h2, -, h4, -, -⟩ := Cond.instantiable_spec (mvT (args := args) hZ wi)
  exact selects_self_of_private h1 h2 (Bool.or_eq_false_iff.mp h4).1 (Cond.privateMethod_at (mvP hZ wp (args := args))) (mvT hZ wm) hy
end Ref
end Jvm.RoadKit
namespace Jvm.Pilot.@@N@@
open Jvm Jvm.ClassFile Sem Op Lib Jvm.Free Jvm.Stand Jvm.LawKit Jvm.RoadKit Bundle Jvm.Pilot.@@N@@.Jvm.D
abbrev cH : String := "com/example/admit_one/admitone/engine/DueOrder$Head"
abbrev cL : String := "com/example/admit_one/admitone/engine/DueOrder$Link"
abbrev cD : String := "com/example/admit_one/admitone/engine/DueOrder"
abbrev dA : String := "[Lcom/example/admit_one/admitone/engine/DueOrder$Head;"
abbrev dL : String := "Lcom/example/admit_one/admitone/engine/DueOrder$Link;"
abbrev y0 : MethodName := ⟨"com/example/admit_one/admitone/engine/DueOrder", "<init>", "()V"⟩
abbrev y1 : MethodName := ⟨"com/example/admit_one/admitone/engine/DueOrder$Link", "<init>", "()V"⟩
abbrev y2 : MethodName := ⟨"com/example/admit_one/admitone/engine/DueOrder", "isFiled", "(Lcom/example/admit_one/admitone/engine/DueOrder$Link;)Z"⟩
abbrev y3 : MethodName := ⟨"com/example/admit_one/admitone/engine/DueOrder", "file", "(Lcom/example/admit_one/admitone/engine/DueOrder$Link;J)V"⟩
abbrev y4 : MethodName := ⟨"com/example/admit_one/admitone/engine/DueOrder", "headOf", "(J)Lcom/example/admit_one/admitone/engine/DueOrder$Head;"⟩
abbrev y5 : MethodName := ⟨"com/example/admit_one/admitone/engine/DueOrder", "dueBy", "(J)I"⟩
abbrev y6 : MethodName := ⟨"com/example/admit_one/admitone/engine/DueOrder$Head", "<init>", "(J)V"⟩
abbrev y7 : MethodName := ⟨"com/example/admit_one/admitone/engine/DueOrder", "remove", "(Lcom/example/admit_one/admitone/engine/DueOrder$Link;)V"⟩
abbrev y8 : MethodName := ⟨"com/example/admit_one/admitone/engine/DueOrder", "drop", "(Lcom/example/admit_one/admitone/engine/DueOrder$Head;)V"⟩
abbrev y9 : MethodName := ⟨"com/example/admit_one/admitone/engine/DueOrder", "shrinkIfSparse", "()V"⟩
theorem wq {Z : State} {az : Array Value} (hw : ∀ d ∈ tables_1, d.before az Z = true) (i : Nat) {d : Jvm.Cond} (h : tables_1[i]? = some d) : d.before az Z = true := hw _ (List.mem_of_getElem? h)
theorem d3_0 : decode prog_6_method_1_code 0 = .ok (.aload_n 0, 1) := by decide +kernel
theorem d3_1 : decode prog_6_method_1_code 1 = .ok (.invokespecial 1, 3) := by decide +kernel
theorem d3_4 : decode prog_6_method_1_code 4 = .ok (.return_, 1) := by decide +kernel
def QLinkI (Z : State) (a0 : Addr) (h0 : Heap) (n0 : Nat) (v : Option Value) (h : Heap) (L : List Loc) : Prop := v = none ∧ Fr n0 L ∧ h = h0
theorem own_pn_com_example_admit_one_admitone_engine_DueOrder_Link : plainName cL = true := by first | (simp [plainName, overriddenIn]; done) | decide +kernel
theorem efLinkI (m : MethodId) (x0 : Addr) : entryFrame m #[(.ref x0)] 1 = mkF m 0 #[.val (.ref x0)] [] := by first | (simp [entryFrame, mkF, argsToLocals, Value.category]; done) | rfl
set_option maxRecDepth 65536 in
set_option maxHeartbeats 40000000 in
theorem rmLinkI (l : Launch) (Z : State) (az : Array Value) (hw : ∀ d ∈ tables_1, d.before az Z = true) (ws : List Jvm.Cond) (a0 : Addr) (h0 : Heap) (n0 : Nat) (Z0 : n0 ≤ h0.size) :
    MetFree l y1 (head1 (Jvm.Cond.code y1 prog_6_method_1_code 1 none :: ws) ({ frames := 1, cells := 0, slots := 0, locals := 12 } : Room)) (fun a U => a = #[(.ref a0)] ∧ Z.Warmed39 U.vm ∧ U.heap = h0) (fun _ _ _ _ _ => True) (fun _ U o U' => ∃ v L, o = .returned v ∧ QLinkI Z a0 h0 n0 v U'.heap L ∧ FrameEnd U o U' L ({ frames := 1, cells := 0, slots := 0, locals := 12 } : Room).cells ({ frames := 1, cells := 0, slots := 0, locals := 12 } : Room).slots) := by
  refine MetFree.of_bodySF (plainFor_of_name own_pn_com_example_admit_one_admitone_engine_DueOrder_Link) hisR ?_
  intro p e s m args below meth c s₁ Bd hml0 hP hK
  obtain ⟨rfl, hZ, hh⟩ := hP
  have hx := Bd.exec
  have hby := Bd.bytes
  have hml : c.maxLocals = 1 := hml0
  have hown : s.vm.findClass cL = some m.cls := findClass_of_methodNamed Bd.named
  have hnm := (name_of_methodNamed Bd.named Bd.method).1
  have X0 : Stand p l e ({ frames := 1, cells := 0, slots := 0, locals := 12 } : Room) s m #[(.ref a0)] below meth c s₁ [] 0 0 := Stand.of_body Bd
  have e0 : s₁.heap = h0 := by rw [← hh, Bd.state]; rfl
  have N0 := Fr.nil n0
  have Kp0 : Keep h0 h0 [] := Keep.refl _ _
  refine Goes.start ?_
  refine Goes.by (B := s₁.setTop (mkF m 0 #[.val (.ref a0)] [])) (fun t k => castTop (efLinkI m a0) k) ?_
  refine Goes.by (B := s₁.setTop (mkF m 1 #[.val (.ref a0)] [(.ref a0)])) (fun t k => ?_) ?_
  · refine XS.aloadN X0.here hx rfl (hb hby d3_0) rfl rfl ?_
    exact k
  obtain ⟨T1, X1, e1, st1⟩ := initO X0 hx hZ hown (wq hw 19 rfl) (wq hw 7 rfl) (wq hw 8 rfl) e0 (g := (mkF m 1 #[.val (.ref a0)] [(.ref a0)])) rfl (by rw [hml]; rfl) rfl (hb hby d3_1) (by decide) (W := 0) (by show 2 * 0 + _ ≤ _; exact Nat.le_of_eq rfl) (by decide)
  refine Goes.by st1 ?_
  clear X0
  obtain ⟨fs, hr, hrun, hended, hW, hsame⟩ := X1.leave (v := none) (fun _ => rfl)
  refine Goes.mk _ _ ?_ ⟨hrun, hended, _, _, rfl, ?_, ⟨_, rfl⟩, hW, hsame.mono (by decide) (by decide)⟩
  · exact X1.returnOut hx Bd.returns (hb hby d3_4) hr
  · show QLinkI Z a0 h0 n0 _ T1.heap _
    rw [e1]
    exact ⟨rfl, N0, rfl⟩
theorem d1_0 : decode prog_4_method_1_code 0 = .ok (.aload_n 0, 1) := by decide +kernel
theorem d1_1 : decode prog_4_method_1_code 1 = .ok (.invokespecial 1, 3) := by decide +kernel
theorem d1_4 : decode prog_4_method_1_code 4 = .ok (.aload_n 0, 1) := by decide +kernel
theorem d1_5 : decode prog_4_method_1_code 5 = .ok (.iconst 4, 1) := by decide +kernel
theorem d1_6 : decode prog_4_method_1_code 6 = .ok (.anewarray 9, 3) := by decide +kernel
theorem d1_9 : decode prog_4_method_1_code 9 = .ok (.putfield 11, 3) := by decide +kernel
theorem d1_12 : decode prog_4_method_1_code 12 = .ok (.return_, 1) := by decide +kernel
def QDueI (Z : State) (a0 : Addr) (h0 : Heap) (n0 : Nat) (v : Option Value) (h : Heap) (L : List Loc) : Prop := ∃ ar : Addr, ∃ kA : ClassId, v = none ∧ Fr n0 L ∧ Keep h0 h [a0] ∧ h0.size ≤ ar ∧ Exa Z h a0 cD ∧ Fld Z h a0 cD "heads" dA (.ref ar) ∧ Fld Z h a0 cD "count" "I" (.int (0 : Int32)) ∧ Arv Z h ar kA (.object cH) (4 : Int32) [.null, .null, .null, .null] .null ∧ Ovr Z kA cH
theorem own_pn_com_example_admit_one_admitone_engine_DueOrder : plainName cD = true := by first | (simp [plainName, overriddenIn]; done) | decide +kernel
theorem efDueI (m : MethodId) (x0 : Addr) : entryFrame m #[(.ref x0)] 1 = mkF m 0 #[.val (.ref x0)] [] := by first | (simp [entryFrame, mkF, argsToLocals, Value.category]; done) | rfl
set_option maxRecDepth 65536 in
set_option maxHeartbeats 40000000 in
theorem rmDueI (l : Launch) (Z : State) (az : Array Value) (hw : ∀ d ∈ tables_1, d.before az Z = true) (ws : List Jvm.Cond) (a0 : Addr) (h0 : Heap) (n0 : Nat) (Z0 : n0 ≤ h0.size) (F0 : Exa Z h0 a0 cD) (F1 : Fld Z h0 a0 cD "heads" dA .null) (F2 : Fld Z h0 a0 cD "count" "I" (.int (0 : Int32))) (Ge0 : n0 ≤ a0) :
    MetFree l y0 (head1 (Jvm.Cond.code y0 prog_4_method_1_code 1 none :: ws) ({ frames := 1, cells := 1, slots := 4, locals := 12 } : Room)) (fun a U => a = #[(.ref a0)] ∧ Z.Warmed39 U.vm ∧ U.heap = h0) (fun _ _ _ _ _ => True) (fun _ U o U' => ∃ v L, o = .returned v ∧ QDueI Z a0 h0 n0 v U'.heap L ∧ FrameEnd U o U' L ({ frames := 1, cells := 1, slots := 4, locals := 12 } : Room).cells ({ frames := 1, cells := 1, slots := 4, locals := 12 } : Room).slots) := by
  refine MetFree.of_bodySF (plainFor_of_name own_pn_com_example_admit_one_admitone_engine_DueOrder) hisR ?_
  intro p e s m args below meth c s₁ Bd hml0 hP hK
  obtain ⟨rfl, hZ, hh⟩ := hP
  have hx := Bd.exec
  have hby := Bd.bytes
  have hml : c.maxLocals = 1 := hml0
  have hown : s.vm.findClass cD = some m.cls := findClass_of_methodNamed Bd.named
  have hnm := (name_of_methodNamed Bd.named Bd.method).1
  have X0 : Stand p l e ({ frames := 1, cells := 1, slots := 4, locals := 12 } : Room) s m #[(.ref a0)] below meth c s₁ [] 0 0 := Stand.of_body Bd
  have e0 : s₁.heap = h0 := by rw [← hh, Bd.state]; rfl
  have N0 := Fr.nil n0
  have Kp0 : Keep h0 h0 [a0] := Keep.refl _ _
  refine Goes.start ?_
  refine Goes.by (B := s₁.setTop (mkF m 0 #[.val (.ref a0)] [])) (fun t k => castTop (efDueI m a0) k) ?_
  refine Goes.by (B := s₁.setTop (mkF m 1 #[.val (.ref a0)] [(.ref a0)])) (fun t k => ?_) ?_
  · refine XS.aloadN X0.here hx rfl (hb hby d1_0) rfl rfl ?_
    exact k
  obtain ⟨T1, X1, e1, st1⟩ := initO X0 hx hZ hown (wq hw 6 rfl) (wq hw 7 rfl) (wq hw 8 rfl) e0 (g := (mkF m 1 #[.val (.ref a0)] [(.ref a0)])) rfl (by rw [hml]; rfl) rfl (hb hby d1_1) (by decide) (W := 0) (by show 2 * 0 + _ ≤ _; exact Nat.le_of_eq rfl) (by decide)
  refine Goes.by st1 ?_
  clear X0
  refine Goes.by (B := T1.setTop (mkF m 6 #[.val (.ref a0)] [(.int (4 : Int32)), (.ref a0)])) (fun t k => ?_) ?_
  · refine XS.aloadN X1.here hx rfl (hb hby d1_4) rfl rfl ?_
    refine XS.iconst X1.here hx rfl (hb hby d1_5) ?_
    exact k
  obtain ⟨T2, h2, k2, X2, e2, E2, A2, O2, st2⟩ := newR X1 hx hZ hown (wq hw 9 rfl) (wq hw 10 rfl) e1 (g := (mkF m 6 #[.val (.ref a0)] [(.int (4 : Int32)), (.ref a0)])) rfl (hb hby d1_6) rfl (by decide) (cap := 4) (by decide) (by decide) (by decide) (by decide)
  obtain ⟨b3, g2⟩ : ∃ z, z = h0.size := ⟨_, rfl⟩
  rw [← g2] at A2 st2
  have ne4 : a0 ≠ b3 := Nat.ne_of_lt (Nat.lt_of_lt_of_le F0.lt (Nat.le_of_eq g2.symm))
  have ge5 : n0 ≤ b3 := Nat.le_trans Z0 (Nat.le_of_eq g2.symm)
  have sz6 : h0.size ≤ b3 := Nat.le_trans Kp0.1 (Nat.le_of_eq g2.symm)
  have f7 : Exa Z h2 a0 cD := F0.ext E2
  have f8 : Fld Z h2 a0 cD "heads" dA .null := F1.ext E2
  have f9 : Fld Z h2 a0 cD "count" "I" (.int (0 : Int32)) := F2.ext E2
  have f10 : Arv Z h2 b3 k2 (.object cH) (4 : Int32) [.null, .null, .null, .null] .null := (Arv.new A2 (by decide)).pad (pad_rep [] .null 4)
  have Kp2 : Keep h0 h2 [a0] := Kp0.ext E2
  have Z11 : n0 ≤ h2.size := Nat.le_trans Z0 E2.1
  refine Goes.by st2 ?_
  clear X1 e1
  obtain ⟨T12, h12, X12, e12, W12, st12⟩ := putF X2 hx hZ hown (host := "") (Or.inl (wq hw 11 rfl)) Via.refl e2 f8 f7 (Or.inl (wq hw 12 rfl)) (wq hw 1 rfl) (ty := (.array (.object cH))) (by decide) rfl rfl (g := (mkF m 9 #[.val (.ref a0)] [(.ref b3), (.ref a0)])) rfl rfl (hb hby d1_9)
  have f13 : Exa Z h12 a0 cD := f7.wr W12
  have f14 : Fld Z h12 a0 cD "count" "I" (.int (0 : Int32)) := f9.other W12 (Or.inr (slot_ne (Or.inl (wq hw 35 rfl)) (Or.inl (wq hw 12 rfl)) (by decide) (t := .int) (t' := (.array (.object cH))) (by decide) (by decide)))
  have f15 : Arv Z h12 b3 k2 (.object cH) (4 : Int32) [.null, .null, .null, .null] .null := f10.other W12 (Ne.symm ne4)
  have f16 : Fld Z h12 a0 cD "heads" dA (.ref b3) := f8.same W12
  have Kp12 : Keep h0 h12 [a0] := Kp2.wr W12 (Or.inl (List.mem_of_getElem? (i := 0) rfl))
  have Z17 : n0 ≤ h12.size := Nat.le_trans Z11 (Nat.le_of_eq W12.size.symm)
  have N18 := Fr.snoc X12 N0 Ge0
  refine Goes.by st12 ?_
  clear f7 f8 f9 f10 X2 N0 Z11 Kp2 e2
  obtain ⟨fs, hr, hrun, hended, hW, hsame⟩ := X12.leave (v := none) (fun _ => rfl)
  refine Goes.mk _ _ ?_ ⟨hrun, hended, _, _, rfl, ?_, ⟨_, rfl⟩, hW, hsame.mono (by decide) (by decide)⟩
  · exact X12.returnOut hx Bd.returns (hb hby d1_12) hr
  · show QDueI Z a0 h0 n0 _ T12.heap _
    rw [e12]
    exact ⟨b3, k2, rfl, N18, Kp12, sz6, f13, f16, f14, f15, O2⟩
theorem d8_0 : decode prog_5_method_1_code 0 = .ok (.aload_n 0, 1) := by decide +kernel
theorem d8_1 : decode prog_5_method_1_code 1 = .ok (.invokespecial 1, 3) := by decide +kernel
theorem own_pd0 : parseMethodDescriptor "()V" = some ⟨[], none⟩ := by decide +kernel
theorem d8_4 : decode prog_5_method_1_code 4 = .ok (.aload_n 0, 1) := by decide +kernel
theorem d8_5 : decode prog_5_method_1_code 5 = .ok (.lload_n 1, 1) := by decide +kernel
theorem d8_6 : decode prog_5_method_1_code 6 = .ok (.putfield 7, 3) := by decide +kernel
theorem d8_9 : decode prog_5_method_1_code 9 = .ok (.aload_n 0, 1) := by decide +kernel
theorem d8_10 : decode prog_5_method_1_code 10 = .ok (.aload_n 0, 1) := by decide +kernel
theorem d8_11 : decode prog_5_method_1_code 11 = .ok (.putfield 13, 3) := by decide +kernel
theorem d8_14 : decode prog_5_method_1_code 14 = .ok (.aload_n 0, 1) := by decide +kernel
theorem d8_15 : decode prog_5_method_1_code 15 = .ok (.aload_n 0, 1) := by decide +kernel
theorem d8_16 : decode prog_5_method_1_code 16 = .ok (.putfield 17, 3) := by decide +kernel
theorem d8_19 : decode prog_5_method_1_code 19 = .ok (.return_, 1) := by decide +kernel
def QHeadI (Z : State) (a0 : Addr) (q1 : Int64) (h0 : Heap) (n0 : Nat) (v : Option Value) (h : Heap) (L : List Loc) : Prop := v = none ∧ Fr n0 L ∧ Keep h0 h [a0] ∧ Exa Z h a0 cH ∧ Fld Z h a0 cH "tick" "J" (.long q1) ∧ Fld Z h a0 cL "next" dL (.ref a0) ∧ Fld Z h a0 cL "prev" dL (.ref a0)
theorem own_pn_com_example_admit_one_admitone_engine_DueOrder_Head : plainName cH = true := by first | (simp [plainName, overriddenIn]; done) | decide +kernel
theorem efHeadI (m : MethodId) (x0 : Addr) (x1 : Int64) : entryFrame m #[(.ref x0), (.long x1)] 3 = mkF m 0 #[.val (.ref x0), .val (.long x1), .second] [] := by first | (simp [entryFrame, mkF, argsToLocals, Value.category]; done) | rfl
set_option maxRecDepth 65536 in
set_option maxHeartbeats 40000000 in
theorem rmHeadI (l : Launch) (Z : State) (az : Array Value) (hw : ∀ d ∈ tables_1, d.before az Z = true) (ws : List Jvm.Cond) (a0 : Addr) (q1 : Int64) (h0 : Heap) (n0 : Nat) (Z0 : n0 ≤ h0.size) (F0 : Exa Z h0 a0 cH) (F1 : Fld Z h0 a0 cH "tick" "J" (.long (0 : Int64))) (F2 : Fld Z h0 a0 cL "next" dL .null) (F3 : Fld Z h0 a0 cL "prev" dL .null) (Ge0 : n0 ≤ a0) :
    MetFree l y6 (head1 (Jvm.Cond.code y6 prog_5_method_1_code 3 none :: ws) ({ frames := 2, cells := 0, slots := 0, locals := 24 } : Room)) (fun a U => a = #[(.ref a0), (.long q1)] ∧ Z.Warmed39 U.vm ∧ U.heap = h0) (fun _ _ _ _ _ => True) (fun _ U o U' => ∃ v L, o = .returned v ∧ QHeadI Z a0 q1 h0 n0 v U'.heap L ∧ FrameEnd U o U' L ({ frames := 2, cells := 0, slots := 0, locals := 24 } : Room).cells ({ frames := 2, cells := 0, slots := 0, locals := 24 } : Room).slots) := by
  refine MetFree.of_bodySF (plainFor_of_name own_pn_com_example_admit_one_admitone_engine_DueOrder_Head) hisR ?_
  intro p e s m args below meth c s₁ Bd hml0 hP hK
  obtain ⟨rfl, hZ, hh⟩ := hP
  have hx := Bd.exec
  have hby := Bd.bytes
  have hml : c.maxLocals = 3 := hml0
  have hown : s.vm.findClass cH = some m.cls := findClass_of_methodNamed Bd.named
  have hnm := (name_of_methodNamed Bd.named Bd.method).1
  have X0 : Stand p l e ({ frames := 2, cells := 0, slots := 0, locals := 24 } : Room) s m #[(.ref a0), (.long q1)] below meth c s₁ [] 0 0 := Stand.of_body Bd
  have e0 : s₁.heap = h0 := by rw [← hh, Bd.state]; rfl
  have N0 := Fr.nil n0
  have Kp0 : Keep h0 h0 [a0] := Keep.refl _ _
  refine Goes.start ?_
  refine Goes.by (B := s₁.setTop (mkF m 0 #[.val (.ref a0), .val (.long q1), .second] [])) (fun t k => castTop (efHeadI m a0 q1) k) ?_
  refine Goes.by (B := s₁.setTop (mkF m 1 #[.val (.ref a0), .val (.long q1), .second] [(.ref a0)])) (fun t k => ?_) ?_
  · refine XS.aloadN X0.here hx rfl (hb hby d8_0) rfl rfl ?_
    exact k
  obtain ⟨_, _, ⟨T1, L1, k1, n1⟩, -, X1, ⟨Lc1, hQ1, l1, y1, z1⟩, st1⟩ := X0.specialBack hx (y := y1) rfl hown (mvT hZ (wq hw 49 rfl)) (mvT hZ (wq hw 17 rfl)) (mvT hZ (wq hw 18 rfl)) (by decide) (backOf (W := 0) (rmLinkI l Z az hw [] a0 h0 n0 Z0 ) hZ (wq hw 18 rfl) (wq hw 15 rfl) (by decide) (by decide)) (g := (mkF m 1 #[.val (.ref a0), .val (.long q1), .second] [(.ref a0)])) rfl (by rw [hml]; rfl) (Steps.refl _) (a := a0) (argsL := []) (rest := []) (lenOf own_pd0 rfl) rfl (by show 2 * 0 + _ ≤ _; exact Nat.le_of_eq rfl) (hb hby d8_1) (fun _ _ => ⟨rfl, e0, (by decide : 0 + 0 ≤ _), (by decide : 0 + 0 ≤ _)⟩)
  dsimp only [Pt.U, Pt.locs, Pt.cells, Pt.slots] at X1 l1 y1 z1 st1 hQ1
  subst l1 y1 z1
  replace X1 : Stand p l e ({ frames := 2, cells := 0, slots := 0, locals := 24 } : Room) s m #[(.ref a0), (.long q1)] below meth c T1 _ 0 0 := X1
  obtain ⟨rfl, N1q, e1⟩ := hQ1
  have N2 := Fr.app N0 N1q
  refine Goes.by (fun _ k => st1.trans k) ?_
  clear X0 N0
  refine Goes.by (B := T1.setTop (mkF m 6 #[.val (.ref a0), .val (.long q1), .second] [(.long q1), (.ref a0)])) (fun t k => ?_) ?_
  · refine XS.aloadN X1.here hx rfl (hb hby d8_4) rfl rfl ?_
    refine XS.lloadN X1.here hx rfl (hb hby d8_5) rfl ?_
    exact k
  obtain ⟨T3, h3, X3, e3, W3, st3⟩ := putF X1 hx hZ hown (host := "") (Or.inl (wq hw 51 rfl)) Via.refl e1 F1 F0 (Or.inr ⟨(wq hw 52 rfl), rfl, hnm⟩) (wq hw 44 rfl) (ty := .long) (by decide) rfl rfl (g := (mkF m 6 #[.val (.ref a0), .val (.long q1), .second] [(.long q1), (.ref a0)])) rfl rfl (hb hby d8_6)
  have f4 : Exa Z h3 a0 cH := F0.wr W3
  have f5 : Fld Z h3 a0 cL "next" dL .null := F2.other W3 (Or.inr (slot_ne (Or.inl (wq hw 54 rfl)) (Or.inr (wq hw 52 rfl)) (by decide) (t := (.object cL)) (t' := .long) (by decide) (by decide)))
  have f6 : Fld Z h3 a0 cL "prev" dL .null := F3.other W3 (Or.inr (slot_ne (Or.inl (wq hw 56 rfl)) (Or.inr (wq hw 52 rfl)) (by decide) (t := (.object cL)) (t' := .long) (by decide) (by decide)))
  have f7 : Fld Z h3 a0 cH "tick" "J" (.long q1) := F1.same W3
  have Kp3 : Keep h0 h3 [a0] := Kp0.wr W3 (Or.inl (List.mem_of_getElem? (i := 0) rfl))
  have Z8 : n0 ≤ h3.size := Nat.le_trans Z0 (Nat.le_of_eq W3.size.symm)
  have N9 := Fr.snoc X3 N2 Ge0
  refine Goes.by st3 ?_
  clear X1 N2 e1
  refine Goes.by (B := T3.setTop (mkF m 11 #[.val (.ref a0), .val (.long q1), .second] [(.ref a0), (.ref a0)])) (fun t k => ?_) ?_
  · refine XS.aloadN X3.here hx rfl (hb hby d8_9) rfl rfl ?_
    refine XS.aloadN X3.here hx rfl (hb hby d8_10) rfl rfl ?_
    exact k
  obtain ⟨T10, h10, X10, e10, W10, st10⟩ := putF X3 hx hZ hown (Or.inr (wq hw 53 rfl)) Via.refl e3 f5 f4 (Or.inl (wq hw 54 rfl)) (wq hw 44 rfl) (ty := (.object cL)) (by decide) rfl rfl (g := (mkF m 11 #[.val (.ref a0), .val (.long q1), .second] [(.ref a0), (.ref a0)])) rfl rfl (hb hby d8_11)
  have f11 : Exa Z h10 a0 cH := f4.wr W10
  have f12 : Fld Z h10 a0 cL "prev" dL .null := f6.other W10 (Or.inr (slot_ne (Or.inl (wq hw 56 rfl)) (Or.inl (wq hw 54 rfl)) (by decide) (t := (.object cL)) (t' := (.object cL)) (by decide) (by decide)))
  have f13 : Fld Z h10 a0 cH "tick" "J" (.long q1) := f7.other W10 (Or.inr (slot_ne (Or.inr (wq hw 52 rfl)) (Or.inl (wq hw 54 rfl)) (by decide) (t := .long) (t' := (.object cL)) (by decide) (by decide)))
  have f14 : Fld Z h10 a0 cL "next" dL (.ref a0) := f5.same W10
  have Kp10 : Keep h0 h10 [a0] := Kp3.wr W10 (Or.inl (List.mem_of_getElem? (i := 0) rfl))
  have Z15 : n0 ≤ h10.size := Nat.le_trans Z8 (Nat.le_of_eq W10.size.symm)
  have N16 := Fr.snoc X10 N9 Ge0
  refine Goes.by st10 ?_
  clear f4 f5 f6 f7 X3 N9 Z8 Kp3 e3
  refine Goes.by (B := T10.setTop (mkF m 16 #[.val (.ref a0), .val (.long q1), .second] [(.ref a0), (.ref a0)])) (fun t k => ?_) ?_
  · refine XS.aloadN X10.here hx rfl (hb hby d8_14) rfl rfl ?_
    refine XS.aloadN X10.here hx rfl (hb hby d8_15) rfl rfl ?_
    exact k
  obtain ⟨T17, h17, X17, e17, W17, st17⟩ := putF X10 hx hZ hown (Or.inr (wq hw 55 rfl)) Via.refl e10 f12 f11 (Or.inl (wq hw 56 rfl)) (wq hw 44 rfl) (ty := (.object cL)) (by decide) rfl rfl (g := (mkF m 16 #[.val (.ref a0), .val (.long q1), .second] [(.ref a0), (.ref a0)])) rfl rfl (hb hby d8_16)
  have f18 : Exa Z h17 a0 cH := f11.wr W17
  have f19 : Fld Z h17 a0 cH "tick" "J" (.long q1) := f13.other W17 (Or.inr (slot_ne (Or.inr (wq hw 52 rfl)) (Or.inl (wq hw 56 rfl)) (by decide) (t := .long) (t' := (.object cL)) (by decide) (by decide)))
  have f20 : Fld Z h17 a0 cL "next" dL (.ref a0) := f14.other W17 (Or.inr (slot_ne (Or.inl (wq hw 54 rfl)) (Or.inl (wq hw 56 rfl)) (by decide) (t := (.object cL)) (t' := (.object cL)) (by decide) (by decide)))
  have f21 : Fld Z h17 a0 cL "prev" dL (.ref a0) := f12.same W17
  have Kp17 : Keep h0 h17 [a0] := Kp10.wr W17 (Or.inl (List.mem_of_getElem? (i := 0) rfl))
  have Z22 : n0 ≤ h17.size := Nat.le_trans Z15 (Nat.le_of_eq W17.size.symm)
  have N23 := Fr.snoc X17 N16 Ge0
  refine Goes.by st17 ?_
  clear f11 f12 f13 f14 X10 N16 Z15 Kp10 e10
  obtain ⟨fs, hr, hrun, hended, hW, hsame⟩ := X17.leave (v := none) (fun _ => rfl)
  refine Goes.mk _ _ ?_ ⟨hrun, hended, _, _, rfl, ?_, ⟨_, rfl⟩, hW, hsame.mono (by decide) (by decide)⟩
  · exact X17.returnOut hx Bd.returns (hb hby d8_19) hr
  · show QHeadI Z a0 q1 h0 n0 _ T17.heap _
    rw [e17]
    exact ⟨rfl, N23, Kp17, f18, f19, f20, f21⟩
theorem d7_0 : decode prog_4_method_10_code 0 = .ok (.iconst 0, 1) := by decide +kernel
theorem d7_1 : decode prog_4_method_10_code 1 = .ok (.istore_n 3, 1) := by decide +kernel
theorem d7_2 : decode prog_4_method_10_code 2 = .ok (.aload_n 0, 1) := by decide +kernel
theorem d7_3 : decode prog_4_method_10_code 3 = .ok (.getfield 15, 3) := by decide +kernel
theorem d7_6 : decode prog_4_method_10_code 6 = .ok (.istore 4, 2) := by decide +kernel
theorem d7_8 : decode prog_4_method_10_code 8 = .ok (.iload_n 3, 1) := by decide +kernel
theorem d7_9 : decode prog_4_method_10_code 9 = .ok (.iload 4, 2) := by decide +kernel
theorem d7_11 : decode prog_4_method_10_code 11 = .ok (.if_icmp .ge 41, 3) := by decide +kernel
theorem d7_52 : decode prog_4_method_10_code 52 = .ok (.iload_n 3, 1) := by decide +kernel
theorem d7_53 : decode prog_4_method_10_code 53 = .ok (.ireturn, 1) := by decide +kernel
def QDue0 (Z : State) (a0 : Addr) (q1 : Int64) (ar : Addr) (h0 : Heap) (n0 : Nat) (v : Option Value) (h : Heap) (L : List Loc) : Prop := v = some (.int (0 : Int32)) ∧ Fr n0 L ∧ h = h0
theorem efDue0 (m : MethodId) (x0 : Addr) (x1 : Int64) : entryFrame m #[(.ref x0), (.long x1)] 6 = mkF m 0 #[.val (.ref x0), .val (.long x1), .second, .unset, .unset, .unset] [] := by first | (simp [entryFrame, mkF, argsToLocals, Value.category]; done) | rfl
set_option maxRecDepth 65536 in
set_option maxHeartbeats 40000000 in
theorem rmDue0 (l : Launch) (Z : State) (az : Array Value) (hw : ∀ d ∈ tables_1, d.before az Z = true) (ws : List Jvm.Cond) (a0 : Addr) (q1 : Int64) (ar : Addr) (h0 : Heap) (n0 : Nat) (Z0 : n0 ≤ h0.size) (F0 : Exa Z h0 a0 cD) (F1 : Fld Z h0 a0 cD "heads" dA (.ref ar)) (F2 : Fld Z h0 a0 cD "count" "I" (.int (0 : Int32))) :
    MetFree l y5 (head1 (Jvm.Cond.code y5 prog_4_method_10_code 6 (some .int) :: ws) ({ frames := 0, cells := 0, slots := 0, locals := 0 } : Room)) (fun a U => a = #[(.ref a0), (.long q1)] ∧ Z.Warmed39 U.vm ∧ U.heap = h0) (fun _ _ _ _ _ => True) (fun _ U o U' => ∃ v L, o = .returned v ∧ QDue0 Z a0 q1 ar h0 n0 v U'.heap L ∧ FrameEnd U o U' L ({ frames := 0, cells := 0, slots := 0, locals := 0 } : Room).cells ({ frames := 0, cells := 0, slots := 0, locals := 0 } : Room).slots) := by
  refine MetFree.of_bodySF (plainFor_of_name own_pn_com_example_admit_one_admitone_engine_DueOrder) hisR ?_
  intro p e s m args below meth c s₁ Bd hml0 hP hK
  obtain ⟨rfl, hZ, hh⟩ := hP
  have hx := Bd.exec
  have hby := Bd.bytes
  have hml : c.maxLocals = 6 := hml0
  have hown : s.vm.findClass cD = some m.cls := findClass_of_methodNamed Bd.named
  have hnm := (name_of_methodNamed Bd.named Bd.method).1
  have X0 : Stand p l e ({ frames := 0, cells := 0, slots := 0, locals := 0 } : Room) s m #[(.ref a0), (.long q1)] below meth c s₁ [] 0 0 := Stand.of_body Bd
  have e0 : s₁.heap = h0 := by rw [← hh, Bd.state]; rfl
  have N0 := Fr.nil n0
  have Kp0 : Keep h0 h0 [] := Keep.refl _ _
  refine Goes.start ?_
  refine Goes.by (B := s₁.setTop (mkF m 0 #[.val (.ref a0), .val (.long q1), .second, .unset, .unset, .unset] [])) (fun t k => castTop (efDue0 m a0 q1) k) ?_
  refine Goes.by (B := s₁.setTop (mkF m 3 #[.val (.ref a0), .val (.long q1), .second, .val (.int (0 : Int32)), .unset, .unset] [(.ref a0)])) (fun t k => ?_) ?_
  · refine XS.iconst X0.here hx rfl (hb hby d7_0) ?_
    refine XS.istoreN X0.here hx rfl (hb hby d7_1) rfl (l' := #[.val (.ref a0), .val (.long q1), .second, .val (.int (0 : Int32)), .unset, .unset]) rfl ?_
    refine XS.aloadN X0.here hx rfl (hb hby d7_2) rfl rfl ?_
    exact k
  obtain ⟨T1, X1, e1, st1⟩ := getF X0 hx hZ hown (host := "") (Or.inl (wq hw 34 rfl)) Via.refl e0 F2 (g := (mkF m 3 #[.val (.ref a0), .val (.long q1), .second, .val (.int (0 : Int32)), .unset, .unset] [(.ref a0)])) rfl rfl (hb hby d7_3)
  refine Goes.by st1 ?_
  clear X0
  refine Goes.by (B := T1.setTop (mkF m 53 #[.val (.ref a0), .val (.long q1), .second, .val (.int (0 : Int32)), .val (.int (0 : Int32)), .unset] [(.int (0 : Int32))])) (fun t k => ?_) ?_
  · refine XS.istore X1.here hx rfl (hb hby d7_6) rfl (l' := #[.val (.ref a0), .val (.long q1), .second, .val (.int (0 : Int32)), .val (.int (0 : Int32)), .unset]) rfl ?_
    refine XS.iloadN X1.here hx rfl (hb hby d7_8) rfl ?_
    refine XS.iload X1.here hx rfl (hb hby d7_9) rfl ?_
    refine XS.icmpYes X1.here hx rfl (pc0 := 11) (pc' := 52) rfl (hb hby d7_11) rfl (flt (by decide : ¬ ((0 : Int32) < (0 : Int32)))).2.1 (by decide) (by decide) ?_
    refine XS.iloadN X1.here hx rfl (hb hby d7_52) rfl ?_
    exact k
  obtain ⟨fs, hr, hrun, hended, hW, hsame⟩ := X1.leave (v := some (.int (0 : Int32))) (fun h => by rw [Bd.returns] at h; cases h)
  refine Goes.mk _ _ ?_ ⟨hrun, hended, _, _, rfl, ?_, ⟨_, rfl⟩, hW, hsame.mono (by decide) (by decide)⟩
  · exact retI X1 hx Bd.returns (hb hby d7_53) hr
  · show QDue0 Z a0 q1 ar h0 n0 _ T1.heap _
    rw [e1]
    exact ⟨rfl, N0, rfl⟩
theorem d7_14 : decode prog_4_method_10_code 14 = .ok (.iload_n 3, 1) := by decide +kernel
theorem d7_15 : decode prog_4_method_10_code 15 = .ok (.iload 4, 2) := by decide +kernel
theorem d7_17 : decode prog_4_method_10_code 17 = .ok (.iadd, 1) := by decide +kernel
theorem d7_18 : decode prog_4_method_10_code 18 = .ok (.iconst 1, 1) := by decide +kernel
theorem d7_19 : decode prog_4_method_10_code 19 = .ok (.iushr, 1) := by decide +kernel
theorem d7_20 : decode prog_4_method_10_code 20 = .ok (.istore 5, 2) := by decide +kernel
theorem d7_22 : decode prog_4_method_10_code 22 = .ok (.aload_n 0, 1) := by decide +kernel
theorem d7_23 : decode prog_4_method_10_code 23 = .ok (.getfield 11, 3) := by decide +kernel
theorem d7_26 : decode prog_4_method_10_code 26 = .ok (.iload 5, 2) := by decide +kernel
theorem d7_28 : decode prog_4_method_10_code 28 = .ok (.aaload, 1) := by decide +kernel
theorem d7_29 : decode prog_4_method_10_code 29 = .ok (.getfield 23, 3) := by decide +kernel
theorem d7_32 : decode prog_4_method_10_code 32 = .ok (.lload_n 1, 1) := by decide +kernel
theorem d7_33 : decode prog_4_method_10_code 33 = .ok (.lcmp, 1) := by decide +kernel
theorem d7_34 : decode prog_4_method_10_code 34 = .ok (.ifCond .gt 11, 3) := by decide +kernel
theorem d7_45 : decode prog_4_method_10_code 45 = .ok (.iload 5, 2) := by decide +kernel
theorem d7_47 : decode prog_4_method_10_code 47 = .ok (.istore 4, 2) := by decide +kernel
theorem d7_49 : decode prog_4_method_10_code 49 = .ok (.goto (-41), 3) := by decide +kernel
theorem d7_37 : decode prog_4_method_10_code 37 = .ok (.iload 5, 2) := by decide +kernel
theorem d7_39 : decode prog_4_method_10_code 39 = .ok (.iconst 1, 1) := by decide +kernel
theorem d7_40 : decode prog_4_method_10_code 40 = .ok (.iadd, 1) := by decide +kernel
theorem d7_41 : decode prog_4_method_10_code 41 = .ok (.istore_n 3, 1) := by decide +kernel
theorem d7_42 : decode prog_4_method_10_code 42 = .ok (.goto 7, 3) := by decide +kernel
def fDue1 (q1 : Int64) (t1 : Int64) : Int32 := (if q1 < t1 then (0 : Int32) else (1 : Int32))
def QDue1 (Z : State) (a0 : Addr) (q1 : Int64) (ar : Addr) (kA : ClassId) (x1 : Addr) (t1 : Int64) (h0 : Heap) (n0 : Nat) (v : Option Value) (h : Heap) (L : List Loc) : Prop := v = some (.int (fDue1 q1 t1)) ∧ Fr n0 L ∧ h = h0
theorem efDue1 (m : MethodId) (x0 : Addr) (x1 : Int64) : entryFrame m #[(.ref x0), (.long x1)] 6 = mkF m 0 #[.val (.ref x0), .val (.long x1), .second, .unset, .unset, .unset] [] := by first | (simp [entryFrame, mkF, argsToLocals, Value.category]; done) | rfl
set_option maxRecDepth 65536 in
set_option maxHeartbeats 40000000 in
theorem rmDue1 (l : Launch) (Z : State) (az : Array Value) (hw : ∀ d ∈ tables_1, d.before az Z = true) (ws : List Jvm.Cond) (a0 : Addr) (q1 : Int64) (ar : Addr) (kA : ClassId) (x1 : Addr) (t1 : Int64) (h0 : Heap) (n0 : Nat) (Z0 : n0 ≤ h0.size) (F0 : Exa Z h0 a0 cD) (F1 : Fld Z h0 a0 cD "heads" dA (.ref ar)) (F2 : Fld Z h0 a0 cD "count" "I" (.int (1 : Int32))) (F3 : Arv Z h0 ar kA (.object cH) (4 : Int32) [(.ref x1), .null, .null, .null] .null) (F4 : Ovr Z kA cH) (F5 : Exa Z h0 x1 cH) (F6 : Fld Z h0 x1 cH "tick" "J" (.long t1)) :
    MetFree l y5 (head1 (Jvm.Cond.code y5 prog_4_method_10_code 6 (some .int) :: ws) ({ frames := 0, cells := 0, slots := 0, locals := 0 } : Room)) (fun a U => a = #[(.ref a0), (.long q1)] ∧ Z.Warmed39 U.vm ∧ U.heap = h0) (fun _ _ _ _ _ => True) (fun _ U o U' => ∃ v L, o = .returned v ∧ QDue1 Z a0 q1 ar kA x1 t1 h0 n0 v U'.heap L ∧ FrameEnd U o U' L ({ frames := 0, cells := 0, slots := 0, locals := 0 } : Room).cells ({ frames := 0, cells := 0, slots := 0, locals := 0 } : Room).slots) := by
  refine MetFree.of_bodySF (plainFor_of_name own_pn_com_example_admit_one_admitone_engine_DueOrder) hisR ?_
  intro p e s m args below meth c s₁ Bd hml0 hP hK
  obtain ⟨rfl, hZ, hh⟩ := hP
  have hx := Bd.exec
  have hby := Bd.bytes
  have hml : c.maxLocals = 6 := hml0
  have hown : s.vm.findClass cD = some m.cls := findClass_of_methodNamed Bd.named
  have hnm := (name_of_methodNamed Bd.named Bd.method).1
  have X0 : Stand p l e ({ frames := 0, cells := 0, slots := 0, locals := 0 } : Room) s m #[(.ref a0), (.long q1)] below meth c s₁ [] 0 0 := Stand.of_body Bd
  have e0 : s₁.heap = h0 := by rw [← hh, Bd.state]; rfl
  have N0 := Fr.nil n0
  have Kp0 : Keep h0 h0 [] := Keep.refl _ _
  refine Goes.start ?_
  refine Goes.by (B := s₁.setTop (mkF m 0 #[.val (.ref a0), .val (.long q1), .second, .unset, .unset, .unset] [])) (fun t k => castTop (efDue1 m a0 q1) k) ?_
  refine Goes.by (B := s₁.setTop (mkF m 3 #[.val (.ref a0), .val (.long q1), .second, .val (.int (0 : Int32)), .unset, .unset] [(.ref a0)])) (fun t k => ?_) ?_
  · refine XS.iconst X0.here hx rfl (hb hby d7_0) ?_
    refine XS.istoreN X0.here hx rfl (hb hby d7_1) rfl (l' := #[.val (.ref a0), .val (.long q1), .second, .val (.int (0 : Int32)), .unset, .unset]) rfl ?_
    refine XS.aloadN X0.here hx rfl (hb hby d7_2) rfl rfl ?_
    exact k
  obtain ⟨T1, X1, e1, st1⟩ := getF X0 hx hZ hown (host := "") (Or.inl (wq hw 34 rfl)) Via.refl e0 F2 (g := (mkF m 3 #[.val (.ref a0), .val (.long q1), .second, .val (.int (0 : Int32)), .unset, .unset] [(.ref a0)])) rfl rfl (hb hby d7_3)
  refine Goes.by st1 ?_
  clear X0
  refine Goes.by (B := T1.setTop (mkF m 23 #[.val (.ref a0), .val (.long q1), .second, .val (.int (0 : Int32)), .val (.int (1 : Int32)), .val (.int (0 : Int32))] [(.ref a0)])) (fun t k => ?_) ?_
  · refine XS.istore X1.here hx rfl (hb hby d7_6) rfl (l' := #[.val (.ref a0), .val (.long q1), .second, .val (.int (0 : Int32)), .val (.int (1 : Int32)), .unset]) rfl ?_
    refine XS.iloadN X1.here hx rfl (hb hby d7_8) rfl ?_
    refine XS.iload X1.here hx rfl (hb hby d7_9) rfl ?_
    refine XS.icmpNo X1.here hx rfl (hb hby d7_11) rfl (tlt (by decide : (0 : Int32) < (1 : Int32))).2.1 ?_
    refine XS.iloadN X1.here hx rfl (hb hby d7_14) rfl ?_
    refine XS.iload X1.here hx rfl (hb hby d7_15) rfl ?_
    refine XS.iadd X1.here hx rfl (hb hby d7_17) rfl ?_
    refine XS.iconst X1.here hx rfl (hb hby d7_18) ?_
    refine XS.iushr X1.here hx rfl (hb hby d7_19) rfl ?_
    refine XS.istore X1.here hx rfl (hb hby d7_20) rfl (l' := #[.val (.ref a0), .val (.long q1), .second, .val (.int (0 : Int32)), .val (.int (1 : Int32)), .val (.int (0 : Int32))]) rfl ?_
    refine XS.aloadN X1.here hx rfl (hb hby d7_22) rfl rfl ?_
    exact k
  obtain ⟨T2, X2, e2, st2⟩ := getF X1 hx hZ hown (host := "") (Or.inl (wq hw 11 rfl)) Via.refl e1 F1 (g := (mkF m 23 #[.val (.ref a0), .val (.long q1), .second, .val (.int (0 : Int32)), .val (.int (1 : Int32)), .val (.int (0 : Int32))] [(.ref a0)])) rfl rfl (hb hby d7_23)
  refine Goes.by st2 ?_
  clear X1 e1
  refine Goes.by (B := T2.setTop (mkF m 28 #[.val (.ref a0), .val (.long q1), .second, .val (.int (0 : Int32)), .val (.int (1 : Int32)), .val (.int (0 : Int32))] [(.int (0 : Int32)), (.ref ar)])) (fun t k => ?_) ?_
  · refine XS.iload X2.here hx rfl (hb hby d7_26) rfl ?_
    exact k
  obtain ⟨cl3, cl3A, cl3q, cl3S, cl3N, cl3H, cl3G⟩ := id F3
  have cl3I : ¬ ((0 : Int32) < 0 ∨ cl3.slots.size ≤ ((0 : Int32)).toNatClampNeg) := inb_of cl3S ⟨by decide, by decide⟩
  have cl3T : cl3.slots[((0 : Int32)).toNatClampNeg]? = some (.ref x1) := cl3H.at cl3I rfl
  refine Goes.by (B := T2.setTop (mkF m 29 #[.val (.ref a0), .val (.long q1), .second, .val (.int (0 : Int32)), .val (.int (1 : Int32)), .val (.int (0 : Int32))] [(.ref x1)])) (fun t k => ?_) ?_
  · refine X2.aaload hx (j := (0 : Int32)) (v := (.ref x1)) (by rw [e2]; exact cl3A.1) (State.isArrayOf_alike hZ.alike cl3A.2.1) rfl cl3A.2.2 cl3I cl3T (g := (mkF m 28 #[.val (.ref a0), .val (.long q1), .second, .val (.int (0 : Int32)), .val (.int (1 : Int32)), .val (.int (0 : Int32))] [(.int (0 : Int32)), (.ref ar)])) rfl rfl (hb hby d7_28) _ ?_
    exact k
  refine Goes.by (B := T2.setTop (mkF m 34 #[.val (.ref a0), .val (.long q1), .second, .val (.int (0 : Int32)), .val (.int (1 : Int32)), .val (.int (0 : Int32))] [(.int (lcmpW t1 q1))])) (fun t k => ?_) ?_
  · refine getFR X2 hx hZ hown (wq hw 69 rfl) e2 F6 (g := (mkF m 29 #[.val (.ref a0), .val (.long q1), .second, .val (.int (0 : Int32)), .val (.int (1 : Int32)), .val (.int (0 : Int32))] [(.ref x1)])) rfl rfl (hb hby d7_29) ?_
    refine XS.lloadN X2.here hx rfl (hb hby d7_32) rfl ?_
    refine XS.lcmp X2.here hx rfl (hb hby d7_33) rfl ?_
    exact k
  by_cases hc5 : q1 < t1
  · refine Goes.by (B := T2.setTop (mkF m 53 #[.val (.ref a0), .val (.long q1), .second, .val (.int (0 : Int32)), .val (.int (0 : Int32)), .val (.int (0 : Int32))] [(.int (0 : Int32))])) (fun t k => ?_) ?_
    · refine XS.ifYes X2.here hx rfl (pc0 := 34) (pc' := 45) rfl (hb hby d7_34) rfl ((if0 _ _).trans (tlt ((lw_gt t1 q1).mpr hc5)).2.2.1) (by decide) (by decide) ?_
      refine XS.iload X2.here hx rfl (hb hby d7_45) rfl ?_
      refine XS.istore X2.here hx rfl (hb hby d7_47) rfl (l' := #[.val (.ref a0), .val (.long q1), .second, .val (.int (0 : Int32)), .val (.int (0 : Int32)), .val (.int (0 : Int32))]) rfl ?_
      refine XS.goto X2.here hx rfl (pc0 := 49) (pc' := 8) rfl (hb hby d7_49) (by decide) (by decide) ?_
      refine XS.iloadN X2.here hx rfl (hb hby d7_8) rfl ?_
      refine XS.iload X2.here hx rfl (hb hby d7_9) rfl ?_
      refine XS.icmpYes X2.here hx rfl (pc0 := 11) (pc' := 52) rfl (hb hby d7_11) rfl (flt (by decide : ¬ ((0 : Int32) < (0 : Int32)))).2.1 (by decide) (by decide) ?_
      refine XS.iloadN X2.here hx rfl (hb hby d7_52) rfl ?_
      exact k
    obtain ⟨fs, hr, hrun, hended, hW, hsame⟩ := X2.leave (v := some (.int (0 : Int32))) (fun h => by rw [Bd.returns] at h; cases h)
    refine Goes.mk _ _ ?_ ⟨hrun, hended, _, _, rfl, ?_, ⟨_, rfl⟩, hW, hsame.mono (by decide) (by decide)⟩
    · exact retI X2 hx Bd.returns (hb hby d7_53) hr
    · show QDue1 Z a0 q1 ar kA x1 t1 h0 n0 _ T2.heap _
      rw [e2]
      exact ⟨(by simp only [fDue1, if_pos hc5]), N0, rfl⟩
  · refine Goes.by (B := T2.setTop (mkF m 53 #[.val (.ref a0), .val (.long q1), .second, .val (.int (1 : Int32)), .val (.int (1 : Int32)), .val (.int (0 : Int32))] [(.int (1 : Int32))])) (fun t k => ?_) ?_
    · refine XS.ifNo X2.here hx rfl (hb hby d7_34) rfl ((if0 _ _).trans (flt (fun z => hc5 ((lw_gt t1 q1).mp z))).2.2.1) ?_
      refine XS.iload X2.here hx rfl (hb hby d7_37) rfl ?_
      refine XS.iconst X2.here hx rfl (hb hby d7_39) ?_
      refine XS.iadd X2.here hx rfl (hb hby d7_40) rfl ?_
      refine XS.istoreN X2.here hx rfl (hb hby d7_41) rfl (l' := #[.val (.ref a0), .val (.long q1), .second, .val (.int (1 : Int32)), .val (.int (1 : Int32)), .val (.int (0 : Int32))]) rfl ?_
      refine XS.goto X2.here hx rfl (pc0 := 42) (pc' := 49) rfl (hb hby d7_42) (by decide) (by decide) ?_
      refine XS.goto X2.here hx rfl (pc0 := 49) (pc' := 8) rfl (hb hby d7_49) (by decide) (by decide) ?_
      refine XS.iloadN X2.here hx rfl (hb hby d7_8) rfl ?_
      refine XS.iload X2.here hx rfl (hb hby d7_9) rfl ?_
      refine XS.icmpYes X2.here hx rfl (pc0 := 11) (pc' := 52) rfl (hb hby d7_11) rfl (flt (by decide : ¬ ((1 : Int32) < (1 : Int32)))).2.1 (by decide) (by decide) ?_
      refine XS.iloadN X2.here hx rfl (hb hby d7_52) rfl ?_
      exact k
    obtain ⟨fs, hr, hrun, hended, hW, hsame⟩ := X2.leave (v := some (.int (1 : Int32))) (fun h => by rw [Bd.returns] at h; cases h)
    refine Goes.mk _ _ ?_ ⟨hrun, hended, _, _, rfl, ?_, ⟨_, rfl⟩, hW, hsame.mono (by decide) (by decide)⟩
    · exact retI X2 hx Bd.returns (hb hby d7_53) hr
    · show QDue1 Z a0 q1 ar kA x1 t1 h0 n0 _ T2.heap _
      rw [e2]
      exact ⟨(by simp only [fDue1, if_neg hc5]), N0, rfl⟩
theorem own_due1 (q1 t1 : Int64) : fDue1 q1 t1 = (0 : Int32) ∨ fDue1 q1 t1 = (1 : Int32) := by
  unfold fDue1
  repeat' split
  all_goals simp
def fDue2 (q1 : Int64) (t1 : Int64) (t2 : Int64) : Int32 := (if q1 < t2 then (if q1 < t1 then (0 : Int32) else (1 : Int32)) else (2 : Int32))
def QDue2 (Z : State) (a0 : Addr) (q1 : Int64) (ar : Addr) (kA : ClassId) (x1 : Addr) (x2 : Addr) (t1 : Int64) (t2 : Int64) (h0 : Heap) (n0 : Nat) (v : Option Value) (h : Heap) (L : List Loc) : Prop := v = some (.int (fDue2 q1 t1 t2)) ∧ Fr n0 L ∧ h = h0
theorem efDue2 (m : MethodId) (x0 : Addr) (x1 : Int64) : entryFrame m #[(.ref x0), (.long x1)] 6 = mkF m 0 #[.val (.ref x0), .val (.long x1), .second, .unset, .unset, .unset] [] := by first | (simp [entryFrame, mkF, argsToLocals, Value.category]; done) | rfl
set_option maxRecDepth 65536 in
set_option maxHeartbeats 40000000 in
theorem rmDue2 (l : Launch) (Z : State) (az : Array Value) (hw : ∀ d ∈ tables_1, d.before az Z = true) (ws : List Jvm.Cond) (a0 : Addr) (q1 : Int64) (ar : Addr) (kA : ClassId) (x1 : Addr) (x2 : Addr) (t1 : Int64) (t2 : Int64) (h0 : Heap) (n0 : Nat) (Z0 : n0 ≤ h0.size) (F0 : Exa Z h0 a0 cD) (F1 : Fld Z h0 a0 cD "heads" dA (.ref ar)) (F2 : Fld Z h0 a0 cD "count" "I" (.int (2 : Int32))) (F3 : Arv Z h0 ar kA (.object cH) (4 : Int32) [(.ref x1), (.ref x2), .null, .null] .null) (F4 : Ovr Z kA cH) (F5 : Exa Z h0 x1 cH) (F6 : Fld Z h0 x1 cH "tick" "J" (.long t1)) (F7 : Exa Z h0 x2 cH) (F8 : Fld Z h0 x2 cH "tick" "J" (.long t2)) :
    MetFree l y5 (head1 (Jvm.Cond.code y5 prog_4_method_10_code 6 (some .int) :: ws) ({ frames := 0, cells := 0, slots := 0, locals := 0 } : Room)) (fun a U => a = #[(.ref a0), (.long q1)] ∧ Z.Warmed39 U.vm ∧ U.heap = h0) (fun _ _ _ _ _ => True) (fun _ U o U' => ∃ v L, o = .returned v ∧ QDue2 Z a0 q1 ar kA x1 x2 t1 t2 h0 n0 v U'.heap L ∧ FrameEnd U o U' L ({ frames := 0, cells := 0, slots := 0, locals := 0 } : Room).cells ({ frames := 0, cells := 0, slots := 0, locals := 0 } : Room).slots) := by
  refine MetFree.of_bodySF (plainFor_of_name own_pn_com_example_admit_one_admitone_engine_DueOrder) hisR ?_
  intro p e s m args below meth c s₁ Bd hml0 hP hK
  obtain ⟨rfl, hZ, hh⟩ := hP
  have hx := Bd.exec
  have hby := Bd.bytes
  have hml : c.maxLocals = 6 := hml0
  have hown : s.vm.findClass cD = some m.cls := findClass_of_methodNamed Bd.named
  have hnm := (name_of_methodNamed Bd.named Bd.method).1
  have X0 : Stand p l e ({ frames := 0, cells := 0, slots := 0, locals := 0 } : Room) s m #[(.ref a0), (.long q1)] below meth c s₁ [] 0 0 := Stand.of_body Bd
  have e0 : s₁.heap = h0 := by rw [← hh, Bd.state]; rfl
  have N0 := Fr.nil n0
  have Kp0 : Keep h0 h0 [] := Keep.refl _ _
  refine Goes.start ?_
  refine Goes.by (B := s₁.setTop (mkF m 0 #[.val (.ref a0), .val (.long q1), .second, .unset, .unset, .unset] [])) (fun t k => castTop (efDue2 m a0 q1) k) ?_
  refine Goes.by (B := s₁.setTop (mkF m 3 #[.val (.ref a0), .val (.long q1), .second, .val (.int (0 : Int32)), .unset, .unset] [(.ref a0)])) (fun t k => ?_) ?_
  · refine XS.iconst X0.here hx rfl (hb hby d7_0) ?_
    refine XS.istoreN X0.here hx rfl (hb hby d7_1) rfl (l' := #[.val (.ref a0), .val (.long q1), .second, .val (.int (0 : Int32)), .unset, .unset]) rfl ?_
    refine XS.aloadN X0.here hx rfl (hb hby d7_2) rfl rfl ?_
    exact k
  obtain ⟨T1, X1, e1, st1⟩ := getF X0 hx hZ hown (host := "") (Or.inl (wq hw 34 rfl)) Via.refl e0 F2 (g := (mkF m 3 #[.val (.ref a0), .val (.long q1), .second, .val (.int (0 : Int32)), .unset, .unset] [(.ref a0)])) rfl rfl (hb hby d7_3)
  refine Goes.by st1 ?_
  clear X0
  refine Goes.by (B := T1.setTop (mkF m 23 #[.val (.ref a0), .val (.long q1), .second, .val (.int (0 : Int32)), .val (.int (2 : Int32)), .val (.int (1 : Int32))] [(.ref a0)])) (fun t k => ?_) ?_
  · refine XS.istore X1.here hx rfl (hb hby d7_6) rfl (l' := #[.val (.ref a0), .val (.long q1), .second, .val (.int (0 : Int32)), .val (.int (2 : Int32)), .unset]) rfl ?_
    refine XS.iloadN X1.here hx rfl (hb hby d7_8) rfl ?_
    refine XS.iload X1.here hx rfl (hb hby d7_9) rfl ?_
    refine XS.icmpNo X1.here hx rfl (hb hby d7_11) rfl (tlt (by decide : (0 : Int32) < (2 : Int32))).2.1 ?_
    refine XS.iloadN X1.here hx rfl (hb hby d7_14) rfl ?_
    refine XS.iload X1.here hx rfl (hb hby d7_15) rfl ?_
    refine XS.iadd X1.here hx rfl (hb hby d7_17) rfl ?_
    refine XS.iconst X1.here hx rfl (hb hby d7_18) ?_
    refine XS.iushr X1.here hx rfl (hb hby d7_19) rfl ?_
    refine XS.istore X1.here hx rfl (hb hby d7_20) rfl (l' := #[.val (.ref a0), .val (.long q1), .second, .val (.int (0 : Int32)), .val (.int (2 : Int32)), .val (.int (1 : Int32))]) rfl ?_
    refine XS.aloadN X1.here hx rfl (hb hby d7_22) rfl rfl ?_
    exact k
  obtain ⟨T2, X2, e2, st2⟩ := getF X1 hx hZ hown (host := "") (Or.inl (wq hw 11 rfl)) Via.refl e1 F1 (g := (mkF m 23 #[.val (.ref a0), .val (.long q1), .second, .val (.int (0 : Int32)), .val (.int (2 : Int32)), .val (.int (1 : Int32))] [(.ref a0)])) rfl rfl (hb hby d7_23)
  refine Goes.by st2 ?_
  clear X1 e1
  refine Goes.by (B := T2.setTop (mkF m 28 #[.val (.ref a0), .val (.long q1), .second, .val (.int (0 : Int32)), .val (.int (2 : Int32)), .val (.int (1 : Int32))] [(.int (1 : Int32)), (.ref ar)])) (fun t k => ?_) ?_
  · refine XS.iload X2.here hx rfl (hb hby d7_26) rfl ?_
    exact k
  obtain ⟨cl3, cl3A, cl3q, cl3S, cl3N, cl3H, cl3G⟩ := id F3
  have cl3I : ¬ ((1 : Int32) < 0 ∨ cl3.slots.size ≤ ((1 : Int32)).toNatClampNeg) := inb_of cl3S ⟨by decide, by decide⟩
  have cl3T : cl3.slots[((1 : Int32)).toNatClampNeg]? = some (.ref x2) := cl3H.at cl3I rfl
  refine Goes.by (B := T2.setTop (mkF m 29 #[.val (.ref a0), .val (.long q1), .second, .val (.int (0 : Int32)), .val (.int (2 : Int32)), .val (.int (1 : Int32))] [(.ref x2)])) (fun t k => ?_) ?_
  · refine X2.aaload hx (j := (1 : Int32)) (v := (.ref x2)) (by rw [e2]; exact cl3A.1) (State.isArrayOf_alike hZ.alike cl3A.2.1) rfl cl3A.2.2 cl3I cl3T (g := (mkF m 28 #[.val (.ref a0), .val (.long q1), .second, .val (.int (0 : Int32)), .val (.int (2 : Int32)), .val (.int (1 : Int32))] [(.int (1 : Int32)), (.ref ar)])) rfl rfl (hb hby d7_28) _ ?_
    exact k
  refine Goes.by (B := T2.setTop (mkF m 34 #[.val (.ref a0), .val (.long q1), .second, .val (.int (0 : Int32)), .val (.int (2 : Int32)), .val (.int (1 : Int32))] [(.int (lcmpW t2 q1))])) (fun t k => ?_) ?_
  · refine getFR X2 hx hZ hown (wq hw 69 rfl) e2 F8 (g := (mkF m 29 #[.val (.ref a0), .val (.long q1), .second, .val (.int (0 : Int32)), .val (.int (2 : Int32)), .val (.int (1 : Int32))] [(.ref x2)])) rfl rfl (hb hby d7_29) ?_
    refine XS.lloadN X2.here hx rfl (hb hby d7_32) rfl ?_
    refine XS.lcmp X2.here hx rfl (hb hby d7_33) rfl ?_
    exact k
  by_cases hc5 : q1 < t2
  · refine Goes.by (B := T2.setTop (mkF m 23 #[.val (.ref a0), .val (.long q1), .second, .val (.int (0 : Int32)), .val (.int (1 : Int32)), .val (.int (0 : Int32))] [(.ref a0)])) (fun t k => ?_) ?_
    · refine XS.ifYes X2.here hx rfl (pc0 := 34) (pc' := 45) rfl (hb hby d7_34) rfl ((if0 _ _).trans (tlt ((lw_gt t2 q1).mpr hc5)).2.2.1) (by decide) (by decide) ?_
      refine XS.iload X2.here hx rfl (hb hby d7_45) rfl ?_
      refine XS.istore X2.here hx rfl (hb hby d7_47) rfl (l' := #[.val (.ref a0), .val (.long q1), .second, .val (.int (0 : Int32)), .val (.int (1 : Int32)), .val (.int (1 : Int32))]) rfl ?_
      refine XS.goto X2.here hx rfl (pc0 := 49) (pc' := 8) rfl (hb hby d7_49) (by decide) (by decide) ?_
      refine XS.iloadN X2.here hx rfl (hb hby d7_8) rfl ?_
      refine XS.iload X2.here hx rfl (hb hby d7_9) rfl ?_
      refine XS.icmpNo X2.here hx rfl (hb hby d7_11) rfl (tlt (by decide : (0 : Int32) < (1 : Int32))).2.1 ?_
      refine XS.iloadN X2.here hx rfl (hb hby d7_14) rfl ?_
      refine XS.iload X2.here hx rfl (hb hby d7_15) rfl ?_
      refine XS.iadd X2.here hx rfl (hb hby d7_17) rfl ?_
      refine XS.iconst X2.here hx rfl (hb hby d7_18) ?_
      refine XS.iushr X2.here hx rfl (hb hby d7_19) rfl ?_
      refine XS.istore X2.here hx rfl (hb hby d7_20) rfl (l' := #[.val (.ref a0), .val (.long q1), .second, .val (.int (0 : Int32)), .val (.int (1 : Int32)), .val (.int (0 : Int32))]) rfl ?_
      refine XS.aloadN X2.here hx rfl (hb hby d7_22) rfl rfl ?_
      exact k
    obtain ⟨T6, X6, e6, st6⟩ := getF X2 hx hZ hown (host := "") (Or.inl (wq hw 11 rfl)) Via.refl e2 F1 (g := (mkF m 23 #[.val (.ref a0), .val (.long q1), .second, .val (.int (0 : Int32)), .val (.int (1 : Int32)), .val (.int (0 : Int32))] [(.ref a0)])) rfl rfl (hb hby d7_23)
    refine Goes.by st6 ?_
    clear X2 e2
    refine Goes.by (B := T6.setTop (mkF m 28 #[.val (.ref a0), .val (.long q1), .second, .val (.int (0 : Int32)), .val (.int (1 : Int32)), .val (.int (0 : Int32))] [(.int (0 : Int32)), (.ref ar)])) (fun t k => ?_) ?_
    · refine XS.iload X6.here hx rfl (hb hby d7_26) rfl ?_
      exact k
    obtain ⟨cl7, cl7A, cl7q, cl7S, cl7N, cl7H, cl7G⟩ := id F3
    have cl7I : ¬ ((0 : Int32) < 0 ∨ cl7.slots.size ≤ ((0 : Int32)).toNatClampNeg) := inb_of cl7S ⟨by decide, by decide⟩
    have cl7T : cl7.slots[((0 : Int32)).toNatClampNeg]? = some (.ref x1) := cl7H.at cl7I rfl
    refine Goes.by (B := T6.setTop (mkF m 29 #[.val (.ref a0), .val (.long q1), .second, .val (.int (0 : Int32)), .val (.int (1 : Int32)), .val (.int (0 : Int32))] [(.ref x1)])) (fun t k => ?_) ?_
    · refine X6.aaload hx (j := (0 : Int32)) (v := (.ref x1)) (by rw [e6]; exact cl7A.1) (State.isArrayOf_alike hZ.alike cl7A.2.1) rfl cl7A.2.2 cl7I cl7T (g := (mkF m 28 #[.val (.ref a0), .val (.long q1), .second, .val (.int (0 : Int32)), .val (.int (1 : Int32)), .val (.int (0 : Int32))] [(.int (0 : Int32)), (.ref ar)])) rfl rfl (hb hby d7_28) _ ?_
      exact k
    refine Goes.by (B := T6.setTop (mkF m 34 #[.val (.ref a0), .val (.long q1), .second, .val (.int (0 : Int32)), .val (.int (1 : Int32)), .val (.int (0 : Int32))] [(.int (lcmpW t1 q1))])) (fun t k => ?_) ?_
    · refine getFR X6 hx hZ hown (wq hw 69 rfl) e6 F6 (g := (mkF m 29 #[.val (.ref a0), .val (.long q1), .second, .val (.int (0 : Int32)), .val (.int (1 : Int32)), .val (.int (0 : Int32))] [(.ref x1)])) rfl rfl (hb hby d7_29) ?_
      refine XS.lloadN X6.here hx rfl (hb hby d7_32) rfl ?_
      refine XS.lcmp X6.here hx rfl (hb hby d7_33) rfl ?_
      exact k
    by_cases hc9 : q1 < t1
    · refine Goes.by (B := T6.setTop (mkF m 53 #[.val (.ref a0), .val (.long q1), .second, .val (.int (0 : Int32)), .val (.int (0 : Int32)), .val (.int (0 : Int32))] [(.int (0 : Int32))])) (fun t k => ?_) ?_
      · refine XS.ifYes X6.here hx rfl (pc0 := 34) (pc' := 45) rfl (hb hby d7_34) rfl ((if0 _ _).trans (tlt ((lw_gt t1 q1).mpr hc9)).2.2.1) (by decide) (by decide) ?_
        refine XS.iload X6.here hx rfl (hb hby d7_45) rfl ?_
        refine XS.istore X6.here hx rfl (hb hby d7_47) rfl (l' := #[.val (.ref a0), .val (.long q1), .second, .val (.int (0 : Int32)), .val (.int (0 : Int32)), .val (.int (0 : Int32))]) rfl ?_
        refine XS.goto X6.here hx rfl (pc0 := 49) (pc' := 8) rfl (hb hby d7_49) (by decide) (by decide) ?_
        refine XS.iloadN X6.here hx rfl (hb hby d7_8) rfl ?_
        refine XS.iload X6.here hx rfl (hb hby d7_9) rfl ?_
        refine XS.icmpYes X6.here hx rfl (pc0 := 11) (pc' := 52) rfl (hb hby d7_11) rfl (flt (by decide : ¬ ((0 : Int32) < (0 : Int32)))).2.1 (by decide) (by decide) ?_
        refine XS.iloadN X6.here hx rfl (hb hby d7_52) rfl ?_
        exact k
      obtain ⟨fs, hr, hrun, hended, hW, hsame⟩ := X6.leave (v := some (.int (0 : Int32))) (fun h => by rw [Bd.returns] at h; cases h)
      refine Goes.mk _ _ ?_ ⟨hrun, hended, _, _, rfl, ?_, ⟨_, rfl⟩, hW, hsame.mono (by decide) (by decide)⟩
      · exact retI X6 hx Bd.returns (hb hby d7_53) hr
      · show QDue2 Z a0 q1 ar kA x1 x2 t1 t2 h0 n0 _ T6.heap _
        rw [e6]
        exact ⟨(by simp only [fDue2, if_pos hc5, if_pos hc9]), N0, rfl⟩
    · refine Goes.by (B := T6.setTop (mkF m 53 #[.val (.ref a0), .val (.long q1), .second, .val (.int (1 : Int32)), .val (.int (1 : Int32)), .val (.int (0 : Int32))] [(.int (1 : Int32))])) (fun t k => ?_) ?_
      · refine XS.ifNo X6.here hx rfl (hb hby d7_34) rfl ((if0 _ _).trans (flt (fun z => hc9 ((lw_gt t1 q1).mp z))).2.2.1) ?_
        refine XS.iload X6.here hx rfl (hb hby d7_37) rfl ?_
        refine XS.iconst X6.here hx rfl (hb hby d7_39) ?_
        refine XS.iadd X6.here hx rfl (hb hby d7_40) rfl ?_
        refine XS.istoreN X6.here hx rfl (hb hby d7_41) rfl (l' := #[.val (.ref a0), .val (.long q1), .second, .val (.int (1 : Int32)), .val (.int (1 : Int32)), .val (.int (0 : Int32))]) rfl ?_
        refine XS.goto X6.here hx rfl (pc0 := 42) (pc' := 49) rfl (hb hby d7_42) (by decide) (by decide) ?_
        refine XS.goto X6.here hx rfl (pc0 := 49) (pc' := 8) rfl (hb hby d7_49) (by decide) (by decide) ?_
        refine XS.iloadN X6.here hx rfl (hb hby d7_8) rfl ?_
        refine XS.iload X6.here hx rfl (hb hby d7_9) rfl ?_
        refine XS.icmpYes X6.here hx rfl (pc0 := 11) (pc' := 52) rfl (hb hby d7_11) rfl (flt (by decide : ¬ ((1 : Int32) < (1 : Int32)))).2.1 (by decide) (by decide) ?_
        refine XS.iloadN X6.here hx rfl (hb hby d7_52) rfl ?_
        exact k
      obtain ⟨fs, hr, hrun, hended, hW, hsame⟩ := X6.leave (v := some (.int (1 : Int32))) (fun h => by rw [Bd.returns] at h; cases h)
      refine Goes.mk _ _ ?_ ⟨hrun, hended, _, _, rfl, ?_, ⟨_, rfl⟩, hW, hsame.mono (by decide) (by decide)⟩
      · exact retI X6 hx Bd.returns (hb hby d7_53) hr
      · show QDue2 Z a0 q1 ar kA x1 x2 t1 t2 h0 n0 _ T6.heap _
        rw [e6]
        exact ⟨(by simp only [fDue2, if_pos hc5, if_neg hc9]), N0, rfl⟩
  · refine Goes.by (B := T2.setTop (mkF m 53 #[.val (.ref a0), .val (.long q1), .second, .val (.int (2 : Int32)), .val (.int (2 : Int32)), .val (.int (1 : Int32))] [(.int (2 : Int32))])) (fun t k => ?_) ?_
    · refine XS.ifNo X2.here hx rfl (hb hby d7_34) rfl ((if0 _ _).trans (flt (fun z => hc5 ((lw_gt t2 q1).mp z))).2.2.1) ?_
      refine XS.iload X2.here hx rfl (hb hby d7_37) rfl ?_
      refine XS.iconst X2.here hx rfl (hb hby d7_39) ?_
      refine XS.iadd X2.here hx rfl (hb hby d7_40) rfl ?_
      refine XS.istoreN X2.here hx rfl (hb hby d7_41) rfl (l' := #[.val (.ref a0), .val (.long q1), .second, .val (.int (2 : Int32)), .val (.int (2 : Int32)), .val (.int (1 : Int32))]) rfl ?_
      refine XS.goto X2.here hx rfl (pc0 := 42) (pc' := 49) rfl (hb hby d7_42) (by decide) (by decide) ?_
      refine XS.goto X2.here hx rfl (pc0 := 49) (pc' := 8) rfl (hb hby d7_49) (by decide) (by decide) ?_
      refine XS.iloadN X2.here hx rfl (hb hby d7_8) rfl ?_
      refine XS.iload X2.here hx rfl (hb hby d7_9) rfl ?_
      refine XS.icmpYes X2.here hx rfl (pc0 := 11) (pc' := 52) rfl (hb hby d7_11) rfl (flt (by decide : ¬ ((2 : Int32) < (2 : Int32)))).2.1 (by decide) (by decide) ?_
      refine XS.iloadN X2.here hx rfl (hb hby d7_52) rfl ?_
      exact k
    obtain ⟨fs, hr, hrun, hended, hW, hsame⟩ := X2.leave (v := some (.int (2 : Int32))) (fun h => by rw [Bd.returns] at h; cases h)
    refine Goes.mk _ _ ?_ ⟨hrun, hended, _, _, rfl, ?_, ⟨_, rfl⟩, hW, hsame.mono (by decide) (by decide)⟩
    · exact retI X2 hx Bd.returns (hb hby d7_53) hr
    · show QDue2 Z a0 q1 ar kA x1 x2 t1 t2 h0 n0 _ T2.heap _
      rw [e2]
      exact ⟨(by simp only [fDue2, if_neg hc5]), N0, rfl⟩
theorem own_due2 (q1 t1 t2 : Int64) : fDue2 q1 t1 t2 = (0 : Int32) ∨ fDue2 q1 t1 t2 = (1 : Int32) ∨ fDue2 q1 t1 t2 = (2 : Int32) := by
  unfold fDue2
  repeat' split
  all_goals simp
theorem d6_0 : decode prog_4_method_8_code 0 = .ok (.aload_n 0, 1) := by decide +kernel
theorem d6_1 : decode prog_4_method_8_code 1 = .ok (.getfield 15, 3) := by decide +kernel
theorem d6_4 : decode prog_4_method_8_code 4 = .ok (.ifCond .le 34, 3) := by decide +kernel
theorem d6_38 : decode prog_4_method_8_code 38 = .ok (.aload_n 0, 1) := by decide +kernel
theorem d6_39 : decode prog_4_method_8_code 39 = .ok (.lload_n 1, 1) := by decide +kernel
theorem d6_40 : decode prog_4_method_8_code 40 = .ok (.invokevirtual 44, 3) := by decide +kernel
theorem own_pd1 : parseMethodDescriptor "(J)I" = some ⟨[.long], some .int⟩ := by decide +kernel
theorem d6_43 : decode prog_4_method_8_code 43 = .ok (.istore_n 3, 1) := by decide +kernel
theorem d6_44 : decode prog_4_method_8_code 44 = .ok (.iload_n 3, 1) := by decide +kernel
theorem d6_45 : decode prog_4_method_8_code 45 = .ok (.ifCond .le 28, 3) := by decide +kernel
theorem d6_73 : decode prog_4_method_8_code 73 = .ok (.aload_n 0, 1) := by decide +kernel
theorem d6_74 : decode prog_4_method_8_code 74 = .ok (.getfield 15, 3) := by decide +kernel
theorem d6_77 : decode prog_4_method_8_code 77 = .ok (.aload_n 0, 1) := by decide +kernel
theorem d6_78 : decode prog_4_method_8_code 78 = .ok (.getfield 11, 3) := by decide +kernel
theorem d6_81 : decode prog_4_method_8_code 81 = .ok (.arraylength, 1) := by decide +kernel
theorem d6_82 : decode prog_4_method_8_code 82 = .ok (.if_icmp .ne 23, 3) := by decide +kernel
theorem d6_105 : decode prog_4_method_8_code 105 = .ok (.aload_n 0, 1) := by decide +kernel
theorem d6_106 : decode prog_4_method_8_code 106 = .ok (.getfield 11, 3) := by decide +kernel
theorem d6_109 : decode prog_4_method_8_code 109 = .ok (.iload_n 3, 1) := by decide +kernel
theorem d6_110 : decode prog_4_method_8_code 110 = .ok (.aload_n 0, 1) := by decide +kernel
theorem d6_111 : decode prog_4_method_8_code 111 = .ok (.getfield 11, 3) := by decide +kernel
theorem d6_114 : decode prog_4_method_8_code 114 = .ok (.iload_n 3, 1) := by decide +kernel
theorem d6_115 : decode prog_4_method_8_code 115 = .ok (.iconst 1, 1) := by decide +kernel
theorem d6_116 : decode prog_4_method_8_code 116 = .ok (.iadd, 1) := by decide +kernel
theorem d6_117 : decode prog_4_method_8_code 117 = .ok (.aload_n 0, 1) := by decide +kernel
theorem d6_118 : decode prog_4_method_8_code 118 = .ok (.getfield 15, 3) := by decide +kernel
theorem d6_121 : decode prog_4_method_8_code 121 = .ok (.iload_n 3, 1) := by decide +kernel
theorem d6_122 : decode prog_4_method_8_code 122 = .ok (.isub, 1) := by decide +kernel
theorem d6_123 : decode prog_4_method_8_code 123 = .ok (.invokestatic 55, 3) := by decide +kernel
theorem d6_126 : decode prog_4_method_8_code 126 = .ok (.new 9, 3) := by decide +kernel
theorem d6_129 : decode prog_4_method_8_code 129 = .ok (.dup, 1) := by decide +kernel
theorem d6_130 : decode prog_4_method_8_code 130 = .ok (.lload_n 1, 1) := by decide +kernel
theorem d6_131 : decode prog_4_method_8_code 131 = .ok (.invokespecial 74, 3) := by decide +kernel
theorem own_pd2 : parseMethodDescriptor "(J)V" = some ⟨[.long], none⟩ := by decide +kernel
theorem d6_134 : decode prog_4_method_8_code 134 = .ok (.astore 4, 2) := by decide +kernel
theorem d6_136 : decode prog_4_method_8_code 136 = .ok (.aload_n 0, 1) := by decide +kernel
theorem d6_137 : decode prog_4_method_8_code 137 = .ok (.getfield 11, 3) := by decide +kernel
theorem d6_140 : decode prog_4_method_8_code 140 = .ok (.iload_n 3, 1) := by decide +kernel
theorem d6_141 : decode prog_4_method_8_code 141 = .ok (.aload 4, 2) := by decide +kernel
theorem d6_143 : decode prog_4_method_8_code 143 = .ok (.aastore, 1) := by decide +kernel
theorem d6_144 : decode prog_4_method_8_code 144 = .ok (.aload_n 0, 1) := by decide +kernel
theorem d6_145 : decode prog_4_method_8_code 145 = .ok (.dup, 1) := by decide +kernel
theorem d6_146 : decode prog_4_method_8_code 146 = .ok (.getfield 15, 3) := by decide +kernel
theorem d6_149 : decode prog_4_method_8_code 149 = .ok (.iconst 1, 1) := by decide +kernel
theorem d6_150 : decode prog_4_method_8_code 150 = .ok (.iadd, 1) := by decide +kernel
theorem d6_151 : decode prog_4_method_8_code 151 = .ok (.putfield 15, 3) := by decide +kernel
theorem d6_154 : decode prog_4_method_8_code 154 = .ok (.aload 4, 2) := by decide +kernel
theorem d6_156 : decode prog_4_method_8_code 156 = .ok (.areturn, 1) := by decide +kernel
def QHeadOf0 (Z : State) (a0 : Addr) (q1 : Int64) (ar : Addr) (kA : ClassId) (h0 : Heap) (n0 : Nat) (v : Option Value) (h : Heap) (L : List Loc) : Prop := (∃ b17 : Addr, v = some (.ref b17) ∧ Fr n0 L ∧ Keep h0 h [a0, ar] ∧ h0.size ≤ b17 ∧ Fld Z h a0 cD "heads" dA (.ref ar) ∧ Fld Z h a0 cD "count" "I" (.int (1 : Int32)) ∧ Arv Z h ar kA (.object cH) (4 : Int32) [(.ref b17), .null, .null, .null] .null ∧ Exa Z h b17 cH ∧ Fld Z h b17 cH "tick" "J" (.long q1) ∧ Fld Z h b17 cL "next" dL (.ref b17) ∧ Fld Z h b17 cL "prev" dL (.ref b17))
theorem efHeadOf0 (m : MethodId) (x0 : Addr) (x1 : Int64) : entryFrame m #[(.ref x0), (.long x1)] 5 = mkF m 0 #[.val (.ref x0), .val (.long x1), .second, .unset, .unset] [] := by first | (simp [entryFrame, mkF, argsToLocals, Value.category]; done) | rfl
set_option maxRecDepth 65536 in
set_option maxHeartbeats 40000000 in
theorem rmHeadOf0 (l : Launch) (Z : State) (az : Array Value) (hw : ∀ d ∈ tables_1, d.before az Z = true) (ws : List Jvm.Cond) (a0 : Addr) (q1 : Int64) (ar : Addr) (kA : ClassId) (h0 : Heap) (n0 : Nat) (Z0 : n0 ≤ h0.size) (F0 : Exa Z h0 a0 cD) (F1 : Fld Z h0 a0 cD "heads" dA (.ref ar)) (F2 : Fld Z h0 a0 cD "count" "I" (.int (0 : Int32))) (F3 : Arv Z h0 ar kA (.object cH) (4 : Int32) [.null, .null, .null, .null] .null) (F4 : Ovr Z kA cH) (Ne0 : a0 ≠ ar) (Ge0 : n0 ≤ a0) (Ge1 : n0 ≤ ar) :
    MetFree l y4 (head1 (Jvm.Cond.code y4 prog_4_method_8_code 5 (some (.object cH)) :: ws) ({ frames := 3, cells := 1, slots := 3, locals := 39 } : Room)) (fun a U => a = #[(.ref a0), (.long q1)] ∧ Z.Warmed39 U.vm ∧ U.heap = h0) (fun _ _ _ _ _ => True) (fun _ U o U' => ∃ v L, o = .returned v ∧ QHeadOf0 Z a0 q1 ar kA h0 n0 v U'.heap L ∧ FrameEnd U o U' L ({ frames := 3, cells := 1, slots := 3, locals := 39 } : Room).cells ({ frames := 3, cells := 1, slots := 3, locals := 39 } : Room).slots) := by
  refine MetFree.of_bodySF (plainFor_of_name own_pn_com_example_admit_one_admitone_engine_DueOrder) hisR ?_
  intro p e s m args below meth c s₁ Bd hml0 hP hK
  obtain ⟨rfl, hZ, hh⟩ := hP
  have hx := Bd.exec
  have hby := Bd.bytes
  have hml : c.maxLocals = 5 := hml0
  have hown : s.vm.findClass cD = some m.cls := findClass_of_methodNamed Bd.named
  have hnm := (name_of_methodNamed Bd.named Bd.method).1
  have X0 : Stand p l e ({ frames := 3, cells := 1, slots := 3, locals := 39 } : Room) s m #[(.ref a0), (.long q1)] below meth c s₁ [] 0 0 := Stand.of_body Bd
  have e0 : s₁.heap = h0 := by rw [← hh, Bd.state]; rfl
  have N0 := Fr.nil n0
  have Kp0 : Keep h0 h0 [a0, ar] := Keep.refl _ _
  refine Goes.start ?_
  refine Goes.by (B := s₁.setTop (mkF m 0 #[.val (.ref a0), .val (.long q1), .second, .unset, .unset] [])) (fun t k => castTop (efHeadOf0 m a0 q1) k) ?_
  refine Goes.by (B := s₁.setTop (mkF m 1 #[.val (.ref a0), .val (.long q1), .second, .unset, .unset] [(.ref a0)])) (fun t k => ?_) ?_
  · refine XS.aloadN X0.here hx rfl (hb hby d6_0) rfl rfl ?_
    exact k
  obtain ⟨T1, X1, e1, st1⟩ := getF X0 hx hZ hown (host := "") (Or.inl (wq hw 34 rfl)) Via.refl e0 F2 (g := (mkF m 1 #[.val (.ref a0), .val (.long q1), .second, .unset, .unset] [(.ref a0)])) rfl rfl (hb hby d6_1)
  refine Goes.by st1 ?_
  clear X0
  refine Goes.by (B := T1.setTop (mkF m 40 #[.val (.ref a0), .val (.long q1), .second, .unset, .unset] [(.long q1), (.ref a0)])) (fun t k => ?_) ?_
  · refine XS.ifYes X1.here hx rfl (pc0 := 4) (pc' := 38) rfl (hb hby d6_4) rfl ((if0 _ _).trans (flt (by decide : ¬ ((0 : Int32) < (0 : Int32)))).2.2.2) (by decide) (by decide) ?_
    refine XS.aloadN X1.here hx rfl (hb hby d6_38) rfl rfl ?_
    refine XS.lloadN X1.here hx rfl (hb hby d6_39) rfl ?_
    exact k
  obtain ⟨cq2, q2, q2'⟩ := (F0).cell
  obtain ⟨_, _, ⟨T2, L2, k2, n2⟩, -, X2, ⟨Lc2, hQ2, l2, y2, z2⟩, st2⟩ := X1.privateBack hx (y := y5) hown (mvT hZ (wq hw 36 rfl)) (mvT hZ (wq hw 37 rfl)) (own_sel hZ (wq hw 1 rfl) (wq hw 38 rfl) (wq hw 37 rfl) (by decide)) (Cond.privateMethod_at (mvP hZ (wq hw 38 rfl) (args := #[]))) (mvT hZ (wq hw 39 rfl)) (by decide) (backOf (W := 0) (rmDue0 l Z az hw [] a0 q1 ar h0 n0 Z0 F0 F1 F2) hZ (wq hw 39 rfl) (wq hw 2 rfl) (by decide) (by decide)) (g := (mkF m 40 #[.val (.ref a0), .val (.long q1), .second, .unset, .unset] [(.long q1), (.ref a0)])) rfl (by rw [hml]; rfl) (Steps.refl _) (a := a0) (by rw [e1]; exact q2) q2' (argsL := [(.long q1)]) (rest := []) (lenOf own_pd1 rfl) rfl (by show 2 * 0 + _ ≤ _; exact Nat.le_of_eq rfl) (hb hby d6_40) (fun _ _ => ⟨rfl, e1, (by decide : 0 + 0 ≤ _), (by decide : 0 + 0 ≤ _)⟩)
  dsimp only [Pt.U, Pt.locs, Pt.cells, Pt.slots] at X2 l2 y2 z2 st2 hQ2
  subst l2 y2 z2
  replace X2 : Stand p l e ({ frames := 3, cells := 1, slots := 3, locals := 39 } : Room) s m #[(.ref a0), (.long q1)] below meth c T2 _ 0 0 := X2
  obtain ⟨rfl, N2q, e2⟩ := hQ2
  have N3 := Fr.app N0 N2q
  refine Goes.by (fun _ k => st2.trans k) ?_
  clear X1 N0 e1
  refine Goes.by (B := T2.setTop (mkF m 74 #[.val (.ref a0), .val (.long q1), .second, .val (.int (0 : Int32)), .unset] [(.ref a0)])) (fun t k => ?_) ?_
  · refine XS.istoreN X2.here hx rfl (hb hby d6_43) rfl (l' := #[.val (.ref a0), .val (.long q1), .second, .val (.int (0 : Int32)), .unset]) rfl ?_
    refine XS.iloadN X2.here hx rfl (hb hby d6_44) rfl ?_
    refine XS.ifYes X2.here hx rfl (pc0 := 45) (pc' := 73) rfl (hb hby d6_45) rfl ((if0 _ _).trans (flt (by decide : ¬ ((0 : Int32) < (0 : Int32)))).2.2.2) (by decide) (by decide) ?_
    refine XS.aloadN X2.here hx rfl (hb hby d6_73) rfl rfl ?_
    exact k
  obtain ⟨T4, X4, e4, st4⟩ := getF X2 hx hZ hown (host := "") (Or.inl (wq hw 34 rfl)) Via.refl e2 F2 (g := (mkF m 74 #[.val (.ref a0), .val (.long q1), .second, .val (.int (0 : Int32)), .unset] [(.ref a0)])) rfl rfl (hb hby d6_74)
  refine Goes.by st4 ?_
  clear X2 e2
  refine Goes.by (B := T4.setTop (mkF m 78 #[.val (.ref a0), .val (.long q1), .second, .val (.int (0 : Int32)), .unset] [(.ref a0), (.int (0 : Int32))])) (fun t k => ?_) ?_
  · refine XS.aloadN X4.here hx rfl (hb hby d6_77) rfl rfl ?_
    exact k
  obtain ⟨T5, X5, e5, st5⟩ := getF X4 hx hZ hown (host := "") (Or.inl (wq hw 11 rfl)) Via.refl e4 F1 (g := (mkF m 78 #[.val (.ref a0), .val (.long q1), .second, .val (.int (0 : Int32)), .unset] [(.ref a0), (.int (0 : Int32))])) rfl rfl (hb hby d6_78)
  refine Goes.by st5 ?_
  clear X4 e4
  obtain ⟨cl6, cl6A, -, cl6S, cl6N, -, -⟩ := id F3
  refine Goes.by (B := T5.setTop (mkF m 105 #[.val (.ref a0), .val (.long q1), .second, .val (.int (0 : Int32)), .unset] [])) (fun t k => ?_) ?_
  · refine X5.arraylength hx (by rw [e5]; exact cl6A.1) (State.isArrayOf_alike hZ.alike cl6A.2.1) (g := (mkF m 81 #[.val (.ref a0), .val (.long q1), .second, .val (.int (0 : Int32)), .unset] [(.ref ar), (.int (0 : Int32))])) rfl rfl (hb hby d6_81) _ ?_
    rw [len_of cl6S cl6N]
    refine XS.icmpYes X5.here hx rfl (pc0 := 82) (pc' := 105) rfl (hb hby d6_82) rfl (feq (by decide : ¬ ((0 : Int32) = (4 : Int32)))).2 (by decide) (by decide) ?_
    exact k
  refine Goes.by (B := T5.setTop (mkF m 106 #[.val (.ref a0), .val (.long q1), .second, .val (.int (0 : Int32)), .unset] [(.ref a0)])) (fun t k => ?_) ?_
  · refine XS.aloadN X5.here hx rfl (hb hby d6_105) rfl rfl ?_
    exact k
  obtain ⟨T7, X7, e7, st7⟩ := getF X5 hx hZ hown (host := "") (Or.inl (wq hw 11 rfl)) Via.refl e5 F1 (g := (mkF m 106 #[.val (.ref a0), .val (.long q1), .second, .val (.int (0 : Int32)), .unset] [(.ref a0)])) rfl rfl (hb hby d6_106)
  refine Goes.by st7 ?_
  clear X5 e5
  refine Goes.by (B := T7.setTop (mkF m 111 #[.val (.ref a0), .val (.long q1), .second, .val (.int (0 : Int32)), .unset] [(.ref a0), (.int (0 : Int32)), (.ref ar)])) (fun t k => ?_) ?_
  · refine XS.iloadN X7.here hx rfl (hb hby d6_109) rfl ?_
    refine XS.aloadN X7.here hx rfl (hb hby d6_110) rfl rfl ?_
    exact k
  obtain ⟨T8, X8, e8, st8⟩ := getF X7 hx hZ hown (host := "") (Or.inl (wq hw 11 rfl)) Via.refl e7 F1 (g := (mkF m 111 #[.val (.ref a0), .val (.long q1), .second, .val (.int (0 : Int32)), .unset] [(.ref a0), (.int (0 : Int32)), (.ref ar)])) rfl rfl (hb hby d6_111)
  refine Goes.by st8 ?_
  clear X7 e7
  refine Goes.by (B := T8.setTop (mkF m 118 #[.val (.ref a0), .val (.long q1), .second, .val (.int (0 : Int32)), .unset] [(.ref a0), (.int (1 : Int32)), (.ref ar), (.int (0 : Int32)), (.ref ar)])) (fun t k => ?_) ?_
  · refine XS.iloadN X8.here hx rfl (hb hby d6_114) rfl ?_
    refine XS.iconst X8.here hx rfl (hb hby d6_115) ?_
    refine XS.iadd X8.here hx rfl (hb hby d6_116) rfl ?_
    refine XS.aloadN X8.here hx rfl (hb hby d6_117) rfl rfl ?_
    exact k
  obtain ⟨T9, X9, e9, st9⟩ := getF X8 hx hZ hown (host := "") (Or.inl (wq hw 34 rfl)) Via.refl e8 F2 (g := (mkF m 118 #[.val (.ref a0), .val (.long q1), .second, .val (.int (0 : Int32)), .unset] [(.ref a0), (.int (1 : Int32)), (.ref ar), (.int (0 : Int32)), (.ref ar)])) rfl rfl (hb hby d6_118)
  refine Goes.by st9 ?_
  clear X8 e8
  refine Goes.by (B := T9.setTop (mkF m 123 #[.val (.ref a0), .val (.long q1), .second, .val (.int (0 : Int32)), .unset] [(.int (0 : Int32)), (.int (1 : Int32)), (.ref ar), (.int (0 : Int32)), (.ref ar)])) (fun t k => ?_) ?_
  · refine XS.iloadN X9.here hx rfl (hb hby d6_121) rfl ?_
    refine XS.isub X9.here hx rfl (hb hby d6_122) rfl ?_
    exact k
  obtain ⟨T10, h10, L10, X10, e10, Nn10, K10, V10, st10⟩ := cpA X9 hx hZ hown (wq hw 40 rfl) (wq hw 43 rfl) (wq hw 41 rfl) (wq hw 42 rfl) e9 (us := []) F3 F3 (Or.inr ⟨rfl, rfl, trivial⟩) (sp := (0 : Int32)) (dp := (1 : Int32)) (nn := (0 : Int32)) (by decide) (by decide) (by decide) (by decide) (by decide) rfl (Nat.le_of_ble_eq_true rfl) N3 Ge1 (g := (mkF m 123 #[.val (.ref a0), .val (.long q1), .second, .val (.int (0 : Int32)), .unset] [(.int (0 : Int32)), (.int (1 : Int32)), (.ref ar), (.int (0 : Int32)), (.ref ar)])) rfl (by rw [hml]; rfl) rfl (hb hby d6_123) (by decide) (W := 0) (by show 2 * 0 + _ ≤ _; exact Nat.le_of_eq rfl) (by decide)
  have f11 : Exa Z h10 a0 cD := F0.keep K10
  have f12 : Fld Z h10 a0 cD "heads" dA (.ref ar) := F1.keep K10 (ninS Ne0 nin0)
  have f13 : Fld Z h10 a0 cD "count" "I" (.int (0 : Int32)) := F2.keep K10 (ninS Ne0 nin0)
  have f14 : Arv Z h10 ar kA (.object cH) (4 : Int32) [.null, .null, .null, .null] .null := V10
  have Kp10 : Keep h0 h10 [a0, ar] := Kp0.trans K10 (allS (Or.inl (List.mem_of_getElem? (i := 1) rfl)) all0)
  have Z15 : n0 ≤ h10.size := Nat.le_trans Z0 K10.1
  refine Goes.by st10 ?_
  clear X9 N3 e9
  obtain ⟨T16, h16, X16, e16, E16, A16, D16, -, st16⟩ := newO X10 hx hZ hown (wq hw 9 rfl) (wq hw 44 rfl) (wq hw 45 rfl) e10 (g := (mkF m 126 #[.val (.ref a0), .val (.long q1), .second, .val (.int (0 : Int32)), .unset] [])) rfl (hb hby d6_126) (by decide) (by decide)
  obtain ⟨b17, g16⟩ : ∃ z, z = h10.size := ⟨_, rfl⟩
  rw [← g16] at A16 D16 st16
  have ne18 : a0 ≠ b17 := Nat.ne_of_lt (Nat.lt_of_lt_of_le f11.lt (Nat.le_of_eq g16.symm))
  have ne19 : ar ≠ b17 := Nat.ne_of_lt (Nat.lt_of_lt_of_le f14.lt (Nat.le_of_eq g16.symm))
  have ge20 : n0 ≤ b17 := Nat.le_trans Z15 (Nat.le_of_eq g16.symm)
  have sz21 : h0.size ≤ b17 := Nat.le_trans Kp10.1 (Nat.le_of_eq g16.symm)
  have f22 : Exa Z h16 a0 cD := f11.ext E16
  have f23 : Fld Z h16 a0 cD "heads" dA (.ref ar) := f12.ext E16
  have f24 : Fld Z h16 a0 cD "count" "I" (.int (0 : Int32)) := f13.ext E16
  have f25 : Arv Z h16 ar kA (.object cH) (4 : Int32) [.null, .null, .null, .null] .null := f14.ext E16
  have f26 : Fld Z h16 b17 cH "tick" "J" (.long (0 : Int64)) := D16 (Or.inr (wq hw 52 rfl)) (ty := .long) (by decide)
  have f27 : Fld Z h16 b17 cL "next" dL .null := D16 (Or.inl (wq hw 54 rfl)) (ty := (.object cL)) (by decide)
  have f28 : Fld Z h16 b17 cL "prev" dL .null := D16 (Or.inl (wq hw 56 rfl)) (ty := (.object cL)) (by decide)
  have Kp16 : Keep h0 h16 [a0, ar] := Kp10.ext E16
  have Z29 : n0 ≤ h16.size := Nat.le_trans Z15 E16.1
  refine Goes.by st16 ?_
  clear f11 f12 f13 f14 X10 Z15 Kp10 e10
  refine Goes.by (B := T16.setTop (mkF m 131 #[.val (.ref a0), .val (.long q1), .second, .val (.int (0 : Int32)), .unset] [(.long q1), (.ref b17), (.ref b17)])) (fun t k => ?_) ?_
  · refine XS.dup X16.here hx rfl (hb hby d6_129) rfl rfl ?_
    refine XS.lloadN X16.here hx rfl (hb hby d6_130) rfl ?_
    exact k
  obtain ⟨_, _, ⟨T30, L30, k30, n30⟩, -, X30, ⟨Lc30, hQ30, l30, y30, z30⟩, st30⟩ := X16.specialBack hx (y := y6) rfl hown (mvT hZ (wq hw 46 rfl)) (mvT hZ (wq hw 47 rfl)) (mvT hZ (wq hw 48 rfl)) (by decide) (backOf (W := 1) (rmHeadI l Z az hw [] b17 q1 h16 n0 Z29 A16 f26 f27 f28 ge20) hZ (wq hw 48 rfl) (wq hw 45 rfl) (by decide) (by decide)) (g := (mkF m 131 #[.val (.ref a0), .val (.long q1), .second, .val (.int (0 : Int32)), .unset] [(.long q1), (.ref b17), (.ref b17)])) rfl (by rw [hml]; rfl) (Steps.refl _) (a := b17) (argsL := [(.long q1)]) (rest := [(.ref b17)]) (lenOf own_pd2 rfl) rfl (by show 2 * 0 + _ ≤ _; exact Nat.le_of_eq rfl) (hb hby d6_131) (fun _ _ => ⟨rfl, e16, (by decide : 1 + 0 ≤ _), (by decide : 3 + 0 ≤ _)⟩)
  dsimp only [Pt.U, Pt.locs, Pt.cells, Pt.slots] at X30 l30 y30 z30 st30 hQ30
  subst l30 y30 z30
  replace X30 : Stand p l e ({ frames := 3, cells := 1, slots := 3, locals := 39 } : Room) s m #[(.ref a0), (.long q1)] below meth c T30 _ 1 3 := X30
  obtain ⟨rfl, N30q, K30, f31, f32, f33, f34⟩ := hQ30
  have f35 : Exa Z T30.heap a0 cD := f22.keep K30
  have f36 : Fld Z T30.heap a0 cD "heads" dA (.ref ar) := f23.keep K30 (ninS ne18 nin0)
  have f37 : Fld Z T30.heap a0 cD "count" "I" (.int (0 : Int32)) := f24.keep K30 (ninS ne18 nin0)
  have f38 : Arv Z T30.heap ar kA (.object cH) (4 : Int32) [.null, .null, .null, .null] .null := f25.keep K30 (ninS ne19 nin0)
  have f39 : Exa Z T30.heap b17 cH := A16.keep K30
  have Kp30 : Keep h0 T30.heap [a0, ar] := Kp16.trans K30 (allS (Or.inr sz21) all0)
  have Z40 : n0 ≤ T30.heap.size := Nat.le_trans Z29 K30.1
  have N41 := Fr.app Nn10 N30q
  refine Goes.by (fun _ k => st30.trans k) ?_
  clear f22 f23 f24 f25 f26 f27 f28 X16 Nn10 Z29 Kp16 e16
  refine Goes.by (B := T30.setTop (mkF m 137 #[.val (.ref a0), .val (.long q1), .second, .val (.int (0 : Int32)), .val (.ref b17)] [(.ref a0)])) (fun t k => ?_) ?_
  · refine XS.astore X30.here hx rfl (hb hby d6_134) rfl rfl (l' := #[.val (.ref a0), .val (.long q1), .second, .val (.int (0 : Int32)), .val (.ref b17)]) rfl ?_
    refine XS.aloadN X30.here hx rfl (hb hby d6_136) rfl rfl ?_
    exact k
  obtain ⟨T42, X42, e42, st42⟩ := getF X30 hx hZ hown (host := "") (Or.inl (wq hw 11 rfl)) Via.refl rfl f36 (g := (mkF m 137 #[.val (.ref a0), .val (.long q1), .second, .val (.int (0 : Int32)), .val (.ref b17)] [(.ref a0)])) rfl rfl (hb hby d6_137)
  refine Goes.by st42 ?_
  clear X30
  refine Goes.by (B := T42.setTop (mkF m 143 #[.val (.ref a0), .val (.long q1), .second, .val (.int (0 : Int32)), .val (.ref b17)] [(.ref b17), (.int (0 : Int32)), (.ref ar)])) (fun t k => ?_) ?_
  · refine XS.iloadN X42.here hx rfl (hb hby d6_140) rfl ?_
    refine XS.aload X42.here hx rfl (hb hby d6_141) rfl rfl ?_
    exact k
  obtain ⟨cl43, cl43A, cl43q, cl43S, cl43N, cl43H, cl43G⟩ := id f38
  have cl43I : ¬ ((0 : Int32) < 0 ∨ cl43.slots.size ≤ ((0 : Int32)).toNatClampNeg) := inb_of cl43S ⟨by decide, by decide⟩
  obtain ⟨T43, h43, X43, e43, W43, st43⟩ := stR X42 hx hZ e42 cl43A (j := (0 : Int32)) cl43I rfl (Sto.ofV cl43A cl43q F4 (Ins.self f31)) (g := (mkF m 143 #[.val (.ref a0), .val (.long q1), .second, .val (.int (0 : Int32)), .val (.ref b17)] [(.ref b17), (.int (0 : Int32)), (.ref ar)])) rfl rfl (hb hby d6_143)
  have f44 : Exa Z h43 a0 cD := f35.wr W43
  have f45 : Fld Z h43 a0 cD "heads" dA (.ref ar) := f36.other W43 (Or.inl Ne0)
  have f46 : Fld Z h43 a0 cD "count" "I" (.int (0 : Int32)) := f37.other W43 (Or.inl Ne0)
  have f47 : Exa Z h43 b17 cH := f31.wr W43
  have f48 : Fld Z h43 b17 cH "tick" "J" (.long q1) := f32.other W43 (Or.inl (Ne.symm ne19))
  have f49 : Fld Z h43 b17 cL "next" dL (.ref b17) := f33.other W43 (Or.inl (Ne.symm ne19))
  have f50 : Fld Z h43 b17 cL "prev" dL (.ref b17) := f34.other W43 (Or.inl (Ne.symm ne19))
  have f51 : Arv Z h43 ar kA (.object cH) (4 : Int32) [(.ref b17), .null, .null, .null] .null := Arv.set cl43A cl43q cl43S cl43N cl43H cl43G rfl W43 0 rfl (Nat.le_of_ble_eq_true rfl)
  have Kp43 : Keep h0 h43 [a0, ar] := Kp30.wr W43 (Or.inl (List.mem_of_getElem? (i := 1) rfl))
  have Z52 : n0 ≤ h43.size := Nat.le_trans Z40 (Nat.le_of_eq W43.size.symm)
  have N53 := Fr.snoc X43 N41 Ge1
  refine Goes.by st43 ?_
  clear f35 f36 f37 f38 f31 f32 f33 f34 X42 N41 Z40 Kp30 e42
  refine Goes.by (B := T43.setTop (mkF m 146 #[.val (.ref a0), .val (.long q1), .second, .val (.int (0 : Int32)), .val (.ref b17)] [(.ref a0), (.ref a0)])) (fun t k => ?_) ?_
  · refine XS.aloadN X43.here hx rfl (hb hby d6_144) rfl rfl ?_
    refine XS.dup X43.here hx rfl (hb hby d6_145) rfl rfl ?_
    exact k
  obtain ⟨T54, X54, e54, st54⟩ := getF X43 hx hZ hown (host := "") (Or.inl (wq hw 34 rfl)) Via.refl e43 f46 (g := (mkF m 146 #[.val (.ref a0), .val (.long q1), .second, .val (.int (0 : Int32)), .val (.ref b17)] [(.ref a0), (.ref a0)])) rfl rfl (hb hby d6_146)
  refine Goes.by st54 ?_
  clear X43 e43
  refine Goes.by (B := T54.setTop (mkF m 151 #[.val (.ref a0), .val (.long q1), .second, .val (.int (0 : Int32)), .val (.ref b17)] [(.int (1 : Int32)), (.ref a0)])) (fun t k => ?_) ?_
  · refine XS.iconst X54.here hx rfl (hb hby d6_149) ?_
    refine XS.iadd X54.here hx rfl (hb hby d6_150) rfl ?_
    exact k
  obtain ⟨T55, h55, X55, e55, W55, st55⟩ := putF X54 hx hZ hown (host := "") (Or.inl (wq hw 34 rfl)) Via.refl e54 f46 f44 (Or.inl (wq hw 35 rfl)) (wq hw 1 rfl) (ty := .int) (by decide) rfl rfl (g := (mkF m 151 #[.val (.ref a0), .val (.long q1), .second, .val (.int (0 : Int32)), .val (.ref b17)] [(.int (1 : Int32)), (.ref a0)])) rfl rfl (hb hby d6_151)
  have f56 : Exa Z h55 a0 cD := f44.wr W55
  have f57 : Fld Z h55 a0 cD "heads" dA (.ref ar) := f45.other W55 (Or.inr (slot_ne (Or.inl (wq hw 12 rfl)) (Or.inl (wq hw 35 rfl)) (by decide) (t := (.array (.object cH))) (t' := .int) (by decide) (by decide)))
  have f58 : Exa Z h55 b17 cH := f47.wr W55
  have f59 : Fld Z h55 b17 cH "tick" "J" (.long q1) := f48.other W55 (Or.inl (Ne.symm ne18))
  have f60 : Fld Z h55 b17 cL "next" dL (.ref b17) := f49.other W55 (Or.inl (Ne.symm ne18))
  have f61 : Fld Z h55 b17 cL "prev" dL (.ref b17) := f50.other W55 (Or.inl (Ne.symm ne18))
  have f62 : Arv Z h55 ar kA (.object cH) (4 : Int32) [(.ref b17), .null, .null, .null] .null := f51.other W55 (Ne.symm Ne0)
  have f63 : Fld Z h55 a0 cD "count" "I" (.int (1 : Int32)) := f46.same W55
  have Kp55 : Keep h0 h55 [a0, ar] := Kp43.wr W55 (Or.inl (List.mem_of_getElem? (i := 0) rfl))
  have Z64 : n0 ≤ h55.size := Nat.le_trans Z52 (Nat.le_of_eq W55.size.symm)
  have N65 := Fr.snoc X55 N53 Ge0
  refine Goes.by st55 ?_
  clear f44 f45 f46 f47 f48 f49 f50 f51 X54 N53 Z52 Kp43 e54
  refine Goes.by (B := T55.setTop (mkF m 156 #[.val (.ref a0), .val (.long q1), .second, .val (.int (0 : Int32)), .val (.ref b17)] [(.ref b17)])) (fun t k => ?_) ?_
  · refine XS.aload X55.here hx rfl (hb hby d6_154) rfl rfl ?_
    exact k
  obtain ⟨fs, hr, hrun, hended, hW, hsame⟩ := X55.leave (v := some (.ref b17)) (fun h => by rw [Bd.returns] at h; cases h)
  refine Goes.mk _ _ ?_ ⟨hrun, hended, _, _, rfl, ?_, ⟨_, rfl⟩, hW, hsame.mono (by decide) (by decide)⟩
  · exact retOut X55 hx Bd.returns rfl (Or.inr (Or.inr (Or.inr (Or.inr ⟨rfl, rfl, rfl⟩)))) (hb hby d6_156) hr
  · show QHeadOf0 Z a0 q1 ar kA h0 n0 _ T55.heap _
    rw [e55]
    exact ⟨b17, rfl, N65, Kp55, sz21, f57, f63, f62, f58, f59, f60, f61⟩
theorem d6_7 : decode prog_4_method_8_code 7 = .ok (.aload_n 0, 1) := by decide +kernel
theorem d6_8 : decode prog_4_method_8_code 8 = .ok (.getfield 11, 3) := by decide +kernel
theorem d6_11 : decode prog_4_method_8_code 11 = .ok (.aload_n 0, 1) := by decide +kernel
theorem d6_12 : decode prog_4_method_8_code 12 = .ok (.getfield 15, 3) := by decide +kernel
theorem d6_15 : decode prog_4_method_8_code 15 = .ok (.iconst 1, 1) := by decide +kernel
theorem d6_16 : decode prog_4_method_8_code 16 = .ok (.isub, 1) := by decide +kernel
theorem d6_17 : decode prog_4_method_8_code 17 = .ok (.aaload, 1) := by decide +kernel
theorem d6_18 : decode prog_4_method_8_code 18 = .ok (.getfield 23, 3) := by decide +kernel
theorem d6_21 : decode prog_4_method_8_code 21 = .ok (.lload_n 1, 1) := by decide +kernel
theorem d6_22 : decode prog_4_method_8_code 22 = .ok (.lcmp, 1) := by decide +kernel
theorem d6_23 : decode prog_4_method_8_code 23 = .ok (.ifCond .ne 15, 3) := by decide +kernel
theorem d6_26 : decode prog_4_method_8_code 26 = .ok (.aload_n 0, 1) := by decide +kernel
theorem d6_27 : decode prog_4_method_8_code 27 = .ok (.getfield 11, 3) := by decide +kernel
theorem d6_30 : decode prog_4_method_8_code 30 = .ok (.aload_n 0, 1) := by decide +kernel
theorem d6_31 : decode prog_4_method_8_code 31 = .ok (.getfield 15, 3) := by decide +kernel
theorem d6_34 : decode prog_4_method_8_code 34 = .ok (.iconst 1, 1) := by decide +kernel
theorem d6_35 : decode prog_4_method_8_code 35 = .ok (.isub, 1) := by decide +kernel
theorem d6_36 : decode prog_4_method_8_code 36 = .ok (.aaload, 1) := by decide +kernel
theorem d6_37 : decode prog_4_method_8_code 37 = .ok (.areturn, 1) := by decide +kernel
theorem d6_48 : decode prog_4_method_8_code 48 = .ok (.aload_n 0, 1) := by decide +kernel
theorem d6_49 : decode prog_4_method_8_code 49 = .ok (.getfield 11, 3) := by decide +kernel
theorem d6_52 : decode prog_4_method_8_code 52 = .ok (.iload_n 3, 1) := by decide +kernel
theorem d6_53 : decode prog_4_method_8_code 53 = .ok (.iconst 1, 1) := by decide +kernel
theorem d6_54 : decode prog_4_method_8_code 54 = .ok (.isub, 1) := by decide +kernel
theorem d6_55 : decode prog_4_method_8_code 55 = .ok (.aaload, 1) := by decide +kernel
theorem d6_56 : decode prog_4_method_8_code 56 = .ok (.getfield 23, 3) := by decide +kernel
theorem d6_59 : decode prog_4_method_8_code 59 = .ok (.lload_n 1, 1) := by decide +kernel
theorem d6_60 : decode prog_4_method_8_code 60 = .ok (.lcmp, 1) := by decide +kernel
theorem d6_61 : decode prog_4_method_8_code 61 = .ok (.ifCond .ne 12, 3) := by decide +kernel
def QHeadOf1 (Z : State) (a0 : Addr) (q1 : Int64) (ar : Addr) (kA : ClassId) (x1 : Addr) (t1 : Int64) (h0 : Heap) (n0 : Nat) (v : Option Value) (h : Heap) (L : List Loc) : Prop := (t1 = q1 ∧ v = some (.ref x1) ∧ Fr n0 L ∧ h = h0) ∨ (∃ b26 : Addr, ¬ (t1 = q1) ∧ fDue1 q1 t1 = (0 : Int32) ∧ v = some (.ref b26) ∧ Fr n0 L ∧ Keep h0 h [a0, ar] ∧ h0.size ≤ b26 ∧ Fld Z h a0 cD "heads" dA (.ref ar) ∧ Fld Z h a0 cD "count" "I" (.int (2 : Int32)) ∧ Arv Z h ar kA (.object cH) (4 : Int32) [(.ref b26), (.ref x1), .null, .null] .null ∧ Exa Z h b26 cH ∧ Fld Z h b26 cH "tick" "J" (.long q1) ∧ Fld Z h b26 cL "next" dL (.ref b26) ∧ Fld Z h b26 cL "prev" dL (.ref b26)) ∨ (∃ b97 : Addr, ¬ (t1 = q1) ∧ fDue1 q1 t1 = (1 : Int32) ∧ v = some (.ref b97) ∧ Fr n0 L ∧ Keep h0 h [a0, ar] ∧ h0.size ≤ b97 ∧ Fld Z h a0 cD "heads" dA (.ref ar) ∧ Fld Z h a0 cD "count" "I" (.int (2 : Int32)) ∧ Arv Z h ar kA (.object cH) (4 : Int32) [(.ref x1), (.ref b97), .null, .null] .null ∧ Exa Z h b97 cH ∧ Fld Z h b97 cH "tick" "J" (.long q1) ∧ Fld Z h b97 cL "next" dL (.ref b97) ∧ Fld Z h b97 cL "prev" dL (.ref b97))
theorem efHeadOf1 (m : MethodId) (x0 : Addr) (x1 : Int64) : entryFrame m #[(.ref x0), (.long x1)] 5 = mkF m 0 #[.val (.ref x0), .val (.long x1), .second, .unset, .unset] [] := by first | (simp [entryFrame, mkF, argsToLocals, Value.category]; done) | rfl
set_option maxRecDepth 65536 in
set_option maxHeartbeats 40000000 in
theorem rmHeadOf1 (l : Launch) (Z : State) (az : Array Value) (hw : ∀ d ∈ tables_1, d.before az Z = true) (ws : List Jvm.Cond) (a0 : Addr) (q1 : Int64) (ar : Addr) (kA : ClassId) (x1 : Addr) (t1 : Int64) (h0 : Heap) (n0 : Nat) (Z0 : n0 ≤ h0.size) (F0 : Exa Z h0 a0 cD) (F1 : Fld Z h0 a0 cD "heads" dA (.ref ar)) (F2 : Fld Z h0 a0 cD "count" "I" (.int (1 : Int32))) (F3 : Arv Z h0 ar kA (.object cH) (4 : Int32) [(.ref x1), .null, .null, .null] .null) (F4 : Ovr Z kA cH) (F5 : Exa Z h0 x1 cH) (F6 : Fld Z h0 x1 cH "tick" "J" (.long t1)) (Ne0 : a0 ≠ ar) (Ne1 : x1 ≠ a0) (Ne2 : x1 ≠ ar) (Ge0 : n0 ≤ a0) (Ge1 : n0 ≤ ar) :
    MetFree l y4 (head1 (Jvm.Cond.code y4 prog_4_method_8_code 5 (some (.object cH)) :: ws) ({ frames := 3, cells := 1, slots := 3, locals := 39 } : Room)) (fun a U => a = #[(.ref a0), (.long q1)] ∧ Z.Warmed39 U.vm ∧ U.heap = h0) (fun _ _ _ _ _ => True) (fun _ U o U' => ∃ v L, o = .returned v ∧ QHeadOf1 Z a0 q1 ar kA x1 t1 h0 n0 v U'.heap L ∧ FrameEnd U o U' L ({ frames := 3, cells := 1, slots := 3, locals := 39 } : Room).cells ({ frames := 3, cells := 1, slots := 3, locals := 39 } : Room).slots) := by
  refine MetFree.of_bodySF (plainFor_of_name own_pn_com_example_admit_one_admitone_engine_DueOrder) hisR ?_
  intro p e s m args below meth c s₁ Bd hml0 hP hK
  obtain ⟨rfl, hZ, hh⟩ := hP
  have hx := Bd.exec
  have hby := Bd.bytes
  have hml : c.maxLocals = 5 := hml0
  have hown : s.vm.findClass cD = some m.cls := findClass_of_methodNamed Bd.named
  have hnm := (name_of_methodNamed Bd.named Bd.method).1
  have X0 : Stand p l e ({ frames := 3, cells := 1, slots := 3, locals := 39 } : Room) s m #[(.ref a0), (.long q1)] below meth c s₁ [] 0 0 := Stand.of_body Bd
  have e0 : s₁.heap = h0 := by rw [← hh, Bd.state]; rfl
  have N0 := Fr.nil n0
  have Kp0 : Keep h0 h0 [a0, ar] := Keep.refl _ _
  refine Goes.start ?_
  refine Goes.by (B := s₁.setTop (mkF m 0 #[.val (.ref a0), .val (.long q1), .second, .unset, .unset] [])) (fun t k => castTop (efHeadOf1 m a0 q1) k) ?_
  refine Goes.by (B := s₁.setTop (mkF m 1 #[.val (.ref a0), .val (.long q1), .second, .unset, .unset] [(.ref a0)])) (fun t k => ?_) ?_
  · refine XS.aloadN X0.here hx rfl (hb hby d6_0) rfl rfl ?_
    exact k
  obtain ⟨T1, X1, e1, st1⟩ := getF X0 hx hZ hown (host := "") (Or.inl (wq hw 34 rfl)) Via.refl e0 F2 (g := (mkF m 1 #[.val (.ref a0), .val (.long q1), .second, .unset, .unset] [(.ref a0)])) rfl rfl (hb hby d6_1)
  refine Goes.by st1 ?_
  clear X0
  refine Goes.by (B := T1.setTop (mkF m 8 #[.val (.ref a0), .val (.long q1), .second, .unset, .unset] [(.ref a0)])) (fun t k => ?_) ?_
  · refine XS.ifNo X1.here hx rfl (hb hby d6_4) rfl ((if0 _ _).trans (tlt (by decide : (0 : Int32) < (1 : Int32))).2.2.2) ?_
    refine XS.aloadN X1.here hx rfl (hb hby d6_7) rfl rfl ?_
    exact k
  obtain ⟨T2, X2, e2, st2⟩ := getF X1 hx hZ hown (host := "") (Or.inl (wq hw 11 rfl)) Via.refl e1 F1 (g := (mkF m 8 #[.val (.ref a0), .val (.long q1), .second, .unset, .unset] [(.ref a0)])) rfl rfl (hb hby d6_8)
  refine Goes.by st2 ?_
  clear X1 e1
  refine Goes.by (B := T2.setTop (mkF m 12 #[.val (.ref a0), .val (.long q1), .second, .unset, .unset] [(.ref a0), (.ref ar)])) (fun t k => ?_) ?_
  · refine XS.aloadN X2.here hx rfl (hb hby d6_11) rfl rfl ?_
    exact k
  obtain ⟨T3, X3, e3, st3⟩ := getF X2 hx hZ hown (host := "") (Or.inl (wq hw 34 rfl)) Via.refl e2 F2 (g := (mkF m 12 #[.val (.ref a0), .val (.long q1), .second, .unset, .unset] [(.ref a0), (.ref ar)])) rfl rfl (hb hby d6_12)
  refine Goes.by st3 ?_
  clear X2 e2
  refine Goes.by (B := T3.setTop (mkF m 17 #[.val (.ref a0), .val (.long q1), .second, .unset, .unset] [(.int (0 : Int32)), (.ref ar)])) (fun t k => ?_) ?_
  · refine XS.iconst X3.here hx rfl (hb hby d6_15) ?_
    refine XS.isub X3.here hx rfl (hb hby d6_16) rfl ?_
    exact k
  obtain ⟨cl4, cl4A, cl4q, cl4S, cl4N, cl4H, cl4G⟩ := id F3
  have cl4I : ¬ ((0 : Int32) < 0 ∨ cl4.slots.size ≤ ((0 : Int32)).toNatClampNeg) := inb_of cl4S ⟨by decide, by decide⟩
  have cl4T : cl4.slots[((0 : Int32)).toNatClampNeg]? = some (.ref x1) := cl4H.at cl4I rfl
  refine Goes.by (B := T3.setTop (mkF m 18 #[.val (.ref a0), .val (.long q1), .second, .unset, .unset] [(.ref x1)])) (fun t k => ?_) ?_
  · refine X3.aaload hx (j := (0 : Int32)) (v := (.ref x1)) (by rw [e3]; exact cl4A.1) (State.isArrayOf_alike hZ.alike cl4A.2.1) rfl cl4A.2.2 cl4I cl4T (g := (mkF m 17 #[.val (.ref a0), .val (.long q1), .second, .unset, .unset] [(.int (0 : Int32)), (.ref ar)])) rfl rfl (hb hby d6_17) _ ?_
    exact k
  refine Goes.by (B := T3.setTop (mkF m 23 #[.val (.ref a0), .val (.long q1), .second, .unset, .unset] [(.int (lcmpW t1 q1))])) (fun t k => ?_) ?_
  · refine getFR X3 hx hZ hown (wq hw 69 rfl) e3 F6 (g := (mkF m 18 #[.val (.ref a0), .val (.long q1), .second, .unset, .unset] [(.ref x1)])) rfl rfl (hb hby d6_18) ?_
    refine XS.lloadN X3.here hx rfl (hb hby d6_21) rfl ?_
    refine XS.lcmp X3.here hx rfl (hb hby d6_22) rfl ?_
    exact k
  by_cases hc6 : t1 = q1
  · refine Goes.by (B := T3.setTop (mkF m 27 #[.val (.ref a0), .val (.long q1), .second, .unset, .unset] [(.ref a0)])) (fun t k => ?_) ?_
    · refine XS.ifNo X3.here hx rfl (hb hby d6_23) rfl ((if0 _ _).trans (teq ((lw_eq t1 q1).mpr hc6)).2) ?_
      refine XS.aloadN X3.here hx rfl (hb hby d6_26) rfl rfl ?_
      exact k
    obtain ⟨T7, X7, e7, st7⟩ := getF X3 hx hZ hown (host := "") (Or.inl (wq hw 11 rfl)) Via.refl e3 F1 (g := (mkF m 27 #[.val (.ref a0), .val (.long q1), .second, .unset, .unset] [(.ref a0)])) rfl rfl (hb hby d6_27)
    refine Goes.by st7 ?_
    clear X3 e3
    refine Goes.by (B := T7.setTop (mkF m 31 #[.val (.ref a0), .val (.long q1), .second, .unset, .unset] [(.ref a0), (.ref ar)])) (fun t k => ?_) ?_
    · refine XS.aloadN X7.here hx rfl (hb hby d6_30) rfl rfl ?_
      exact k
    obtain ⟨T8, X8, e8, st8⟩ := getF X7 hx hZ hown (host := "") (Or.inl (wq hw 34 rfl)) Via.refl e7 F2 (g := (mkF m 31 #[.val (.ref a0), .val (.long q1), .second, .unset, .unset] [(.ref a0), (.ref ar)])) rfl rfl (hb hby d6_31)
    refine Goes.by st8 ?_
    clear X7 e7
    refine Goes.by (B := T8.setTop (mkF m 36 #[.val (.ref a0), .val (.long q1), .second, .unset, .unset] [(.int (0 : Int32)), (.ref ar)])) (fun t k => ?_) ?_
    · refine XS.iconst X8.here hx rfl (hb hby d6_34) ?_
      refine XS.isub X8.here hx rfl (hb hby d6_35) rfl ?_
      exact k
    obtain ⟨cl9, cl9A, cl9q, cl9S, cl9N, cl9H, cl9G⟩ := id F3
    have cl9I : ¬ ((0 : Int32) < 0 ∨ cl9.slots.size ≤ ((0 : Int32)).toNatClampNeg) := inb_of cl9S ⟨by decide, by decide⟩
    have cl9T : cl9.slots[((0 : Int32)).toNatClampNeg]? = some (.ref x1) := cl9H.at cl9I rfl
    refine Goes.by (B := T8.setTop (mkF m 37 #[.val (.ref a0), .val (.long q1), .second, .unset, .unset] [(.ref x1)])) (fun t k => ?_) ?_
    · refine X8.aaload hx (j := (0 : Int32)) (v := (.ref x1)) (by rw [e8]; exact cl9A.1) (State.isArrayOf_alike hZ.alike cl9A.2.1) rfl cl9A.2.2 cl9I cl9T (g := (mkF m 36 #[.val (.ref a0), .val (.long q1), .second, .unset, .unset] [(.int (0 : Int32)), (.ref ar)])) rfl rfl (hb hby d6_36) _ ?_
      exact k
    obtain ⟨fs, hr, hrun, hended, hW, hsame⟩ := X8.leave (v := some (.ref x1)) (fun h => by rw [Bd.returns] at h; cases h)
    refine Goes.mk _ _ ?_ ⟨hrun, hended, _, _, rfl, ?_, ⟨_, rfl⟩, hW, hsame.mono (by decide) (by decide)⟩
    · exact retOut X8 hx Bd.returns rfl (Or.inr (Or.inr (Or.inr (Or.inr ⟨rfl, rfl, rfl⟩)))) (hb hby d6_37) hr
    · show QHeadOf1 Z a0 q1 ar kA x1 t1 h0 n0 _ T8.heap _
      rw [e8]
      exact (Or.inl ⟨hc6, rfl, N0, rfl⟩)
  · refine Goes.by (B := T3.setTop (mkF m 40 #[.val (.ref a0), .val (.long q1), .second, .unset, .unset] [(.long q1), (.ref a0)])) (fun t k => ?_) ?_
    · refine XS.ifYes X3.here hx rfl (pc0 := 23) (pc' := 38) rfl (hb hby d6_23) rfl ((if0 _ _).trans (feq (fun z => hc6 ((lw_eq t1 q1).mp z))).2) (by decide) (by decide) ?_
      refine XS.aloadN X3.here hx rfl (hb hby d6_38) rfl rfl ?_
      refine XS.lloadN X3.here hx rfl (hb hby d6_39) rfl ?_
      exact k
    obtain ⟨cq10, q10, q10'⟩ := (F0).cell
    obtain ⟨_, _, ⟨T10, L10, k10, n10⟩, -, X10, ⟨Lc10, hQ10, l10, y10, z10⟩, st10⟩ := X3.privateBack hx (y := y5) hown (mvT hZ (wq hw 36 rfl)) (mvT hZ (wq hw 37 rfl)) (own_sel hZ (wq hw 1 rfl) (wq hw 38 rfl) (wq hw 37 rfl) (by decide)) (Cond.privateMethod_at (mvP hZ (wq hw 38 rfl) (args := #[]))) (mvT hZ (wq hw 39 rfl)) (by decide) (backOf (W := 0) (rmDue1 l Z az hw [] a0 q1 ar kA x1 t1 h0 n0 Z0 F0 F1 F2 F3 F4 F5 F6) hZ (wq hw 39 rfl) (wq hw 2 rfl) (by decide) (by decide)) (g := (mkF m 40 #[.val (.ref a0), .val (.long q1), .second, .unset, .unset] [(.long q1), (.ref a0)])) rfl (by rw [hml]; rfl) (Steps.refl _) (a := a0) (by rw [e3]; exact q10) q10' (argsL := [(.long q1)]) (rest := []) (lenOf own_pd1 rfl) rfl (by show 2 * 0 + _ ≤ _; exact Nat.le_of_eq rfl) (hb hby d6_40) (fun _ _ => ⟨rfl, e3, (by decide : 0 + 0 ≤ _), (by decide : 0 + 0 ≤ _)⟩)
    dsimp only [Pt.U, Pt.locs, Pt.cells, Pt.slots] at X10 l10 y10 z10 st10 hQ10
    subst l10 y10 z10
    replace X10 : Stand p l e ({ frames := 3, cells := 1, slots := 3, locals := 39 } : Room) s m #[(.ref a0), (.long q1)] below meth c T10 _ 0 0 := X10
    obtain ⟨rfl, N10q, e10⟩ := hQ10
    have N11 := Fr.app N0 N10q
    refine Goes.by (fun _ k => st10.trans k) ?_
    clear X3 N0 e3
    rcases own_due1 q1 t1 with he | he
    · rw [he]
      show Goes p.tables e below _ (T10.setTop (mkF m 43 #[.val (.ref a0), .val (.long q1), .second, .unset, .unset] [(.int (0 : Int32))]))
      refine Goes.by (B := T10.setTop (mkF m 74 #[.val (.ref a0), .val (.long q1), .second, .val (.int (0 : Int32)), .unset] [(.ref a0)])) (fun t k => ?_) ?_
      · refine XS.istoreN X10.here hx rfl (hb hby d6_43) rfl (l' := #[.val (.ref a0), .val (.long q1), .second, .val (.int (0 : Int32)), .unset]) rfl ?_
        refine XS.iloadN X10.here hx rfl (hb hby d6_44) rfl ?_
        refine XS.ifYes X10.here hx rfl (pc0 := 45) (pc' := 73) rfl (hb hby d6_45) rfl ((if0 _ _).trans (flt (by decide : ¬ ((0 : Int32) < (0 : Int32)))).2.2.2) (by decide) (by decide) ?_
        refine XS.aloadN X10.here hx rfl (hb hby d6_73) rfl rfl ?_
        exact k
      obtain ⟨T12, X12, e12, st12⟩ := getF X10 hx hZ hown (host := "") (Or.inl (wq hw 34 rfl)) Via.refl e10 F2 (g := (mkF m 74 #[.val (.ref a0), .val (.long q1), .second, .val (.int (0 : Int32)), .unset] [(.ref a0)])) rfl rfl (hb hby d6_74)
      refine Goes.by st12 ?_
      clear X10 e10
      refine Goes.by (B := T12.setTop (mkF m 78 #[.val (.ref a0), .val (.long q1), .second, .val (.int (0 : Int32)), .unset] [(.ref a0), (.int (1 : Int32))])) (fun t k => ?_) ?_
      · refine XS.aloadN X12.here hx rfl (hb hby d6_77) rfl rfl ?_
        exact k
      obtain ⟨T13, X13, e13, st13⟩ := getF X12 hx hZ hown (host := "") (Or.inl (wq hw 11 rfl)) Via.refl e12 F1 (g := (mkF m 78 #[.val (.ref a0), .val (.long q1), .second, .val (.int (0 : Int32)), .unset] [(.ref a0), (.int (1 : Int32))])) rfl rfl (hb hby d6_78)
      refine Goes.by st13 ?_
      clear X12 e12
      obtain ⟨cl14, cl14A, -, cl14S, cl14N, -, -⟩ := id F3
      refine Goes.by (B := T13.setTop (mkF m 105 #[.val (.ref a0), .val (.long q1), .second, .val (.int (0 : Int32)), .unset] [])) (fun t k => ?_) ?_
      · refine X13.arraylength hx (by rw [e13]; exact cl14A.1) (State.isArrayOf_alike hZ.alike cl14A.2.1) (g := (mkF m 81 #[.val (.ref a0), .val (.long q1), .second, .val (.int (0 : Int32)), .unset] [(.ref ar), (.int (1 : Int32))])) rfl rfl (hb hby d6_81) _ ?_
        rw [len_of cl14S cl14N]
        refine XS.icmpYes X13.here hx rfl (pc0 := 82) (pc' := 105) rfl (hb hby d6_82) rfl (feq (by decide : ¬ ((1 : Int32) = (4 : Int32)))).2 (by decide) (by decide) ?_
        exact k
      refine Goes.by (B := T13.setTop (mkF m 106 #[.val (.ref a0), .val (.long q1), .second, .val (.int (0 : Int32)), .unset] [(.ref a0)])) (fun t k => ?_) ?_
      · refine XS.aloadN X13.here hx rfl (hb hby d6_105) rfl rfl ?_
        exact k
      obtain ⟨T15, X15, e15, st15⟩ := getF X13 hx hZ hown (host := "") (Or.inl (wq hw 11 rfl)) Via.refl e13 F1 (g := (mkF m 106 #[.val (.ref a0), .val (.long q1), .second, .val (.int (0 : Int32)), .unset] [(.ref a0)])) rfl rfl (hb hby d6_106)
      refine Goes.by st15 ?_
      clear X13 e13
      refine Goes.by (B := T15.setTop (mkF m 111 #[.val (.ref a0), .val (.long q1), .second, .val (.int (0 : Int32)), .unset] [(.ref a0), (.int (0 : Int32)), (.ref ar)])) (fun t k => ?_) ?_
      · refine XS.iloadN X15.here hx rfl (hb hby d6_109) rfl ?_
        refine XS.aloadN X15.here hx rfl (hb hby d6_110) rfl rfl ?_
        exact k
      obtain ⟨T16, X16, e16, st16⟩ := getF X15 hx hZ hown (host := "") (Or.inl (wq hw 11 rfl)) Via.refl e15 F1 (g := (mkF m 111 #[.val (.ref a0), .val (.long q1), .second, .val (.int (0 : Int32)), .unset] [(.ref a0), (.int (0 : Int32)), (.ref ar)])) rfl rfl (hb hby d6_111)
      refine Goes.by st16 ?_
      clear X15 e15
      refine Goes.by (B := T16.setTop (mkF m 118 #[.val (.ref a0), .val (.long q1), .second, .val (.int (0 : Int32)), .unset] [(.ref a0), (.int (1 : Int32)), (.ref ar), (.int (0 : Int32)), (.ref ar)])) (fun t k => ?_) ?_
      · refine XS.iloadN X16.here hx rfl (hb hby d6_114) rfl ?_
        refine XS.iconst X16.here hx rfl (hb hby d6_115) ?_
        refine XS.iadd X16.here hx rfl (hb hby d6_116) rfl ?_
        refine XS.aloadN X16.here hx rfl (hb hby d6_117) rfl rfl ?_
        exact k
      obtain ⟨T17, X17, e17, st17⟩ := getF X16 hx hZ hown (host := "") (Or.inl (wq hw 34 rfl)) Via.refl e16 F2 (g := (mkF m 118 #[.val (.ref a0), .val (.long q1), .second, .val (.int (0 : Int32)), .unset] [(.ref a0), (.int (1 : Int32)), (.ref ar), (.int (0 : Int32)), (.ref ar)])) rfl rfl (hb hby d6_118)
      refine Goes.by st17 ?_
      clear X16 e16
      refine Goes.by (B := T17.setTop (mkF m 123 #[.val (.ref a0), .val (.long q1), .second, .val (.int (0 : Int32)), .unset] [(.int (1 : Int32)), (.int (1 : Int32)), (.ref ar), (.int (0 : Int32)), (.ref ar)])) (fun t k => ?_) ?_
      · refine XS.iloadN X17.here hx rfl (hb hby d6_121) rfl ?_
        refine XS.isub X17.here hx rfl (hb hby d6_122) rfl ?_
        exact k
      obtain ⟨cl18, cl18A, cl18q, -, -, -, -⟩ := id F3
      obtain ⟨T18, h18, L18, X18, e18, Nn18, K18, V18, st18⟩ := cpA X17 hx hZ hown (wq hw 40 rfl) (wq hw 43 rfl) (wq hw 41 rfl) (wq hw 42 rfl) e17 (us := [(.ref x1)]) F3 F3 (Or.inr ⟨rfl, rfl, ⟨Sto.ofV cl18A cl18q F4 (Ins.self F5), trivial⟩⟩) (sp := (0 : Int32)) (dp := (1 : Int32)) (nn := (1 : Int32)) (by decide) (by decide) (by decide) (by decide) (by decide) rfl (Nat.le_of_ble_eq_true rfl) N11 Ge1 (g := (mkF m 123 #[.val (.ref a0), .val (.long q1), .second, .val (.int (0 : Int32)), .unset] [(.int (1 : Int32)), (.int (1 : Int32)), (.ref ar), (.int (0 : Int32)), (.ref ar)])) rfl (by rw [hml]; rfl) rfl (hb hby d6_123) (by decide) (W := 0) (by show 2 * 0 + _ ≤ _; exact Nat.le_of_eq rfl) (by decide)
      have f19 : Exa Z h18 a0 cD := F0.keep K18
      have f20 : Fld Z h18 a0 cD "heads" dA (.ref ar) := F1.keep K18 (ninS Ne0 nin0)
      have f21 : Fld Z h18 a0 cD "count" "I" (.int (1 : Int32)) := F2.keep K18 (ninS Ne0 nin0)
      have f22 : Exa Z h18 x1 cH := F5.keep K18
      have f23 : Arv Z h18 ar kA (.object cH) (4 : Int32) [(.ref x1), (.ref x1), .null, .null] .null := V18
      have Kp18 : Keep h0 h18 [a0, ar] := Kp0.trans K18 (allS (Or.inl (List.mem_of_getElem? (i := 1) rfl)) all0)
      have Z24 : n0 ≤ h18.size := Nat.le_trans Z0 K18.1
      refine Goes.by st18 ?_
      clear X17 N11 e17
      obtain ⟨T25, h25, X25, e25, E25, A25, D25, -, st25⟩ := newO X18 hx hZ hown (wq hw 9 rfl) (wq hw 44 rfl) (wq hw 45 rfl) e18 (g := (mkF m 126 #[.val (.ref a0), .val (.long q1), .second, .val (.int (0 : Int32)), .unset] [])) rfl (hb hby d6_126) (by decide) (by decide)
      obtain ⟨b26, g25⟩ : ∃ z, z = h18.size := ⟨_, rfl⟩
      rw [← g25] at A25 D25 st25
      have ne27 : a0 ≠ b26 := Nat.ne_of_lt (Nat.lt_of_lt_of_le f19.lt (Nat.le_of_eq g25.symm))
      have ne28 : ar ≠ b26 := Nat.ne_of_lt (Nat.lt_of_lt_of_le f23.lt (Nat.le_of_eq g25.symm))
      have ne29 : x1 ≠ b26 := Nat.ne_of_lt (Nat.lt_of_lt_of_le f22.lt (Nat.le_of_eq g25.symm))
      have ge30 : n0 ≤ b26 := Nat.le_trans Z24 (Nat.le_of_eq g25.symm)
      have sz31 : h0.size ≤ b26 := Nat.le_trans Kp18.1 (Nat.le_of_eq g25.symm)
      have f32 : Exa Z h25 a0 cD := f19.ext E25
      have f33 : Fld Z h25 a0 cD "heads" dA (.ref ar) := f20.ext E25
      have f34 : Fld Z h25 a0 cD "count" "I" (.int (1 : Int32)) := f21.ext E25
      have f35 : Exa Z h25 x1 cH := f22.ext E25
      have f36 : Arv Z h25 ar kA (.object cH) (4 : Int32) [(.ref x1), (.ref x1), .null, .null] .null := f23.ext E25
      have f37 : Fld Z h25 b26 cH "tick" "J" (.long (0 : Int64)) := D25 (Or.inr (wq hw 52 rfl)) (ty := .long) (by decide)
      have f38 : Fld Z h25 b26 cL "next" dL .null := D25 (Or.inl (wq hw 54 rfl)) (ty := (.object cL)) (by decide)
      have f39 : Fld Z h25 b26 cL "prev" dL .null := D25 (Or.inl (wq hw 56 rfl)) (ty := (.object cL)) (by decide)
      have Kp25 : Keep h0 h25 [a0, ar] := Kp18.ext E25
      have Z40 : n0 ≤ h25.size := Nat.le_trans Z24 E25.1
      refine Goes.by st25 ?_
      clear f19 f20 f21 f22 f23 X18 Z24 Kp18 e18
      refine Goes.by (B := T25.setTop (mkF m 131 #[.val (.ref a0), .val (.long q1), .second, .val (.int (0 : Int32)), .unset] [(.long q1), (.ref b26), (.ref b26)])) (fun t k => ?_) ?_
      · refine XS.dup X25.here hx rfl (hb hby d6_129) rfl rfl ?_
        refine XS.lloadN X25.here hx rfl (hb hby d6_130) rfl ?_
        exact k
      obtain ⟨_, _, ⟨T41, L41, k41, n41⟩, -, X41, ⟨Lc41, hQ41, l41, y41, z41⟩, st41⟩ := X25.specialBack hx (y := y6) rfl hown (mvT hZ (wq hw 46 rfl)) (mvT hZ (wq hw 47 rfl)) (mvT hZ (wq hw 48 rfl)) (by decide) (backOf (W := 1) (rmHeadI l Z az hw [] b26 q1 h25 n0 Z40 A25 f37 f38 f39 ge30) hZ (wq hw 48 rfl) (wq hw 45 rfl) (by decide) (by decide)) (g := (mkF m 131 #[.val (.ref a0), .val (.long q1), .second, .val (.int (0 : Int32)), .unset] [(.long q1), (.ref b26), (.ref b26)])) rfl (by rw [hml]; rfl) (Steps.refl _) (a := b26) (argsL := [(.long q1)]) (rest := [(.ref b26)]) (lenOf own_pd2 rfl) rfl (by show 2 * 0 + _ ≤ _; exact Nat.le_of_eq rfl) (hb hby d6_131) (fun _ _ => ⟨rfl, e25, (by decide : 1 + 0 ≤ _), (by decide : 3 + 0 ≤ _)⟩)
      dsimp only [Pt.U, Pt.locs, Pt.cells, Pt.slots] at X41 l41 y41 z41 st41 hQ41
      subst l41 y41 z41
      replace X41 : Stand p l e ({ frames := 3, cells := 1, slots := 3, locals := 39 } : Room) s m #[(.ref a0), (.long q1)] below meth c T41 _ 1 3 := X41
      obtain ⟨rfl, N41q, K41, f42, f43, f44, f45⟩ := hQ41
      have f46 : Exa Z T41.heap a0 cD := f32.keep K41
      have f47 : Fld Z T41.heap a0 cD "heads" dA (.ref ar) := f33.keep K41 (ninS ne27 nin0)
      have f48 : Fld Z T41.heap a0 cD "count" "I" (.int (1 : Int32)) := f34.keep K41 (ninS ne27 nin0)
      have f49 : Exa Z T41.heap x1 cH := f35.keep K41
      have f50 : Arv Z T41.heap ar kA (.object cH) (4 : Int32) [(.ref x1), (.ref x1), .null, .null] .null := f36.keep K41 (ninS ne28 nin0)
      have f51 : Exa Z T41.heap b26 cH := A25.keep K41
      have Kp41 : Keep h0 T41.heap [a0, ar] := Kp25.trans K41 (allS (Or.inr sz31) all0)
      have Z52 : n0 ≤ T41.heap.size := Nat.le_trans Z40 K41.1
      have N53 := Fr.app Nn18 N41q
      refine Goes.by (fun _ k => st41.trans k) ?_
      clear f32 f33 f34 f35 f36 f37 f38 f39 X25 Nn18 Z40 Kp25 e25
      refine Goes.by (B := T41.setTop (mkF m 137 #[.val (.ref a0), .val (.long q1), .second, .val (.int (0 : Int32)), .val (.ref b26)] [(.ref a0)])) (fun t k => ?_) ?_
      · refine XS.astore X41.here hx rfl (hb hby d6_134) rfl rfl (l' := #[.val (.ref a0), .val (.long q1), .second, .val (.int (0 : Int32)), .val (.ref b26)]) rfl ?_
        refine XS.aloadN X41.here hx rfl (hb hby d6_136) rfl rfl ?_
        exact k
      obtain ⟨T54, X54, e54, st54⟩ := getF X41 hx hZ hown (host := "") (Or.inl (wq hw 11 rfl)) Via.refl rfl f47 (g := (mkF m 137 #[.val (.ref a0), .val (.long q1), .second, .val (.int (0 : Int32)), .val (.ref b26)] [(.ref a0)])) rfl rfl (hb hby d6_137)
      refine Goes.by st54 ?_
      clear X41
      refine Goes.by (B := T54.setTop (mkF m 143 #[.val (.ref a0), .val (.long q1), .second, .val (.int (0 : Int32)), .val (.ref b26)] [(.ref b26), (.int (0 : Int32)), (.ref ar)])) (fun t k => ?_) ?_
      · refine XS.iloadN X54.here hx rfl (hb hby d6_140) rfl ?_
        refine XS.aload X54.here hx rfl (hb hby d6_141) rfl rfl ?_
        exact k
      obtain ⟨cl55, cl55A, cl55q, cl55S, cl55N, cl55H, cl55G⟩ := id f50
      have cl55I : ¬ ((0 : Int32) < 0 ∨ cl55.slots.size ≤ ((0 : Int32)).toNatClampNeg) := inb_of cl55S ⟨by decide, by decide⟩
      obtain ⟨T55, h55, X55, e55, W55, st55⟩ := stR X54 hx hZ e54 cl55A (j := (0 : Int32)) cl55I rfl (Sto.ofV cl55A cl55q F4 (Ins.self f42)) (g := (mkF m 143 #[.val (.ref a0), .val (.long q1), .second, .val (.int (0 : Int32)), .val (.ref b26)] [(.ref b26), (.int (0 : Int32)), (.ref ar)])) rfl rfl (hb hby d6_143)
      have f56 : Exa Z h55 a0 cD := f46.wr W55
      have f57 : Fld Z h55 a0 cD "heads" dA (.ref ar) := f47.other W55 (Or.inl Ne0)
      have f58 : Fld Z h55 a0 cD "count" "I" (.int (1 : Int32)) := f48.other W55 (Or.inl Ne0)
      have f59 : Exa Z h55 x1 cH := f49.wr W55
      have f60 : Exa Z h55 b26 cH := f42.wr W55
      have f61 : Fld Z h55 b26 cH "tick" "J" (.long q1) := f43.other W55 (Or.inl (Ne.symm ne28))
      have f62 : Fld Z h55 b26 cL "next" dL (.ref b26) := f44.other W55 (Or.inl (Ne.symm ne28))
      have f63 : Fld Z h55 b26 cL "prev" dL (.ref b26) := f45.other W55 (Or.inl (Ne.symm ne28))
      have f64 : Arv Z h55 ar kA (.object cH) (4 : Int32) [(.ref b26), (.ref x1), .null, .null] .null := Arv.set cl55A cl55q cl55S cl55N cl55H cl55G rfl W55 0 rfl (Nat.le_of_ble_eq_true rfl)
      have Kp55 : Keep h0 h55 [a0, ar] := Kp41.wr W55 (Or.inl (List.mem_of_getElem? (i := 1) rfl))
      have Z65 : n0 ≤ h55.size := Nat.le_trans Z52 (Nat.le_of_eq W55.size.symm)
      have N66 := Fr.snoc X55 N53 Ge1
      refine Goes.by st55 ?_
      clear f46 f47 f48 f49 f50 f42 f43 f44 f45 X54 N53 Z52 Kp41 e54
      refine Goes.by (B := T55.setTop (mkF m 146 #[.val (.ref a0), .val (.long q1), .second, .val (.int (0 : Int32)), .val (.ref b26)] [(.ref a0), (.ref a0)])) (fun t k => ?_) ?_
      · refine XS.aloadN X55.here hx rfl (hb hby d6_144) rfl rfl ?_
        refine XS.dup X55.here hx rfl (hb hby d6_145) rfl rfl ?_
        exact k
      obtain ⟨T67, X67, e67, st67⟩ := getF X55 hx hZ hown (host := "") (Or.inl (wq hw 34 rfl)) Via.refl e55 f58 (g := (mkF m 146 #[.val (.ref a0), .val (.long q1), .second, .val (.int (0 : Int32)), .val (.ref b26)] [(.ref a0), (.ref a0)])) rfl rfl (hb hby d6_146)
      refine Goes.by st67 ?_
      clear X55 e55
      refine Goes.by (B := T67.setTop (mkF m 151 #[.val (.ref a0), .val (.long q1), .second, .val (.int (0 : Int32)), .val (.ref b26)] [(.int (2 : Int32)), (.ref a0)])) (fun t k => ?_) ?_
      · refine XS.iconst X67.here hx rfl (hb hby d6_149) ?_
        refine XS.iadd X67.here hx rfl (hb hby d6_150) rfl ?_
        exact k
      obtain ⟨T68, h68, X68, e68, W68, st68⟩ := putF X67 hx hZ hown (host := "") (Or.inl (wq hw 34 rfl)) Via.refl e67 f58 f56 (Or.inl (wq hw 35 rfl)) (wq hw 1 rfl) (ty := .int) (by decide) rfl rfl (g := (mkF m 151 #[.val (.ref a0), .val (.long q1), .second, .val (.int (0 : Int32)), .val (.ref b26)] [(.int (2 : Int32)), (.ref a0)])) rfl rfl (hb hby d6_151)
      have f69 : Exa Z h68 a0 cD := f56.wr W68
      have f70 : Fld Z h68 a0 cD "heads" dA (.ref ar) := f57.other W68 (Or.inr (slot_ne (Or.inl (wq hw 12 rfl)) (Or.inl (wq hw 35 rfl)) (by decide) (t := (.array (.object cH))) (t' := .int) (by decide) (by decide)))
      have f71 : Exa Z h68 x1 cH := f59.wr W68
      have f72 : Exa Z h68 b26 cH := f60.wr W68
      have f73 : Fld Z h68 b26 cH "tick" "J" (.long q1) := f61.other W68 (Or.inl (Ne.symm ne27))
      have f74 : Fld Z h68 b26 cL "next" dL (.ref b26) := f62.other W68 (Or.inl (Ne.symm ne27))
      have f75 : Fld Z h68 b26 cL "prev" dL (.ref b26) := f63.other W68 (Or.inl (Ne.symm ne27))
      have f76 : Arv Z h68 ar kA (.object cH) (4 : Int32) [(.ref b26), (.ref x1), .null, .null] .null := f64.other W68 (Ne.symm Ne0)
      have f77 : Fld Z h68 a0 cD "count" "I" (.int (2 : Int32)) := f58.same W68
      have Kp68 : Keep h0 h68 [a0, ar] := Kp55.wr W68 (Or.inl (List.mem_of_getElem? (i := 0) rfl))
      have Z78 : n0 ≤ h68.size := Nat.le_trans Z65 (Nat.le_of_eq W68.size.symm)
      have N79 := Fr.snoc X68 N66 Ge0
      refine Goes.by st68 ?_
      clear f56 f57 f58 f59 f60 f61 f62 f63 f64 X67 N66 Z65 Kp55 e67
      refine Goes.by (B := T68.setTop (mkF m 156 #[.val (.ref a0), .val (.long q1), .second, .val (.int (0 : Int32)), .val (.ref b26)] [(.ref b26)])) (fun t k => ?_) ?_
      · refine XS.aload X68.here hx rfl (hb hby d6_154) rfl rfl ?_
        exact k
      obtain ⟨fs, hr, hrun, hended, hW, hsame⟩ := X68.leave (v := some (.ref b26)) (fun h => by rw [Bd.returns] at h; cases h)
      refine Goes.mk _ _ ?_ ⟨hrun, hended, _, _, rfl, ?_, ⟨_, rfl⟩, hW, hsame.mono (by decide) (by decide)⟩
      · exact retOut X68 hx Bd.returns rfl (Or.inr (Or.inr (Or.inr (Or.inr ⟨rfl, rfl, rfl⟩)))) (hb hby d6_156) hr
      · show QHeadOf1 Z a0 q1 ar kA x1 t1 h0 n0 _ T68.heap _
        rw [e68]
        exact (Or.inr (Or.inl ⟨b26, hc6, he, rfl, N79, Kp68, sz31, f70, f77, f76, f72, f73, f74, f75⟩))
    · rw [he]
      show Goes p.tables e below _ (T10.setTop (mkF m 43 #[.val (.ref a0), .val (.long q1), .second, .unset, .unset] [(.int (1 : Int32))]))
      refine Goes.by (B := T10.setTop (mkF m 49 #[.val (.ref a0), .val (.long q1), .second, .val (.int (1 : Int32)), .unset] [(.ref a0)])) (fun t k => ?_) ?_
      · refine XS.istoreN X10.here hx rfl (hb hby d6_43) rfl (l' := #[.val (.ref a0), .val (.long q1), .second, .val (.int (1 : Int32)), .unset]) rfl ?_
        refine XS.iloadN X10.here hx rfl (hb hby d6_44) rfl ?_
        refine XS.ifNo X10.here hx rfl (hb hby d6_45) rfl ((if0 _ _).trans (tlt (by decide : (0 : Int32) < (1 : Int32))).2.2.2) ?_
        refine XS.aloadN X10.here hx rfl (hb hby d6_48) rfl rfl ?_
        exact k
      obtain ⟨T80, X80, e80, st80⟩ := getF X10 hx hZ hown (host := "") (Or.inl (wq hw 11 rfl)) Via.refl e10 F1 (g := (mkF m 49 #[.val (.ref a0), .val (.long q1), .second, .val (.int (1 : Int32)), .unset] [(.ref a0)])) rfl rfl (hb hby d6_49)
      refine Goes.by st80 ?_
      clear X10 e10
      refine Goes.by (B := T80.setTop (mkF m 55 #[.val (.ref a0), .val (.long q1), .second, .val (.int (1 : Int32)), .unset] [(.int (0 : Int32)), (.ref ar)])) (fun t k => ?_) ?_
      · refine XS.iloadN X80.here hx rfl (hb hby d6_52) rfl ?_
        refine XS.iconst X80.here hx rfl (hb hby d6_53) ?_
        refine XS.isub X80.here hx rfl (hb hby d6_54) rfl ?_
        exact k
      obtain ⟨cl81, cl81A, cl81q, cl81S, cl81N, cl81H, cl81G⟩ := id F3
      have cl81I : ¬ ((0 : Int32) < 0 ∨ cl81.slots.size ≤ ((0 : Int32)).toNatClampNeg) := inb_of cl81S ⟨by decide, by decide⟩
      have cl81T : cl81.slots[((0 : Int32)).toNatClampNeg]? = some (.ref x1) := cl81H.at cl81I rfl
      refine Goes.by (B := T80.setTop (mkF m 56 #[.val (.ref a0), .val (.long q1), .second, .val (.int (1 : Int32)), .unset] [(.ref x1)])) (fun t k => ?_) ?_
      · refine X80.aaload hx (j := (0 : Int32)) (v := (.ref x1)) (by rw [e80]; exact cl81A.1) (State.isArrayOf_alike hZ.alike cl81A.2.1) rfl cl81A.2.2 cl81I cl81T (g := (mkF m 55 #[.val (.ref a0), .val (.long q1), .second, .val (.int (1 : Int32)), .unset] [(.int (0 : Int32)), (.ref ar)])) rfl rfl (hb hby d6_55) _ ?_
        exact k
      refine Goes.by (B := T80.setTop (mkF m 74 #[.val (.ref a0), .val (.long q1), .second, .val (.int (1 : Int32)), .unset] [(.ref a0)])) (fun t k => ?_) ?_
      · refine getFR X80 hx hZ hown (wq hw 69 rfl) e80 F6 (g := (mkF m 56 #[.val (.ref a0), .val (.long q1), .second, .val (.int (1 : Int32)), .unset] [(.ref x1)])) rfl rfl (hb hby d6_56) ?_
        refine XS.lloadN X80.here hx rfl (hb hby d6_59) rfl ?_
        refine XS.lcmp X80.here hx rfl (hb hby d6_60) rfl ?_
        refine XS.ifYes X80.here hx rfl (pc0 := 61) (pc' := 73) rfl (hb hby d6_61) rfl ((if0 _ _).trans (feq (fun z => hc6 ((lw_eq t1 q1).mp z))).2) (by decide) (by decide) ?_
        refine XS.aloadN X80.here hx rfl (hb hby d6_73) rfl rfl ?_
        exact k
      obtain ⟨T83, X83, e83, st83⟩ := getF X80 hx hZ hown (host := "") (Or.inl (wq hw 34 rfl)) Via.refl e80 F2 (g := (mkF m 74 #[.val (.ref a0), .val (.long q1), .second, .val (.int (1 : Int32)), .unset] [(.ref a0)])) rfl rfl (hb hby d6_74)
      refine Goes.by st83 ?_
      clear X80 e80
      refine Goes.by (B := T83.setTop (mkF m 78 #[.val (.ref a0), .val (.long q1), .second, .val (.int (1 : Int32)), .unset] [(.ref a0), (.int (1 : Int32))])) (fun t k => ?_) ?_
      · refine XS.aloadN X83.here hx rfl (hb hby d6_77) rfl rfl ?_
        exact k
      obtain ⟨T84, X84, e84, st84⟩ := getF X83 hx hZ hown (host := "") (Or.inl (wq hw 11 rfl)) Via.refl e83 F1 (g := (mkF m 78 #[.val (.ref a0), .val (.long q1), .second, .val (.int (1 : Int32)), .unset] [(.ref a0), (.int (1 : Int32))])) rfl rfl (hb hby d6_78)
      refine Goes.by st84 ?_
      clear X83 e83
      obtain ⟨cl85, cl85A, -, cl85S, cl85N, -, -⟩ := id F3
      refine Goes.by (B := T84.setTop (mkF m 105 #[.val (.ref a0), .val (.long q1), .second, .val (.int (1 : Int32)), .unset] [])) (fun t k => ?_) ?_
      · refine X84.arraylength hx (by rw [e84]; exact cl85A.1) (State.isArrayOf_alike hZ.alike cl85A.2.1) (g := (mkF m 81 #[.val (.ref a0), .val (.long q1), .second, .val (.int (1 : Int32)), .unset] [(.ref ar), (.int (1 : Int32))])) rfl rfl (hb hby d6_81) _ ?_
        rw [len_of cl85S cl85N]
        refine XS.icmpYes X84.here hx rfl (pc0 := 82) (pc' := 105) rfl (hb hby d6_82) rfl (feq (by decide : ¬ ((1 : Int32) = (4 : Int32)))).2 (by decide) (by decide) ?_
        exact k
      refine Goes.by (B := T84.setTop (mkF m 106 #[.val (.ref a0), .val (.long q1), .second, .val (.int (1 : Int32)), .unset] [(.ref a0)])) (fun t k => ?_) ?_
      · refine XS.aloadN X84.here hx rfl (hb hby d6_105) rfl rfl ?_
        exact k
      obtain ⟨T86, X86, e86, st86⟩ := getF X84 hx hZ hown (host := "") (Or.inl (wq hw 11 rfl)) Via.refl e84 F1 (g := (mkF m 106 #[.val (.ref a0), .val (.long q1), .second, .val (.int (1 : Int32)), .unset] [(.ref a0)])) rfl rfl (hb hby d6_106)
      refine Goes.by st86 ?_
      clear X84 e84
      refine Goes.by (B := T86.setTop (mkF m 111 #[.val (.ref a0), .val (.long q1), .second, .val (.int (1 : Int32)), .unset] [(.ref a0), (.int (1 : Int32)), (.ref ar)])) (fun t k => ?_) ?_
      · refine XS.iloadN X86.here hx rfl (hb hby d6_109) rfl ?_
        refine XS.aloadN X86.here hx rfl (hb hby d6_110) rfl rfl ?_
        exact k
      obtain ⟨T87, X87, e87, st87⟩ := getF X86 hx hZ hown (host := "") (Or.inl (wq hw 11 rfl)) Via.refl e86 F1 (g := (mkF m 111 #[.val (.ref a0), .val (.long q1), .second, .val (.int (1 : Int32)), .unset] [(.ref a0), (.int (1 : Int32)), (.ref ar)])) rfl rfl (hb hby d6_111)
      refine Goes.by st87 ?_
      clear X86 e86
      refine Goes.by (B := T87.setTop (mkF m 118 #[.val (.ref a0), .val (.long q1), .second, .val (.int (1 : Int32)), .unset] [(.ref a0), (.int (2 : Int32)), (.ref ar), (.int (1 : Int32)), (.ref ar)])) (fun t k => ?_) ?_
      · refine XS.iloadN X87.here hx rfl (hb hby d6_114) rfl ?_
        refine XS.iconst X87.here hx rfl (hb hby d6_115) ?_
        refine XS.iadd X87.here hx rfl (hb hby d6_116) rfl ?_
        refine XS.aloadN X87.here hx rfl (hb hby d6_117) rfl rfl ?_
        exact k
      obtain ⟨T88, X88, e88, st88⟩ := getF X87 hx hZ hown (host := "") (Or.inl (wq hw 34 rfl)) Via.refl e87 F2 (g := (mkF m 118 #[.val (.ref a0), .val (.long q1), .second, .val (.int (1 : Int32)), .unset] [(.ref a0), (.int (2 : Int32)), (.ref ar), (.int (1 : Int32)), (.ref ar)])) rfl rfl (hb hby d6_118)
      refine Goes.by st88 ?_
      clear X87 e87
      refine Goes.by (B := T88.setTop (mkF m 123 #[.val (.ref a0), .val (.long q1), .second, .val (.int (1 : Int32)), .unset] [(.int (0 : Int32)), (.int (2 : Int32)), (.ref ar), (.int (1 : Int32)), (.ref ar)])) (fun t k => ?_) ?_
      · refine XS.iloadN X88.here hx rfl (hb hby d6_121) rfl ?_
        refine XS.isub X88.here hx rfl (hb hby d6_122) rfl ?_
        exact k
      obtain ⟨T89, h89, L89, X89, e89, Nn89, K89, V89, st89⟩ := cpA X88 hx hZ hown (wq hw 40 rfl) (wq hw 43 rfl) (wq hw 41 rfl) (wq hw 42 rfl) e88 (us := []) F3 F3 (Or.inr ⟨rfl, rfl, trivial⟩) (sp := (1 : Int32)) (dp := (2 : Int32)) (nn := (0 : Int32)) (by decide) (by decide) (by decide) (by decide) (by decide) rfl (Nat.le_of_ble_eq_true rfl) N11 Ge1 (g := (mkF m 123 #[.val (.ref a0), .val (.long q1), .second, .val (.int (1 : Int32)), .unset] [(.int (0 : Int32)), (.int (2 : Int32)), (.ref ar), (.int (1 : Int32)), (.ref ar)])) rfl (by rw [hml]; rfl) rfl (hb hby d6_123) (by decide) (W := 0) (by show 2 * 0 + _ ≤ _; exact Nat.le_of_eq rfl) (by decide)
      have f90 : Exa Z h89 a0 cD := F0.keep K89
      have f91 : Fld Z h89 a0 cD "heads" dA (.ref ar) := F1.keep K89 (ninS Ne0 nin0)
      have f92 : Fld Z h89 a0 cD "count" "I" (.int (1 : Int32)) := F2.keep K89 (ninS Ne0 nin0)
      have f93 : Exa Z h89 x1 cH := F5.keep K89
      have f94 : Arv Z h89 ar kA (.object cH) (4 : Int32) [(.ref x1), .null, .null, .null] .null := V89
      have Kp89 : Keep h0 h89 [a0, ar] := Kp0.trans K89 (allS (Or.inl (List.mem_of_getElem? (i := 1) rfl)) all0)
      have Z95 : n0 ≤ h89.size := Nat.le_trans Z0 K89.1
      refine Goes.by st89 ?_
      clear X88 N11 e88
      obtain ⟨T96, h96, X96, e96, E96, A96, D96, -, st96⟩ := newO X89 hx hZ hown (wq hw 9 rfl) (wq hw 44 rfl) (wq hw 45 rfl) e89 (g := (mkF m 126 #[.val (.ref a0), .val (.long q1), .second, .val (.int (1 : Int32)), .unset] [])) rfl (hb hby d6_126) (by decide) (by decide)
      obtain ⟨b97, g96⟩ : ∃ z, z = h89.size := ⟨_, rfl⟩
      rw [← g96] at A96 D96 st96
      have ne98 : a0 ≠ b97 := Nat.ne_of_lt (Nat.lt_of_lt_of_le f90.lt (Nat.le_of_eq g96.symm))
      have ne99 : ar ≠ b97 := Nat.ne_of_lt (Nat.lt_of_lt_of_le f94.lt (Nat.le_of_eq g96.symm))
      have ne100 : x1 ≠ b97 := Nat.ne_of_lt (Nat.lt_of_lt_of_le f93.lt (Nat.le_of_eq g96.symm))
      have ge101 : n0 ≤ b97 := Nat.le_trans Z95 (Nat.le_of_eq g96.symm)
      have sz102 : h0.size ≤ b97 := Nat.le_trans Kp89.1 (Nat.le_of_eq g96.symm)
      have f103 : Exa Z h96 a0 cD := f90.ext E96
      have f104 : Fld Z h96 a0 cD "heads" dA (.ref ar) := f91.ext E96
      have f105 : Fld Z h96 a0 cD "count" "I" (.int (1 : Int32)) := f92.ext E96
      have f106 : Exa Z h96 x1 cH := f93.ext E96
      have f107 : Arv Z h96 ar kA (.object cH) (4 : Int32) [(.ref x1), .null, .null, .null] .null := f94.ext E96
      have f108 : Fld Z h96 b97 cH "tick" "J" (.long (0 : Int64)) := D96 (Or.inr (wq hw 52 rfl)) (ty := .long) (by decide)
      have f109 : Fld Z h96 b97 cL "next" dL .null := D96 (Or.inl (wq hw 54 rfl)) (ty := (.object cL)) (by decide)
      have f110 : Fld Z h96 b97 cL "prev" dL .null := D96 (Or.inl (wq hw 56 rfl)) (ty := (.object cL)) (by decide)
      have Kp96 : Keep h0 h96 [a0, ar] := Kp89.ext E96
      have Z111 : n0 ≤ h96.size := Nat.le_trans Z95 E96.1
      refine Goes.by st96 ?_
      clear f90 f91 f92 f93 f94 X89 Z95 Kp89 e89
      refine Goes.by (B := T96.setTop (mkF m 131 #[.val (.ref a0), .val (.long q1), .second, .val (.int (1 : Int32)), .unset] [(.long q1), (.ref b97), (.ref b97)])) (fun t k => ?_) ?_
      · refine XS.dup X96.here hx rfl (hb hby d6_129) rfl rfl ?_
        refine XS.lloadN X96.here hx rfl (hb hby d6_130) rfl ?_
        exact k
      obtain ⟨_, _, ⟨T112, L112, k112, n112⟩, -, X112, ⟨Lc112, hQ112, l112, y112, z112⟩, st112⟩ := X96.specialBack hx (y := y6) rfl hown (mvT hZ (wq hw 46 rfl)) (mvT hZ (wq hw 47 rfl)) (mvT hZ (wq hw 48 rfl)) (by decide) (backOf (W := 1) (rmHeadI l Z az hw [] b97 q1 h96 n0 Z111 A96 f108 f109 f110 ge101) hZ (wq hw 48 rfl) (wq hw 45 rfl) (by decide) (by decide)) (g := (mkF m 131 #[.val (.ref a0), .val (.long q1), .second, .val (.int (1 : Int32)), .unset] [(.long q1), (.ref b97), (.ref b97)])) rfl (by rw [hml]; rfl) (Steps.refl _) (a := b97) (argsL := [(.long q1)]) (rest := [(.ref b97)]) (lenOf own_pd2 rfl) rfl (by show 2 * 0 + _ ≤ _; exact Nat.le_of_eq rfl) (hb hby d6_131) (fun _ _ => ⟨rfl, e96, (by decide : 1 + 0 ≤ _), (by decide : 3 + 0 ≤ _)⟩)
      dsimp only [Pt.U, Pt.locs, Pt.cells, Pt.slots] at X112 l112 y112 z112 st112 hQ112
      subst l112 y112 z112
      replace X112 : Stand p l e ({ frames := 3, cells := 1, slots := 3, locals := 39 } : Room) s m #[(.ref a0), (.long q1)] below meth c T112 _ 1 3 := X112
      obtain ⟨rfl, N112q, K112, f113, f114, f115, f116⟩ := hQ112
      have f117 : Exa Z T112.heap a0 cD := f103.keep K112
      have f118 : Fld Z T112.heap a0 cD "heads" dA (.ref ar) := f104.keep K112 (ninS ne98 nin0)
      have f119 : Fld Z T112.heap a0 cD "count" "I" (.int (1 : Int32)) := f105.keep K112 (ninS ne98 nin0)
      have f120 : Exa Z T112.heap x1 cH := f106.keep K112
      have f121 : Arv Z T112.heap ar kA (.object cH) (4 : Int32) [(.ref x1), .null, .null, .null] .null := f107.keep K112 (ninS ne99 nin0)
      have f122 : Exa Z T112.heap b97 cH := A96.keep K112
      have Kp112 : Keep h0 T112.heap [a0, ar] := Kp96.trans K112 (allS (Or.inr sz102) all0)
      have Z123 : n0 ≤ T112.heap.size := Nat.le_trans Z111 K112.1
      have N124 := Fr.app Nn89 N112q
      refine Goes.by (fun _ k => st112.trans k) ?_
      clear f103 f104 f105 f106 f107 f108 f109 f110 X96 Nn89 Z111 Kp96 e96
      refine Goes.by (B := T112.setTop (mkF m 137 #[.val (.ref a0), .val (.long q1), .second, .val (.int (1 : Int32)), .val (.ref b97)] [(.ref a0)])) (fun t k => ?_) ?_
      · refine XS.astore X112.here hx rfl (hb hby d6_134) rfl rfl (l' := #[.val (.ref a0), .val (.long q1), .second, .val (.int (1 : Int32)), .val (.ref b97)]) rfl ?_
        refine XS.aloadN X112.here hx rfl (hb hby d6_136) rfl rfl ?_
        exact k
      obtain ⟨T125, X125, e125, st125⟩ := getF X112 hx hZ hown (host := "") (Or.inl (wq hw 11 rfl)) Via.refl rfl f118 (g := (mkF m 137 #[.val (.ref a0), .val (.long q1), .second, .val (.int (1 : Int32)), .val (.ref b97)] [(.ref a0)])) rfl rfl (hb hby d6_137)
      refine Goes.by st125 ?_
      clear X112
      refine Goes.by (B := T125.setTop (mkF m 143 #[.val (.ref a0), .val (.long q1), .second, .val (.int (1 : Int32)), .val (.ref b97)] [(.ref b97), (.int (1 : Int32)), (.ref ar)])) (fun t k => ?_) ?_
      · refine XS.iloadN X125.here hx rfl (hb hby d6_140) rfl ?_
        refine XS.aload X125.here hx rfl (hb hby d6_141) rfl rfl ?_
        exact k
      obtain ⟨cl126, cl126A, cl126q, cl126S, cl126N, cl126H, cl126G⟩ := id f121
      have cl126I : ¬ ((1 : Int32) < 0 ∨ cl126.slots.size ≤ ((1 : Int32)).toNatClampNeg) := inb_of cl126S ⟨by decide, by decide⟩
      obtain ⟨T126, h126, X126, e126, W126, st126⟩ := stR X125 hx hZ e125 cl126A (j := (1 : Int32)) cl126I rfl (Sto.ofV cl126A cl126q F4 (Ins.self f113)) (g := (mkF m 143 #[.val (.ref a0), .val (.long q1), .second, .val (.int (1 : Int32)), .val (.ref b97)] [(.ref b97), (.int (1 : Int32)), (.ref ar)])) rfl rfl (hb hby d6_143)
      have f127 : Exa Z h126 a0 cD := f117.wr W126
      have f128 : Fld Z h126 a0 cD "heads" dA (.ref ar) := f118.other W126 (Or.inl Ne0)
      have f129 : Fld Z h126 a0 cD "count" "I" (.int (1 : Int32)) := f119.other W126 (Or.inl Ne0)
      have f130 : Exa Z h126 x1 cH := f120.wr W126
      have f131 : Exa Z h126 b97 cH := f113.wr W126
      have f132 : Fld Z h126 b97 cH "tick" "J" (.long q1) := f114.other W126 (Or.inl (Ne.symm ne99))
      have f133 : Fld Z h126 b97 cL "next" dL (.ref b97) := f115.other W126 (Or.inl (Ne.symm ne99))
      have f134 : Fld Z h126 b97 cL "prev" dL (.ref b97) := f116.other W126 (Or.inl (Ne.symm ne99))
      have f135 : Arv Z h126 ar kA (.object cH) (4 : Int32) [(.ref x1), (.ref b97), .null, .null] .null := Arv.set cl126A cl126q cl126S cl126N cl126H cl126G rfl W126 1 rfl (Nat.le_of_ble_eq_true rfl)
      have Kp126 : Keep h0 h126 [a0, ar] := Kp112.wr W126 (Or.inl (List.mem_of_getElem? (i := 1) rfl))
      have Z136 : n0 ≤ h126.size := Nat.le_trans Z123 (Nat.le_of_eq W126.size.symm)
      have N137 := Fr.snoc X126 N124 Ge1
      refine Goes.by st126 ?_
      clear f117 f118 f119 f120 f121 f113 f114 f115 f116 X125 N124 Z123 Kp112 e125
      refine Goes.by (B := T126.setTop (mkF m 146 #[.val (.ref a0), .val (.long q1), .second, .val (.int (1 : Int32)), .val (.ref b97)] [(.ref a0), (.ref a0)])) (fun t k => ?_) ?_
      · refine XS.aloadN X126.here hx rfl (hb hby d6_144) rfl rfl ?_
        refine XS.dup X126.here hx rfl (hb hby d6_145) rfl rfl ?_
        exact k
      obtain ⟨T138, X138, e138, st138⟩ := getF X126 hx hZ hown (host := "") (Or.inl (wq hw 34 rfl)) Via.refl e126 f129 (g := (mkF m 146 #[.val (.ref a0), .val (.long q1), .second, .val (.int (1 : Int32)), .val (.ref b97)] [(.ref a0), (.ref a0)])) rfl rfl (hb hby d6_146)
      refine Goes.by st138 ?_
      clear X126 e126
      refine Goes.by (B := T138.setTop (mkF m 151 #[.val (.ref a0), .val (.long q1), .second, .val (.int (1 : Int32)), .val (.ref b97)] [(.int (2 : Int32)), (.ref a0)])) (fun t k => ?_) ?_
      · refine XS.iconst X138.here hx rfl (hb hby d6_149) ?_
        refine XS.iadd X138.here hx rfl (hb hby d6_150) rfl ?_
        exact k
      obtain ⟨T139, h139, X139, e139, W139, st139⟩ := putF X138 hx hZ hown (host := "") (Or.inl (wq hw 34 rfl)) Via.refl e138 f129 f127 (Or.inl (wq hw 35 rfl)) (wq hw 1 rfl) (ty := .int) (by decide) rfl rfl (g := (mkF m 151 #[.val (.ref a0), .val (.long q1), .second, .val (.int (1 : Int32)), .val (.ref b97)] [(.int (2 : Int32)), (.ref a0)])) rfl rfl (hb hby d6_151)
      have f140 : Exa Z h139 a0 cD := f127.wr W139
      have f141 : Fld Z h139 a0 cD "heads" dA (.ref ar) := f128.other W139 (Or.inr (slot_ne (Or.inl (wq hw 12 rfl)) (Or.inl (wq hw 35 rfl)) (by decide) (t := (.array (.object cH))) (t' := .int) (by decide) (by decide)))
      have f142 : Exa Z h139 x1 cH := f130.wr W139
      have f143 : Exa Z h139 b97 cH := f131.wr W139
      have f144 : Fld Z h139 b97 cH "tick" "J" (.long q1) := f132.other W139 (Or.inl (Ne.symm ne98))
      have f145 : Fld Z h139 b97 cL "next" dL (.ref b97) := f133.other W139 (Or.inl (Ne.symm ne98))
      have f146 : Fld Z h139 b97 cL "prev" dL (.ref b97) := f134.other W139 (Or.inl (Ne.symm ne98))
      have f147 : Arv Z h139 ar kA (.object cH) (4 : Int32) [(.ref x1), (.ref b97), .null, .null] .null := f135.other W139 (Ne.symm Ne0)
      have f148 : Fld Z h139 a0 cD "count" "I" (.int (2 : Int32)) := f129.same W139
      have Kp139 : Keep h0 h139 [a0, ar] := Kp126.wr W139 (Or.inl (List.mem_of_getElem? (i := 0) rfl))
      have Z149 : n0 ≤ h139.size := Nat.le_trans Z136 (Nat.le_of_eq W139.size.symm)
      have N150 := Fr.snoc X139 N137 Ge0
      refine Goes.by st139 ?_
      clear f127 f128 f129 f130 f131 f132 f133 f134 f135 X138 N137 Z136 Kp126 e138
      refine Goes.by (B := T139.setTop (mkF m 156 #[.val (.ref a0), .val (.long q1), .second, .val (.int (1 : Int32)), .val (.ref b97)] [(.ref b97)])) (fun t k => ?_) ?_
      · refine XS.aload X139.here hx rfl (hb hby d6_154) rfl rfl ?_
        exact k
      obtain ⟨fs, hr, hrun, hended, hW, hsame⟩ := X139.leave (v := some (.ref b97)) (fun h => by rw [Bd.returns] at h; cases h)
      refine Goes.mk _ _ ?_ ⟨hrun, hended, _, _, rfl, ?_, ⟨_, rfl⟩, hW, hsame.mono (by decide) (by decide)⟩
      · exact retOut X139 hx Bd.returns rfl (Or.inr (Or.inr (Or.inr (Or.inr ⟨rfl, rfl, rfl⟩)))) (hb hby d6_156) hr
      · show QHeadOf1 Z a0 q1 ar kA x1 t1 h0 n0 _ T139.heap _
        rw [e139]
        exact (Or.inr (Or.inr ⟨b97, hc6, he, rfl, N150, Kp139, sz102, f141, f148, f147, f143, f144, f145, f146⟩))
theorem d6_64 : decode prog_4_method_8_code 64 = .ok (.aload_n 0, 1) := by decide +kernel
theorem d6_65 : decode prog_4_method_8_code 65 = .ok (.getfield 11, 3) := by decide +kernel
theorem d6_68 : decode prog_4_method_8_code 68 = .ok (.iload_n 3, 1) := by decide +kernel
theorem d6_69 : decode prog_4_method_8_code 69 = .ok (.iconst 1, 1) := by decide +kernel
theorem d6_70 : decode prog_4_method_8_code 70 = .ok (.isub, 1) := by decide +kernel
theorem d6_71 : decode prog_4_method_8_code 71 = .ok (.aaload, 1) := by decide +kernel
theorem d6_72 : decode prog_4_method_8_code 72 = .ok (.areturn, 1) := by decide +kernel
def QHeadOf2 (Z : State) (a0 : Addr) (q1 : Int64) (ar : Addr) (kA : ClassId) (x1 : Addr) (x2 : Addr) (t1 : Int64) (t2 : Int64) (h0 : Heap) (n0 : Nat) (v : Option Value) (h : Heap) (L : List Loc) : Prop := (t2 = q1 ∧ v = some (.ref x2) ∧ Fr n0 L ∧ h = h0) ∨ (∃ b27 : Addr, ¬ (t2 = q1) ∧ fDue2 q1 t1 t2 = (0 : Int32) ∧ v = some (.ref b27) ∧ Fr n0 L ∧ Keep h0 h [a0, ar] ∧ h0.size ≤ b27 ∧ Fld Z h a0 cD "heads" dA (.ref ar) ∧ Fld Z h a0 cD "count" "I" (.int (3 : Int32)) ∧ Arv Z h ar kA (.object cH) (4 : Int32) [(.ref b27), (.ref x1), (.ref x2), .null] .null ∧ Exa Z h b27 cH ∧ Fld Z h b27 cH "tick" "J" (.long q1) ∧ Fld Z h b27 cL "next" dL (.ref b27) ∧ Fld Z h b27 cL "prev" dL (.ref b27)) ∨ (¬ (t2 = q1) ∧ fDue2 q1 t1 t2 = (1 : Int32) ∧ t1 = q1 ∧ v = some (.ref x1) ∧ Fr n0 L ∧ h = h0) ∨ (∃ b107 : Addr, ¬ (t2 = q1) ∧ fDue2 q1 t1 t2 = (1 : Int32) ∧ ¬ (t1 = q1) ∧ v = some (.ref b107) ∧ Fr n0 L ∧ Keep h0 h [a0, ar] ∧ h0.size ≤ b107 ∧ Fld Z h a0 cD "heads" dA (.ref ar) ∧ Fld Z h a0 cD "count" "I" (.int (3 : Int32)) ∧ Arv Z h ar kA (.object cH) (4 : Int32) [(.ref x1), (.ref b107), (.ref x2), .null] .null ∧ Exa Z h b107 cH ∧ Fld Z h b107 cH "tick" "J" (.long q1) ∧ Fld Z h b107 cL "next" dL (.ref b107) ∧ Fld Z h b107 cL "prev" dL (.ref b107)) ∨ (∃ b184 : Addr, ¬ (t2 = q1) ∧ fDue2 q1 t1 t2 = (2 : Int32) ∧ v = some (.ref b184) ∧ Fr n0 L ∧ Keep h0 h [a0, ar] ∧ h0.size ≤ b184 ∧ Fld Z h a0 cD "heads" dA (.ref ar) ∧ Fld Z h a0 cD "count" "I" (.int (3 : Int32)) ∧ Arv Z h ar kA (.object cH) (4 : Int32) [(.ref x1), (.ref x2), (.ref b184), .null] .null ∧ Exa Z h b184 cH ∧ Fld Z h b184 cH "tick" "J" (.long q1) ∧ Fld Z h b184 cL "next" dL (.ref b184) ∧ Fld Z h b184 cL "prev" dL (.ref b184))
theorem efHeadOf2 (m : MethodId) (x0 : Addr) (x1 : Int64) : entryFrame m #[(.ref x0), (.long x1)] 5 = mkF m 0 #[.val (.ref x0), .val (.long x1), .second, .unset, .unset] [] := by first | (simp [entryFrame, mkF, argsToLocals, Value.category]; done) | rfl
set_option maxRecDepth 65536 in
set_option maxHeartbeats 40000000 in
theorem rmHeadOf2 (l : Launch) (Z : State) (az : Array Value) (hw : ∀ d ∈ tables_1, d.before az Z = true) (ws : List Jvm.Cond) (a0 : Addr) (q1 : Int64) (ar : Addr) (kA : ClassId) (x1 : Addr) (x2 : Addr) (t1 : Int64) (t2 : Int64) (h0 : Heap) (n0 : Nat) (Z0 : n0 ≤ h0.size) (F0 : Exa Z h0 a0 cD) (F1 : Fld Z h0 a0 cD "heads" dA (.ref ar)) (F2 : Fld Z h0 a0 cD "count" "I" (.int (2 : Int32))) (F3 : Arv Z h0 ar kA (.object cH) (4 : Int32) [(.ref x1), (.ref x2), .null, .null] .null) (F4 : Ovr Z kA cH) (F5 : Exa Z h0 x1 cH) (F6 : Fld Z h0 x1 cH "tick" "J" (.long t1)) (F7 : Exa Z h0 x2 cH) (F8 : Fld Z h0 x2 cH "tick" "J" (.long t2)) (Ne0 : a0 ≠ ar) (Ne1 : x1 ≠ a0) (Ne2 : x2 ≠ a0) (Ne3 : x1 ≠ ar) (Ne4 : x2 ≠ ar) (Ge0 : n0 ≤ a0) (Ge1 : n0 ≤ ar) :
    MetFree l y4 (head1 (Jvm.Cond.code y4 prog_4_method_8_code 5 (some (.object cH)) :: ws) ({ frames := 3, cells := 1, slots := 3, locals := 39 } : Room)) (fun a U => a = #[(.ref a0), (.long q1)] ∧ Z.Warmed39 U.vm ∧ U.heap = h0) (fun _ _ _ _ _ => True) (fun _ U o U' => ∃ v L, o = .returned v ∧ QHeadOf2 Z a0 q1 ar kA x1 x2 t1 t2 h0 n0 v U'.heap L ∧ FrameEnd U o U' L ({ frames := 3, cells := 1, slots := 3, locals := 39 } : Room).cells ({ frames := 3, cells := 1, slots := 3, locals := 39 } : Room).slots) := by
  refine MetFree.of_bodySF (plainFor_of_name own_pn_com_example_admit_one_admitone_engine_DueOrder) hisR ?_
  intro p e s m args below meth c s₁ Bd hml0 hP hK
  obtain ⟨rfl, hZ, hh⟩ := hP
  have hx := Bd.exec
  have hby := Bd.bytes
  have hml : c.maxLocals = 5 := hml0
  have hown : s.vm.findClass cD = some m.cls := findClass_of_methodNamed Bd.named
  have hnm := (name_of_methodNamed Bd.named Bd.method).1
  have X0 : Stand p l e ({ frames := 3, cells := 1, slots := 3, locals := 39 } : Room) s m #[(.ref a0), (.long q1)] below meth c s₁ [] 0 0 := Stand.of_body Bd
  have e0 : s₁.heap = h0 := by rw [← hh, Bd.state]; rfl
  have N0 := Fr.nil n0
  have Kp0 : Keep h0 h0 [a0, ar] := Keep.refl _ _
  refine Goes.start ?_
  refine Goes.by (B := s₁.setTop (mkF m 0 #[.val (.ref a0), .val (.long q1), .second, .unset, .unset] [])) (fun t k => castTop (efHeadOf2 m a0 q1) k) ?_
  refine Goes.by (B := s₁.setTop (mkF m 1 #[.val (.ref a0), .val (.long q1), .second, .unset, .unset] [(.ref a0)])) (fun t k => ?_) ?_
  · refine XS.aloadN X0.here hx rfl (hb hby d6_0) rfl rfl ?_
    exact k
  obtain ⟨T1, X1, e1, st1⟩ := getF X0 hx hZ hown (host := "") (Or.inl (wq hw 34 rfl)) Via.refl e0 F2 (g := (mkF m 1 #[.val (.ref a0), .val (.long q1), .second, .unset, .unset] [(.ref a0)])) rfl rfl (hb hby d6_1)
  refine Goes.by st1 ?_
  clear X0
  refine Goes.by (B := T1.setTop (mkF m 8 #[.val (.ref a0), .val (.long q1), .second, .unset, .unset] [(.ref a0)])) (fun t k => ?_) ?_
  · refine XS.ifNo X1.here hx rfl (hb hby d6_4) rfl ((if0 _ _).trans (tlt (by decide : (0 : Int32) < (2 : Int32))).2.2.2) ?_
    refine XS.aloadN X1.here hx rfl (hb hby d6_7) rfl rfl ?_
    exact k
  obtain ⟨T2, X2, e2, st2⟩ := getF X1 hx hZ hown (host := "") (Or.inl (wq hw 11 rfl)) Via.refl e1 F1 (g := (mkF m 8 #[.val (.ref a0), .val (.long q1), .second, .unset, .unset] [(.ref a0)])) rfl rfl (hb hby d6_8)
  refine Goes.by st2 ?_
  clear X1 e1
  refine Goes.by (B := T2.setTop (mkF m 12 #[.val (.ref a0), .val (.long q1), .second, .unset, .unset] [(.ref a0), (.ref ar)])) (fun t k => ?_) ?_
  · refine XS.aloadN X2.here hx rfl (hb hby d6_11) rfl rfl ?_
    exact k
  obtain ⟨T3, X3, e3, st3⟩ := getF X2 hx hZ hown (host := "") (Or.inl (wq hw 34 rfl)) Via.refl e2 F2 (g := (mkF m 12 #[.val (.ref a0), .val (.long q1), .second, .unset, .unset] [(.ref a0), (.ref ar)])) rfl rfl (hb hby d6_12)
  refine Goes.by st3 ?_
  clear X2 e2
  refine Goes.by (B := T3.setTop (mkF m 17 #[.val (.ref a0), .val (.long q1), .second, .unset, .unset] [(.int (1 : Int32)), (.ref ar)])) (fun t k => ?_) ?_
  · refine XS.iconst X3.here hx rfl (hb hby d6_15) ?_
    refine XS.isub X3.here hx rfl (hb hby d6_16) rfl ?_
    exact k
  obtain ⟨cl4, cl4A, cl4q, cl4S, cl4N, cl4H, cl4G⟩ := id F3
  have cl4I : ¬ ((1 : Int32) < 0 ∨ cl4.slots.size ≤ ((1 : Int32)).toNatClampNeg) := inb_of cl4S ⟨by decide, by decide⟩
  have cl4T : cl4.slots[((1 : Int32)).toNatClampNeg]? = some (.ref x2) := cl4H.at cl4I rfl
  refine Goes.by (B := T3.setTop (mkF m 18 #[.val (.ref a0), .val (.long q1), .second, .unset, .unset] [(.ref x2)])) (fun t k => ?_) ?_
  · refine X3.aaload hx (j := (1 : Int32)) (v := (.ref x2)) (by rw [e3]; exact cl4A.1) (State.isArrayOf_alike hZ.alike cl4A.2.1) rfl cl4A.2.2 cl4I cl4T (g := (mkF m 17 #[.val (.ref a0), .val (.long q1), .second, .unset, .unset] [(.int (1 : Int32)), (.ref ar)])) rfl rfl (hb hby d6_17) _ ?_
    exact k
  refine Goes.by (B := T3.setTop (mkF m 23 #[.val (.ref a0), .val (.long q1), .second, .unset, .unset] [(.int (lcmpW t2 q1))])) (fun t k => ?_) ?_
  · refine getFR X3 hx hZ hown (wq hw 69 rfl) e3 F8 (g := (mkF m 18 #[.val (.ref a0), .val (.long q1), .second, .unset, .unset] [(.ref x2)])) rfl rfl (hb hby d6_18) ?_
    refine XS.lloadN X3.here hx rfl (hb hby d6_21) rfl ?_
    refine XS.lcmp X3.here hx rfl (hb hby d6_22) rfl ?_
    exact k
  by_cases hc6 : t2 = q1
  · refine Goes.by (B := T3.setTop (mkF m 27 #[.val (.ref a0), .val (.long q1), .second, .unset, .unset] [(.ref a0)])) (fun t k => ?_) ?_
    · refine XS.ifNo X3.here hx rfl (hb hby d6_23) rfl ((if0 _ _).trans (teq ((lw_eq t2 q1).mpr hc6)).2) ?_
      refine XS.aloadN X3.here hx rfl (hb hby d6_26) rfl rfl ?_
      exact k
    obtain ⟨T7, X7, e7, st7⟩ := getF X3 hx hZ hown (host := "") (Or.inl (wq hw 11 rfl)) Via.refl e3 F1 (g := (mkF m 27 #[.val (.ref a0), .val (.long q1), .second, .unset, .unset] [(.ref a0)])) rfl rfl (hb hby d6_27)
    refine Goes.by st7 ?_
    clear X3 e3
    refine Goes.by (B := T7.setTop (mkF m 31 #[.val (.ref a0), .val (.long q1), .second, .unset, .unset] [(.ref a0), (.ref ar)])) (fun t k => ?_) ?_
    · refine XS.aloadN X7.here hx rfl (hb hby d6_30) rfl rfl ?_
      exact k
    obtain ⟨T8, X8, e8, st8⟩ := getF X7 hx hZ hown (host := "") (Or.inl (wq hw 34 rfl)) Via.refl e7 F2 (g := (mkF m 31 #[.val (.ref a0), .val (.long q1), .second, .unset, .unset] [(.ref a0), (.ref ar)])) rfl rfl (hb hby d6_31)
    refine Goes.by st8 ?_
    clear X7 e7
    refine Goes.by (B := T8.setTop (mkF m 36 #[.val (.ref a0), .val (.long q1), .second, .unset, .unset] [(.int (1 : Int32)), (.ref ar)])) (fun t k => ?_) ?_
    · refine XS.iconst X8.here hx rfl (hb hby d6_34) ?_
      refine XS.isub X8.here hx rfl (hb hby d6_35) rfl ?_
      exact k
    obtain ⟨cl9, cl9A, cl9q, cl9S, cl9N, cl9H, cl9G⟩ := id F3
    have cl9I : ¬ ((1 : Int32) < 0 ∨ cl9.slots.size ≤ ((1 : Int32)).toNatClampNeg) := inb_of cl9S ⟨by decide, by decide⟩
    have cl9T : cl9.slots[((1 : Int32)).toNatClampNeg]? = some (.ref x2) := cl9H.at cl9I rfl
    refine Goes.by (B := T8.setTop (mkF m 37 #[.val (.ref a0), .val (.long q1), .second, .unset, .unset] [(.ref x2)])) (fun t k => ?_) ?_
    · refine X8.aaload hx (j := (1 : Int32)) (v := (.ref x2)) (by rw [e8]; exact cl9A.1) (State.isArrayOf_alike hZ.alike cl9A.2.1) rfl cl9A.2.2 cl9I cl9T (g := (mkF m 36 #[.val (.ref a0), .val (.long q1), .second, .unset, .unset] [(.int (1 : Int32)), (.ref ar)])) rfl rfl (hb hby d6_36) _ ?_
      exact k
    obtain ⟨fs, hr, hrun, hended, hW, hsame⟩ := X8.leave (v := some (.ref x2)) (fun h => by rw [Bd.returns] at h; cases h)
    refine Goes.mk _ _ ?_ ⟨hrun, hended, _, _, rfl, ?_, ⟨_, rfl⟩, hW, hsame.mono (by decide) (by decide)⟩
    · exact retOut X8 hx Bd.returns rfl (Or.inr (Or.inr (Or.inr (Or.inr ⟨rfl, rfl, rfl⟩)))) (hb hby d6_37) hr
    · show QHeadOf2 Z a0 q1 ar kA x1 x2 t1 t2 h0 n0 _ T8.heap _
      rw [e8]
      exact (Or.inl ⟨hc6, rfl, N0, rfl⟩)
  · refine Goes.by (B := T3.setTop (mkF m 40 #[.val (.ref a0), .val (.long q1), .second, .unset, .unset] [(.long q1), (.ref a0)])) (fun t k => ?_) ?_
    · refine XS.ifYes X3.here hx rfl (pc0 := 23) (pc' := 38) rfl (hb hby d6_23) rfl ((if0 _ _).trans (feq (fun z => hc6 ((lw_eq t2 q1).mp z))).2) (by decide) (by decide) ?_
      refine XS.aloadN X3.here hx rfl (hb hby d6_38) rfl rfl ?_
      refine XS.lloadN X3.here hx rfl (hb hby d6_39) rfl ?_
      exact k
    obtain ⟨cq10, q10, q10'⟩ := (F0).cell
    obtain ⟨_, _, ⟨T10, L10, k10, n10⟩, -, X10, ⟨Lc10, hQ10, l10, y10, z10⟩, st10⟩ := X3.privateBack hx (y := y5) hown (mvT hZ (wq hw 36 rfl)) (mvT hZ (wq hw 37 rfl)) (own_sel hZ (wq hw 1 rfl) (wq hw 38 rfl) (wq hw 37 rfl) (by decide)) (Cond.privateMethod_at (mvP hZ (wq hw 38 rfl) (args := #[]))) (mvT hZ (wq hw 39 rfl)) (by decide) (backOf (W := 0) (rmDue2 l Z az hw [] a0 q1 ar kA x1 x2 t1 t2 h0 n0 Z0 F0 F1 F2 F3 F4 F5 F6 F7 F8) hZ (wq hw 39 rfl) (wq hw 2 rfl) (by decide) (by decide)) (g := (mkF m 40 #[.val (.ref a0), .val (.long q1), .second, .unset, .unset] [(.long q1), (.ref a0)])) rfl (by rw [hml]; rfl) (Steps.refl _) (a := a0) (by rw [e3]; exact q10) q10' (argsL := [(.long q1)]) (rest := []) (lenOf own_pd1 rfl) rfl (by show 2 * 0 + _ ≤ _; exact Nat.le_of_eq rfl) (hb hby d6_40) (fun _ _ => ⟨rfl, e3, (by decide : 0 + 0 ≤ _), (by decide : 0 + 0 ≤ _)⟩)
    dsimp only [Pt.U, Pt.locs, Pt.cells, Pt.slots] at X10 l10 y10 z10 st10 hQ10
    subst l10 y10 z10
    replace X10 : Stand p l e ({ frames := 3, cells := 1, slots := 3, locals := 39 } : Room) s m #[(.ref a0), (.long q1)] below meth c T10 _ 0 0 := X10
    obtain ⟨rfl, N10q, e10⟩ := hQ10
    have N11 := Fr.app N0 N10q
    refine Goes.by (fun _ k => st10.trans k) ?_
    clear X3 N0 e3
    rcases own_due2 q1 t1 t2 with he | he | he
    · rw [he]
      show Goes p.tables e below _ (T10.setTop (mkF m 43 #[.val (.ref a0), .val (.long q1), .second, .unset, .unset] [(.int (0 : Int32))]))
      refine Goes.by (B := T10.setTop (mkF m 74 #[.val (.ref a0), .val (.long q1), .second, .val (.int (0 : Int32)), .unset] [(.ref a0)])) (fun t k => ?_) ?_
      · refine XS.istoreN X10.here hx rfl (hb hby d6_43) rfl (l' := #[.val (.ref a0), .val (.long q1), .second, .val (.int (0 : Int32)), .unset]) rfl ?_
        refine XS.iloadN X10.here hx rfl (hb hby d6_44) rfl ?_
        refine XS.ifYes X10.here hx rfl (pc0 := 45) (pc' := 73) rfl (hb hby d6_45) rfl ((if0 _ _).trans (flt (by decide : ¬ ((0 : Int32) < (0 : Int32)))).2.2.2) (by decide) (by decide) ?_
        refine XS.aloadN X10.here hx rfl (hb hby d6_73) rfl rfl ?_
        exact k
      obtain ⟨T12, X12, e12, st12⟩ := getF X10 hx hZ hown (host := "") (Or.inl (wq hw 34 rfl)) Via.refl e10 F2 (g := (mkF m 74 #[.val (.ref a0), .val (.long q1), .second, .val (.int (0 : Int32)), .unset] [(.ref a0)])) rfl rfl (hb hby d6_74)
      refine Goes.by st12 ?_
      clear X10 e10
      refine Goes.by (B := T12.setTop (mkF m 78 #[.val (.ref a0), .val (.long q1), .second, .val (.int (0 : Int32)), .unset] [(.ref a0), (.int (2 : Int32))])) (fun t k => ?_) ?_
      · refine XS.aloadN X12.here hx rfl (hb hby d6_77) rfl rfl ?_
        exact k
      obtain ⟨T13, X13, e13, st13⟩ := getF X12 hx hZ hown (host := "") (Or.inl (wq hw 11 rfl)) Via.refl e12 F1 (g := (mkF m 78 #[.val (.ref a0), .val (.long q1), .second, .val (.int (0 : Int32)), .unset] [(.ref a0), (.int (2 : Int32))])) rfl rfl (hb hby d6_78)
      refine Goes.by st13 ?_
      clear X12 e12
      obtain ⟨cl14, cl14A, -, cl14S, cl14N, -, -⟩ := id F3
      refine Goes.by (B := T13.setTop (mkF m 105 #[.val (.ref a0), .val (.long q1), .second, .val (.int (0 : Int32)), .unset] [])) (fun t k => ?_) ?_
      · refine X13.arraylength hx (by rw [e13]; exact cl14A.1) (State.isArrayOf_alike hZ.alike cl14A.2.1) (g := (mkF m 81 #[.val (.ref a0), .val (.long q1), .second, .val (.int (0 : Int32)), .unset] [(.ref ar), (.int (2 : Int32))])) rfl rfl (hb hby d6_81) _ ?_
        rw [len_of cl14S cl14N]
        refine XS.icmpYes X13.here hx rfl (pc0 := 82) (pc' := 105) rfl (hb hby d6_82) rfl (feq (by decide : ¬ ((2 : Int32) = (4 : Int32)))).2 (by decide) (by decide) ?_
        exact k
      refine Goes.by (B := T13.setTop (mkF m 106 #[.val (.ref a0), .val (.long q1), .second, .val (.int (0 : Int32)), .unset] [(.ref a0)])) (fun t k => ?_) ?_
      · refine XS.aloadN X13.here hx rfl (hb hby d6_105) rfl rfl ?_
        exact k
      obtain ⟨T15, X15, e15, st15⟩ := getF X13 hx hZ hown (host := "") (Or.inl (wq hw 11 rfl)) Via.refl e13 F1 (g := (mkF m 106 #[.val (.ref a0), .val (.long q1), .second, .val (.int (0 : Int32)), .unset] [(.ref a0)])) rfl rfl (hb hby d6_106)
      refine Goes.by st15 ?_
      clear X13 e13
      refine Goes.by (B := T15.setTop (mkF m 111 #[.val (.ref a0), .val (.long q1), .second, .val (.int (0 : Int32)), .unset] [(.ref a0), (.int (0 : Int32)), (.ref ar)])) (fun t k => ?_) ?_
      · refine XS.iloadN X15.here hx rfl (hb hby d6_109) rfl ?_
        refine XS.aloadN X15.here hx rfl (hb hby d6_110) rfl rfl ?_
        exact k
      obtain ⟨T16, X16, e16, st16⟩ := getF X15 hx hZ hown (host := "") (Or.inl (wq hw 11 rfl)) Via.refl e15 F1 (g := (mkF m 111 #[.val (.ref a0), .val (.long q1), .second, .val (.int (0 : Int32)), .unset] [(.ref a0), (.int (0 : Int32)), (.ref ar)])) rfl rfl (hb hby d6_111)
      refine Goes.by st16 ?_
      clear X15 e15
      refine Goes.by (B := T16.setTop (mkF m 118 #[.val (.ref a0), .val (.long q1), .second, .val (.int (0 : Int32)), .unset] [(.ref a0), (.int (1 : Int32)), (.ref ar), (.int (0 : Int32)), (.ref ar)])) (fun t k => ?_) ?_
      · refine XS.iloadN X16.here hx rfl (hb hby d6_114) rfl ?_
        refine XS.iconst X16.here hx rfl (hb hby d6_115) ?_
        refine XS.iadd X16.here hx rfl (hb hby d6_116) rfl ?_
        refine XS.aloadN X16.here hx rfl (hb hby d6_117) rfl rfl ?_
        exact k
      obtain ⟨T17, X17, e17, st17⟩ := getF X16 hx hZ hown (host := "") (Or.inl (wq hw 34 rfl)) Via.refl e16 F2 (g := (mkF m 118 #[.val (.ref a0), .val (.long q1), .second, .val (.int (0 : Int32)), .unset] [(.ref a0), (.int (1 : Int32)), (.ref ar), (.int (0 : Int32)), (.ref ar)])) rfl rfl (hb hby d6_118)
      refine Goes.by st17 ?_
      clear X16 e16
      refine Goes.by (B := T17.setTop (mkF m 123 #[.val (.ref a0), .val (.long q1), .second, .val (.int (0 : Int32)), .unset] [(.int (2 : Int32)), (.int (1 : Int32)), (.ref ar), (.int (0 : Int32)), (.ref ar)])) (fun t k => ?_) ?_
      · refine XS.iloadN X17.here hx rfl (hb hby d6_121) rfl ?_
        refine XS.isub X17.here hx rfl (hb hby d6_122) rfl ?_
        exact k
      obtain ⟨cl18, cl18A, cl18q, -, -, -, -⟩ := id F3
      obtain ⟨T18, h18, L18, X18, e18, Nn18, K18, V18, st18⟩ := cpA X17 hx hZ hown (wq hw 40 rfl) (wq hw 43 rfl) (wq hw 41 rfl) (wq hw 42 rfl) e17 (us := [(.ref x1), (.ref x2)]) F3 F3 (Or.inr ⟨rfl, rfl, ⟨Sto.ofV cl18A cl18q F4 (Ins.self F5), ⟨Sto.ofV cl18A cl18q F4 (Ins.self F7), trivial⟩⟩⟩) (sp := (0 : Int32)) (dp := (1 : Int32)) (nn := (2 : Int32)) (by decide) (by decide) (by decide) (by decide) (by decide) rfl (Nat.le_of_ble_eq_true rfl) N11 Ge1 (g := (mkF m 123 #[.val (.ref a0), .val (.long q1), .second, .val (.int (0 : Int32)), .unset] [(.int (2 : Int32)), (.int (1 : Int32)), (.ref ar), (.int (0 : Int32)), (.ref ar)])) rfl (by rw [hml]; rfl) rfl (hb hby d6_123) (by decide) (W := 0) (by show 2 * 0 + _ ≤ _; exact Nat.le_of_eq rfl) (by decide)
      have f19 : Exa Z h18 a0 cD := F0.keep K18
      have f20 : Fld Z h18 a0 cD "heads" dA (.ref ar) := F1.keep K18 (ninS Ne0 nin0)
      have f21 : Fld Z h18 a0 cD "count" "I" (.int (2 : Int32)) := F2.keep K18 (ninS Ne0 nin0)
      have f22 : Exa Z h18 x1 cH := F5.keep K18
      have f23 : Exa Z h18 x2 cH := F7.keep K18
      have f24 : Arv Z h18 ar kA (.object cH) (4 : Int32) [(.ref x1), (.ref x1), (.ref x2), .null] .null := V18
      have Kp18 : Keep h0 h18 [a0, ar] := Kp0.trans K18 (allS (Or.inl (List.mem_of_getElem? (i := 1) rfl)) all0)
      have Z25 : n0 ≤ h18.size := Nat.le_trans Z0 K18.1
      refine Goes.by st18 ?_
      clear X17 N11 e17
      obtain ⟨T26, h26, X26, e26, E26, A26, D26, -, st26⟩ := newO X18 hx hZ hown (wq hw 9 rfl) (wq hw 44 rfl) (wq hw 45 rfl) e18 (g := (mkF m 126 #[.val (.ref a0), .val (.long q1), .second, .val (.int (0 : Int32)), .unset] [])) rfl (hb hby d6_126) (by decide) (by decide)
      obtain ⟨b27, g26⟩ : ∃ z, z = h18.size := ⟨_, rfl⟩
      rw [← g26] at A26 D26 st26
      have ne28 : a0 ≠ b27 := Nat.ne_of_lt (Nat.lt_of_lt_of_le f19.lt (Nat.le_of_eq g26.symm))
      have ne29 : ar ≠ b27 := Nat.ne_of_lt (Nat.lt_of_lt_of_le f24.lt (Nat.le_of_eq g26.symm))
      have ne30 : x1 ≠ b27 := Nat.ne_of_lt (Nat.lt_of_lt_of_le f22.lt (Nat.le_of_eq g26.symm))
      have ne31 : x2 ≠ b27 := Nat.ne_of_lt (Nat.lt_of_lt_of_le f23.lt (Nat.le_of_eq g26.symm))
      have ge32 : n0 ≤ b27 := Nat.le_trans Z25 (Nat.le_of_eq g26.symm)
      have sz33 : h0.size ≤ b27 := Nat.le_trans Kp18.1 (Nat.le_of_eq g26.symm)
      have f34 : Exa Z h26 a0 cD := f19.ext E26
      have f35 : Fld Z h26 a0 cD "heads" dA (.ref ar) := f20.ext E26
      have f36 : Fld Z h26 a0 cD "count" "I" (.int (2 : Int32)) := f21.ext E26
      have f37 : Exa Z h26 x1 cH := f22.ext E26
      have f38 : Exa Z h26 x2 cH := f23.ext E26
      have f39 : Arv Z h26 ar kA (.object cH) (4 : Int32) [(.ref x1), (.ref x1), (.ref x2), .null] .null := f24.ext E26
      have f40 : Fld Z h26 b27 cH "tick" "J" (.long (0 : Int64)) := D26 (Or.inr (wq hw 52 rfl)) (ty := .long) (by decide)
      have f41 : Fld Z h26 b27 cL "next" dL .null := D26 (Or.inl (wq hw 54 rfl)) (ty := (.object cL)) (by decide)
      have f42 : Fld Z h26 b27 cL "prev" dL .null := D26 (Or.inl (wq hw 56 rfl)) (ty := (.object cL)) (by decide)
      have Kp26 : Keep h0 h26 [a0, ar] := Kp18.ext E26
      have Z43 : n0 ≤ h26.size := Nat.le_trans Z25 E26.1
      refine Goes.by st26 ?_
      clear f19 f20 f21 f22 f23 f24 X18 Z25 Kp18 e18
      refine Goes.by (B := T26.setTop (mkF m 131 #[.val (.ref a0), .val (.long q1), .second, .val (.int (0 : Int32)), .unset] [(.long q1), (.ref b27), (.ref b27)])) (fun t k => ?_) ?_
      · refine XS.dup X26.here hx rfl (hb hby d6_129) rfl rfl ?_
        refine XS.lloadN X26.here hx rfl (hb hby d6_130) rfl ?_
        exact k
      obtain ⟨_, _, ⟨T44, L44, k44, n44⟩, -, X44, ⟨Lc44, hQ44, l44, y44, z44⟩, st44⟩ := X26.specialBack hx (y := y6) rfl hown (mvT hZ (wq hw 46 rfl)) (mvT hZ (wq hw 47 rfl)) (mvT hZ (wq hw 48 rfl)) (by decide) (backOf (W := 1) (rmHeadI l Z az hw [] b27 q1 h26 n0 Z43 A26 f40 f41 f42 ge32) hZ (wq hw 48 rfl) (wq hw 45 rfl) (by decide) (by decide)) (g := (mkF m 131 #[.val (.ref a0), .val (.long q1), .second, .val (.int (0 : Int32)), .unset] [(.long q1), (.ref b27), (.ref b27)])) rfl (by rw [hml]; rfl) (Steps.refl _) (a := b27) (argsL := [(.long q1)]) (rest := [(.ref b27)]) (lenOf own_pd2 rfl) rfl (by show 2 * 0 + _ ≤ _; exact Nat.le_of_eq rfl) (hb hby d6_131) (fun _ _ => ⟨rfl, e26, (by decide : 1 + 0 ≤ _), (by decide : 3 + 0 ≤ _)⟩)
      dsimp only [Pt.U, Pt.locs, Pt.cells, Pt.slots] at X44 l44 y44 z44 st44 hQ44
      subst l44 y44 z44
      replace X44 : Stand p l e ({ frames := 3, cells := 1, slots := 3, locals := 39 } : Room) s m #[(.ref a0), (.long q1)] below meth c T44 _ 1 3 := X44
      obtain ⟨rfl, N44q, K44, f45, f46, f47, f48⟩ := hQ44
      have f49 : Exa Z T44.heap a0 cD := f34.keep K44
      have f50 : Fld Z T44.heap a0 cD "heads" dA (.ref ar) := f35.keep K44 (ninS ne28 nin0)
      have f51 : Fld Z T44.heap a0 cD "count" "I" (.int (2 : Int32)) := f36.keep K44 (ninS ne28 nin0)
      have f52 : Exa Z T44.heap x1 cH := f37.keep K44
      have f53 : Exa Z T44.heap x2 cH := f38.keep K44
      have f54 : Arv Z T44.heap ar kA (.object cH) (4 : Int32) [(.ref x1), (.ref x1), (.ref x2), .null] .null := f39.keep K44 (ninS ne29 nin0)
      have f55 : Exa Z T44.heap b27 cH := A26.keep K44
      have Kp44 : Keep h0 T44.heap [a0, ar] := Kp26.trans K44 (allS (Or.inr sz33) all0)
      have Z56 : n0 ≤ T44.heap.size := Nat.le_trans Z43 K44.1
      have N57 := Fr.app Nn18 N44q
      refine Goes.by (fun _ k => st44.trans k) ?_
      clear f34 f35 f36 f37 f38 f39 f40 f41 f42 X26 Nn18 Z43 Kp26 e26
      refine Goes.by (B := T44.setTop (mkF m 137 #[.val (.ref a0), .val (.long q1), .second, .val (.int (0 : Int32)), .val (.ref b27)] [(.ref a0)])) (fun t k => ?_) ?_
      · refine XS.astore X44.here hx rfl (hb hby d6_134) rfl rfl (l' := #[.val (.ref a0), .val (.long q1), .second, .val (.int (0 : Int32)), .val (.ref b27)]) rfl ?_
        refine XS.aloadN X44.here hx rfl (hb hby d6_136) rfl rfl ?_
        exact k
      obtain ⟨T58, X58, e58, st58⟩ := getF X44 hx hZ hown (host := "") (Or.inl (wq hw 11 rfl)) Via.refl rfl f50 (g := (mkF m 137 #[.val (.ref a0), .val (.long q1), .second, .val (.int (0 : Int32)), .val (.ref b27)] [(.ref a0)])) rfl rfl (hb hby d6_137)
      refine Goes.by st58 ?_
      clear X44
      refine Goes.by (B := T58.setTop (mkF m 143 #[.val (.ref a0), .val (.long q1), .second, .val (.int (0 : Int32)), .val (.ref b27)] [(.ref b27), (.int (0 : Int32)), (.ref ar)])) (fun t k => ?_) ?_
      · refine XS.iloadN X58.here hx rfl (hb hby d6_140) rfl ?_
        refine XS.aload X58.here hx rfl (hb hby d6_141) rfl rfl ?_
        exact k
      obtain ⟨cl59, cl59A, cl59q, cl59S, cl59N, cl59H, cl59G⟩ := id f54
      have cl59I : ¬ ((0 : Int32) < 0 ∨ cl59.slots.size ≤ ((0 : Int32)).toNatClampNeg) := inb_of cl59S ⟨by decide, by decide⟩
      obtain ⟨T59, h59, X59, e59, W59, st59⟩ := stR X58 hx hZ e58 cl59A (j := (0 : Int32)) cl59I rfl (Sto.ofV cl59A cl59q F4 (Ins.self f45)) (g := (mkF m 143 #[.val (.ref a0), .val (.long q1), .second, .val (.int (0 : Int32)), .val (.ref b27)] [(.ref b27), (.int (0 : Int32)), (.ref ar)])) rfl rfl (hb hby d6_143)
      have f60 : Exa Z h59 a0 cD := f49.wr W59
      have f61 : Fld Z h59 a0 cD "heads" dA (.ref ar) := f50.other W59 (Or.inl Ne0)
      have f62 : Fld Z h59 a0 cD "count" "I" (.int (2 : Int32)) := f51.other W59 (Or.inl Ne0)
      have f63 : Exa Z h59 x1 cH := f52.wr W59
      have f64 : Exa Z h59 x2 cH := f53.wr W59
      have f65 : Exa Z h59 b27 cH := f45.wr W59
      have f66 : Fld Z h59 b27 cH "tick" "J" (.long q1) := f46.other W59 (Or.inl (Ne.symm ne29))
      have f67 : Fld Z h59 b27 cL "next" dL (.ref b27) := f47.other W59 (Or.inl (Ne.symm ne29))
      have f68 : Fld Z h59 b27 cL "prev" dL (.ref b27) := f48.other W59 (Or.inl (Ne.symm ne29))
      have f69 : Arv Z h59 ar kA (.object cH) (4 : Int32) [(.ref b27), (.ref x1), (.ref x2), .null] .null := Arv.set cl59A cl59q cl59S cl59N cl59H cl59G rfl W59 0 rfl (Nat.le_of_ble_eq_true rfl)
      have Kp59 : Keep h0 h59 [a0, ar] := Kp44.wr W59 (Or.inl (List.mem_of_getElem? (i := 1) rfl))
      have Z70 : n0 ≤ h59.size := Nat.le_trans Z56 (Nat.le_of_eq W59.size.symm)
      have N71 := Fr.snoc X59 N57 Ge1
      refine Goes.by st59 ?_
      clear f49 f50 f51 f52 f53 f54 f45 f46 f47 f48 X58 N57 Z56 Kp44 e58
      refine Goes.by (B := T59.setTop (mkF m 146 #[.val (.ref a0), .val (.long q1), .second, .val (.int (0 : Int32)), .val (.ref b27)] [(.ref a0), (.ref a0)])) (fun t k => ?_) ?_
      · refine XS.aloadN X59.here hx rfl (hb hby d6_144) rfl rfl ?_
        refine XS.dup X59.here hx rfl (hb hby d6_145) rfl rfl ?_
        exact k
      obtain ⟨T72, X72, e72, st72⟩ := getF X59 hx hZ hown (host := "") (Or.inl (wq hw 34 rfl)) Via.refl e59 f62 (g := (mkF m 146 #[.val (.ref a0), .val (.long q1), .second, .val (.int (0 : Int32)), .val (.ref b27)] [(.ref a0), (.ref a0)])) rfl rfl (hb hby d6_146)
      refine Goes.by st72 ?_
      clear X59 e59
      refine Goes.by (B := T72.setTop (mkF m 151 #[.val (.ref a0), .val (.long q1), .second, .val (.int (0 : Int32)), .val (.ref b27)] [(.int (3 : Int32)), (.ref a0)])) (fun t k => ?_) ?_
      · refine XS.iconst X72.here hx rfl (hb hby d6_149) ?_
        refine XS.iadd X72.here hx rfl (hb hby d6_150) rfl ?_
        exact k
      obtain ⟨T73, h73, X73, e73, W73, st73⟩ := putF X72 hx hZ hown (host := "") (Or.inl (wq hw 34 rfl)) Via.refl e72 f62 f60 (Or.inl (wq hw 35 rfl)) (wq hw 1 rfl) (ty := .int) (by decide) rfl rfl (g := (mkF m 151 #[.val (.ref a0), .val (.long q1), .second, .val (.int (0 : Int32)), .val (.ref b27)] [(.int (3 : Int32)), (.ref a0)])) rfl rfl (hb hby d6_151)
      have f74 : Exa Z h73 a0 cD := f60.wr W73
      have f75 : Fld Z h73 a0 cD "heads" dA (.ref ar) := f61.other W73 (Or.inr (slot_ne (Or.inl (wq hw 12 rfl)) (Or.inl (wq hw 35 rfl)) (by decide) (t := (.array (.object cH))) (t' := .int) (by decide) (by decide)))
      have f76 : Exa Z h73 x1 cH := f63.wr W73
      have f77 : Exa Z h73 x2 cH := f64.wr W73
      have f78 : Exa Z h73 b27 cH := f65.wr W73
      have f79 : Fld Z h73 b27 cH "tick" "J" (.long q1) := f66.other W73 (Or.inl (Ne.symm ne28))
      have f80 : Fld Z h73 b27 cL "next" dL (.ref b27) := f67.other W73 (Or.inl (Ne.symm ne28))
      have f81 : Fld Z h73 b27 cL "prev" dL (.ref b27) := f68.other W73 (Or.inl (Ne.symm ne28))
      have f82 : Arv Z h73 ar kA (.object cH) (4 : Int32) [(.ref b27), (.ref x1), (.ref x2), .null] .null := f69.other W73 (Ne.symm Ne0)
      have f83 : Fld Z h73 a0 cD "count" "I" (.int (3 : Int32)) := f62.same W73
      have Kp73 : Keep h0 h73 [a0, ar] := Kp59.wr W73 (Or.inl (List.mem_of_getElem? (i := 0) rfl))
      have Z84 : n0 ≤ h73.size := Nat.le_trans Z70 (Nat.le_of_eq W73.size.symm)
      have N85 := Fr.snoc X73 N71 Ge0
      refine Goes.by st73 ?_
      clear f60 f61 f62 f63 f64 f65 f66 f67 f68 f69 X72 N71 Z70 Kp59 e72
      refine Goes.by (B := T73.setTop (mkF m 156 #[.val (.ref a0), .val (.long q1), .second, .val (.int (0 : Int32)), .val (.ref b27)] [(.ref b27)])) (fun t k => ?_) ?_
      · refine XS.aload X73.here hx rfl (hb hby d6_154) rfl rfl ?_
        exact k
      obtain ⟨fs, hr, hrun, hended, hW, hsame⟩ := X73.leave (v := some (.ref b27)) (fun h => by rw [Bd.returns] at h; cases h)
      refine Goes.mk _ _ ?_ ⟨hrun, hended, _, _, rfl, ?_, ⟨_, rfl⟩, hW, hsame.mono (by decide) (by decide)⟩
      · exact retOut X73 hx Bd.returns rfl (Or.inr (Or.inr (Or.inr (Or.inr ⟨rfl, rfl, rfl⟩)))) (hb hby d6_156) hr
      · show QHeadOf2 Z a0 q1 ar kA x1 x2 t1 t2 h0 n0 _ T73.heap _
        rw [e73]
        exact (Or.inr (Or.inl ⟨b27, hc6, he, rfl, N85, Kp73, sz33, f75, f83, f82, f78, f79, f80, f81⟩))
    · rw [he]
      show Goes p.tables e below _ (T10.setTop (mkF m 43 #[.val (.ref a0), .val (.long q1), .second, .unset, .unset] [(.int (1 : Int32))]))
      refine Goes.by (B := T10.setTop (mkF m 49 #[.val (.ref a0), .val (.long q1), .second, .val (.int (1 : Int32)), .unset] [(.ref a0)])) (fun t k => ?_) ?_
      · refine XS.istoreN X10.here hx rfl (hb hby d6_43) rfl (l' := #[.val (.ref a0), .val (.long q1), .second, .val (.int (1 : Int32)), .unset]) rfl ?_
        refine XS.iloadN X10.here hx rfl (hb hby d6_44) rfl ?_
        refine XS.ifNo X10.here hx rfl (hb hby d6_45) rfl ((if0 _ _).trans (tlt (by decide : (0 : Int32) < (1 : Int32))).2.2.2) ?_
        refine XS.aloadN X10.here hx rfl (hb hby d6_48) rfl rfl ?_
        exact k
      obtain ⟨T86, X86, e86, st86⟩ := getF X10 hx hZ hown (host := "") (Or.inl (wq hw 11 rfl)) Via.refl e10 F1 (g := (mkF m 49 #[.val (.ref a0), .val (.long q1), .second, .val (.int (1 : Int32)), .unset] [(.ref a0)])) rfl rfl (hb hby d6_49)
      refine Goes.by st86 ?_
      clear X10 e10
      refine Goes.by (B := T86.setTop (mkF m 55 #[.val (.ref a0), .val (.long q1), .second, .val (.int (1 : Int32)), .unset] [(.int (0 : Int32)), (.ref ar)])) (fun t k => ?_) ?_
      · refine XS.iloadN X86.here hx rfl (hb hby d6_52) rfl ?_
        refine XS.iconst X86.here hx rfl (hb hby d6_53) ?_
        refine XS.isub X86.here hx rfl (hb hby d6_54) rfl ?_
        exact k
      obtain ⟨cl87, cl87A, cl87q, cl87S, cl87N, cl87H, cl87G⟩ := id F3
      have cl87I : ¬ ((0 : Int32) < 0 ∨ cl87.slots.size ≤ ((0 : Int32)).toNatClampNeg) := inb_of cl87S ⟨by decide, by decide⟩
      have cl87T : cl87.slots[((0 : Int32)).toNatClampNeg]? = some (.ref x1) := cl87H.at cl87I rfl
      refine Goes.by (B := T86.setTop (mkF m 56 #[.val (.ref a0), .val (.long q1), .second, .val (.int (1 : Int32)), .unset] [(.ref x1)])) (fun t k => ?_) ?_
      · refine X86.aaload hx (j := (0 : Int32)) (v := (.ref x1)) (by rw [e86]; exact cl87A.1) (State.isArrayOf_alike hZ.alike cl87A.2.1) rfl cl87A.2.2 cl87I cl87T (g := (mkF m 55 #[.val (.ref a0), .val (.long q1), .second, .val (.int (1 : Int32)), .unset] [(.int (0 : Int32)), (.ref ar)])) rfl rfl (hb hby d6_55) _ ?_
        exact k
      refine Goes.by (B := T86.setTop (mkF m 61 #[.val (.ref a0), .val (.long q1), .second, .val (.int (1 : Int32)), .unset] [(.int (lcmpW t1 q1))])) (fun t k => ?_) ?_
      · refine getFR X86 hx hZ hown (wq hw 69 rfl) e86 F6 (g := (mkF m 56 #[.val (.ref a0), .val (.long q1), .second, .val (.int (1 : Int32)), .unset] [(.ref x1)])) rfl rfl (hb hby d6_56) ?_
        refine XS.lloadN X86.here hx rfl (hb hby d6_59) rfl ?_
        refine XS.lcmp X86.here hx rfl (hb hby d6_60) rfl ?_
        exact k
      by_cases hc89 : t1 = q1
      · refine Goes.by (B := T86.setTop (mkF m 65 #[.val (.ref a0), .val (.long q1), .second, .val (.int (1 : Int32)), .unset] [(.ref a0)])) (fun t k => ?_) ?_
        · refine XS.ifNo X86.here hx rfl (hb hby d6_61) rfl ((if0 _ _).trans (teq ((lw_eq t1 q1).mpr hc89)).2) ?_
          refine XS.aloadN X86.here hx rfl (hb hby d6_64) rfl rfl ?_
          exact k
        obtain ⟨T90, X90, e90, st90⟩ := getF X86 hx hZ hown (host := "") (Or.inl (wq hw 11 rfl)) Via.refl e86 F1 (g := (mkF m 65 #[.val (.ref a0), .val (.long q1), .second, .val (.int (1 : Int32)), .unset] [(.ref a0)])) rfl rfl (hb hby d6_65)
        refine Goes.by st90 ?_
        clear X86 e86
        refine Goes.by (B := T90.setTop (mkF m 71 #[.val (.ref a0), .val (.long q1), .second, .val (.int (1 : Int32)), .unset] [(.int (0 : Int32)), (.ref ar)])) (fun t k => ?_) ?_
        · refine XS.iloadN X90.here hx rfl (hb hby d6_68) rfl ?_
          refine XS.iconst X90.here hx rfl (hb hby d6_69) ?_
          refine XS.isub X90.here hx rfl (hb hby d6_70) rfl ?_
          exact k
        obtain ⟨cl91, cl91A, cl91q, cl91S, cl91N, cl91H, cl91G⟩ := id F3
        have cl91I : ¬ ((0 : Int32) < 0 ∨ cl91.slots.size ≤ ((0 : Int32)).toNatClampNeg) := inb_of cl91S ⟨by decide, by decide⟩
        have cl91T : cl91.slots[((0 : Int32)).toNatClampNeg]? = some (.ref x1) := cl91H.at cl91I rfl
        refine Goes.by (B := T90.setTop (mkF m 72 #[.val (.ref a0), .val (.long q1), .second, .val (.int (1 : Int32)), .unset] [(.ref x1)])) (fun t k => ?_) ?_
        · refine X90.aaload hx (j := (0 : Int32)) (v := (.ref x1)) (by rw [e90]; exact cl91A.1) (State.isArrayOf_alike hZ.alike cl91A.2.1) rfl cl91A.2.2 cl91I cl91T (g := (mkF m 71 #[.val (.ref a0), .val (.long q1), .second, .val (.int (1 : Int32)), .unset] [(.int (0 : Int32)), (.ref ar)])) rfl rfl (hb hby d6_71) _ ?_
          exact k
        obtain ⟨fs, hr, hrun, hended, hW, hsame⟩ := X90.leave (v := some (.ref x1)) (fun h => by rw [Bd.returns] at h; cases h)
        refine Goes.mk _ _ ?_ ⟨hrun, hended, _, _, rfl, ?_, ⟨_, rfl⟩, hW, hsame.mono (by decide) (by decide)⟩
        · exact retOut X90 hx Bd.returns rfl (Or.inr (Or.inr (Or.inr (Or.inr ⟨rfl, rfl, rfl⟩)))) (hb hby d6_72) hr
        · show QHeadOf2 Z a0 q1 ar kA x1 x2 t1 t2 h0 n0 _ T90.heap _
          rw [e90]
          exact (Or.inr (Or.inr (Or.inl ⟨hc6, he, hc89, rfl, N11, rfl⟩)))
      · refine Goes.by (B := T86.setTop (mkF m 74 #[.val (.ref a0), .val (.long q1), .second, .val (.int (1 : Int32)), .unset] [(.ref a0)])) (fun t k => ?_) ?_
        · refine XS.ifYes X86.here hx rfl (pc0 := 61) (pc' := 73) rfl (hb hby d6_61) rfl ((if0 _ _).trans (feq (fun z => hc89 ((lw_eq t1 q1).mp z))).2) (by decide) (by decide) ?_
          refine XS.aloadN X86.here hx rfl (hb hby d6_73) rfl rfl ?_
          exact k
        obtain ⟨T92, X92, e92, st92⟩ := getF X86 hx hZ hown (host := "") (Or.inl (wq hw 34 rfl)) Via.refl e86 F2 (g := (mkF m 74 #[.val (.ref a0), .val (.long q1), .second, .val (.int (1 : Int32)), .unset] [(.ref a0)])) rfl rfl (hb hby d6_74)
        refine Goes.by st92 ?_
        clear X86 e86
        refine Goes.by (B := T92.setTop (mkF m 78 #[.val (.ref a0), .val (.long q1), .second, .val (.int (1 : Int32)), .unset] [(.ref a0), (.int (2 : Int32))])) (fun t k => ?_) ?_
        · refine XS.aloadN X92.here hx rfl (hb hby d6_77) rfl rfl ?_
          exact k
        obtain ⟨T93, X93, e93, st93⟩ := getF X92 hx hZ hown (host := "") (Or.inl (wq hw 11 rfl)) Via.refl e92 F1 (g := (mkF m 78 #[.val (.ref a0), .val (.long q1), .second, .val (.int (1 : Int32)), .unset] [(.ref a0), (.int (2 : Int32))])) rfl rfl (hb hby d6_78)
        refine Goes.by st93 ?_
        clear X92 e92
        obtain ⟨cl94, cl94A, -, cl94S, cl94N, -, -⟩ := id F3
        refine Goes.by (B := T93.setTop (mkF m 105 #[.val (.ref a0), .val (.long q1), .second, .val (.int (1 : Int32)), .unset] [])) (fun t k => ?_) ?_
        · refine X93.arraylength hx (by rw [e93]; exact cl94A.1) (State.isArrayOf_alike hZ.alike cl94A.2.1) (g := (mkF m 81 #[.val (.ref a0), .val (.long q1), .second, .val (.int (1 : Int32)), .unset] [(.ref ar), (.int (2 : Int32))])) rfl rfl (hb hby d6_81) _ ?_
          rw [len_of cl94S cl94N]
          refine XS.icmpYes X93.here hx rfl (pc0 := 82) (pc' := 105) rfl (hb hby d6_82) rfl (feq (by decide : ¬ ((2 : Int32) = (4 : Int32)))).2 (by decide) (by decide) ?_
          exact k
        refine Goes.by (B := T93.setTop (mkF m 106 #[.val (.ref a0), .val (.long q1), .second, .val (.int (1 : Int32)), .unset] [(.ref a0)])) (fun t k => ?_) ?_
        · refine XS.aloadN X93.here hx rfl (hb hby d6_105) rfl rfl ?_
          exact k
        obtain ⟨T95, X95, e95, st95⟩ := getF X93 hx hZ hown (host := "") (Or.inl (wq hw 11 rfl)) Via.refl e93 F1 (g := (mkF m 106 #[.val (.ref a0), .val (.long q1), .second, .val (.int (1 : Int32)), .unset] [(.ref a0)])) rfl rfl (hb hby d6_106)
        refine Goes.by st95 ?_
        clear X93 e93
        refine Goes.by (B := T95.setTop (mkF m 111 #[.val (.ref a0), .val (.long q1), .second, .val (.int (1 : Int32)), .unset] [(.ref a0), (.int (1 : Int32)), (.ref ar)])) (fun t k => ?_) ?_
        · refine XS.iloadN X95.here hx rfl (hb hby d6_109) rfl ?_
          refine XS.aloadN X95.here hx rfl (hb hby d6_110) rfl rfl ?_
          exact k
        obtain ⟨T96, X96, e96, st96⟩ := getF X95 hx hZ hown (host := "") (Or.inl (wq hw 11 rfl)) Via.refl e95 F1 (g := (mkF m 111 #[.val (.ref a0), .val (.long q1), .second, .val (.int (1 : Int32)), .unset] [(.ref a0), (.int (1 : Int32)), (.ref ar)])) rfl rfl (hb hby d6_111)
        refine Goes.by st96 ?_
        clear X95 e95
        refine Goes.by (B := T96.setTop (mkF m 118 #[.val (.ref a0), .val (.long q1), .second, .val (.int (1 : Int32)), .unset] [(.ref a0), (.int (2 : Int32)), (.ref ar), (.int (1 : Int32)), (.ref ar)])) (fun t k => ?_) ?_
        · refine XS.iloadN X96.here hx rfl (hb hby d6_114) rfl ?_
          refine XS.iconst X96.here hx rfl (hb hby d6_115) ?_
          refine XS.iadd X96.here hx rfl (hb hby d6_116) rfl ?_
          refine XS.aloadN X96.here hx rfl (hb hby d6_117) rfl rfl ?_
          exact k
        obtain ⟨T97, X97, e97, st97⟩ := getF X96 hx hZ hown (host := "") (Or.inl (wq hw 34 rfl)) Via.refl e96 F2 (g := (mkF m 118 #[.val (.ref a0), .val (.long q1), .second, .val (.int (1 : Int32)), .unset] [(.ref a0), (.int (2 : Int32)), (.ref ar), (.int (1 : Int32)), (.ref ar)])) rfl rfl (hb hby d6_118)
        refine Goes.by st97 ?_
        clear X96 e96
        refine Goes.by (B := T97.setTop (mkF m 123 #[.val (.ref a0), .val (.long q1), .second, .val (.int (1 : Int32)), .unset] [(.int (1 : Int32)), (.int (2 : Int32)), (.ref ar), (.int (1 : Int32)), (.ref ar)])) (fun t k => ?_) ?_
        · refine XS.iloadN X97.here hx rfl (hb hby d6_121) rfl ?_
          refine XS.isub X97.here hx rfl (hb hby d6_122) rfl ?_
          exact k
        obtain ⟨cl98, cl98A, cl98q, -, -, -, -⟩ := id F3
        obtain ⟨T98, h98, L98, X98, e98, Nn98, K98, V98, st98⟩ := cpA X97 hx hZ hown (wq hw 40 rfl) (wq hw 43 rfl) (wq hw 41 rfl) (wq hw 42 rfl) e97 (us := [(.ref x2)]) F3 F3 (Or.inr ⟨rfl, rfl, ⟨Sto.ofV cl98A cl98q F4 (Ins.self F7), trivial⟩⟩) (sp := (1 : Int32)) (dp := (2 : Int32)) (nn := (1 : Int32)) (by decide) (by decide) (by decide) (by decide) (by decide) rfl (Nat.le_of_ble_eq_true rfl) N11 Ge1 (g := (mkF m 123 #[.val (.ref a0), .val (.long q1), .second, .val (.int (1 : Int32)), .unset] [(.int (1 : Int32)), (.int (2 : Int32)), (.ref ar), (.int (1 : Int32)), (.ref ar)])) rfl (by rw [hml]; rfl) rfl (hb hby d6_123) (by decide) (W := 0) (by show 2 * 0 + _ ≤ _; exact Nat.le_of_eq rfl) (by decide)
        have f99 : Exa Z h98 a0 cD := F0.keep K98
        have f100 : Fld Z h98 a0 cD "heads" dA (.ref ar) := F1.keep K98 (ninS Ne0 nin0)
        have f101 : Fld Z h98 a0 cD "count" "I" (.int (2 : Int32)) := F2.keep K98 (ninS Ne0 nin0)
        have f102 : Exa Z h98 x1 cH := F5.keep K98
        have f103 : Exa Z h98 x2 cH := F7.keep K98
        have f104 : Arv Z h98 ar kA (.object cH) (4 : Int32) [(.ref x1), (.ref x2), (.ref x2), .null] .null := V98
        have Kp98 : Keep h0 h98 [a0, ar] := Kp0.trans K98 (allS (Or.inl (List.mem_of_getElem? (i := 1) rfl)) all0)
        have Z105 : n0 ≤ h98.size := Nat.le_trans Z0 K98.1
        refine Goes.by st98 ?_
        clear X97 N11 e97
        obtain ⟨T106, h106, X106, e106, E106, A106, D106, -, st106⟩ := newO X98 hx hZ hown (wq hw 9 rfl) (wq hw 44 rfl) (wq hw 45 rfl) e98 (g := (mkF m 126 #[.val (.ref a0), .val (.long q1), .second, .val (.int (1 : Int32)), .unset] [])) rfl (hb hby d6_126) (by decide) (by decide)
        obtain ⟨b107, g106⟩ : ∃ z, z = h98.size := ⟨_, rfl⟩
        rw [← g106] at A106 D106 st106
        have ne108 : a0 ≠ b107 := Nat.ne_of_lt (Nat.lt_of_lt_of_le f99.lt (Nat.le_of_eq g106.symm))
        have ne109 : ar ≠ b107 := Nat.ne_of_lt (Nat.lt_of_lt_of_le f104.lt (Nat.le_of_eq g106.symm))
        have ne110 : x1 ≠ b107 := Nat.ne_of_lt (Nat.lt_of_lt_of_le f102.lt (Nat.le_of_eq g106.symm))
        have ne111 : x2 ≠ b107 := Nat.ne_of_lt (Nat.lt_of_lt_of_le f103.lt (Nat.le_of_eq g106.symm))
        have ge112 : n0 ≤ b107 := Nat.le_trans Z105 (Nat.le_of_eq g106.symm)
        have sz113 : h0.size ≤ b107 := Nat.le_trans Kp98.1 (Nat.le_of_eq g106.symm)
        have f114 : Exa Z h106 a0 cD := f99.ext E106
        have f115 : Fld Z h106 a0 cD "heads" dA (.ref ar) := f100.ext E106
        have f116 : Fld Z h106 a0 cD "count" "I" (.int (2 : Int32)) := f101.ext E106
        have f117 : Exa Z h106 x1 cH := f102.ext E106
        have f118 : Exa Z h106 x2 cH := f103.ext E106
        have f119 : Arv Z h106 ar kA (.object cH) (4 : Int32) [(.ref x1), (.ref x2), (.ref x2), .null] .null := f104.ext E106
        have f120 : Fld Z h106 b107 cH "tick" "J" (.long (0 : Int64)) := D106 (Or.inr (wq hw 52 rfl)) (ty := .long) (by decide)
        have f121 : Fld Z h106 b107 cL "next" dL .null := D106 (Or.inl (wq hw 54 rfl)) (ty := (.object cL)) (by decide)
        have f122 : Fld Z h106 b107 cL "prev" dL .null := D106 (Or.inl (wq hw 56 rfl)) (ty := (.object cL)) (by decide)
        have Kp106 : Keep h0 h106 [a0, ar] := Kp98.ext E106
        have Z123 : n0 ≤ h106.size := Nat.le_trans Z105 E106.1
        refine Goes.by st106 ?_
        clear f99 f100 f101 f102 f103 f104 X98 Z105 Kp98 e98
        refine Goes.by (B := T106.setTop (mkF m 131 #[.val (.ref a0), .val (.long q1), .second, .val (.int (1 : Int32)), .unset] [(.long q1), (.ref b107), (.ref b107)])) (fun t k => ?_) ?_
        · refine XS.dup X106.here hx rfl (hb hby d6_129) rfl rfl ?_
          refine XS.lloadN X106.here hx rfl (hb hby d6_130) rfl ?_
          exact k
        obtain ⟨_, _, ⟨T124, L124, k124, n124⟩, -, X124, ⟨Lc124, hQ124, l124, y124, z124⟩, st124⟩ := X106.specialBack hx (y := y6) rfl hown (mvT hZ (wq hw 46 rfl)) (mvT hZ (wq hw 47 rfl)) (mvT hZ (wq hw 48 rfl)) (by decide) (backOf (W := 1) (rmHeadI l Z az hw [] b107 q1 h106 n0 Z123 A106 f120 f121 f122 ge112) hZ (wq hw 48 rfl) (wq hw 45 rfl) (by decide) (by decide)) (g := (mkF m 131 #[.val (.ref a0), .val (.long q1), .second, .val (.int (1 : Int32)), .unset] [(.long q1), (.ref b107), (.ref b107)])) rfl (by rw [hml]; rfl) (Steps.refl _) (a := b107) (argsL := [(.long q1)]) (rest := [(.ref b107)]) (lenOf own_pd2 rfl) rfl (by show 2 * 0 + _ ≤ _; exact Nat.le_of_eq rfl) (hb hby d6_131) (fun _ _ => ⟨rfl, e106, (by decide : 1 + 0 ≤ _), (by decide : 3 + 0 ≤ _)⟩)
        dsimp only [Pt.U, Pt.locs, Pt.cells, Pt.slots] at X124 l124 y124 z124 st124 hQ124
        subst l124 y124 z124
        replace X124 : Stand p l e ({ frames := 3, cells := 1, slots := 3, locals := 39 } : Room) s m #[(.ref a0), (.long q1)] below meth c T124 _ 1 3 := X124
        obtain ⟨rfl, N124q, K124, f125, f126, f127, f128⟩ := hQ124
        have f129 : Exa Z T124.heap a0 cD := f114.keep K124
        have f130 : Fld Z T124.heap a0 cD "heads" dA (.ref ar) := f115.keep K124 (ninS ne108 nin0)
        have f131 : Fld Z T124.heap a0 cD "count" "I" (.int (2 : Int32)) := f116.keep K124 (ninS ne108 nin0)
        have f132 : Exa Z T124.heap x1 cH := f117.keep K124
        have f133 : Exa Z T124.heap x2 cH := f118.keep K124
        have f134 : Arv Z T124.heap ar kA (.object cH) (4 : Int32) [(.ref x1), (.ref x2), (.ref x2), .null] .null := f119.keep K124 (ninS ne109 nin0)
        have f135 : Exa Z T124.heap b107 cH := A106.keep K124
        have Kp124 : Keep h0 T124.heap [a0, ar] := Kp106.trans K124 (allS (Or.inr sz113) all0)
        have Z136 : n0 ≤ T124.heap.size := Nat.le_trans Z123 K124.1
        have N137 := Fr.app Nn98 N124q
        refine Goes.by (fun _ k => st124.trans k) ?_
        clear f114 f115 f116 f117 f118 f119 f120 f121 f122 X106 Nn98 Z123 Kp106 e106
        refine Goes.by (B := T124.setTop (mkF m 137 #[.val (.ref a0), .val (.long q1), .second, .val (.int (1 : Int32)), .val (.ref b107)] [(.ref a0)])) (fun t k => ?_) ?_
        · refine XS.astore X124.here hx rfl (hb hby d6_134) rfl rfl (l' := #[.val (.ref a0), .val (.long q1), .second, .val (.int (1 : Int32)), .val (.ref b107)]) rfl ?_
          refine XS.aloadN X124.here hx rfl (hb hby d6_136) rfl rfl ?_
          exact k
        obtain ⟨T138, X138, e138, st138⟩ := getF X124 hx hZ hown (host := "") (Or.inl (wq hw 11 rfl)) Via.refl rfl f130 (g := (mkF m 137 #[.val (.ref a0), .val (.long q1), .second, .val (.int (1 : Int32)), .val (.ref b107)] [(.ref a0)])) rfl rfl (hb hby d6_137)
        refine Goes.by st138 ?_
        clear X124
        refine Goes.by (B := T138.setTop (mkF m 143 #[.val (.ref a0), .val (.long q1), .second, .val (.int (1 : Int32)), .val (.ref b107)] [(.ref b107), (.int (1 : Int32)), (.ref ar)])) (fun t k => ?_) ?_
        · refine XS.iloadN X138.here hx rfl (hb hby d6_140) rfl ?_
          refine XS.aload X138.here hx rfl (hb hby d6_141) rfl rfl ?_
          exact k
        obtain ⟨cl139, cl139A, cl139q, cl139S, cl139N, cl139H, cl139G⟩ := id f134
        have cl139I : ¬ ((1 : Int32) < 0 ∨ cl139.slots.size ≤ ((1 : Int32)).toNatClampNeg) := inb_of cl139S ⟨by decide, by decide⟩
        obtain ⟨T139, h139, X139, e139, W139, st139⟩ := stR X138 hx hZ e138 cl139A (j := (1 : Int32)) cl139I rfl (Sto.ofV cl139A cl139q F4 (Ins.self f125)) (g := (mkF m 143 #[.val (.ref a0), .val (.long q1), .second, .val (.int (1 : Int32)), .val (.ref b107)] [(.ref b107), (.int (1 : Int32)), (.ref ar)])) rfl rfl (hb hby d6_143)
        have f140 : Exa Z h139 a0 cD := f129.wr W139
        have f141 : Fld Z h139 a0 cD "heads" dA (.ref ar) := f130.other W139 (Or.inl Ne0)
        have f142 : Fld Z h139 a0 cD "count" "I" (.int (2 : Int32)) := f131.other W139 (Or.inl Ne0)
        have f143 : Exa Z h139 x1 cH := f132.wr W139
        have f144 : Exa Z h139 x2 cH := f133.wr W139
        have f145 : Exa Z h139 b107 cH := f125.wr W139
        have f146 : Fld Z h139 b107 cH "tick" "J" (.long q1) := f126.other W139 (Or.inl (Ne.symm ne109))
        have f147 : Fld Z h139 b107 cL "next" dL (.ref b107) := f127.other W139 (Or.inl (Ne.symm ne109))
        have f148 : Fld Z h139 b107 cL "prev" dL (.ref b107) := f128.other W139 (Or.inl (Ne.symm ne109))
        have f149 : Arv Z h139 ar kA (.object cH) (4 : Int32) [(.ref x1), (.ref b107), (.ref x2), .null] .null := Arv.set cl139A cl139q cl139S cl139N cl139H cl139G rfl W139 1 rfl (Nat.le_of_ble_eq_true rfl)
        have Kp139 : Keep h0 h139 [a0, ar] := Kp124.wr W139 (Or.inl (List.mem_of_getElem? (i := 1) rfl))
        have Z150 : n0 ≤ h139.size := Nat.le_trans Z136 (Nat.le_of_eq W139.size.symm)
        have N151 := Fr.snoc X139 N137 Ge1
        refine Goes.by st139 ?_
        clear f129 f130 f131 f132 f133 f134 f125 f126 f127 f128 X138 N137 Z136 Kp124 e138
        refine Goes.by (B := T139.setTop (mkF m 146 #[.val (.ref a0), .val (.long q1), .second, .val (.int (1 : Int32)), .val (.ref b107)] [(.ref a0), (.ref a0)])) (fun t k => ?_) ?_
        · refine XS.aloadN X139.here hx rfl (hb hby d6_144) rfl rfl ?_
          refine XS.dup X139.here hx rfl (hb hby d6_145) rfl rfl ?_
          exact k
        obtain ⟨T152, X152, e152, st152⟩ := getF X139 hx hZ hown (host := "") (Or.inl (wq hw 34 rfl)) Via.refl e139 f142 (g := (mkF m 146 #[.val (.ref a0), .val (.long q1), .second, .val (.int (1 : Int32)), .val (.ref b107)] [(.ref a0), (.ref a0)])) rfl rfl (hb hby d6_146)
        refine Goes.by st152 ?_
        clear X139 e139
        refine Goes.by (B := T152.setTop (mkF m 151 #[.val (.ref a0), .val (.long q1), .second, .val (.int (1 : Int32)), .val (.ref b107)] [(.int (3 : Int32)), (.ref a0)])) (fun t k => ?_) ?_
        · refine XS.iconst X152.here hx rfl (hb hby d6_149) ?_
          refine XS.iadd X152.here hx rfl (hb hby d6_150) rfl ?_
          exact k
        obtain ⟨T153, h153, X153, e153, W153, st153⟩ := putF X152 hx hZ hown (host := "") (Or.inl (wq hw 34 rfl)) Via.refl e152 f142 f140 (Or.inl (wq hw 35 rfl)) (wq hw 1 rfl) (ty := .int) (by decide) rfl rfl (g := (mkF m 151 #[.val (.ref a0), .val (.long q1), .second, .val (.int (1 : Int32)), .val (.ref b107)] [(.int (3 : Int32)), (.ref a0)])) rfl rfl (hb hby d6_151)
        have f154 : Exa Z h153 a0 cD := f140.wr W153
        have f155 : Fld Z h153 a0 cD "heads" dA (.ref ar) := f141.other W153 (Or.inr (slot_ne (Or.inl (wq hw 12 rfl)) (Or.inl (wq hw 35 rfl)) (by decide) (t := (.array (.object cH))) (t' := .int) (by decide) (by decide)))
        have f156 : Exa Z h153 x1 cH := f143.wr W153
        have f157 : Exa Z h153 x2 cH := f144.wr W153
        have f158 : Exa Z h153 b107 cH := f145.wr W153
        have f159 : Fld Z h153 b107 cH "tick" "J" (.long q1) := f146.other W153 (Or.inl (Ne.symm ne108))
        have f160 : Fld Z h153 b107 cL "next" dL (.ref b107) := f147.other W153 (Or.inl (Ne.symm ne108))
        have f161 : Fld Z h153 b107 cL "prev" dL (.ref b107) := f148.other W153 (Or.inl (Ne.symm ne108))
        have f162 : Arv Z h153 ar kA (.object cH) (4 : Int32) [(.ref x1), (.ref b107), (.ref x2), .null] .null := f149.other W153 (Ne.symm Ne0)
        have f163 : Fld Z h153 a0 cD "count" "I" (.int (3 : Int32)) := f142.same W153
        have Kp153 : Keep h0 h153 [a0, ar] := Kp139.wr W153 (Or.inl (List.mem_of_getElem? (i := 0) rfl))
        have Z164 : n0 ≤ h153.size := Nat.le_trans Z150 (Nat.le_of_eq W153.size.symm)
        have N165 := Fr.snoc X153 N151 Ge0
        refine Goes.by st153 ?_
        clear f140 f141 f142 f143 f144 f145 f146 f147 f148 f149 X152 N151 Z150 Kp139 e152
        refine Goes.by (B := T153.setTop (mkF m 156 #[.val (.ref a0), .val (.long q1), .second, .val (.int (1 : Int32)), .val (.ref b107)] [(.ref b107)])) (fun t k => ?_) ?_
        · refine XS.aload X153.here hx rfl (hb hby d6_154) rfl rfl ?_
          exact k
        obtain ⟨fs, hr, hrun, hended, hW, hsame⟩ := X153.leave (v := some (.ref b107)) (fun h => by rw [Bd.returns] at h; cases h)
        refine Goes.mk _ _ ?_ ⟨hrun, hended, _, _, rfl, ?_, ⟨_, rfl⟩, hW, hsame.mono (by decide) (by decide)⟩
        · exact retOut X153 hx Bd.returns rfl (Or.inr (Or.inr (Or.inr (Or.inr ⟨rfl, rfl, rfl⟩)))) (hb hby d6_156) hr
        · show QHeadOf2 Z a0 q1 ar kA x1 x2 t1 t2 h0 n0 _ T153.heap _
          rw [e153]
          exact (Or.inr (Or.inr (Or.inr (Or.inl ⟨b107, hc6, he, hc89, rfl, N165, Kp153, sz113, f155, f163, f162, f158, f159, f160, f161⟩))))
    · rw [he]
      show Goes p.tables e below _ (T10.setTop (mkF m 43 #[.val (.ref a0), .val (.long q1), .second, .unset, .unset] [(.int (2 : Int32))]))
      refine Goes.by (B := T10.setTop (mkF m 49 #[.val (.ref a0), .val (.long q1), .second, .val (.int (2 : Int32)), .unset] [(.ref a0)])) (fun t k => ?_) ?_
      · refine XS.istoreN X10.here hx rfl (hb hby d6_43) rfl (l' := #[.val (.ref a0), .val (.long q1), .second, .val (.int (2 : Int32)), .unset]) rfl ?_
        refine XS.iloadN X10.here hx rfl (hb hby d6_44) rfl ?_
        refine XS.ifNo X10.here hx rfl (hb hby d6_45) rfl ((if0 _ _).trans (tlt (by decide : (0 : Int32) < (2 : Int32))).2.2.2) ?_
        refine XS.aloadN X10.here hx rfl (hb hby d6_48) rfl rfl ?_
        exact k
      obtain ⟨T166, X166, e166, st166⟩ := getF X10 hx hZ hown (host := "") (Or.inl (wq hw 11 rfl)) Via.refl e10 F1 (g := (mkF m 49 #[.val (.ref a0), .val (.long q1), .second, .val (.int (2 : Int32)), .unset] [(.ref a0)])) rfl rfl (hb hby d6_49)
      refine Goes.by st166 ?_
      clear X10 e10
      refine Goes.by (B := T166.setTop (mkF m 55 #[.val (.ref a0), .val (.long q1), .second, .val (.int (2 : Int32)), .unset] [(.int (1 : Int32)), (.ref ar)])) (fun t k => ?_) ?_
      · refine XS.iloadN X166.here hx rfl (hb hby d6_52) rfl ?_
        refine XS.iconst X166.here hx rfl (hb hby d6_53) ?_
        refine XS.isub X166.here hx rfl (hb hby d6_54) rfl ?_
        exact k
      obtain ⟨cl167, cl167A, cl167q, cl167S, cl167N, cl167H, cl167G⟩ := id F3
      have cl167I : ¬ ((1 : Int32) < 0 ∨ cl167.slots.size ≤ ((1 : Int32)).toNatClampNeg) := inb_of cl167S ⟨by decide, by decide⟩
      have cl167T : cl167.slots[((1 : Int32)).toNatClampNeg]? = some (.ref x2) := cl167H.at cl167I rfl
      refine Goes.by (B := T166.setTop (mkF m 56 #[.val (.ref a0), .val (.long q1), .second, .val (.int (2 : Int32)), .unset] [(.ref x2)])) (fun t k => ?_) ?_
      · refine X166.aaload hx (j := (1 : Int32)) (v := (.ref x2)) (by rw [e166]; exact cl167A.1) (State.isArrayOf_alike hZ.alike cl167A.2.1) rfl cl167A.2.2 cl167I cl167T (g := (mkF m 55 #[.val (.ref a0), .val (.long q1), .second, .val (.int (2 : Int32)), .unset] [(.int (1 : Int32)), (.ref ar)])) rfl rfl (hb hby d6_55) _ ?_
        exact k
      refine Goes.by (B := T166.setTop (mkF m 74 #[.val (.ref a0), .val (.long q1), .second, .val (.int (2 : Int32)), .unset] [(.ref a0)])) (fun t k => ?_) ?_
      · refine getFR X166 hx hZ hown (wq hw 69 rfl) e166 F8 (g := (mkF m 56 #[.val (.ref a0), .val (.long q1), .second, .val (.int (2 : Int32)), .unset] [(.ref x2)])) rfl rfl (hb hby d6_56) ?_
        refine XS.lloadN X166.here hx rfl (hb hby d6_59) rfl ?_
        refine XS.lcmp X166.here hx rfl (hb hby d6_60) rfl ?_
        refine XS.ifYes X166.here hx rfl (pc0 := 61) (pc' := 73) rfl (hb hby d6_61) rfl ((if0 _ _).trans (feq (fun z => hc6 ((lw_eq t2 q1).mp z))).2) (by decide) (by decide) ?_
        refine XS.aloadN X166.here hx rfl (hb hby d6_73) rfl rfl ?_
        exact k
      obtain ⟨T169, X169, e169, st169⟩ := getF X166 hx hZ hown (host := "") (Or.inl (wq hw 34 rfl)) Via.refl e166 F2 (g := (mkF m 74 #[.val (.ref a0), .val (.long q1), .second, .val (.int (2 : Int32)), .unset] [(.ref a0)])) rfl rfl (hb hby d6_74)
      refine Goes.by st169 ?_
      clear X166 e166
      refine Goes.by (B := T169.setTop (mkF m 78 #[.val (.ref a0), .val (.long q1), .second, .val (.int (2 : Int32)), .unset] [(.ref a0), (.int (2 : Int32))])) (fun t k => ?_) ?_
      · refine XS.aloadN X169.here hx rfl (hb hby d6_77) rfl rfl ?_
        exact k
      obtain ⟨T170, X170, e170, st170⟩ := getF X169 hx hZ hown (host := "") (Or.inl (wq hw 11 rfl)) Via.refl e169 F1 (g := (mkF m 78 #[.val (.ref a0), .val (.long q1), .second, .val (.int (2 : Int32)), .unset] [(.ref a0), (.int (2 : Int32))])) rfl rfl (hb hby d6_78)
      refine Goes.by st170 ?_
      clear X169 e169
      obtain ⟨cl171, cl171A, -, cl171S, cl171N, -, -⟩ := id F3
      refine Goes.by (B := T170.setTop (mkF m 105 #[.val (.ref a0), .val (.long q1), .second, .val (.int (2 : Int32)), .unset] [])) (fun t k => ?_) ?_
      · refine X170.arraylength hx (by rw [e170]; exact cl171A.1) (State.isArrayOf_alike hZ.alike cl171A.2.1) (g := (mkF m 81 #[.val (.ref a0), .val (.long q1), .second, .val (.int (2 : Int32)), .unset] [(.ref ar), (.int (2 : Int32))])) rfl rfl (hb hby d6_81) _ ?_
        rw [len_of cl171S cl171N]
        refine XS.icmpYes X170.here hx rfl (pc0 := 82) (pc' := 105) rfl (hb hby d6_82) rfl (feq (by decide : ¬ ((2 : Int32) = (4 : Int32)))).2 (by decide) (by decide) ?_
        exact k
      refine Goes.by (B := T170.setTop (mkF m 106 #[.val (.ref a0), .val (.long q1), .second, .val (.int (2 : Int32)), .unset] [(.ref a0)])) (fun t k => ?_) ?_
      · refine XS.aloadN X170.here hx rfl (hb hby d6_105) rfl rfl ?_
        exact k
      obtain ⟨T172, X172, e172, st172⟩ := getF X170 hx hZ hown (host := "") (Or.inl (wq hw 11 rfl)) Via.refl e170 F1 (g := (mkF m 106 #[.val (.ref a0), .val (.long q1), .second, .val (.int (2 : Int32)), .unset] [(.ref a0)])) rfl rfl (hb hby d6_106)
      refine Goes.by st172 ?_
      clear X170 e170
      refine Goes.by (B := T172.setTop (mkF m 111 #[.val (.ref a0), .val (.long q1), .second, .val (.int (2 : Int32)), .unset] [(.ref a0), (.int (2 : Int32)), (.ref ar)])) (fun t k => ?_) ?_
      · refine XS.iloadN X172.here hx rfl (hb hby d6_109) rfl ?_
        refine XS.aloadN X172.here hx rfl (hb hby d6_110) rfl rfl ?_
        exact k
      obtain ⟨T173, X173, e173, st173⟩ := getF X172 hx hZ hown (host := "") (Or.inl (wq hw 11 rfl)) Via.refl e172 F1 (g := (mkF m 111 #[.val (.ref a0), .val (.long q1), .second, .val (.int (2 : Int32)), .unset] [(.ref a0), (.int (2 : Int32)), (.ref ar)])) rfl rfl (hb hby d6_111)
      refine Goes.by st173 ?_
      clear X172 e172
      refine Goes.by (B := T173.setTop (mkF m 118 #[.val (.ref a0), .val (.long q1), .second, .val (.int (2 : Int32)), .unset] [(.ref a0), (.int (3 : Int32)), (.ref ar), (.int (2 : Int32)), (.ref ar)])) (fun t k => ?_) ?_
      · refine XS.iloadN X173.here hx rfl (hb hby d6_114) rfl ?_
        refine XS.iconst X173.here hx rfl (hb hby d6_115) ?_
        refine XS.iadd X173.here hx rfl (hb hby d6_116) rfl ?_
        refine XS.aloadN X173.here hx rfl (hb hby d6_117) rfl rfl ?_
        exact k
      obtain ⟨T174, X174, e174, st174⟩ := getF X173 hx hZ hown (host := "") (Or.inl (wq hw 34 rfl)) Via.refl e173 F2 (g := (mkF m 118 #[.val (.ref a0), .val (.long q1), .second, .val (.int (2 : Int32)), .unset] [(.ref a0), (.int (3 : Int32)), (.ref ar), (.int (2 : Int32)), (.ref ar)])) rfl rfl (hb hby d6_118)
      refine Goes.by st174 ?_
      clear X173 e173
      refine Goes.by (B := T174.setTop (mkF m 123 #[.val (.ref a0), .val (.long q1), .second, .val (.int (2 : Int32)), .unset] [(.int (0 : Int32)), (.int (3 : Int32)), (.ref ar), (.int (2 : Int32)), (.ref ar)])) (fun t k => ?_) ?_
      · refine XS.iloadN X174.here hx rfl (hb hby d6_121) rfl ?_
        refine XS.isub X174.here hx rfl (hb hby d6_122) rfl ?_
        exact k
      obtain ⟨T175, h175, L175, X175, e175, Nn175, K175, V175, st175⟩ := cpA X174 hx hZ hown (wq hw 40 rfl) (wq hw 43 rfl) (wq hw 41 rfl) (wq hw 42 rfl) e174 (us := []) F3 F3 (Or.inr ⟨rfl, rfl, trivial⟩) (sp := (2 : Int32)) (dp := (3 : Int32)) (nn := (0 : Int32)) (by decide) (by decide) (by decide) (by decide) (by decide) rfl (Nat.le_of_ble_eq_true rfl) N11 Ge1 (g := (mkF m 123 #[.val (.ref a0), .val (.long q1), .second, .val (.int (2 : Int32)), .unset] [(.int (0 : Int32)), (.int (3 : Int32)), (.ref ar), (.int (2 : Int32)), (.ref ar)])) rfl (by rw [hml]; rfl) rfl (hb hby d6_123) (by decide) (W := 0) (by show 2 * 0 + _ ≤ _; exact Nat.le_of_eq rfl) (by decide)
      have f176 : Exa Z h175 a0 cD := F0.keep K175
      have f177 : Fld Z h175 a0 cD "heads" dA (.ref ar) := F1.keep K175 (ninS Ne0 nin0)
      have f178 : Fld Z h175 a0 cD "count" "I" (.int (2 : Int32)) := F2.keep K175 (ninS Ne0 nin0)
      have f179 : Exa Z h175 x1 cH := F5.keep K175
      have f180 : Exa Z h175 x2 cH := F7.keep K175
      have f181 : Arv Z h175 ar kA (.object cH) (4 : Int32) [(.ref x1), (.ref x2), .null, .null] .null := V175
      have Kp175 : Keep h0 h175 [a0, ar] := Kp0.trans K175 (allS (Or.inl (List.mem_of_getElem? (i := 1) rfl)) all0)
      have Z182 : n0 ≤ h175.size := Nat.le_trans Z0 K175.1
      refine Goes.by st175 ?_
      clear X174 N11 e174
      obtain ⟨T183, h183, X183, e183, E183, A183, D183, -, st183⟩ := newO X175 hx hZ hown (wq hw 9 rfl) (wq hw 44 rfl) (wq hw 45 rfl) e175 (g := (mkF m 126 #[.val (.ref a0), .val (.long q1), .second, .val (.int (2 : Int32)), .unset] [])) rfl (hb hby d6_126) (by decide) (by decide)
      obtain ⟨b184, g183⟩ : ∃ z, z = h175.size := ⟨_, rfl⟩
      rw [← g183] at A183 D183 st183
      have ne185 : a0 ≠ b184 := Nat.ne_of_lt (Nat.lt_of_lt_of_le f176.lt (Nat.le_of_eq g183.symm))
      have ne186 : ar ≠ b184 := Nat.ne_of_lt (Nat.lt_of_lt_of_le f181.lt (Nat.le_of_eq g183.symm))
      have ne187 : x1 ≠ b184 := Nat.ne_of_lt (Nat.lt_of_lt_of_le f179.lt (Nat.le_of_eq g183.symm))
      have ne188 : x2 ≠ b184 := Nat.ne_of_lt (Nat.lt_of_lt_of_le f180.lt (Nat.le_of_eq g183.symm))
      have ge189 : n0 ≤ b184 := Nat.le_trans Z182 (Nat.le_of_eq g183.symm)
      have sz190 : h0.size ≤ b184 := Nat.le_trans Kp175.1 (Nat.le_of_eq g183.symm)
      have f191 : Exa Z h183 a0 cD := f176.ext E183
      have f192 : Fld Z h183 a0 cD "heads" dA (.ref ar) := f177.ext E183
      have f193 : Fld Z h183 a0 cD "count" "I" (.int (2 : Int32)) := f178.ext E183
      have f194 : Exa Z h183 x1 cH := f179.ext E183
      have f195 : Exa Z h183 x2 cH := f180.ext E183
      have f196 : Arv Z h183 ar kA (.object cH) (4 : Int32) [(.ref x1), (.ref x2), .null, .null] .null := f181.ext E183
      have f197 : Fld Z h183 b184 cH "tick" "J" (.long (0 : Int64)) := D183 (Or.inr (wq hw 52 rfl)) (ty := .long) (by decide)
      have f198 : Fld Z h183 b184 cL "next" dL .null := D183 (Or.inl (wq hw 54 rfl)) (ty := (.object cL)) (by decide)
      have f199 : Fld Z h183 b184 cL "prev" dL .null := D183 (Or.inl (wq hw 56 rfl)) (ty := (.object cL)) (by decide)
      have Kp183 : Keep h0 h183 [a0, ar] := Kp175.ext E183
      have Z200 : n0 ≤ h183.size := Nat.le_trans Z182 E183.1
      refine Goes.by st183 ?_
      clear f176 f177 f178 f179 f180 f181 X175 Z182 Kp175 e175
      refine Goes.by (B := T183.setTop (mkF m 131 #[.val (.ref a0), .val (.long q1), .second, .val (.int (2 : Int32)), .unset] [(.long q1), (.ref b184), (.ref b184)])) (fun t k => ?_) ?_
      · refine XS.dup X183.here hx rfl (hb hby d6_129) rfl rfl ?_
        refine XS.lloadN X183.here hx rfl (hb hby d6_130) rfl ?_
        exact k
      obtain ⟨_, _, ⟨T201, L201, k201, n201⟩, -, X201, ⟨Lc201, hQ201, l201, y201, z201⟩, st201⟩ := X183.specialBack hx (y := y6) rfl hown (mvT hZ (wq hw 46 rfl)) (mvT hZ (wq hw 47 rfl)) (mvT hZ (wq hw 48 rfl)) (by decide) (backOf (W := 1) (rmHeadI l Z az hw [] b184 q1 h183 n0 Z200 A183 f197 f198 f199 ge189) hZ (wq hw 48 rfl) (wq hw 45 rfl) (by decide) (by decide)) (g := (mkF m 131 #[.val (.ref a0), .val (.long q1), .second, .val (.int (2 : Int32)), .unset] [(.long q1), (.ref b184), (.ref b184)])) rfl (by rw [hml]; rfl) (Steps.refl _) (a := b184) (argsL := [(.long q1)]) (rest := [(.ref b184)]) (lenOf own_pd2 rfl) rfl (by show 2 * 0 + _ ≤ _; exact Nat.le_of_eq rfl) (hb hby d6_131) (fun _ _ => ⟨rfl, e183, (by decide : 1 + 0 ≤ _), (by decide : 3 + 0 ≤ _)⟩)
      dsimp only [Pt.U, Pt.locs, Pt.cells, Pt.slots] at X201 l201 y201 z201 st201 hQ201
      subst l201 y201 z201
      replace X201 : Stand p l e ({ frames := 3, cells := 1, slots := 3, locals := 39 } : Room) s m #[(.ref a0), (.long q1)] below meth c T201 _ 1 3 := X201
      obtain ⟨rfl, N201q, K201, f202, f203, f204, f205⟩ := hQ201
      have f206 : Exa Z T201.heap a0 cD := f191.keep K201
      have f207 : Fld Z T201.heap a0 cD "heads" dA (.ref ar) := f192.keep K201 (ninS ne185 nin0)
      have f208 : Fld Z T201.heap a0 cD "count" "I" (.int (2 : Int32)) := f193.keep K201 (ninS ne185 nin0)
      have f209 : Exa Z T201.heap x1 cH := f194.keep K201
      have f210 : Exa Z T201.heap x2 cH := f195.keep K201
      have f211 : Arv Z T201.heap ar kA (.object cH) (4 : Int32) [(.ref x1), (.ref x2), .null, .null] .null := f196.keep K201 (ninS ne186 nin0)
      have f212 : Exa Z T201.heap b184 cH := A183.keep K201
      have Kp201 : Keep h0 T201.heap [a0, ar] := Kp183.trans K201 (allS (Or.inr sz190) all0)
      have Z213 : n0 ≤ T201.heap.size := Nat.le_trans Z200 K201.1
      have N214 := Fr.app Nn175 N201q
      refine Goes.by (fun _ k => st201.trans k) ?_
      clear f191 f192 f193 f194 f195 f196 f197 f198 f199 X183 Nn175 Z200 Kp183 e183
      refine Goes.by (B := T201.setTop (mkF m 137 #[.val (.ref a0), .val (.long q1), .second, .val (.int (2 : Int32)), .val (.ref b184)] [(.ref a0)])) (fun t k => ?_) ?_
      · refine XS.astore X201.here hx rfl (hb hby d6_134) rfl rfl (l' := #[.val (.ref a0), .val (.long q1), .second, .val (.int (2 : Int32)), .val (.ref b184)]) rfl ?_
        refine XS.aloadN X201.here hx rfl (hb hby d6_136) rfl rfl ?_
        exact k
      obtain ⟨T215, X215, e215, st215⟩ := getF X201 hx hZ hown (host := "") (Or.inl (wq hw 11 rfl)) Via.refl rfl f207 (g := (mkF m 137 #[.val (.ref a0), .val (.long q1), .second, .val (.int (2 : Int32)), .val (.ref b184)] [(.ref a0)])) rfl rfl (hb hby d6_137)
      refine Goes.by st215 ?_
      clear X201
      refine Goes.by (B := T215.setTop (mkF m 143 #[.val (.ref a0), .val (.long q1), .second, .val (.int (2 : Int32)), .val (.ref b184)] [(.ref b184), (.int (2 : Int32)), (.ref ar)])) (fun t k => ?_) ?_
      · refine XS.iloadN X215.here hx rfl (hb hby d6_140) rfl ?_
        refine XS.aload X215.here hx rfl (hb hby d6_141) rfl rfl ?_
        exact k
      obtain ⟨cl216, cl216A, cl216q, cl216S, cl216N, cl216H, cl216G⟩ := id f211
      have cl216I : ¬ ((2 : Int32) < 0 ∨ cl216.slots.size ≤ ((2 : Int32)).toNatClampNeg) := inb_of cl216S ⟨by decide, by decide⟩
      obtain ⟨T216, h216, X216, e216, W216, st216⟩ := stR X215 hx hZ e215 cl216A (j := (2 : Int32)) cl216I rfl (Sto.ofV cl216A cl216q F4 (Ins.self f202)) (g := (mkF m 143 #[.val (.ref a0), .val (.long q1), .second, .val (.int (2 : Int32)), .val (.ref b184)] [(.ref b184), (.int (2 : Int32)), (.ref ar)])) rfl rfl (hb hby d6_143)
      have f217 : Exa Z h216 a0 cD := f206.wr W216
      have f218 : Fld Z h216 a0 cD "heads" dA (.ref ar) := f207.other W216 (Or.inl Ne0)
      have f219 : Fld Z h216 a0 cD "count" "I" (.int (2 : Int32)) := f208.other W216 (Or.inl Ne0)
      have f220 : Exa Z h216 x1 cH := f209.wr W216
      have f221 : Exa Z h216 x2 cH := f210.wr W216
      have f222 : Exa Z h216 b184 cH := f202.wr W216
      have f223 : Fld Z h216 b184 cH "tick" "J" (.long q1) := f203.other W216 (Or.inl (Ne.symm ne186))
      have f224 : Fld Z h216 b184 cL "next" dL (.ref b184) := f204.other W216 (Or.inl (Ne.symm ne186))
      have f225 : Fld Z h216 b184 cL "prev" dL (.ref b184) := f205.other W216 (Or.inl (Ne.symm ne186))
      have f226 : Arv Z h216 ar kA (.object cH) (4 : Int32) [(.ref x1), (.ref x2), (.ref b184), .null] .null := Arv.set cl216A cl216q cl216S cl216N cl216H cl216G rfl W216 2 rfl (Nat.le_of_ble_eq_true rfl)
      have Kp216 : Keep h0 h216 [a0, ar] := Kp201.wr W216 (Or.inl (List.mem_of_getElem? (i := 1) rfl))
      have Z227 : n0 ≤ h216.size := Nat.le_trans Z213 (Nat.le_of_eq W216.size.symm)
      have N228 := Fr.snoc X216 N214 Ge1
      refine Goes.by st216 ?_
      clear f206 f207 f208 f209 f210 f211 f202 f203 f204 f205 X215 N214 Z213 Kp201 e215
      refine Goes.by (B := T216.setTop (mkF m 146 #[.val (.ref a0), .val (.long q1), .second, .val (.int (2 : Int32)), .val (.ref b184)] [(.ref a0), (.ref a0)])) (fun t k => ?_) ?_
      · refine XS.aloadN X216.here hx rfl (hb hby d6_144) rfl rfl ?_
        refine XS.dup X216.here hx rfl (hb hby d6_145) rfl rfl ?_
        exact k
      obtain ⟨T229, X229, e229, st229⟩ := getF X216 hx hZ hown (host := "") (Or.inl (wq hw 34 rfl)) Via.refl e216 f219 (g := (mkF m 146 #[.val (.ref a0), .val (.long q1), .second, .val (.int (2 : Int32)), .val (.ref b184)] [(.ref a0), (.ref a0)])) rfl rfl (hb hby d6_146)
      refine Goes.by st229 ?_
      clear X216 e216
      refine Goes.by (B := T229.setTop (mkF m 151 #[.val (.ref a0), .val (.long q1), .second, .val (.int (2 : Int32)), .val (.ref b184)] [(.int (3 : Int32)), (.ref a0)])) (fun t k => ?_) ?_
      · refine XS.iconst X229.here hx rfl (hb hby d6_149) ?_
        refine XS.iadd X229.here hx rfl (hb hby d6_150) rfl ?_
        exact k
      obtain ⟨T230, h230, X230, e230, W230, st230⟩ := putF X229 hx hZ hown (host := "") (Or.inl (wq hw 34 rfl)) Via.refl e229 f219 f217 (Or.inl (wq hw 35 rfl)) (wq hw 1 rfl) (ty := .int) (by decide) rfl rfl (g := (mkF m 151 #[.val (.ref a0), .val (.long q1), .second, .val (.int (2 : Int32)), .val (.ref b184)] [(.int (3 : Int32)), (.ref a0)])) rfl rfl (hb hby d6_151)
      have f231 : Exa Z h230 a0 cD := f217.wr W230
      have f232 : Fld Z h230 a0 cD "heads" dA (.ref ar) := f218.other W230 (Or.inr (slot_ne (Or.inl (wq hw 12 rfl)) (Or.inl (wq hw 35 rfl)) (by decide) (t := (.array (.object cH))) (t' := .int) (by decide) (by decide)))
      have f233 : Exa Z h230 x1 cH := f220.wr W230
      have f234 : Exa Z h230 x2 cH := f221.wr W230
      have f235 : Exa Z h230 b184 cH := f222.wr W230
      have f236 : Fld Z h230 b184 cH "tick" "J" (.long q1) := f223.other W230 (Or.inl (Ne.symm ne185))
      have f237 : Fld Z h230 b184 cL "next" dL (.ref b184) := f224.other W230 (Or.inl (Ne.symm ne185))
      have f238 : Fld Z h230 b184 cL "prev" dL (.ref b184) := f225.other W230 (Or.inl (Ne.symm ne185))
      have f239 : Arv Z h230 ar kA (.object cH) (4 : Int32) [(.ref x1), (.ref x2), (.ref b184), .null] .null := f226.other W230 (Ne.symm Ne0)
      have f240 : Fld Z h230 a0 cD "count" "I" (.int (3 : Int32)) := f219.same W230
      have Kp230 : Keep h0 h230 [a0, ar] := Kp216.wr W230 (Or.inl (List.mem_of_getElem? (i := 0) rfl))
      have Z241 : n0 ≤ h230.size := Nat.le_trans Z227 (Nat.le_of_eq W230.size.symm)
      have N242 := Fr.snoc X230 N228 Ge0
      refine Goes.by st230 ?_
      clear f217 f218 f219 f220 f221 f222 f223 f224 f225 f226 X229 N228 Z227 Kp216 e229
      refine Goes.by (B := T230.setTop (mkF m 156 #[.val (.ref a0), .val (.long q1), .second, .val (.int (2 : Int32)), .val (.ref b184)] [(.ref b184)])) (fun t k => ?_) ?_
      · refine XS.aload X230.here hx rfl (hb hby d6_154) rfl rfl ?_
        exact k
      obtain ⟨fs, hr, hrun, hended, hW, hsame⟩ := X230.leave (v := some (.ref b184)) (fun h => by rw [Bd.returns] at h; cases h)
      refine Goes.mk _ _ ?_ ⟨hrun, hended, _, _, rfl, ?_, ⟨_, rfl⟩, hW, hsame.mono (by decide) (by decide)⟩
      · exact retOut X230 hx Bd.returns rfl (Or.inr (Or.inr (Or.inr (Or.inr ⟨rfl, rfl, rfl⟩)))) (hb hby d6_156) hr
      · show QHeadOf2 Z a0 q1 ar kA x1 x2 t1 t2 h0 n0 _ T230.heap _
        rw [e230]
        exact (Or.inr (Or.inr (Or.inr (Or.inr ⟨b184, hc6, he, rfl, N242, Kp230, sz190, f232, f240, f239, f235, f236, f237, f238⟩))))
theorem d11_0 : decode prog_4_method_11_code 0 = .ok (.aload_n 0, 1) := by decide +kernel
theorem d11_1 : decode prog_4_method_11_code 1 = .ok (.getfield 11, 3) := by decide +kernel
theorem d11_4 : decode prog_4_method_11_code 4 = .ok (.arraylength, 1) := by decide +kernel
theorem d11_5 : decode prog_4_method_11_code 5 = .ok (.istore_n 1, 1) := by decide +kernel
theorem d11_6 : decode prog_4_method_11_code 6 = .ok (.iload_n 1, 1) := by decide +kernel
theorem d11_7 : decode prog_4_method_11_code 7 = .ok (.iconst 4, 1) := by decide +kernel
theorem d11_8 : decode prog_4_method_11_code 8 = .ok (.if_icmp .le 20, 3) := by decide +kernel
theorem d11_28 : decode prog_4_method_11_code 28 = .ok (.iload_n 1, 1) := by decide +kernel
theorem d11_29 : decode prog_4_method_11_code 29 = .ok (.aload_n 0, 1) := by decide +kernel
theorem d11_30 : decode prog_4_method_11_code 30 = .ok (.getfield 11, 3) := by decide +kernel
theorem d11_33 : decode prog_4_method_11_code 33 = .ok (.arraylength, 1) := by decide +kernel
theorem d11_34 : decode prog_4_method_11_code 34 = .ok (.if_icmp .eq 18, 3) := by decide +kernel
theorem d11_52 : decode prog_4_method_11_code 52 = .ok (.return_, 1) := by decide +kernel
def QShrink (Z : State) (a0 : Addr) (ar : Addr) (kA : ClassId) (vs : (List Value)) (h0 : Heap) (n0 : Nat) (v : Option Value) (h : Heap) (L : List Loc) : Prop := v = none ∧ Fr n0 L ∧ h = h0
theorem efShrink (m : MethodId) (x0 : Addr) : entryFrame m #[(.ref x0)] 2 = mkF m 0 #[.val (.ref x0), .unset] [] := by first | (simp [entryFrame, mkF, argsToLocals, Value.category]; done) | rfl
set_option maxRecDepth 65536 in
set_option maxHeartbeats 40000000 in
theorem rmShrink (l : Launch) (Z : State) (az : Array Value) (hw : ∀ d ∈ tables_1, d.before az Z = true) (ws : List Jvm.Cond) (a0 : Addr) (ar : Addr) (kA : ClassId) (vs : (List Value)) (h0 : Heap) (n0 : Nat) (Z0 : n0 ≤ h0.size) (F0 : Fld Z h0 a0 cD "heads" dA (.ref ar)) (F1 : Arv Z h0 ar kA (.object cH) (4 : Int32) vs .null) :
    MetFree l y9 (head1 (Jvm.Cond.code y9 prog_4_method_11_code 2 none :: ws) ({ frames := 0, cells := 0, slots := 0, locals := 0 } : Room)) (fun a U => a = #[(.ref a0)] ∧ Z.Warmed39 U.vm ∧ U.heap = h0) (fun _ _ _ _ _ => True) (fun _ U o U' => ∃ v L, o = .returned v ∧ QShrink Z a0 ar kA vs h0 n0 v U'.heap L ∧ FrameEnd U o U' L ({ frames := 0, cells := 0, slots := 0, locals := 0 } : Room).cells ({ frames := 0, cells := 0, slots := 0, locals := 0 } : Room).slots) := by
  refine MetFree.of_bodySF (plainFor_of_name own_pn_com_example_admit_one_admitone_engine_DueOrder) hisR ?_
  intro p e s m args below meth c s₁ Bd hml0 hP hK
  obtain ⟨rfl, hZ, hh⟩ := hP
  have hx := Bd.exec
  have hby := Bd.bytes
  have hml : c.maxLocals = 2 := hml0
  have hown : s.vm.findClass cD = some m.cls := findClass_of_methodNamed Bd.named
  have hnm := (name_of_methodNamed Bd.named Bd.method).1
  have X0 : Stand p l e ({ frames := 0, cells := 0, slots := 0, locals := 0 } : Room) s m #[(.ref a0)] below meth c s₁ [] 0 0 := Stand.of_body Bd
  have e0 : s₁.heap = h0 := by rw [← hh, Bd.state]; rfl
  have N0 := Fr.nil n0
  have Kp0 : Keep h0 h0 [] := Keep.refl _ _
  refine Goes.start ?_
  refine Goes.by (B := s₁.setTop (mkF m 0 #[.val (.ref a0), .unset] [])) (fun t k => castTop (efShrink m a0) k) ?_
  refine Goes.by (B := s₁.setTop (mkF m 1 #[.val (.ref a0), .unset] [(.ref a0)])) (fun t k => ?_) ?_
  · refine XS.aloadN X0.here hx rfl (hb hby d11_0) rfl rfl ?_
    exact k
  obtain ⟨T1, X1, e1, st1⟩ := getF X0 hx hZ hown (host := "") (Or.inl (wq hw 11 rfl)) Via.refl e0 F0 (g := (mkF m 1 #[.val (.ref a0), .unset] [(.ref a0)])) rfl rfl (hb hby d11_1)
  refine Goes.by st1 ?_
  clear X0
  obtain ⟨cl2, cl2A, -, cl2S, cl2N, -, -⟩ := id F1
  refine Goes.by (B := T1.setTop (mkF m 30 #[.val (.ref a0), .val (.int (4 : Int32))] [(.ref a0), (.int (4 : Int32))])) (fun t k => ?_) ?_
  · refine X1.arraylength hx (by rw [e1]; exact cl2A.1) (State.isArrayOf_alike hZ.alike cl2A.2.1) (g := (mkF m 4 #[.val (.ref a0), .unset] [(.ref ar)])) rfl rfl (hb hby d11_4) _ ?_
    rw [len_of cl2S cl2N]
    refine XS.istoreN X1.here hx rfl (hb hby d11_5) rfl (l' := #[.val (.ref a0), .val (.int (4 : Int32))]) rfl ?_
    refine XS.iloadN X1.here hx rfl (hb hby d11_6) rfl ?_
    refine XS.iconst X1.here hx rfl (hb hby d11_7) ?_
    refine XS.icmpYes X1.here hx rfl (pc0 := 8) (pc' := 28) rfl (hb hby d11_8) rfl (flt (by decide : ¬ ((4 : Int32) < (4 : Int32)))).2.2.2 (by decide) (by decide) ?_
    refine XS.iloadN X1.here hx rfl (hb hby d11_28) rfl ?_
    refine XS.aloadN X1.here hx rfl (hb hby d11_29) rfl rfl ?_
    exact k
  obtain ⟨T3, X3, e3, st3⟩ := getF X1 hx hZ hown (host := "") (Or.inl (wq hw 11 rfl)) Via.refl e1 F0 (g := (mkF m 30 #[.val (.ref a0), .val (.int (4 : Int32))] [(.ref a0), (.int (4 : Int32))])) rfl rfl (hb hby d11_30)
  refine Goes.by st3 ?_
  clear X1 e1
  obtain ⟨cl4, cl4A, -, cl4S, cl4N, -, -⟩ := id F1
  refine Goes.by (B := T3.setTop (mkF m 52 #[.val (.ref a0), .val (.int (4 : Int32))] [])) (fun t k => ?_) ?_
  · refine X3.arraylength hx (by rw [e3]; exact cl4A.1) (State.isArrayOf_alike hZ.alike cl4A.2.1) (g := (mkF m 33 #[.val (.ref a0), .val (.int (4 : Int32))] [(.ref ar), (.int (4 : Int32))])) rfl rfl (hb hby d11_33) _ ?_
    rw [len_of cl4S cl4N]
    refine XS.icmpYes X3.here hx rfl (pc0 := 34) (pc' := 52) rfl (hb hby d11_34) rfl (teq (by decide : (4 : Int32) = (4 : Int32))).1 (by decide) (by decide) ?_
    exact k
  obtain ⟨fs, hr, hrun, hended, hW, hsame⟩ := X3.leave (v := none) (fun _ => rfl)
  refine Goes.mk _ _ ?_ ⟨hrun, hended, _, _, rfl, ?_, ⟨_, rfl⟩, hW, hsame.mono (by decide) (by decide)⟩
  · exact X3.returnOut hx Bd.returns (hb hby d11_52) hr
  · show QShrink Z a0 ar kA vs h0 n0 _ T3.heap _
    rw [e3]
    exact ⟨rfl, N0, rfl⟩
theorem d10_0 : decode prog_4_method_9_code 0 = .ok (.aload_n 0, 1) := by decide +kernel
theorem d10_1 : decode prog_4_method_9_code 1 = .ok (.aload_n 1, 1) := by decide +kernel
theorem d10_2 : decode prog_4_method_9_code 2 = .ok (.getfield 23, 3) := by decide +kernel
theorem d10_5 : decode prog_4_method_9_code 5 = .ok (.invokevirtual 44, 3) := by decide +kernel
theorem d10_8 : decode prog_4_method_9_code 8 = .ok (.iconst 1, 1) := by decide +kernel
theorem d10_9 : decode prog_4_method_9_code 9 = .ok (.isub, 1) := by decide +kernel
theorem d10_10 : decode prog_4_method_9_code 10 = .ok (.istore_n 2, 1) := by decide +kernel
theorem d10_11 : decode prog_4_method_9_code 11 = .ok (.aload_n 0, 1) := by decide +kernel
theorem d10_12 : decode prog_4_method_9_code 12 = .ok (.getfield 11, 3) := by decide +kernel
theorem d10_15 : decode prog_4_method_9_code 15 = .ok (.iload_n 2, 1) := by decide +kernel
theorem d10_16 : decode prog_4_method_9_code 16 = .ok (.iconst 1, 1) := by decide +kernel
theorem d10_17 : decode prog_4_method_9_code 17 = .ok (.iadd, 1) := by decide +kernel
theorem d10_18 : decode prog_4_method_9_code 18 = .ok (.aload_n 0, 1) := by decide +kernel
theorem d10_19 : decode prog_4_method_9_code 19 = .ok (.getfield 11, 3) := by decide +kernel
theorem d10_22 : decode prog_4_method_9_code 22 = .ok (.iload_n 2, 1) := by decide +kernel
theorem d10_23 : decode prog_4_method_9_code 23 = .ok (.aload_n 0, 1) := by decide +kernel
theorem d10_24 : decode prog_4_method_9_code 24 = .ok (.getfield 15, 3) := by decide +kernel
theorem d10_27 : decode prog_4_method_9_code 27 = .ok (.iload_n 2, 1) := by decide +kernel
theorem d10_28 : decode prog_4_method_9_code 28 = .ok (.isub, 1) := by decide +kernel
theorem d10_29 : decode prog_4_method_9_code 29 = .ok (.iconst 1, 1) := by decide +kernel
theorem d10_30 : decode prog_4_method_9_code 30 = .ok (.isub, 1) := by decide +kernel
theorem d10_31 : decode prog_4_method_9_code 31 = .ok (.invokestatic 55, 3) := by decide +kernel
theorem d10_34 : decode prog_4_method_9_code 34 = .ok (.aload_n 0, 1) := by decide +kernel
theorem d10_35 : decode prog_4_method_9_code 35 = .ok (.dup, 1) := by decide +kernel
theorem d10_36 : decode prog_4_method_9_code 36 = .ok (.getfield 15, 3) := by decide +kernel
theorem d10_39 : decode prog_4_method_9_code 39 = .ok (.iconst 1, 1) := by decide +kernel
theorem d10_40 : decode prog_4_method_9_code 40 = .ok (.isub, 1) := by decide +kernel
theorem d10_41 : decode prog_4_method_9_code 41 = .ok (.putfield 15, 3) := by decide +kernel
theorem d10_44 : decode prog_4_method_9_code 44 = .ok (.aload_n 0, 1) := by decide +kernel
theorem d10_45 : decode prog_4_method_9_code 45 = .ok (.getfield 11, 3) := by decide +kernel
theorem d10_48 : decode prog_4_method_9_code 48 = .ok (.aload_n 0, 1) := by decide +kernel
theorem d10_49 : decode prog_4_method_9_code 49 = .ok (.getfield 15, 3) := by decide +kernel
theorem d10_52 : decode prog_4_method_9_code 52 = .ok (.aconst_null, 1) := by decide +kernel
theorem d10_53 : decode prog_4_method_9_code 53 = .ok (.aastore, 1) := by decide +kernel
theorem d10_54 : decode prog_4_method_9_code 54 = .ok (.aload_n 0, 1) := by decide +kernel
theorem d10_55 : decode prog_4_method_9_code 55 = .ok (.invokevirtual 65, 3) := by decide +kernel
theorem d10_58 : decode prog_4_method_9_code 58 = .ok (.return_, 1) := by decide +kernel
def QDrop1_1 (Z : State) (a0 : Addr) (x1 : Addr) (ar : Addr) (kA : ClassId) (t1 : Int64) (h0 : Heap) (n0 : Nat) (v : Option Value) (h : Heap) (L : List Loc) : Prop := v = none ∧ Fr n0 L ∧ Keep h0 h [ar, a0] ∧ Fld Z h a0 cD "heads" dA (.ref ar) ∧ Fld Z h a0 cD "count" "I" (.int (0 : Int32)) ∧ Arv Z h ar kA (.object cH) (4 : Int32) [.null, .null, .null, .null] .null
theorem efDrop1_1 (m : MethodId) (x0 : Addr) (x1 : Addr) : entryFrame m #[(.ref x0), (.ref x1)] 3 = mkF m 0 #[.val (.ref x0), .val (.ref x1), .unset] [] := by first | (simp [entryFrame, mkF, argsToLocals, Value.category]; done) | rfl
set_option maxRecDepth 65536 in
set_option maxHeartbeats 40000000 in
theorem rmDrop1_1 (l : Launch) (Z : State) (az : Array Value) (hw : ∀ d ∈ tables_1, d.before az Z = true) (ws : List Jvm.Cond) (a0 : Addr) (x1 : Addr) (ar : Addr) (kA : ClassId) (t1 : Int64) (h0 : Heap) (n0 : Nat) (Z0 : n0 ≤ h0.size) (F0 : Exa Z h0 a0 cD) (F1 : Fld Z h0 a0 cD "heads" dA (.ref ar)) (F2 : Fld Z h0 a0 cD "count" "I" (.int (1 : Int32))) (F3 : Arv Z h0 ar kA (.object cH) (4 : Int32) [(.ref x1), .null, .null, .null] .null) (F4 : Ovr Z kA cH) (F5 : Exa Z h0 x1 cH) (F6 : Fld Z h0 x1 cH "tick" "J" (.long t1)) (Ne0 : a0 ≠ ar) (Ne1 : x1 ≠ a0) (Ne2 : x1 ≠ ar) (Ge0 : n0 ≤ a0) (Ge1 : n0 ≤ ar) (HD : fDue1 t1 t1 = (1 : Int32)) :
    MetFree l y8 (head1 (Jvm.Cond.code y8 prog_4_method_9_code 3 none :: ws) ({ frames := 1, cells := 0, slots := 0, locals := 18 } : Room)) (fun a U => a = #[(.ref a0), (.ref x1)] ∧ Z.Warmed39 U.vm ∧ U.heap = h0) (fun _ _ _ _ _ => True) (fun _ U o U' => ∃ v L, o = .returned v ∧ QDrop1_1 Z a0 x1 ar kA t1 h0 n0 v U'.heap L ∧ FrameEnd U o U' L ({ frames := 1, cells := 0, slots := 0, locals := 18 } : Room).cells ({ frames := 1, cells := 0, slots := 0, locals := 18 } : Room).slots) := by
  refine MetFree.of_bodySF (plainFor_of_name own_pn_com_example_admit_one_admitone_engine_DueOrder) hisR ?_
  intro p e s m args below meth c s₁ Bd hml0 hP hK
  obtain ⟨rfl, hZ, hh⟩ := hP
  have hx := Bd.exec
  have hby := Bd.bytes
  have hml : c.maxLocals = 3 := hml0
  have hown : s.vm.findClass cD = some m.cls := findClass_of_methodNamed Bd.named
  have hnm := (name_of_methodNamed Bd.named Bd.method).1
  have X0 : Stand p l e ({ frames := 1, cells := 0, slots := 0, locals := 18 } : Room) s m #[(.ref a0), (.ref x1)] below meth c s₁ [] 0 0 := Stand.of_body Bd
  have e0 : s₁.heap = h0 := by rw [← hh, Bd.state]; rfl
  have N0 := Fr.nil n0
  have Kp0 : Keep h0 h0 [ar, a0] := Keep.refl _ _
  refine Goes.start ?_
  refine Goes.by (B := s₁.setTop (mkF m 0 #[.val (.ref a0), .val (.ref x1), .unset] [])) (fun t k => castTop (efDrop1_1 m a0 x1) k) ?_
  refine Goes.by (B := s₁.setTop (mkF m 2 #[.val (.ref a0), .val (.ref x1), .unset] [(.ref x1), (.ref a0)])) (fun t k => ?_) ?_
  · refine XS.aloadN X0.here hx rfl (hb hby d10_0) rfl rfl ?_
    refine XS.aloadN X0.here hx rfl (hb hby d10_1) rfl rfl ?_
    exact k
  refine Goes.by (B := s₁.setTop (mkF m 5 #[.val (.ref a0), .val (.ref x1), .unset] [(.long t1), (.ref a0)])) (fun t k => ?_) ?_
  · refine getFR X0 hx hZ hown (wq hw 69 rfl) e0 F6 (g := (mkF m 2 #[.val (.ref a0), .val (.ref x1), .unset] [(.ref x1), (.ref a0)])) rfl rfl (hb hby d10_2) ?_
    exact k
  obtain ⟨cq2, q2, q2'⟩ := (F0).cell
  obtain ⟨_, _, ⟨T2, L2, k2, n2⟩, -, X2, ⟨Lc2, hQ2, l2, y2, z2⟩, st2⟩ := X0.privateBack hx (y := y5) hown (mvT hZ (wq hw 36 rfl)) (mvT hZ (wq hw 37 rfl)) (own_sel hZ (wq hw 1 rfl) (wq hw 38 rfl) (wq hw 37 rfl) (by decide)) (Cond.privateMethod_at (mvP hZ (wq hw 38 rfl) (args := #[]))) (mvT hZ (wq hw 39 rfl)) (by decide) (backOf (W := 0) (rmDue1 l Z az hw [] a0 t1 ar kA x1 t1 h0 n0 Z0 F0 F1 F2 F3 F4 F5 F6) hZ (wq hw 39 rfl) (wq hw 2 rfl) (by decide) (by decide)) (g := (mkF m 5 #[.val (.ref a0), .val (.ref x1), .unset] [(.long t1), (.ref a0)])) rfl (by rw [hml]; rfl) (Steps.refl _) (a := a0) (by rw [e0]; exact q2) q2' (argsL := [(.long t1)]) (rest := []) (lenOf own_pd1 rfl) rfl (by show 2 * 0 + _ ≤ _; exact Nat.le_of_eq rfl) (hb hby d10_5) (fun _ _ => ⟨rfl, e0, (by decide : 0 + 0 ≤ _), (by decide : 0 + 0 ≤ _)⟩)
  dsimp only [Pt.U, Pt.locs, Pt.cells, Pt.slots] at X2 l2 y2 z2 st2 hQ2
  subst l2 y2 z2
  replace X2 : Stand p l e ({ frames := 1, cells := 0, slots := 0, locals := 18 } : Room) s m #[(.ref a0), (.ref x1)] below meth c T2 _ 0 0 := X2
  obtain ⟨rfl, N2q, e2⟩ := hQ2
  have N3 := Fr.app N0 N2q
  refine Goes.by (fun _ k => st2.trans k) ?_
  clear X0 N0
  rw [HD]
  show Goes p.tables e below _ (T2.setTop (mkF m 8 #[.val (.ref a0), .val (.ref x1), .unset] [(.int (1 : Int32))]))
  refine Goes.by (B := T2.setTop (mkF m 12 #[.val (.ref a0), .val (.ref x1), .val (.int (0 : Int32))] [(.ref a0)])) (fun t k => ?_) ?_
  · refine XS.iconst X2.here hx rfl (hb hby d10_8) ?_
    refine XS.isub X2.here hx rfl (hb hby d10_9) rfl ?_
    refine XS.istoreN X2.here hx rfl (hb hby d10_10) rfl (l' := #[.val (.ref a0), .val (.ref x1), .val (.int (0 : Int32))]) rfl ?_
    refine XS.aloadN X2.here hx rfl (hb hby d10_11) rfl rfl ?_
    exact k
  obtain ⟨T4, X4, e4, st4⟩ := getF X2 hx hZ hown (host := "") (Or.inl (wq hw 11 rfl)) Via.refl e2 F1 (g := (mkF m 12 #[.val (.ref a0), .val (.ref x1), .val (.int (0 : Int32))] [(.ref a0)])) rfl rfl (hb hby d10_12)
  refine Goes.by st4 ?_
  clear X2 e2
  refine Goes.by (B := T4.setTop (mkF m 19 #[.val (.ref a0), .val (.ref x1), .val (.int (0 : Int32))] [(.ref a0), (.int (1 : Int32)), (.ref ar)])) (fun t k => ?_) ?_
  · refine XS.iloadN X4.here hx rfl (hb hby d10_15) rfl ?_
    refine XS.iconst X4.here hx rfl (hb hby d10_16) ?_
    refine XS.iadd X4.here hx rfl (hb hby d10_17) rfl ?_
    refine XS.aloadN X4.here hx rfl (hb hby d10_18) rfl rfl ?_
    exact k
  obtain ⟨T5, X5, e5, st5⟩ := getF X4 hx hZ hown (host := "") (Or.inl (wq hw 11 rfl)) Via.refl e4 F1 (g := (mkF m 19 #[.val (.ref a0), .val (.ref x1), .val (.int (0 : Int32))] [(.ref a0), (.int (1 : Int32)), (.ref ar)])) rfl rfl (hb hby d10_19)
  refine Goes.by st5 ?_
  clear X4 e4
  refine Goes.by (B := T5.setTop (mkF m 24 #[.val (.ref a0), .val (.ref x1), .val (.int (0 : Int32))] [(.ref a0), (.int (0 : Int32)), (.ref ar), (.int (1 : Int32)), (.ref ar)])) (fun t k => ?_) ?_
  · refine XS.iloadN X5.here hx rfl (hb hby d10_22) rfl ?_
    refine XS.aloadN X5.here hx rfl (hb hby d10_23) rfl rfl ?_
    exact k
  obtain ⟨T6, X6, e6, st6⟩ := getF X5 hx hZ hown (host := "") (Or.inl (wq hw 34 rfl)) Via.refl e5 F2 (g := (mkF m 24 #[.val (.ref a0), .val (.ref x1), .val (.int (0 : Int32))] [(.ref a0), (.int (0 : Int32)), (.ref ar), (.int (1 : Int32)), (.ref ar)])) rfl rfl (hb hby d10_24)
  refine Goes.by st6 ?_
  clear X5 e5
  refine Goes.by (B := T6.setTop (mkF m 31 #[.val (.ref a0), .val (.ref x1), .val (.int (0 : Int32))] [(.int (0 : Int32)), (.int (0 : Int32)), (.ref ar), (.int (1 : Int32)), (.ref ar)])) (fun t k => ?_) ?_
  · refine XS.iloadN X6.here hx rfl (hb hby d10_27) rfl ?_
    refine XS.isub X6.here hx rfl (hb hby d10_28) rfl ?_
    refine XS.iconst X6.here hx rfl (hb hby d10_29) ?_
    refine XS.isub X6.here hx rfl (hb hby d10_30) rfl ?_
    exact k
  obtain ⟨T7, h7, L7, X7, e7, Nn7, K7, V7, st7⟩ := cpA X6 hx hZ hown (wq hw 40 rfl) (wq hw 43 rfl) (wq hw 41 rfl) (wq hw 42 rfl) e6 (us := []) F3 F3 (Or.inr ⟨rfl, rfl, trivial⟩) (sp := (1 : Int32)) (dp := (0 : Int32)) (nn := (0 : Int32)) (by decide) (by decide) (by decide) (by decide) (by decide) rfl (Nat.le_of_ble_eq_true rfl) N3 Ge1 (g := (mkF m 31 #[.val (.ref a0), .val (.ref x1), .val (.int (0 : Int32))] [(.int (0 : Int32)), (.int (0 : Int32)), (.ref ar), (.int (1 : Int32)), (.ref ar)])) rfl (by rw [hml]; rfl) rfl (hb hby d10_31) (by decide) (W := 0) (by show 2 * 0 + _ ≤ _; exact Nat.le_of_eq rfl) (by decide)
  have f8 : Exa Z h7 a0 cD := F0.keep K7
  have f9 : Fld Z h7 a0 cD "heads" dA (.ref ar) := F1.keep K7 (ninS Ne0 nin0)
  have f10 : Fld Z h7 a0 cD "count" "I" (.int (1 : Int32)) := F2.keep K7 (ninS Ne0 nin0)
  have f11 : Exa Z h7 x1 cH := F5.keep K7
  have f12 : Arv Z h7 ar kA (.object cH) (4 : Int32) [(.ref x1), .null, .null, .null] .null := V7
  have Kp7 : Keep h0 h7 [ar, a0] := Kp0.trans K7 (allS (Or.inl (List.mem_of_getElem? (i := 0) rfl)) all0)
  have Z13 : n0 ≤ h7.size := Nat.le_trans Z0 K7.1
  refine Goes.by st7 ?_
  clear X6 N3 e6
  refine Goes.by (B := T7.setTop (mkF m 36 #[.val (.ref a0), .val (.ref x1), .val (.int (0 : Int32))] [(.ref a0), (.ref a0)])) (fun t k => ?_) ?_
  · refine XS.aloadN X7.here hx rfl (hb hby d10_34) rfl rfl ?_
    refine XS.dup X7.here hx rfl (hb hby d10_35) rfl rfl ?_
    exact k
  obtain ⟨T14, X14, e14, st14⟩ := getF X7 hx hZ hown (host := "") (Or.inl (wq hw 34 rfl)) Via.refl e7 f10 (g := (mkF m 36 #[.val (.ref a0), .val (.ref x1), .val (.int (0 : Int32))] [(.ref a0), (.ref a0)])) rfl rfl (hb hby d10_36)
  refine Goes.by st14 ?_
  clear X7 e7
  refine Goes.by (B := T14.setTop (mkF m 41 #[.val (.ref a0), .val (.ref x1), .val (.int (0 : Int32))] [(.int (0 : Int32)), (.ref a0)])) (fun t k => ?_) ?_
  · refine XS.iconst X14.here hx rfl (hb hby d10_39) ?_
    refine XS.isub X14.here hx rfl (hb hby d10_40) rfl ?_
    exact k
  obtain ⟨T15, h15, X15, e15, W15, st15⟩ := putF X14 hx hZ hown (host := "") (Or.inl (wq hw 34 rfl)) Via.refl e14 f10 f8 (Or.inl (wq hw 35 rfl)) (wq hw 1 rfl) (ty := .int) (by decide) rfl rfl (g := (mkF m 41 #[.val (.ref a0), .val (.ref x1), .val (.int (0 : Int32))] [(.int (0 : Int32)), (.ref a0)])) rfl rfl (hb hby d10_41)
  have f16 : Exa Z h15 a0 cD := f8.wr W15
  have f17 : Fld Z h15 a0 cD "heads" dA (.ref ar) := f9.other W15 (Or.inr (slot_ne (Or.inl (wq hw 12 rfl)) (Or.inl (wq hw 35 rfl)) (by decide) (t := (.array (.object cH))) (t' := .int) (by decide) (by decide)))
  have f18 : Exa Z h15 x1 cH := f11.wr W15
  have f19 : Arv Z h15 ar kA (.object cH) (4 : Int32) [(.ref x1), .null, .null, .null] .null := f12.other W15 (Ne.symm Ne0)
  have f20 : Fld Z h15 a0 cD "count" "I" (.int (0 : Int32)) := f10.same W15
  have Kp15 : Keep h0 h15 [ar, a0] := Kp7.wr W15 (Or.inl (List.mem_of_getElem? (i := 1) rfl))
  have Z21 : n0 ≤ h15.size := Nat.le_trans Z13 (Nat.le_of_eq W15.size.symm)
  have N22 := Fr.snoc X15 Nn7 Ge0
  refine Goes.by st15 ?_
  clear f8 f9 f10 f11 f12 X14 Nn7 Z13 Kp7 e14
  refine Goes.by (B := T15.setTop (mkF m 45 #[.val (.ref a0), .val (.ref x1), .val (.int (0 : Int32))] [(.ref a0)])) (fun t k => ?_) ?_
  · refine XS.aloadN X15.here hx rfl (hb hby d10_44) rfl rfl ?_
    exact k
  obtain ⟨T23, X23, e23, st23⟩ := getF X15 hx hZ hown (host := "") (Or.inl (wq hw 11 rfl)) Via.refl e15 f17 (g := (mkF m 45 #[.val (.ref a0), .val (.ref x1), .val (.int (0 : Int32))] [(.ref a0)])) rfl rfl (hb hby d10_45)
  refine Goes.by st23 ?_
  clear X15 e15
  refine Goes.by (B := T23.setTop (mkF m 49 #[.val (.ref a0), .val (.ref x1), .val (.int (0 : Int32))] [(.ref a0), (.ref ar)])) (fun t k => ?_) ?_
  · refine XS.aloadN X23.here hx rfl (hb hby d10_48) rfl rfl ?_
    exact k
  obtain ⟨T24, X24, e24, st24⟩ := getF X23 hx hZ hown (host := "") (Or.inl (wq hw 34 rfl)) Via.refl e23 f20 (g := (mkF m 49 #[.val (.ref a0), .val (.ref x1), .val (.int (0 : Int32))] [(.ref a0), (.ref ar)])) rfl rfl (hb hby d10_49)
  refine Goes.by st24 ?_
  clear X23 e23
  refine Goes.by (B := T24.setTop (mkF m 53 #[.val (.ref a0), .val (.ref x1), .val (.int (0 : Int32))] [.null, (.int (0 : Int32)), (.ref ar)])) (fun t k => ?_) ?_
  · refine XS.aconstNull X24.here hx rfl (hb hby d10_52) ?_
    exact k
  obtain ⟨cl25, cl25A, cl25q, cl25S, cl25N, cl25H, cl25G⟩ := id f19
  have cl25I : ¬ ((0 : Int32) < 0 ∨ cl25.slots.size ≤ ((0 : Int32)).toNatClampNeg) := inb_of cl25S ⟨by decide, by decide⟩
  obtain ⟨T25, h25, X25, e25, W25, st25⟩ := stR X24 hx hZ e24 cl25A (j := (0 : Int32)) cl25I rfl (Or.inl rfl) (g := (mkF m 53 #[.val (.ref a0), .val (.ref x1), .val (.int (0 : Int32))] [.null, (.int (0 : Int32)), (.ref ar)])) rfl rfl (hb hby d10_53)
  have f26 : Exa Z h25 a0 cD := f16.wr W25
  have f27 : Fld Z h25 a0 cD "heads" dA (.ref ar) := f17.other W25 (Or.inl Ne0)
  have f28 : Exa Z h25 x1 cH := f18.wr W25
  have f29 : Fld Z h25 a0 cD "count" "I" (.int (0 : Int32)) := f20.other W25 (Or.inl Ne0)
  have f30 : Arv Z h25 ar kA (.object cH) (4 : Int32) [.null, .null, .null, .null] .null := Arv.set cl25A cl25q cl25S cl25N cl25H cl25G rfl W25 0 rfl (Nat.le_of_ble_eq_true rfl)
  have Kp25 : Keep h0 h25 [ar, a0] := Kp15.wr W25 (Or.inl (List.mem_of_getElem? (i := 0) rfl))
  have Z31 : n0 ≤ h25.size := Nat.le_trans Z21 (Nat.le_of_eq W25.size.symm)
  have N32 := Fr.snoc X25 N22 Ge1
  refine Goes.by st25 ?_
  clear f16 f17 f18 f19 f20 X24 N22 Z21 Kp15 e24
  refine Goes.by (B := T25.setTop (mkF m 55 #[.val (.ref a0), .val (.ref x1), .val (.int (0 : Int32))] [(.ref a0)])) (fun t k => ?_) ?_
  · refine XS.aloadN X25.here hx rfl (hb hby d10_54) rfl rfl ?_
    exact k
  obtain ⟨cq33, q33, q33'⟩ := (f26).cell
  obtain ⟨_, _, ⟨T33, L33, k33, n33⟩, -, X33, ⟨Lc33, hQ33, l33, y33, z33⟩, st33⟩ := X25.privateBack hx (y := y9) hown (mvT hZ (wq hw 70 rfl)) (mvT hZ (wq hw 71 rfl)) (own_sel hZ (wq hw 1 rfl) (wq hw 72 rfl) (wq hw 71 rfl) (by decide)) (Cond.privateMethod_at (mvP hZ (wq hw 72 rfl) (args := #[]))) (mvT hZ (wq hw 73 rfl)) (by decide) (backOf (W := 0) (rmShrink l Z az hw [] a0 ar kA [.null, .null, .null, .null] h25 n0 Z31 f27 f30) hZ (wq hw 73 rfl) (wq hw 2 rfl) (by decide) (by decide)) (g := (mkF m 55 #[.val (.ref a0), .val (.ref x1), .val (.int (0 : Int32))] [(.ref a0)])) rfl (by rw [hml]; rfl) (Steps.refl _) (a := a0) (by rw [e25]; exact q33) q33' (argsL := []) (rest := []) (lenOf own_pd0 rfl) rfl (by show 2 * 0 + _ ≤ _; exact Nat.le_of_eq rfl) (hb hby d10_55) (fun _ _ => ⟨rfl, e25, (by decide : 0 + 0 ≤ _), (by decide : 0 + 0 ≤ _)⟩)
  dsimp only [Pt.U, Pt.locs, Pt.cells, Pt.slots] at X33 l33 y33 z33 st33 hQ33
  subst l33 y33 z33
  replace X33 : Stand p l e ({ frames := 1, cells := 0, slots := 0, locals := 18 } : Room) s m #[(.ref a0), (.ref x1)] below meth c T33 _ 0 0 := X33
  obtain ⟨rfl, N33q, e33⟩ := hQ33
  have N34 := Fr.app N32 N33q
  refine Goes.by (fun _ k => st33.trans k) ?_
  clear X25 N32 e25
  obtain ⟨fs, hr, hrun, hended, hW, hsame⟩ := X33.leave (v := none) (fun _ => rfl)
  refine Goes.mk _ _ ?_ ⟨hrun, hended, _, _, rfl, ?_, ⟨_, rfl⟩, hW, hsame.mono (by decide) (by decide)⟩
  · exact X33.returnOut hx Bd.returns (hb hby d10_58) hr
  · show QDrop1_1 Z a0 x1 ar kA t1 h0 n0 _ T33.heap _
    rw [e33]
    exact ⟨rfl, N34, Kp25, f27, f29, f30⟩
def QDrop2_1 (Z : State) (a0 : Addr) (x1 : Addr) (ar : Addr) (kA : ClassId) (x2 : Addr) (t1 : Int64) (t2 : Int64) (h0 : Heap) (n0 : Nat) (v : Option Value) (h : Heap) (L : List Loc) : Prop := v = none ∧ Fr n0 L ∧ Keep h0 h [ar, a0] ∧ Fld Z h a0 cD "heads" dA (.ref ar) ∧ Fld Z h a0 cD "count" "I" (.int (1 : Int32)) ∧ Arv Z h ar kA (.object cH) (4 : Int32) [(.ref x2), .null, .null, .null] .null
theorem efDrop2_1 (m : MethodId) (x0 : Addr) (x1 : Addr) : entryFrame m #[(.ref x0), (.ref x1)] 3 = mkF m 0 #[.val (.ref x0), .val (.ref x1), .unset] [] := by first | (simp [entryFrame, mkF, argsToLocals, Value.category]; done) | rfl
set_option maxRecDepth 65536 in
set_option maxHeartbeats 40000000 in
theorem rmDrop2_1 (l : Launch) (Z : State) (az : Array Value) (hw : ∀ d ∈ tables_1, d.before az Z = true) (ws : List Jvm.Cond) (a0 : Addr) (x1 : Addr) (ar : Addr) (kA : ClassId) (x2 : Addr) (t1 : Int64) (t2 : Int64) (h0 : Heap) (n0 : Nat) (Z0 : n0 ≤ h0.size) (F0 : Exa Z h0 a0 cD) (F1 : Fld Z h0 a0 cD "heads" dA (.ref ar)) (F2 : Fld Z h0 a0 cD "count" "I" (.int (2 : Int32))) (F3 : Arv Z h0 ar kA (.object cH) (4 : Int32) [(.ref x1), (.ref x2), .null, .null] .null) (F4 : Ovr Z kA cH) (F5 : Exa Z h0 x1 cH) (F6 : Fld Z h0 x1 cH "tick" "J" (.long t1)) (F7 : Exa Z h0 x2 cH) (F8 : Fld Z h0 x2 cH "tick" "J" (.long t2)) (Ne0 : a0 ≠ ar) (Ne1 : x1 ≠ a0) (Ne2 : x2 ≠ a0) (Ne3 : x1 ≠ ar) (Ne4 : x2 ≠ ar) (Ge0 : n0 ≤ a0) (Ge1 : n0 ≤ ar) (HD : fDue2 t1 t1 t2 = (1 : Int32)) :
    MetFree l y8 (head1 (Jvm.Cond.code y8 prog_4_method_9_code 3 none :: ws) ({ frames := 1, cells := 0, slots := 0, locals := 18 } : Room)) (fun a U => a = #[(.ref a0), (.ref x1)] ∧ Z.Warmed39 U.vm ∧ U.heap = h0) (fun _ _ _ _ _ => True) (fun _ U o U' => ∃ v L, o = .returned v ∧ QDrop2_1 Z a0 x1 ar kA x2 t1 t2 h0 n0 v U'.heap L ∧ FrameEnd U o U' L ({ frames := 1, cells := 0, slots := 0, locals := 18 } : Room).cells ({ frames := 1, cells := 0, slots := 0, locals := 18 } : Room).slots) := by
  refine MetFree.of_bodySF (plainFor_of_name own_pn_com_example_admit_one_admitone_engine_DueOrder) hisR ?_
  intro p e s m args below meth c s₁ Bd hml0 hP hK
  obtain ⟨rfl, hZ, hh⟩ := hP
  have hx := Bd.exec
  have hby := Bd.bytes
  have hml : c.maxLocals = 3 := hml0
  have hown : s.vm.findClass cD = some m.cls := findClass_of_methodNamed Bd.named
  have hnm := (name_of_methodNamed Bd.named Bd.method).1
  have X0 : Stand p l e ({ frames := 1, cells := 0, slots := 0, locals := 18 } : Room) s m #[(.ref a0), (.ref x1)] below meth c s₁ [] 0 0 := Stand.of_body Bd
  have e0 : s₁.heap = h0 := by rw [← hh, Bd.state]; rfl
  have N0 := Fr.nil n0
  have Kp0 : Keep h0 h0 [ar, a0] := Keep.refl _ _
  refine Goes.start ?_
  refine Goes.by (B := s₁.setTop (mkF m 0 #[.val (.ref a0), .val (.ref x1), .unset] [])) (fun t k => castTop (efDrop2_1 m a0 x1) k) ?_
  refine Goes.by (B := s₁.setTop (mkF m 2 #[.val (.ref a0), .val (.ref x1), .unset] [(.ref x1), (.ref a0)])) (fun t k => ?_) ?_
  · refine XS.aloadN X0.here hx rfl (hb hby d10_0) rfl rfl ?_
    refine XS.aloadN X0.here hx rfl (hb hby d10_1) rfl rfl ?_
    exact k
  refine Goes.by (B := s₁.setTop (mkF m 5 #[.val (.ref a0), .val (.ref x1), .unset] [(.long t1), (.ref a0)])) (fun t k => ?_) ?_
  · refine getFR X0 hx hZ hown (wq hw 69 rfl) e0 F6 (g := (mkF m 2 #[.val (.ref a0), .val (.ref x1), .unset] [(.ref x1), (.ref a0)])) rfl rfl (hb hby d10_2) ?_
    exact k
  obtain ⟨cq2, q2, q2'⟩ := (F0).cell
  obtain ⟨_, _, ⟨T2, L2, k2, n2⟩, -, X2, ⟨Lc2, hQ2, l2, y2, z2⟩, st2⟩ := X0.privateBack hx (y := y5) hown (mvT hZ (wq hw 36 rfl)) (mvT hZ (wq hw 37 rfl)) (own_sel hZ (wq hw 1 rfl) (wq hw 38 rfl) (wq hw 37 rfl) (by decide)) (Cond.privateMethod_at (mvP hZ (wq hw 38 rfl) (args := #[]))) (mvT hZ (wq hw 39 rfl)) (by decide) (backOf (W := 0) (rmDue2 l Z az hw [] a0 t1 ar kA x1 x2 t1 t2 h0 n0 Z0 F0 F1 F2 F3 F4 F5 F6 F7 F8) hZ (wq hw 39 rfl) (wq hw 2 rfl) (by decide) (by decide)) (g := (mkF m 5 #[.val (.ref a0), .val (.ref x1), .unset] [(.long t1), (.ref a0)])) rfl (by rw [hml]; rfl) (Steps.refl _) (a := a0) (by rw [e0]; exact q2) q2' (argsL := [(.long t1)]) (rest := []) (lenOf own_pd1 rfl) rfl (by show 2 * 0 + _ ≤ _; exact Nat.le_of_eq rfl) (hb hby d10_5) (fun _ _ => ⟨rfl, e0, (by decide : 0 + 0 ≤ _), (by decide : 0 + 0 ≤ _)⟩)
  dsimp only [Pt.U, Pt.locs, Pt.cells, Pt.slots] at X2 l2 y2 z2 st2 hQ2
  subst l2 y2 z2
  replace X2 : Stand p l e ({ frames := 1, cells := 0, slots := 0, locals := 18 } : Room) s m #[(.ref a0), (.ref x1)] below meth c T2 _ 0 0 := X2
  obtain ⟨rfl, N2q, e2⟩ := hQ2
  have N3 := Fr.app N0 N2q
  refine Goes.by (fun _ k => st2.trans k) ?_
  clear X0 N0
  rw [HD]
  show Goes p.tables e below _ (T2.setTop (mkF m 8 #[.val (.ref a0), .val (.ref x1), .unset] [(.int (1 : Int32))]))
  refine Goes.by (B := T2.setTop (mkF m 12 #[.val (.ref a0), .val (.ref x1), .val (.int (0 : Int32))] [(.ref a0)])) (fun t k => ?_) ?_
  · refine XS.iconst X2.here hx rfl (hb hby d10_8) ?_
    refine XS.isub X2.here hx rfl (hb hby d10_9) rfl ?_
    refine XS.istoreN X2.here hx rfl (hb hby d10_10) rfl (l' := #[.val (.ref a0), .val (.ref x1), .val (.int (0 : Int32))]) rfl ?_
    refine XS.aloadN X2.here hx rfl (hb hby d10_11) rfl rfl ?_
    exact k
  obtain ⟨T4, X4, e4, st4⟩ := getF X2 hx hZ hown (host := "") (Or.inl (wq hw 11 rfl)) Via.refl e2 F1 (g := (mkF m 12 #[.val (.ref a0), .val (.ref x1), .val (.int (0 : Int32))] [(.ref a0)])) rfl rfl (hb hby d10_12)
  refine Goes.by st4 ?_
  clear X2 e2
  refine Goes.by (B := T4.setTop (mkF m 19 #[.val (.ref a0), .val (.ref x1), .val (.int (0 : Int32))] [(.ref a0), (.int (1 : Int32)), (.ref ar)])) (fun t k => ?_) ?_
  · refine XS.iloadN X4.here hx rfl (hb hby d10_15) rfl ?_
    refine XS.iconst X4.here hx rfl (hb hby d10_16) ?_
    refine XS.iadd X4.here hx rfl (hb hby d10_17) rfl ?_
    refine XS.aloadN X4.here hx rfl (hb hby d10_18) rfl rfl ?_
    exact k
  obtain ⟨T5, X5, e5, st5⟩ := getF X4 hx hZ hown (host := "") (Or.inl (wq hw 11 rfl)) Via.refl e4 F1 (g := (mkF m 19 #[.val (.ref a0), .val (.ref x1), .val (.int (0 : Int32))] [(.ref a0), (.int (1 : Int32)), (.ref ar)])) rfl rfl (hb hby d10_19)
  refine Goes.by st5 ?_
  clear X4 e4
  refine Goes.by (B := T5.setTop (mkF m 24 #[.val (.ref a0), .val (.ref x1), .val (.int (0 : Int32))] [(.ref a0), (.int (0 : Int32)), (.ref ar), (.int (1 : Int32)), (.ref ar)])) (fun t k => ?_) ?_
  · refine XS.iloadN X5.here hx rfl (hb hby d10_22) rfl ?_
    refine XS.aloadN X5.here hx rfl (hb hby d10_23) rfl rfl ?_
    exact k
  obtain ⟨T6, X6, e6, st6⟩ := getF X5 hx hZ hown (host := "") (Or.inl (wq hw 34 rfl)) Via.refl e5 F2 (g := (mkF m 24 #[.val (.ref a0), .val (.ref x1), .val (.int (0 : Int32))] [(.ref a0), (.int (0 : Int32)), (.ref ar), (.int (1 : Int32)), (.ref ar)])) rfl rfl (hb hby d10_24)
  refine Goes.by st6 ?_
  clear X5 e5
  refine Goes.by (B := T6.setTop (mkF m 31 #[.val (.ref a0), .val (.ref x1), .val (.int (0 : Int32))] [(.int (1 : Int32)), (.int (0 : Int32)), (.ref ar), (.int (1 : Int32)), (.ref ar)])) (fun t k => ?_) ?_
  · refine XS.iloadN X6.here hx rfl (hb hby d10_27) rfl ?_
    refine XS.isub X6.here hx rfl (hb hby d10_28) rfl ?_
    refine XS.iconst X6.here hx rfl (hb hby d10_29) ?_
    refine XS.isub X6.here hx rfl (hb hby d10_30) rfl ?_
    exact k
  obtain ⟨cl7, cl7A, cl7q, -, -, -, -⟩ := id F3
  obtain ⟨T7, h7, L7, X7, e7, Nn7, K7, V7, st7⟩ := cpA X6 hx hZ hown (wq hw 40 rfl) (wq hw 43 rfl) (wq hw 41 rfl) (wq hw 42 rfl) e6 (us := [(.ref x2)]) F3 F3 (Or.inr ⟨rfl, rfl, ⟨Sto.ofV cl7A cl7q F4 (Ins.self F7), trivial⟩⟩) (sp := (1 : Int32)) (dp := (0 : Int32)) (nn := (1 : Int32)) (by decide) (by decide) (by decide) (by decide) (by decide) rfl (Nat.le_of_ble_eq_true rfl) N3 Ge1 (g := (mkF m 31 #[.val (.ref a0), .val (.ref x1), .val (.int (0 : Int32))] [(.int (1 : Int32)), (.int (0 : Int32)), (.ref ar), (.int (1 : Int32)), (.ref ar)])) rfl (by rw [hml]; rfl) rfl (hb hby d10_31) (by decide) (W := 0) (by show 2 * 0 + _ ≤ _; exact Nat.le_of_eq rfl) (by decide)
  have f8 : Exa Z h7 a0 cD := F0.keep K7
  have f9 : Fld Z h7 a0 cD "heads" dA (.ref ar) := F1.keep K7 (ninS Ne0 nin0)
  have f10 : Fld Z h7 a0 cD "count" "I" (.int (2 : Int32)) := F2.keep K7 (ninS Ne0 nin0)
  have f11 : Exa Z h7 x1 cH := F5.keep K7
  have f12 : Exa Z h7 x2 cH := F7.keep K7
  have f13 : Arv Z h7 ar kA (.object cH) (4 : Int32) [(.ref x2), (.ref x2), .null, .null] .null := V7
  have Kp7 : Keep h0 h7 [ar, a0] := Kp0.trans K7 (allS (Or.inl (List.mem_of_getElem? (i := 0) rfl)) all0)
  have Z14 : n0 ≤ h7.size := Nat.le_trans Z0 K7.1
  refine Goes.by st7 ?_
  clear X6 N3 e6
  refine Goes.by (B := T7.setTop (mkF m 36 #[.val (.ref a0), .val (.ref x1), .val (.int (0 : Int32))] [(.ref a0), (.ref a0)])) (fun t k => ?_) ?_
  · refine XS.aloadN X7.here hx rfl (hb hby d10_34) rfl rfl ?_
    refine XS.dup X7.here hx rfl (hb hby d10_35) rfl rfl ?_
    exact k
  obtain ⟨T15, X15, e15, st15⟩ := getF X7 hx hZ hown (host := "") (Or.inl (wq hw 34 rfl)) Via.refl e7 f10 (g := (mkF m 36 #[.val (.ref a0), .val (.ref x1), .val (.int (0 : Int32))] [(.ref a0), (.ref a0)])) rfl rfl (hb hby d10_36)
  refine Goes.by st15 ?_
  clear X7 e7
  refine Goes.by (B := T15.setTop (mkF m 41 #[.val (.ref a0), .val (.ref x1), .val (.int (0 : Int32))] [(.int (1 : Int32)), (.ref a0)])) (fun t k => ?_) ?_
  · refine XS.iconst X15.here hx rfl (hb hby d10_39) ?_
    refine XS.isub X15.here hx rfl (hb hby d10_40) rfl ?_
    exact k
  obtain ⟨T16, h16, X16, e16, W16, st16⟩ := putF X15 hx hZ hown (host := "") (Or.inl (wq hw 34 rfl)) Via.refl e15 f10 f8 (Or.inl (wq hw 35 rfl)) (wq hw 1 rfl) (ty := .int) (by decide) rfl rfl (g := (mkF m 41 #[.val (.ref a0), .val (.ref x1), .val (.int (0 : Int32))] [(.int (1 : Int32)), (.ref a0)])) rfl rfl (hb hby d10_41)
  have f17 : Exa Z h16 a0 cD := f8.wr W16
  have f18 : Fld Z h16 a0 cD "heads" dA (.ref ar) := f9.other W16 (Or.inr (slot_ne (Or.inl (wq hw 12 rfl)) (Or.inl (wq hw 35 rfl)) (by decide) (t := (.array (.object cH))) (t' := .int) (by decide) (by decide)))
  have f19 : Exa Z h16 x1 cH := f11.wr W16
  have f20 : Exa Z h16 x2 cH := f12.wr W16
  have f21 : Arv Z h16 ar kA (.object cH) (4 : Int32) [(.ref x2), (.ref x2), .null, .null] .null := f13.other W16 (Ne.symm Ne0)
  have f22 : Fld Z h16 a0 cD "count" "I" (.int (1 : Int32)) := f10.same W16
  have Kp16 : Keep h0 h16 [ar, a0] := Kp7.wr W16 (Or.inl (List.mem_of_getElem? (i := 1) rfl))
  have Z23 : n0 ≤ h16.size := Nat.le_trans Z14 (Nat.le_of_eq W16.size.symm)
  have N24 := Fr.snoc X16 Nn7 Ge0
  refine Goes.by st16 ?_
  clear f8 f9 f10 f11 f12 f13 X15 Nn7 Z14 Kp7 e15
  refine Goes.by (B := T16.setTop (mkF m 45 #[.val (.ref a0), .val (.ref x1), .val (.int (0 : Int32))] [(.ref a0)])) (fun t k => ?_) ?_
  · refine XS.aloadN X16.here hx rfl (hb hby d10_44) rfl rfl ?_
    exact k
  obtain ⟨T25, X25, e25, st25⟩ := getF X16 hx hZ hown (host := "") (Or.inl (wq hw 11 rfl)) Via.refl e16 f18 (g := (mkF m 45 #[.val (.ref a0), .val (.ref x1), .val (.int (0 : Int32))] [(.ref a0)])) rfl rfl (hb hby d10_45)
  refine Goes.by st25 ?_
  clear X16 e16
  refine Goes.by (B := T25.setTop (mkF m 49 #[.val (.ref a0), .val (.ref x1), .val (.int (0 : Int32))] [(.ref a0), (.ref ar)])) (fun t k => ?_) ?_
  · refine XS.aloadN X25.here hx rfl (hb hby d10_48) rfl rfl ?_
    exact k
  obtain ⟨T26, X26, e26, st26⟩ := getF X25 hx hZ hown (host := "") (Or.inl (wq hw 34 rfl)) Via.refl e25 f22 (g := (mkF m 49 #[.val (.ref a0), .val (.ref x1), .val (.int (0 : Int32))] [(.ref a0), (.ref ar)])) rfl rfl (hb hby d10_49)
  refine Goes.by st26 ?_
  clear X25 e25
  refine Goes.by (B := T26.setTop (mkF m 53 #[.val (.ref a0), .val (.ref x1), .val (.int (0 : Int32))] [.null, (.int (1 : Int32)), (.ref ar)])) (fun t k => ?_) ?_
  · refine XS.aconstNull X26.here hx rfl (hb hby d10_52) ?_
    exact k
  obtain ⟨cl27, cl27A, cl27q, cl27S, cl27N, cl27H, cl27G⟩ := id f21
  have cl27I : ¬ ((1 : Int32) < 0 ∨ cl27.slots.size ≤ ((1 : Int32)).toNatClampNeg) := inb_of cl27S ⟨by decide, by decide⟩
  obtain ⟨T27, h27, X27, e27, W27, st27⟩ := stR X26 hx hZ e26 cl27A (j := (1 : Int32)) cl27I rfl (Or.inl rfl) (g := (mkF m 53 #[.val (.ref a0), .val (.ref x1), .val (.int (0 : Int32))] [.null, (.int (1 : Int32)), (.ref ar)])) rfl rfl (hb hby d10_53)
  have f28 : Exa Z h27 a0 cD := f17.wr W27
  have f29 : Fld Z h27 a0 cD "heads" dA (.ref ar) := f18.other W27 (Or.inl Ne0)
  have f30 : Exa Z h27 x1 cH := f19.wr W27
  have f31 : Exa Z h27 x2 cH := f20.wr W27
  have f32 : Fld Z h27 a0 cD "count" "I" (.int (1 : Int32)) := f22.other W27 (Or.inl Ne0)
  have f33 : Arv Z h27 ar kA (.object cH) (4 : Int32) [(.ref x2), .null, .null, .null] .null := Arv.set cl27A cl27q cl27S cl27N cl27H cl27G rfl W27 1 rfl (Nat.le_of_ble_eq_true rfl)
  have Kp27 : Keep h0 h27 [ar, a0] := Kp16.wr W27 (Or.inl (List.mem_of_getElem? (i := 0) rfl))
  have Z34 : n0 ≤ h27.size := Nat.le_trans Z23 (Nat.le_of_eq W27.size.symm)
  have N35 := Fr.snoc X27 N24 Ge1
  refine Goes.by st27 ?_
  clear f17 f18 f19 f20 f21 f22 X26 N24 Z23 Kp16 e26
  refine Goes.by (B := T27.setTop (mkF m 55 #[.val (.ref a0), .val (.ref x1), .val (.int (0 : Int32))] [(.ref a0)])) (fun t k => ?_) ?_
  · refine XS.aloadN X27.here hx rfl (hb hby d10_54) rfl rfl ?_
    exact k
  obtain ⟨cq36, q36, q36'⟩ := (f28).cell
  obtain ⟨_, _, ⟨T36, L36, k36, n36⟩, -, X36, ⟨Lc36, hQ36, l36, y36, z36⟩, st36⟩ := X27.privateBack hx (y := y9) hown (mvT hZ (wq hw 70 rfl)) (mvT hZ (wq hw 71 rfl)) (own_sel hZ (wq hw 1 rfl) (wq hw 72 rfl) (wq hw 71 rfl) (by decide)) (Cond.privateMethod_at (mvP hZ (wq hw 72 rfl) (args := #[]))) (mvT hZ (wq hw 73 rfl)) (by decide) (backOf (W := 0) (rmShrink l Z az hw [] a0 ar kA [(.ref x2), .null, .null, .null] h27 n0 Z34 f29 f33) hZ (wq hw 73 rfl) (wq hw 2 rfl) (by decide) (by decide)) (g := (mkF m 55 #[.val (.ref a0), .val (.ref x1), .val (.int (0 : Int32))] [(.ref a0)])) rfl (by rw [hml]; rfl) (Steps.refl _) (a := a0) (by rw [e27]; exact q36) q36' (argsL := []) (rest := []) (lenOf own_pd0 rfl) rfl (by show 2 * 0 + _ ≤ _; exact Nat.le_of_eq rfl) (hb hby d10_55) (fun _ _ => ⟨rfl, e27, (by decide : 0 + 0 ≤ _), (by decide : 0 + 0 ≤ _)⟩)
  dsimp only [Pt.U, Pt.locs, Pt.cells, Pt.slots] at X36 l36 y36 z36 st36 hQ36
  subst l36 y36 z36
  replace X36 : Stand p l e ({ frames := 1, cells := 0, slots := 0, locals := 18 } : Room) s m #[(.ref a0), (.ref x1)] below meth c T36 _ 0 0 := X36
  obtain ⟨rfl, N36q, e36⟩ := hQ36
  have N37 := Fr.app N35 N36q
  refine Goes.by (fun _ k => st36.trans k) ?_
  clear X27 N35 e27
  obtain ⟨fs, hr, hrun, hended, hW, hsame⟩ := X36.leave (v := none) (fun _ => rfl)
  refine Goes.mk _ _ ?_ ⟨hrun, hended, _, _, rfl, ?_, ⟨_, rfl⟩, hW, hsame.mono (by decide) (by decide)⟩
  · exact X36.returnOut hx Bd.returns (hb hby d10_58) hr
  · show QDrop2_1 Z a0 x1 ar kA x2 t1 t2 h0 n0 _ T36.heap _
    rw [e36]
    exact ⟨rfl, N37, Kp27, f29, f32, f33⟩
def QDrop2_2 (Z : State) (a0 : Addr) (x2 : Addr) (ar : Addr) (kA : ClassId) (x1 : Addr) (t1 : Int64) (t2 : Int64) (h0 : Heap) (n0 : Nat) (v : Option Value) (h : Heap) (L : List Loc) : Prop := v = none ∧ Fr n0 L ∧ Keep h0 h [ar, a0] ∧ Fld Z h a0 cD "heads" dA (.ref ar) ∧ Fld Z h a0 cD "count" "I" (.int (1 : Int32)) ∧ Arv Z h ar kA (.object cH) (4 : Int32) [(.ref x1), .null, .null, .null] .null
theorem efDrop2_2 (m : MethodId) (x0 : Addr) (x1 : Addr) : entryFrame m #[(.ref x0), (.ref x1)] 3 = mkF m 0 #[.val (.ref x0), .val (.ref x1), .unset] [] := by first | (simp [entryFrame, mkF, argsToLocals, Value.category]; done) | rfl
set_option maxRecDepth 65536 in
set_option maxHeartbeats 40000000 in
theorem rmDrop2_2 (l : Launch) (Z : State) (az : Array Value) (hw : ∀ d ∈ tables_1, d.before az Z = true) (ws : List Jvm.Cond) (a0 : Addr) (x2 : Addr) (ar : Addr) (kA : ClassId) (x1 : Addr) (t1 : Int64) (t2 : Int64) (h0 : Heap) (n0 : Nat) (Z0 : n0 ≤ h0.size) (F0 : Exa Z h0 a0 cD) (F1 : Fld Z h0 a0 cD "heads" dA (.ref ar)) (F2 : Fld Z h0 a0 cD "count" "I" (.int (2 : Int32))) (F3 : Arv Z h0 ar kA (.object cH) (4 : Int32) [(.ref x1), (.ref x2), .null, .null] .null) (F4 : Ovr Z kA cH) (F5 : Exa Z h0 x1 cH) (F6 : Fld Z h0 x1 cH "tick" "J" (.long t1)) (F7 : Exa Z h0 x2 cH) (F8 : Fld Z h0 x2 cH "tick" "J" (.long t2)) (Ne0 : a0 ≠ ar) (Ne1 : x1 ≠ a0) (Ne2 : x2 ≠ a0) (Ne3 : x1 ≠ ar) (Ne4 : x2 ≠ ar) (Ge0 : n0 ≤ a0) (Ge1 : n0 ≤ ar) (HD : fDue2 t2 t1 t2 = (2 : Int32)) :
    MetFree l y8 (head1 (Jvm.Cond.code y8 prog_4_method_9_code 3 none :: ws) ({ frames := 1, cells := 0, slots := 0, locals := 18 } : Room)) (fun a U => a = #[(.ref a0), (.ref x2)] ∧ Z.Warmed39 U.vm ∧ U.heap = h0) (fun _ _ _ _ _ => True) (fun _ U o U' => ∃ v L, o = .returned v ∧ QDrop2_2 Z a0 x2 ar kA x1 t1 t2 h0 n0 v U'.heap L ∧ FrameEnd U o U' L ({ frames := 1, cells := 0, slots := 0, locals := 18 } : Room).cells ({ frames := 1, cells := 0, slots := 0, locals := 18 } : Room).slots) := by
  refine MetFree.of_bodySF (plainFor_of_name own_pn_com_example_admit_one_admitone_engine_DueOrder) hisR ?_
  intro p e s m args below meth c s₁ Bd hml0 hP hK
  obtain ⟨rfl, hZ, hh⟩ := hP
  have hx := Bd.exec
  have hby := Bd.bytes
  have hml : c.maxLocals = 3 := hml0
  have hown : s.vm.findClass cD = some m.cls := findClass_of_methodNamed Bd.named
  have hnm := (name_of_methodNamed Bd.named Bd.method).1
  have X0 : Stand p l e ({ frames := 1, cells := 0, slots := 0, locals := 18 } : Room) s m #[(.ref a0), (.ref x2)] below meth c s₁ [] 0 0 := Stand.of_body Bd
  have e0 : s₁.heap = h0 := by rw [← hh, Bd.state]; rfl
  have N0 := Fr.nil n0
  have Kp0 : Keep h0 h0 [ar, a0] := Keep.refl _ _
  refine Goes.start ?_
  refine Goes.by (B := s₁.setTop (mkF m 0 #[.val (.ref a0), .val (.ref x2), .unset] [])) (fun t k => castTop (efDrop2_2 m a0 x2) k) ?_
  refine Goes.by (B := s₁.setTop (mkF m 2 #[.val (.ref a0), .val (.ref x2), .unset] [(.ref x2), (.ref a0)])) (fun t k => ?_) ?_
  · refine XS.aloadN X0.here hx rfl (hb hby d10_0) rfl rfl ?_
    refine XS.aloadN X0.here hx rfl (hb hby d10_1) rfl rfl ?_
    exact k
  refine Goes.by (B := s₁.setTop (mkF m 5 #[.val (.ref a0), .val (.ref x2), .unset] [(.long t2), (.ref a0)])) (fun t k => ?_) ?_
  · refine getFR X0 hx hZ hown (wq hw 69 rfl) e0 F8 (g := (mkF m 2 #[.val (.ref a0), .val (.ref x2), .unset] [(.ref x2), (.ref a0)])) rfl rfl (hb hby d10_2) ?_
    exact k
  obtain ⟨cq2, q2, q2'⟩ := (F0).cell
  obtain ⟨_, _, ⟨T2, L2, k2, n2⟩, -, X2, ⟨Lc2, hQ2, l2, y2, z2⟩, st2⟩ := X0.privateBack hx (y := y5) hown (mvT hZ (wq hw 36 rfl)) (mvT hZ (wq hw 37 rfl)) (own_sel hZ (wq hw 1 rfl) (wq hw 38 rfl) (wq hw 37 rfl) (by decide)) (Cond.privateMethod_at (mvP hZ (wq hw 38 rfl) (args := #[]))) (mvT hZ (wq hw 39 rfl)) (by decide) (backOf (W := 0) (rmDue2 l Z az hw [] a0 t2 ar kA x1 x2 t1 t2 h0 n0 Z0 F0 F1 F2 F3 F4 F5 F6 F7 F8) hZ (wq hw 39 rfl) (wq hw 2 rfl) (by decide) (by decide)) (g := (mkF m 5 #[.val (.ref a0), .val (.ref x2), .unset] [(.long t2), (.ref a0)])) rfl (by rw [hml]; rfl) (Steps.refl _) (a := a0) (by rw [e0]; exact q2) q2' (argsL := [(.long t2)]) (rest := []) (lenOf own_pd1 rfl) rfl (by show 2 * 0 + _ ≤ _; exact Nat.le_of_eq rfl) (hb hby d10_5) (fun _ _ => ⟨rfl, e0, (by decide : 0 + 0 ≤ _), (by decide : 0 + 0 ≤ _)⟩)
  dsimp only [Pt.U, Pt.locs, Pt.cells, Pt.slots] at X2 l2 y2 z2 st2 hQ2
  subst l2 y2 z2
  replace X2 : Stand p l e ({ frames := 1, cells := 0, slots := 0, locals := 18 } : Room) s m #[(.ref a0), (.ref x2)] below meth c T2 _ 0 0 := X2
  obtain ⟨rfl, N2q, e2⟩ := hQ2
  have N3 := Fr.app N0 N2q
  refine Goes.by (fun _ k => st2.trans k) ?_
  clear X0 N0
  rw [HD]
  show Goes p.tables e below _ (T2.setTop (mkF m 8 #[.val (.ref a0), .val (.ref x2), .unset] [(.int (2 : Int32))]))
  refine Goes.by (B := T2.setTop (mkF m 12 #[.val (.ref a0), .val (.ref x2), .val (.int (1 : Int32))] [(.ref a0)])) (fun t k => ?_) ?_
  · refine XS.iconst X2.here hx rfl (hb hby d10_8) ?_
    refine XS.isub X2.here hx rfl (hb hby d10_9) rfl ?_
    refine XS.istoreN X2.here hx rfl (hb hby d10_10) rfl (l' := #[.val (.ref a0), .val (.ref x2), .val (.int (1 : Int32))]) rfl ?_
    refine XS.aloadN X2.here hx rfl (hb hby d10_11) rfl rfl ?_
    exact k
  obtain ⟨T4, X4, e4, st4⟩ := getF X2 hx hZ hown (host := "") (Or.inl (wq hw 11 rfl)) Via.refl e2 F1 (g := (mkF m 12 #[.val (.ref a0), .val (.ref x2), .val (.int (1 : Int32))] [(.ref a0)])) rfl rfl (hb hby d10_12)
  refine Goes.by st4 ?_
  clear X2 e2
  refine Goes.by (B := T4.setTop (mkF m 19 #[.val (.ref a0), .val (.ref x2), .val (.int (1 : Int32))] [(.ref a0), (.int (2 : Int32)), (.ref ar)])) (fun t k => ?_) ?_
  · refine XS.iloadN X4.here hx rfl (hb hby d10_15) rfl ?_
    refine XS.iconst X4.here hx rfl (hb hby d10_16) ?_
    refine XS.iadd X4.here hx rfl (hb hby d10_17) rfl ?_
    refine XS.aloadN X4.here hx rfl (hb hby d10_18) rfl rfl ?_
    exact k
  obtain ⟨T5, X5, e5, st5⟩ := getF X4 hx hZ hown (host := "") (Or.inl (wq hw 11 rfl)) Via.refl e4 F1 (g := (mkF m 19 #[.val (.ref a0), .val (.ref x2), .val (.int (1 : Int32))] [(.ref a0), (.int (2 : Int32)), (.ref ar)])) rfl rfl (hb hby d10_19)
  refine Goes.by st5 ?_
  clear X4 e4
  refine Goes.by (B := T5.setTop (mkF m 24 #[.val (.ref a0), .val (.ref x2), .val (.int (1 : Int32))] [(.ref a0), (.int (1 : Int32)), (.ref ar), (.int (2 : Int32)), (.ref ar)])) (fun t k => ?_) ?_
  · refine XS.iloadN X5.here hx rfl (hb hby d10_22) rfl ?_
    refine XS.aloadN X5.here hx rfl (hb hby d10_23) rfl rfl ?_
    exact k
  obtain ⟨T6, X6, e6, st6⟩ := getF X5 hx hZ hown (host := "") (Or.inl (wq hw 34 rfl)) Via.refl e5 F2 (g := (mkF m 24 #[.val (.ref a0), .val (.ref x2), .val (.int (1 : Int32))] [(.ref a0), (.int (1 : Int32)), (.ref ar), (.int (2 : Int32)), (.ref ar)])) rfl rfl (hb hby d10_24)
  refine Goes.by st6 ?_
  clear X5 e5
  refine Goes.by (B := T6.setTop (mkF m 31 #[.val (.ref a0), .val (.ref x2), .val (.int (1 : Int32))] [(.int (0 : Int32)), (.int (1 : Int32)), (.ref ar), (.int (2 : Int32)), (.ref ar)])) (fun t k => ?_) ?_
  · refine XS.iloadN X6.here hx rfl (hb hby d10_27) rfl ?_
    refine XS.isub X6.here hx rfl (hb hby d10_28) rfl ?_
    refine XS.iconst X6.here hx rfl (hb hby d10_29) ?_
    refine XS.isub X6.here hx rfl (hb hby d10_30) rfl ?_
    exact k
  obtain ⟨T7, h7, L7, X7, e7, Nn7, K7, V7, st7⟩ := cpA X6 hx hZ hown (wq hw 40 rfl) (wq hw 43 rfl) (wq hw 41 rfl) (wq hw 42 rfl) e6 (us := []) F3 F3 (Or.inr ⟨rfl, rfl, trivial⟩) (sp := (2 : Int32)) (dp := (1 : Int32)) (nn := (0 : Int32)) (by decide) (by decide) (by decide) (by decide) (by decide) rfl (Nat.le_of_ble_eq_true rfl) N3 Ge1 (g := (mkF m 31 #[.val (.ref a0), .val (.ref x2), .val (.int (1 : Int32))] [(.int (0 : Int32)), (.int (1 : Int32)), (.ref ar), (.int (2 : Int32)), (.ref ar)])) rfl (by rw [hml]; rfl) rfl (hb hby d10_31) (by decide) (W := 0) (by show 2 * 0 + _ ≤ _; exact Nat.le_of_eq rfl) (by decide)
  have f8 : Exa Z h7 a0 cD := F0.keep K7
  have f9 : Fld Z h7 a0 cD "heads" dA (.ref ar) := F1.keep K7 (ninS Ne0 nin0)
  have f10 : Fld Z h7 a0 cD "count" "I" (.int (2 : Int32)) := F2.keep K7 (ninS Ne0 nin0)
  have f11 : Exa Z h7 x1 cH := F5.keep K7
  have f12 : Exa Z h7 x2 cH := F7.keep K7
  have f13 : Arv Z h7 ar kA (.object cH) (4 : Int32) [(.ref x1), (.ref x2), .null, .null] .null := V7
  have Kp7 : Keep h0 h7 [ar, a0] := Kp0.trans K7 (allS (Or.inl (List.mem_of_getElem? (i := 0) rfl)) all0)
  have Z14 : n0 ≤ h7.size := Nat.le_trans Z0 K7.1
  refine Goes.by st7 ?_
  clear X6 N3 e6
  refine Goes.by (B := T7.setTop (mkF m 36 #[.val (.ref a0), .val (.ref x2), .val (.int (1 : Int32))] [(.ref a0), (.ref a0)])) (fun t k => ?_) ?_
  · refine XS.aloadN X7.here hx rfl (hb hby d10_34) rfl rfl ?_
    refine XS.dup X7.here hx rfl (hb hby d10_35) rfl rfl ?_
    exact k
  obtain ⟨T15, X15, e15, st15⟩ := getF X7 hx hZ hown (host := "") (Or.inl (wq hw 34 rfl)) Via.refl e7 f10 (g := (mkF m 36 #[.val (.ref a0), .val (.ref x2), .val (.int (1 : Int32))] [(.ref a0), (.ref a0)])) rfl rfl (hb hby d10_36)
  refine Goes.by st15 ?_
  clear X7 e7
  refine Goes.by (B := T15.setTop (mkF m 41 #[.val (.ref a0), .val (.ref x2), .val (.int (1 : Int32))] [(.int (1 : Int32)), (.ref a0)])) (fun t k => ?_) ?_
  · refine XS.iconst X15.here hx rfl (hb hby d10_39) ?_
    refine XS.isub X15.here hx rfl (hb hby d10_40) rfl ?_
    exact k
  obtain ⟨T16, h16, X16, e16, W16, st16⟩ := putF X15 hx hZ hown (host := "") (Or.inl (wq hw 34 rfl)) Via.refl e15 f10 f8 (Or.inl (wq hw 35 rfl)) (wq hw 1 rfl) (ty := .int) (by decide) rfl rfl (g := (mkF m 41 #[.val (.ref a0), .val (.ref x2), .val (.int (1 : Int32))] [(.int (1 : Int32)), (.ref a0)])) rfl rfl (hb hby d10_41)
  have f17 : Exa Z h16 a0 cD := f8.wr W16
  have f18 : Fld Z h16 a0 cD "heads" dA (.ref ar) := f9.other W16 (Or.inr (slot_ne (Or.inl (wq hw 12 rfl)) (Or.inl (wq hw 35 rfl)) (by decide) (t := (.array (.object cH))) (t' := .int) (by decide) (by decide)))
  have f19 : Exa Z h16 x1 cH := f11.wr W16
  have f20 : Exa Z h16 x2 cH := f12.wr W16
  have f21 : Arv Z h16 ar kA (.object cH) (4 : Int32) [(.ref x1), (.ref x2), .null, .null] .null := f13.other W16 (Ne.symm Ne0)
  have f22 : Fld Z h16 a0 cD "count" "I" (.int (1 : Int32)) := f10.same W16
  have Kp16 : Keep h0 h16 [ar, a0] := Kp7.wr W16 (Or.inl (List.mem_of_getElem? (i := 1) rfl))
  have Z23 : n0 ≤ h16.size := Nat.le_trans Z14 (Nat.le_of_eq W16.size.symm)
  have N24 := Fr.snoc X16 Nn7 Ge0
  refine Goes.by st16 ?_
  clear f8 f9 f10 f11 f12 f13 X15 Nn7 Z14 Kp7 e15
  refine Goes.by (B := T16.setTop (mkF m 45 #[.val (.ref a0), .val (.ref x2), .val (.int (1 : Int32))] [(.ref a0)])) (fun t k => ?_) ?_
  · refine XS.aloadN X16.here hx rfl (hb hby d10_44) rfl rfl ?_
    exact k
  obtain ⟨T25, X25, e25, st25⟩ := getF X16 hx hZ hown (host := "") (Or.inl (wq hw 11 rfl)) Via.refl e16 f18 (g := (mkF m 45 #[.val (.ref a0), .val (.ref x2), .val (.int (1 : Int32))] [(.ref a0)])) rfl rfl (hb hby d10_45)
  refine Goes.by st25 ?_
  clear X16 e16
  refine Goes.by (B := T25.setTop (mkF m 49 #[.val (.ref a0), .val (.ref x2), .val (.int (1 : Int32))] [(.ref a0), (.ref ar)])) (fun t k => ?_) ?_
  · refine XS.aloadN X25.here hx rfl (hb hby d10_48) rfl rfl ?_
    exact k
  obtain ⟨T26, X26, e26, st26⟩ := getF X25 hx hZ hown (host := "") (Or.inl (wq hw 34 rfl)) Via.refl e25 f22 (g := (mkF m 49 #[.val (.ref a0), .val (.ref x2), .val (.int (1 : Int32))] [(.ref a0), (.ref ar)])) rfl rfl (hb hby d10_49)
  refine Goes.by st26 ?_
  clear X25 e25
  refine Goes.by (B := T26.setTop (mkF m 53 #[.val (.ref a0), .val (.ref x2), .val (.int (1 : Int32))] [.null, (.int (1 : Int32)), (.ref ar)])) (fun t k => ?_) ?_
  · refine XS.aconstNull X26.here hx rfl (hb hby d10_52) ?_
    exact k
  obtain ⟨cl27, cl27A, cl27q, cl27S, cl27N, cl27H, cl27G⟩ := id f21
  have cl27I : ¬ ((1 : Int32) < 0 ∨ cl27.slots.size ≤ ((1 : Int32)).toNatClampNeg) := inb_of cl27S ⟨by decide, by decide⟩
  obtain ⟨T27, h27, X27, e27, W27, st27⟩ := stR X26 hx hZ e26 cl27A (j := (1 : Int32)) cl27I rfl (Or.inl rfl) (g := (mkF m 53 #[.val (.ref a0), .val (.ref x2), .val (.int (1 : Int32))] [.null, (.int (1 : Int32)), (.ref ar)])) rfl rfl (hb hby d10_53)
  have f28 : Exa Z h27 a0 cD := f17.wr W27
  have f29 : Fld Z h27 a0 cD "heads" dA (.ref ar) := f18.other W27 (Or.inl Ne0)
  have f30 : Exa Z h27 x1 cH := f19.wr W27
  have f31 : Exa Z h27 x2 cH := f20.wr W27
  have f32 : Fld Z h27 a0 cD "count" "I" (.int (1 : Int32)) := f22.other W27 (Or.inl Ne0)
  have f33 : Arv Z h27 ar kA (.object cH) (4 : Int32) [(.ref x1), .null, .null, .null] .null := Arv.set cl27A cl27q cl27S cl27N cl27H cl27G rfl W27 1 rfl (Nat.le_of_ble_eq_true rfl)
  have Kp27 : Keep h0 h27 [ar, a0] := Kp16.wr W27 (Or.inl (List.mem_of_getElem? (i := 0) rfl))
  have Z34 : n0 ≤ h27.size := Nat.le_trans Z23 (Nat.le_of_eq W27.size.symm)
  have N35 := Fr.snoc X27 N24 Ge1
  refine Goes.by st27 ?_
  clear f17 f18 f19 f20 f21 f22 X26 N24 Z23 Kp16 e26
  refine Goes.by (B := T27.setTop (mkF m 55 #[.val (.ref a0), .val (.ref x2), .val (.int (1 : Int32))] [(.ref a0)])) (fun t k => ?_) ?_
  · refine XS.aloadN X27.here hx rfl (hb hby d10_54) rfl rfl ?_
    exact k
  obtain ⟨cq36, q36, q36'⟩ := (f28).cell
  obtain ⟨_, _, ⟨T36, L36, k36, n36⟩, -, X36, ⟨Lc36, hQ36, l36, y36, z36⟩, st36⟩ := X27.privateBack hx (y := y9) hown (mvT hZ (wq hw 70 rfl)) (mvT hZ (wq hw 71 rfl)) (own_sel hZ (wq hw 1 rfl) (wq hw 72 rfl) (wq hw 71 rfl) (by decide)) (Cond.privateMethod_at (mvP hZ (wq hw 72 rfl) (args := #[]))) (mvT hZ (wq hw 73 rfl)) (by decide) (backOf (W := 0) (rmShrink l Z az hw [] a0 ar kA [(.ref x1), .null, .null, .null] h27 n0 Z34 f29 f33) hZ (wq hw 73 rfl) (wq hw 2 rfl) (by decide) (by decide)) (g := (mkF m 55 #[.val (.ref a0), .val (.ref x2), .val (.int (1 : Int32))] [(.ref a0)])) rfl (by rw [hml]; rfl) (Steps.refl _) (a := a0) (by rw [e27]; exact q36) q36' (argsL := []) (rest := []) (lenOf own_pd0 rfl) rfl (by show 2 * 0 + _ ≤ _; exact Nat.le_of_eq rfl) (hb hby d10_55) (fun _ _ => ⟨rfl, e27, (by decide : 0 + 0 ≤ _), (by decide : 0 + 0 ≤ _)⟩)
  dsimp only [Pt.U, Pt.locs, Pt.cells, Pt.slots] at X36 l36 y36 z36 st36 hQ36
  subst l36 y36 z36
  replace X36 : Stand p l e ({ frames := 1, cells := 0, slots := 0, locals := 18 } : Room) s m #[(.ref a0), (.ref x2)] below meth c T36 _ 0 0 := X36
  obtain ⟨rfl, N36q, e36⟩ := hQ36
  have N37 := Fr.app N35 N36q
  refine Goes.by (fun _ k => st36.trans k) ?_
  clear X27 N35 e27
  obtain ⟨fs, hr, hrun, hended, hW, hsame⟩ := X36.leave (v := none) (fun _ => rfl)
  refine Goes.mk _ _ ?_ ⟨hrun, hended, _, _, rfl, ?_, ⟨_, rfl⟩, hW, hsame.mono (by decide) (by decide)⟩
  · exact X36.returnOut hx Bd.returns (hb hby d10_58) hr
  · show QDrop2_2 Z a0 x2 ar kA x1 t1 t2 h0 n0 _ T36.heap _
    rw [e36]
    exact ⟨rfl, N37, Kp27, f29, f32, f33⟩
theorem d5_0 : decode prog_4_method_5_code 0 = .ok (.aload_n 0, 1) := by decide +kernel
theorem d5_1 : decode prog_4_method_5_code 1 = .ok (.lload_n 2, 1) := by decide +kernel
theorem d5_2 : decode prog_4_method_5_code 2 = .ok (.invokevirtual 33, 3) := by decide +kernel
theorem own_pd3 : parseMethodDescriptor "(J)Lcom/example/admit_one/admitone/engine/DueOrder$Head;" = some ⟨[.long], some (.object cH)⟩ := by decide +kernel
theorem d5_5 : decode prog_4_method_5_code 5 = .ok (.astore 4, 2) := by decide +kernel
theorem d5_7 : decode prog_4_method_5_code 7 = .ok (.aload_n 1, 1) := by decide +kernel
theorem d5_8 : decode prog_4_method_5_code 8 = .ok (.aload 4, 2) := by decide +kernel
theorem d5_10 : decode prog_4_method_5_code 10 = .ok (.getfield 37, 3) := by decide +kernel
theorem d5_13 : decode prog_4_method_5_code 13 = .ok (.putfield 37, 3) := by decide +kernel
theorem d5_16 : decode prog_4_method_5_code 16 = .ok (.aload_n 1, 1) := by decide +kernel
theorem d5_17 : decode prog_4_method_5_code 17 = .ok (.aload 4, 2) := by decide +kernel
theorem d5_19 : decode prog_4_method_5_code 19 = .ok (.putfield 27, 3) := by decide +kernel
theorem d5_22 : decode prog_4_method_5_code 22 = .ok (.aload 4, 2) := by decide +kernel
theorem d5_24 : decode prog_4_method_5_code 24 = .ok (.getfield 37, 3) := by decide +kernel
theorem d5_27 : decode prog_4_method_5_code 27 = .ok (.aload_n 1, 1) := by decide +kernel
theorem d5_28 : decode prog_4_method_5_code 28 = .ok (.putfield 27, 3) := by decide +kernel
theorem d5_31 : decode prog_4_method_5_code 31 = .ok (.aload 4, 2) := by decide +kernel
theorem d5_33 : decode prog_4_method_5_code 33 = .ok (.aload_n 1, 1) := by decide +kernel
theorem d5_34 : decode prog_4_method_5_code 34 = .ok (.putfield 37, 3) := by decide +kernel
theorem d5_37 : decode prog_4_method_5_code 37 = .ok (.return_, 1) := by decide +kernel
def QFile0 (Z : State) (a0 : Addr) (a1 : Addr) (q2 : Int64) (ar : Addr) (kA : ClassId) (nl : Value) (pl : Value) (h0 : Heap) (n0 : Nat) (v : Option Value) (h : Heap) (L : List Loc) : Prop := (∃ b2 : Addr, v = none ∧ Fr n0 L ∧ Keep h0 h [ar, a0, a1] ∧ h0.size ≤ b2 ∧ Fld Z h a0 cD "heads" dA (.ref ar) ∧ Fld Z h a0 cD "count" "I" (.int (1 : Int32)) ∧ Arv Z h ar kA (.object cH) (4 : Int32) [(.ref b2), .null, .null, .null] .null ∧ Exa Z h b2 cH ∧ Fld Z h b2 cH "tick" "J" (.long q2) ∧ Fld Z h b2 cL "next" dL (.ref a1) ∧ Fld Z h b2 cL "prev" dL (.ref a1) ∧ Fld Z h a1 cL "next" dL (.ref b2) ∧ Fld Z h a1 cL "prev" dL (.ref b2))
theorem efFile0 (m : MethodId) (x0 : Addr) (x1 : Addr) (x2 : Int64) : entryFrame m #[(.ref x0), (.ref x1), (.long x2)] 5 = mkF m 0 #[.val (.ref x0), .val (.ref x1), .val (.long x2), .second, .unset] [] := by first | (simp [entryFrame, mkF, argsToLocals, Value.category]; done) | rfl
set_option maxRecDepth 65536 in
set_option maxHeartbeats 40000000 in
theorem rmFile0 (l : Launch) (Z : State) (az : Array Value) (hw : ∀ d ∈ tables_1, d.before az Z = true) (ws : List Jvm.Cond) (a0 : Addr) (a1 : Addr) (q2 : Int64) (ar : Addr) (kA : ClassId) (nl : Value) (pl : Value) (h0 : Heap) (n0 : Nat) (Z0 : n0 ≤ h0.size) (F0 : Exa Z h0 a0 cD) (F1 : Fld Z h0 a0 cD "heads" dA (.ref ar)) (F2 : Fld Z h0 a0 cD "count" "I" (.int (0 : Int32))) (F3 : Arv Z h0 ar kA (.object cH) (4 : Int32) [.null, .null, .null, .null] .null) (F4 : Ovr Z kA cH) (F5 : Exa Z h0 a1 cL) (F6 : Fld Z h0 a1 cL "next" dL nl) (F7 : Fld Z h0 a1 cL "prev" dL pl) (Ne0 : a0 ≠ ar) (Ne1 : a1 ≠ a0) (Ne2 : a1 ≠ ar) (Ge0 : n0 ≤ a0) (Ge1 : n0 ≤ ar) (Ge2 : n0 ≤ a1) :
    MetFree l y3 (head1 (Jvm.Cond.code y3 prog_4_method_5_code 5 none :: ws) ({ frames := 4, cells := 1, slots := 3, locals := 55 } : Room)) (fun a U => a = #[(.ref a0), (.ref a1), (.long q2)] ∧ Z.Warmed39 U.vm ∧ U.heap = h0) (fun _ _ _ _ _ => True) (fun _ U o U' => ∃ v L, o = .returned v ∧ QFile0 Z a0 a1 q2 ar kA nl pl h0 n0 v U'.heap L ∧ FrameEnd U o U' L ({ frames := 4, cells := 1, slots := 3, locals := 55 } : Room).cells ({ frames := 4, cells := 1, slots := 3, locals := 55 } : Room).slots) := by
  refine MetFree.of_bodySF (plainFor_of_name own_pn_com_example_admit_one_admitone_engine_DueOrder) hisR ?_
  intro p e s m args below meth c s₁ Bd hml0 hP hK
  obtain ⟨rfl, hZ, hh⟩ := hP
  have hx := Bd.exec
  have hby := Bd.bytes
  have hml : c.maxLocals = 5 := hml0
  have hown : s.vm.findClass cD = some m.cls := findClass_of_methodNamed Bd.named
  have hnm := (name_of_methodNamed Bd.named Bd.method).1
  have X0 : Stand p l e ({ frames := 4, cells := 1, slots := 3, locals := 55 } : Room) s m #[(.ref a0), (.ref a1), (.long q2)] below meth c s₁ [] 0 0 := Stand.of_body Bd
  have e0 : s₁.heap = h0 := by rw [← hh, Bd.state]; rfl
  have N0 := Fr.nil n0
  have Kp0 : Keep h0 h0 [] := Keep.refl _ _
  refine Goes.start ?_
  refine Goes.by (B := s₁.setTop (mkF m 0 #[.val (.ref a0), .val (.ref a1), .val (.long q2), .second, .unset] [])) (fun t k => castTop (efFile0 m a0 a1 q2) k) ?_
  refine Goes.by (B := s₁.setTop (mkF m 2 #[.val (.ref a0), .val (.ref a1), .val (.long q2), .second, .unset] [(.long q2), (.ref a0)])) (fun t k => ?_) ?_
  · refine XS.aloadN X0.here hx rfl (hb hby d5_0) rfl rfl ?_
    refine XS.lloadN X0.here hx rfl (hb hby d5_1) rfl ?_
    exact k
  obtain ⟨cq1, q1, q1'⟩ := (F0).cell
  obtain ⟨_, _, ⟨T1, L1, k1, n1⟩, -, X1, ⟨Lc1, hQ1, l1, y1, z1⟩, st1⟩ := X0.privateBack hx (y := y4) hown (mvT hZ (wq hw 30 rfl)) (mvT hZ (wq hw 31 rfl)) (own_sel hZ (wq hw 1 rfl) (wq hw 32 rfl) (wq hw 31 rfl) (by decide)) (Cond.privateMethod_at (mvP hZ (wq hw 32 rfl) (args := #[]))) (mvT hZ (wq hw 33 rfl)) (by decide) (backOf (W := 0) (rmHeadOf0 l Z az hw [] a0 q2 ar kA h0 n0 Z0 F0 F1 F2 F3 F4 Ne0 Ge0 Ge1) hZ (wq hw 33 rfl) (wq hw 2 rfl) (by decide) (by decide)) (g := (mkF m 2 #[.val (.ref a0), .val (.ref a1), .val (.long q2), .second, .unset] [(.long q2), (.ref a0)])) rfl (by rw [hml]; rfl) (Steps.refl _) (a := a0) (by rw [e0]; exact q1) q1' (argsL := [(.long q2)]) (rest := []) (lenOf own_pd3 rfl) rfl (by show 2 * 0 + _ ≤ _; exact Nat.le_of_eq rfl) (hb hby d5_2) (fun _ _ => ⟨rfl, e0, (by decide : 0 + 1 ≤ _), (by decide : 0 + 3 ≤ _)⟩)
  dsimp only [Pt.U, Pt.locs, Pt.cells, Pt.slots] at X1 l1 y1 z1 st1 hQ1
  subst l1 y1 z1
  replace X1 : Stand p l e ({ frames := 4, cells := 1, slots := 3, locals := 55 } : Room) s m #[(.ref a0), (.ref a1), (.long q2)] below meth c T1 _ 1 3 := X1
  rcases hQ1 with ⟨b2, rfl, Nq11, K12, sz10, f3, f4, f5, f6, f7, f8, f9⟩
  · have Kt14 : Keep h0 h0 [ar, a0, a1] := Keep.refl _ _
    have ne15 : a0 ≠ b2 := Nat.ne_of_lt (Nat.lt_of_lt_of_le F0.lt sz10)
    have ne16 : ar ≠ b2 := Nat.ne_of_lt (Nat.lt_of_lt_of_le F3.lt sz10)
    have ne17 : a1 ≠ b2 := Nat.ne_of_lt (Nat.lt_of_lt_of_le F5.lt sz10)
    have ge18 : n0 ≤ b2 := Nat.le_trans Z0 sz10
    have sz19 : h0.size ≤ b2 := Nat.le_trans Kt14.1 sz10
    have KK12 := K12
    have f20 : Exa Z T1.heap a0 cD := F0.keep KK12
    have f21 : Exa Z T1.heap a1 cL := F5.keep KK12
    have f22 : Fld Z T1.heap a1 cL "next" dL nl := F6.keep KK12 (ninS Ne1 (ninS Ne2 nin0))
    have f23 : Fld Z T1.heap a1 cL "prev" dL pl := F7.keep KK12 (ninS Ne1 (ninS Ne2 nin0))
    have KpK12 : Keep h0 T1.heap [ar, a0, a1] := Kt14.trans K12 (allS (Or.inl (List.mem_of_getElem? (i := 1) rfl)) (allS (Or.inl (List.mem_of_getElem? (i := 0) rfl)) all0))
    have Z24 : n0 ≤ T1.heap.size := Nat.le_trans Z0 K12.1
    have N25 := Fr.app N0 Nq11
    refine Goes.by (fun _ k => st1.trans k) ?_
    show Goes p.tables e below _ (T1.setTop (mkF m 5 #[.val (.ref a0), .val (.ref a1), .val (.long q2), .second, .unset] [(.ref b2)]))
    refine Goes.by (B := T1.setTop (mkF m 10 #[.val (.ref a0), .val (.ref a1), .val (.long q2), .second, .val (.ref b2)] [(.ref b2), (.ref a1)])) (fun t k => ?_) ?_
    · refine XS.astore X1.here hx rfl (hb hby d5_5) rfl rfl (l' := #[.val (.ref a0), .val (.ref a1), .val (.long q2), .second, .val (.ref b2)]) rfl ?_
      refine XS.aloadN X1.here hx rfl (hb hby d5_7) rfl rfl ?_
      refine XS.aload X1.here hx rfl (hb hby d5_8) rfl rfl ?_
      exact k
    refine Goes.by (B := T1.setTop (mkF m 13 #[.val (.ref a0), .val (.ref a1), .val (.long q2), .second, .val (.ref b2)] [(.ref b2), (.ref a1)])) (fun t k => ?_) ?_
    · refine getFR X1 hx hZ hown (wq hw 58 rfl) rfl f9 (g := (mkF m 10 #[.val (.ref a0), .val (.ref a1), .val (.long q2), .second, .val (.ref b2)] [(.ref b2), (.ref a1)])) rfl rfl (hb hby d5_10) ?_
      exact k
    obtain ⟨T27, h27, X27, e27, W27, st27⟩ := putFR X1 hx hZ hown (wq hw 58 rfl) rfl f23 f21 (wq hw 59 rfl) (wq hw 14 rfl) (ty := (.object cL)) (by decide) rfl rfl (g := (mkF m 13 #[.val (.ref a0), .val (.ref a1), .val (.long q2), .second, .val (.ref b2)] [(.ref b2), (.ref a1)])) rfl rfl (hb hby d5_13)
    have f28 : Exa Z h27 a0 cD := f20.wr W27
    have f29 : Exa Z h27 a1 cL := f21.wr W27
    have f30 : Fld Z h27 a1 cL "next" dL nl := f22.other W27 (Or.inr (slot_ne (Or.inl (wq hw 24 rfl)) (Or.inl (wq hw 59 rfl)) (by decide) (t := (.object cL)) (t' := (.object cL)) (by decide) (by decide)))
    have f31 : Fld Z h27 a0 cD "heads" dA (.ref ar) := f3.other W27 (Or.inl (Ne.symm Ne1))
    have f32 : Fld Z h27 a0 cD "count" "I" (.int (1 : Int32)) := f4.other W27 (Or.inl (Ne.symm Ne1))
    have f33 : Arv Z h27 ar kA (.object cH) (4 : Int32) [(.ref b2), .null, .null, .null] .null := f5.other W27 (Ne.symm Ne2)
    have f34 : Exa Z h27 b2 cH := f6.wr W27
    have f35 : Fld Z h27 b2 cH "tick" "J" (.long q2) := f7.other W27 (Or.inl (Ne.symm ne17))
    have f36 : Fld Z h27 b2 cL "next" dL (.ref b2) := f8.other W27 (Or.inl (Ne.symm ne17))
    have f37 : Fld Z h27 b2 cL "prev" dL (.ref b2) := f9.other W27 (Or.inl (Ne.symm ne17))
    have f38 : Fld Z h27 a1 cL "prev" dL (.ref b2) := f23.same W27
    have Kp27 : Keep h0 h27 [ar, a0, a1] := KpK12.wr W27 (Or.inl (List.mem_of_getElem? (i := 2) rfl))
    have Z39 : n0 ≤ h27.size := Nat.le_trans Z24 (Nat.le_of_eq W27.size.symm)
    have N40 := Fr.snoc X27 N25 Ge2
    refine Goes.by st27 ?_
    clear f20 f21 f22 f23 f3 f4 f5 f6 f7 f8 f9 X1 N25 Z24 KpK12
    refine Goes.by (B := T27.setTop (mkF m 19 #[.val (.ref a0), .val (.ref a1), .val (.long q2), .second, .val (.ref b2)] [(.ref b2), (.ref a1)])) (fun t k => ?_) ?_
    · refine XS.aloadN X27.here hx rfl (hb hby d5_16) rfl rfl ?_
      refine XS.aload X27.here hx rfl (hb hby d5_17) rfl rfl ?_
      exact k
    obtain ⟨T41, h41, X41, e41, W41, st41⟩ := putFR X27 hx hZ hown (wq hw 23 rfl) e27 f30 f29 (wq hw 24 rfl) (wq hw 14 rfl) (ty := (.object cL)) (by decide) rfl rfl (g := (mkF m 19 #[.val (.ref a0), .val (.ref a1), .val (.long q2), .second, .val (.ref b2)] [(.ref b2), (.ref a1)])) rfl rfl (hb hby d5_19)
    have f42 : Exa Z h41 a0 cD := f28.wr W41
    have f43 : Exa Z h41 a1 cL := f29.wr W41
    have f44 : Fld Z h41 a0 cD "heads" dA (.ref ar) := f31.other W41 (Or.inl (Ne.symm Ne1))
    have f45 : Fld Z h41 a0 cD "count" "I" (.int (1 : Int32)) := f32.other W41 (Or.inl (Ne.symm Ne1))
    have f46 : Arv Z h41 ar kA (.object cH) (4 : Int32) [(.ref b2), .null, .null, .null] .null := f33.other W41 (Ne.symm Ne2)
    have f47 : Exa Z h41 b2 cH := f34.wr W41
    have f48 : Fld Z h41 b2 cH "tick" "J" (.long q2) := f35.other W41 (Or.inl (Ne.symm ne17))
    have f49 : Fld Z h41 b2 cL "next" dL (.ref b2) := f36.other W41 (Or.inl (Ne.symm ne17))
    have f50 : Fld Z h41 b2 cL "prev" dL (.ref b2) := f37.other W41 (Or.inl (Ne.symm ne17))
    have f51 : Fld Z h41 a1 cL "prev" dL (.ref b2) := f38.other W41 (Or.inr (slot_ne (Or.inl (wq hw 59 rfl)) (Or.inl (wq hw 24 rfl)) (by decide) (t := (.object cL)) (t' := (.object cL)) (by decide) (by decide)))
    have f52 : Fld Z h41 a1 cL "next" dL (.ref b2) := f30.same W41
    have Kp41 : Keep h0 h41 [ar, a0, a1] := Kp27.wr W41 (Or.inl (List.mem_of_getElem? (i := 2) rfl))
    have Z53 : n0 ≤ h41.size := Nat.le_trans Z39 (Nat.le_of_eq W41.size.symm)
    have N54 := Fr.snoc X41 N40 Ge2
    refine Goes.by st41 ?_
    clear f28 f29 f30 f31 f32 f33 f34 f35 f36 f37 f38 X27 N40 Z39 Kp27 e27
    refine Goes.by (B := T41.setTop (mkF m 24 #[.val (.ref a0), .val (.ref a1), .val (.long q2), .second, .val (.ref b2)] [(.ref b2)])) (fun t k => ?_) ?_
    · refine XS.aload X41.here hx rfl (hb hby d5_22) rfl rfl ?_
      exact k
    refine Goes.by (B := T41.setTop (mkF m 28 #[.val (.ref a0), .val (.ref a1), .val (.long q2), .second, .val (.ref b2)] [(.ref a1), (.ref b2)])) (fun t k => ?_) ?_
    · refine getFR X41 hx hZ hown (wq hw 58 rfl) e41 f50 (g := (mkF m 24 #[.val (.ref a0), .val (.ref a1), .val (.long q2), .second, .val (.ref b2)] [(.ref b2)])) rfl rfl (hb hby d5_24) ?_
      refine XS.aloadN X41.here hx rfl (hb hby d5_27) rfl rfl ?_
      exact k
    obtain ⟨T56, h56, X56, e56, W56, st56⟩ := putFR X41 hx hZ hown (wq hw 23 rfl) e41 f49 f47 (wq hw 54 rfl) (wq hw 44 rfl) (ty := (.object cL)) (by decide) rfl rfl (g := (mkF m 28 #[.val (.ref a0), .val (.ref a1), .val (.long q2), .second, .val (.ref b2)] [(.ref a1), (.ref b2)])) rfl rfl (hb hby d5_28)
    have f57 : Exa Z h56 a0 cD := f42.wr W56
    have f58 : Exa Z h56 a1 cL := f43.wr W56
    have f59 : Fld Z h56 a0 cD "heads" dA (.ref ar) := f44.other W56 (Or.inl ne15)
    have f60 : Fld Z h56 a0 cD "count" "I" (.int (1 : Int32)) := f45.other W56 (Or.inl ne15)
    have f61 : Arv Z h56 ar kA (.object cH) (4 : Int32) [(.ref b2), .null, .null, .null] .null := f46.other W56 ne16
    have f62 : Exa Z h56 b2 cH := f47.wr W56
    have f63 : Fld Z h56 b2 cH "tick" "J" (.long q2) := f48.other W56 (Or.inr (slot_ne (Or.inr (wq hw 52 rfl)) (Or.inl (wq hw 54 rfl)) (by decide) (t := .long) (t' := (.object cL)) (by decide) (by decide)))
    have f64 : Fld Z h56 b2 cL "prev" dL (.ref b2) := f50.other W56 (Or.inr (slot_ne (Or.inl (wq hw 56 rfl)) (Or.inl (wq hw 54 rfl)) (by decide) (t := (.object cL)) (t' := (.object cL)) (by decide) (by decide)))
    have f65 : Fld Z h56 a1 cL "prev" dL (.ref b2) := f51.other W56 (Or.inl ne17)
    have f66 : Fld Z h56 a1 cL "next" dL (.ref b2) := f52.other W56 (Or.inl ne17)
    have f67 : Fld Z h56 b2 cL "next" dL (.ref a1) := f49.same W56
    have Kp56 : Keep h0 h56 [ar, a0, a1] := Kp41.wr W56 (Or.inr sz19)
    have Z68 : n0 ≤ h56.size := Nat.le_trans Z53 (Nat.le_of_eq W56.size.symm)
    have N69 := Fr.snoc X56 N54 ge18
    refine Goes.by st56 ?_
    clear f42 f43 f44 f45 f46 f47 f48 f49 f50 f51 f52 X41 N54 Z53 Kp41 e41
    refine Goes.by (B := T56.setTop (mkF m 34 #[.val (.ref a0), .val (.ref a1), .val (.long q2), .second, .val (.ref b2)] [(.ref a1), (.ref b2)])) (fun t k => ?_) ?_
    · refine XS.aload X56.here hx rfl (hb hby d5_31) rfl rfl ?_
      refine XS.aloadN X56.here hx rfl (hb hby d5_33) rfl rfl ?_
      exact k
    obtain ⟨T70, h70, X70, e70, W70, st70⟩ := putFR X56 hx hZ hown (wq hw 58 rfl) e56 f64 f62 (wq hw 56 rfl) (wq hw 44 rfl) (ty := (.object cL)) (by decide) rfl rfl (g := (mkF m 34 #[.val (.ref a0), .val (.ref a1), .val (.long q2), .second, .val (.ref b2)] [(.ref a1), (.ref b2)])) rfl rfl (hb hby d5_34)
    have f71 : Exa Z h70 a0 cD := f57.wr W70
    have f72 : Exa Z h70 a1 cL := f58.wr W70
    have f73 : Fld Z h70 a0 cD "heads" dA (.ref ar) := f59.other W70 (Or.inl ne15)
    have f74 : Fld Z h70 a0 cD "count" "I" (.int (1 : Int32)) := f60.other W70 (Or.inl ne15)
    have f75 : Arv Z h70 ar kA (.object cH) (4 : Int32) [(.ref b2), .null, .null, .null] .null := f61.other W70 ne16
    have f76 : Exa Z h70 b2 cH := f62.wr W70
    have f77 : Fld Z h70 b2 cH "tick" "J" (.long q2) := f63.other W70 (Or.inr (slot_ne (Or.inr (wq hw 52 rfl)) (Or.inl (wq hw 56 rfl)) (by decide) (t := .long) (t' := (.object cL)) (by decide) (by decide)))
    have f78 : Fld Z h70 a1 cL "prev" dL (.ref b2) := f65.other W70 (Or.inl ne17)
    have f79 : Fld Z h70 a1 cL "next" dL (.ref b2) := f66.other W70 (Or.inl ne17)
    have f80 : Fld Z h70 b2 cL "next" dL (.ref a1) := f67.other W70 (Or.inr (slot_ne (Or.inl (wq hw 54 rfl)) (Or.inl (wq hw 56 rfl)) (by decide) (t := (.object cL)) (t' := (.object cL)) (by decide) (by decide)))
    have f81 : Fld Z h70 b2 cL "prev" dL (.ref a1) := f64.same W70
    have Kp70 : Keep h0 h70 [ar, a0, a1] := Kp56.wr W70 (Or.inr sz19)
    have Z82 : n0 ≤ h70.size := Nat.le_trans Z68 (Nat.le_of_eq W70.size.symm)
    have N83 := Fr.snoc X70 N69 ge18
    refine Goes.by st70 ?_
    clear f57 f58 f59 f60 f61 f62 f63 f64 f65 f66 f67 X56 N69 Z68 Kp56 e56
    obtain ⟨fs, hr, hrun, hended, hW, hsame⟩ := X70.leave (v := none) (fun _ => rfl)
    refine Goes.mk _ _ ?_ ⟨hrun, hended, _, _, rfl, ?_, ⟨_, rfl⟩, hW, hsame.mono (by decide) (by decide)⟩
    · exact X70.returnOut hx Bd.returns (hb hby d5_37) hr
    · show QFile0 Z a0 a1 q2 ar kA nl pl h0 n0 _ T70.heap _
      rw [e70]
      exact ⟨b2, rfl, N83, Kp70, sz19, f73, f74, f75, f76, f77, f80, f81, f79, f78⟩
def QFile1 (Z : State) (a0 : Addr) (a1 : Addr) (q2 : Int64) (ar : Addr) (kA : ClassId) (x1 : Addr) (t1 : Int64) (nl : Value) (pl : Value) (z1 : Addr) (w1 : Value) (nx1 : Value) (pz1 : Value) (h0 : Heap) (n0 : Nat) (v : Option Value) (h : Heap) (L : List Loc) : Prop := (t1 = q2 ∧ v = none ∧ Fr n0 L ∧ Keep h0 h [a1, z1, x1] ∧ Fld Z h a1 cL "next" dL (.ref x1) ∧ Fld Z h a1 cL "prev" dL (.ref z1) ∧ Fld Z h z1 cL "next" dL (.ref a1) ∧ Fld Z h z1 cL "prev" dL pz1 ∧ Fld Z h x1 cL "next" dL nx1 ∧ Fld Z h x1 cL "prev" dL (.ref a1) ∧ Fld Z h x1 cH "tick" "J" (.long t1)) ∨ (∃ b5 : Addr, ¬ (t1 = q2) ∧ fDue1 q2 t1 = (0 : Int32) ∧ v = none ∧ Fr n0 L ∧ Keep h0 h [ar, a0, a1] ∧ h0.size ≤ b5 ∧ Fld Z h a0 cD "heads" dA (.ref ar) ∧ Fld Z h a0 cD "count" "I" (.int (2 : Int32)) ∧ Arv Z h ar kA (.object cH) (4 : Int32) [(.ref b5), (.ref x1), .null, .null] .null ∧ Exa Z h b5 cH ∧ Fld Z h b5 cH "tick" "J" (.long q2) ∧ Fld Z h b5 cL "next" dL (.ref a1) ∧ Fld Z h b5 cL "prev" dL (.ref a1) ∧ Fld Z h a1 cL "next" dL (.ref b5) ∧ Fld Z h a1 cL "prev" dL (.ref b5)) ∨ (∃ b18 : Addr, ¬ (t1 = q2) ∧ fDue1 q2 t1 = (1 : Int32) ∧ v = none ∧ Fr n0 L ∧ Keep h0 h [ar, a0, a1] ∧ h0.size ≤ b18 ∧ Fld Z h a0 cD "heads" dA (.ref ar) ∧ Fld Z h a0 cD "count" "I" (.int (2 : Int32)) ∧ Arv Z h ar kA (.object cH) (4 : Int32) [(.ref x1), (.ref b18), .null, .null] .null ∧ Exa Z h b18 cH ∧ Fld Z h b18 cH "tick" "J" (.long q2) ∧ Fld Z h b18 cL "next" dL (.ref a1) ∧ Fld Z h b18 cL "prev" dL (.ref a1) ∧ Fld Z h a1 cL "next" dL (.ref b18) ∧ Fld Z h a1 cL "prev" dL (.ref b18))
theorem efFile1 (m : MethodId) (x0 : Addr) (x1 : Addr) (x2 : Int64) : entryFrame m #[(.ref x0), (.ref x1), (.long x2)] 5 = mkF m 0 #[.val (.ref x0), .val (.ref x1), .val (.long x2), .second, .unset] [] := by first | (simp [entryFrame, mkF, argsToLocals, Value.category]; done) | rfl
set_option maxRecDepth 65536 in
set_option maxHeartbeats 40000000 in
theorem rmFile1 (l : Launch) (Z : State) (az : Array Value) (hw : ∀ d ∈ tables_1, d.before az Z = true) (ws : List Jvm.Cond) (a0 : Addr) (a1 : Addr) (q2 : Int64) (ar : Addr) (kA : ClassId) (x1 : Addr) (t1 : Int64) (nl : Value) (pl : Value) (z1 : Addr) (w1 : Value) (nx1 : Value) (pz1 : Value) (h0 : Heap) (n0 : Nat) (Z0 : n0 ≤ h0.size) (F0 : Exa Z h0 a0 cD) (F1 : Fld Z h0 a0 cD "heads" dA (.ref ar)) (F2 : Fld Z h0 a0 cD "count" "I" (.int (1 : Int32))) (F3 : Arv Z h0 ar kA (.object cH) (4 : Int32) [(.ref x1), .null, .null, .null] .null) (F4 : Ovr Z kA cH) (F5 : Exa Z h0 x1 cH) (F6 : Fld Z h0 x1 cH "tick" "J" (.long t1)) (F7 : Exa Z h0 a1 cL) (F8 : Fld Z h0 a1 cL "next" dL nl) (F9 : Fld Z h0 a1 cL "prev" dL pl) (F10 : Fld Z h0 x1 cL "prev" dL (.ref z1)) (F11 : Exa Z h0 z1 cL) (F12 : Fld Z h0 z1 cL "next" dL w1) (F13 : Fld Z h0 x1 cL "next" dL nx1) (F14 : Fld Z h0 z1 cL "prev" dL pz1) (Ne0 : a0 ≠ ar) (Ne1 : x1 ≠ a0) (Ne2 : x1 ≠ ar) (Ne3 : a1 ≠ a0) (Ne4 : a1 ≠ ar) (Ne5 : a1 ≠ x1) (Ne6 : a1 ≠ z1) (Ne7 : x1 ≠ z1) (Ge0 : n0 ≤ a0) (Ge1 : n0 ≤ ar) (Ge2 : n0 ≤ a1) (Ge3 : n0 ≤ x1) (Ge4 : n0 ≤ z1) :
    MetFree l y3 (head1 (Jvm.Cond.code y3 prog_4_method_5_code 5 none :: ws) ({ frames := 4, cells := 1, slots := 3, locals := 55 } : Room)) (fun a U => a = #[(.ref a0), (.ref a1), (.long q2)] ∧ Z.Warmed39 U.vm ∧ U.heap = h0) (fun _ _ _ _ _ => True) (fun _ U o U' => ∃ v L, o = .returned v ∧ QFile1 Z a0 a1 q2 ar kA x1 t1 nl pl z1 w1 nx1 pz1 h0 n0 v U'.heap L ∧ FrameEnd U o U' L ({ frames := 4, cells := 1, slots := 3, locals := 55 } : Room).cells ({ frames := 4, cells := 1, slots := 3, locals := 55 } : Room).slots) := by
  refine MetFree.of_bodySF (plainFor_of_name own_pn_com_example_admit_one_admitone_engine_DueOrder) hisR ?_
  intro p e s m args below meth c s₁ Bd hml0 hP hK
  obtain ⟨rfl, hZ, hh⟩ := hP
  have hx := Bd.exec
  have hby := Bd.bytes
  have hml : c.maxLocals = 5 := hml0
  have hown : s.vm.findClass cD = some m.cls := findClass_of_methodNamed Bd.named
  have hnm := (name_of_methodNamed Bd.named Bd.method).1
  have X0 : Stand p l e ({ frames := 4, cells := 1, slots := 3, locals := 55 } : Room) s m #[(.ref a0), (.ref a1), (.long q2)] below meth c s₁ [] 0 0 := Stand.of_body Bd
  have e0 : s₁.heap = h0 := by rw [← hh, Bd.state]; rfl
  have N0 := Fr.nil n0
  have Kp0 : Keep h0 h0 [] := Keep.refl _ _
  refine Goes.start ?_
  refine Goes.by (B := s₁.setTop (mkF m 0 #[.val (.ref a0), .val (.ref a1), .val (.long q2), .second, .unset] [])) (fun t k => castTop (efFile1 m a0 a1 q2) k) ?_
  refine Goes.by (B := s₁.setTop (mkF m 2 #[.val (.ref a0), .val (.ref a1), .val (.long q2), .second, .unset] [(.long q2), (.ref a0)])) (fun t k => ?_) ?_
  · refine XS.aloadN X0.here hx rfl (hb hby d5_0) rfl rfl ?_
    refine XS.lloadN X0.here hx rfl (hb hby d5_1) rfl ?_
    exact k
  obtain ⟨cq1, q1, q1'⟩ := (F0).cell
  obtain ⟨_, _, ⟨T1, L1, k1, n1⟩, -, X1, ⟨Lc1, hQ1, l1, y1, z1⟩, st1⟩ := X0.privateBack hx (y := y4) hown (mvT hZ (wq hw 30 rfl)) (mvT hZ (wq hw 31 rfl)) (own_sel hZ (wq hw 1 rfl) (wq hw 32 rfl) (wq hw 31 rfl) (by decide)) (Cond.privateMethod_at (mvP hZ (wq hw 32 rfl) (args := #[]))) (mvT hZ (wq hw 33 rfl)) (by decide) (backOf (W := 0) (rmHeadOf1 l Z az hw [] a0 q2 ar kA x1 t1 h0 n0 Z0 F0 F1 F2 F3 F4 F5 F6 Ne0 Ne1 Ne2 Ge0 Ge1) hZ (wq hw 33 rfl) (wq hw 2 rfl) (by decide) (by decide)) (g := (mkF m 2 #[.val (.ref a0), .val (.ref a1), .val (.long q2), .second, .unset] [(.long q2), (.ref a0)])) rfl (by rw [hml]; rfl) (Steps.refl _) (a := a0) (by rw [e0]; exact q1) q1' (argsL := [(.long q2)]) (rest := []) (lenOf own_pd3 rfl) rfl (by show 2 * 0 + _ ≤ _; exact Nat.le_of_eq rfl) (hb hby d5_2) (fun _ _ => ⟨rfl, e0, (by decide : 0 + 1 ≤ _), (by decide : 0 + 3 ≤ _)⟩)
  dsimp only [Pt.U, Pt.locs, Pt.cells, Pt.slots] at X1 l1 y1 z1 st1 hQ1
  subst l1 y1 z1
  replace X1 : Stand p l e ({ frames := 4, cells := 1, slots := 3, locals := 55 } : Room) s m #[(.ref a0), (.ref a1), (.long q2)] below meth c T1 _ 1 3 := X1
  rcases hQ1 with ⟨hd2, rfl, Nq3, K4⟩ | ⟨b5, hd6, hd7, rfl, Nq16, K17, sz15, f8, f9, f10, f11, f12, f13, f14⟩ | ⟨b18, hd19, hd20, rfl, Nq29, K30, sz28, f21, f22, f23, f24, f25, f26, f27⟩
  · have Kt32 : Keep h0 h0 [a1, z1, x1] := Keep.refl _ _
    have N33 := Fr.app N0 Nq3
    refine Goes.by (fun _ k => st1.trans k) ?_
    show Goes p.tables e below _ (T1.setTop (mkF m 5 #[.val (.ref a0), .val (.ref a1), .val (.long q2), .second, .unset] [(.ref x1)]))
    refine Goes.by (B := T1.setTop (mkF m 10 #[.val (.ref a0), .val (.ref a1), .val (.long q2), .second, .val (.ref x1)] [(.ref x1), (.ref a1)])) (fun t k => ?_) ?_
    · refine XS.astore X1.here hx rfl (hb hby d5_5) rfl rfl (l' := #[.val (.ref a0), .val (.ref a1), .val (.long q2), .second, .val (.ref x1)]) rfl ?_
      refine XS.aloadN X1.here hx rfl (hb hby d5_7) rfl rfl ?_
      refine XS.aload X1.here hx rfl (hb hby d5_8) rfl rfl ?_
      exact k
    refine Goes.by (B := T1.setTop (mkF m 13 #[.val (.ref a0), .val (.ref a1), .val (.long q2), .second, .val (.ref x1)] [(.ref z1), (.ref a1)])) (fun t k => ?_) ?_
    · refine getFR X1 hx hZ hown (wq hw 58 rfl) K4 F10 (g := (mkF m 10 #[.val (.ref a0), .val (.ref a1), .val (.long q2), .second, .val (.ref x1)] [(.ref x1), (.ref a1)])) rfl rfl (hb hby d5_10) ?_
      exact k
    obtain ⟨T35, h35, X35, e35, W35, st35⟩ := putFR X1 hx hZ hown (wq hw 58 rfl) K4 F9 F7 (wq hw 59 rfl) (wq hw 14 rfl) (ty := (.object cL)) (by decide) rfl rfl (g := (mkF m 13 #[.val (.ref a0), .val (.ref a1), .val (.long q2), .second, .val (.ref x1)] [(.ref z1), (.ref a1)])) rfl rfl (hb hby d5_13)
    have f36 : Exa Z h35 x1 cH := F5.wr W35
    have f37 : Fld Z h35 x1 cH "tick" "J" (.long t1) := F6.other W35 (Or.inl (Ne.symm Ne5))
    have f38 : Exa Z h35 a1 cL := F7.wr W35
    have f39 : Fld Z h35 a1 cL "next" dL nl := F8.other W35 (Or.inr (slot_ne (Or.inl (wq hw 24 rfl)) (Or.inl (wq hw 59 rfl)) (by decide) (t := (.object cL)) (t' := (.object cL)) (by decide) (by decide)))
    have f40 : Fld Z h35 x1 cL "prev" dL (.ref z1) := F10.other W35 (Or.inl (Ne.symm Ne5))
    have f41 : Exa Z h35 z1 cL := F11.wr W35
    have f42 : Fld Z h35 z1 cL "next" dL w1 := F12.other W35 (Or.inl (Ne.symm Ne6))
    have f43 : Fld Z h35 x1 cL "next" dL nx1 := F13.other W35 (Or.inl (Ne.symm Ne5))
    have f44 : Fld Z h35 z1 cL "prev" dL pz1 := F14.other W35 (Or.inl (Ne.symm Ne6))
    have f45 : Fld Z h35 a1 cL "prev" dL (.ref z1) := F9.same W35
    have Kp35 : Keep h0 h35 [a1, z1, x1] := Kt32.wr W35 (Or.inl (List.mem_of_getElem? (i := 0) rfl))
    have Z46 : n0 ≤ h35.size := Nat.le_trans Z0 (Nat.le_of_eq W35.size.symm)
    have N47 := Fr.snoc X35 N33 Ge2
    refine Goes.by st35 ?_
    clear X1 N33 Kt32 K4
    refine Goes.by (B := T35.setTop (mkF m 19 #[.val (.ref a0), .val (.ref a1), .val (.long q2), .second, .val (.ref x1)] [(.ref x1), (.ref a1)])) (fun t k => ?_) ?_
    · refine XS.aloadN X35.here hx rfl (hb hby d5_16) rfl rfl ?_
      refine XS.aload X35.here hx rfl (hb hby d5_17) rfl rfl ?_
      exact k
    obtain ⟨T48, h48, X48, e48, W48, st48⟩ := putFR X35 hx hZ hown (wq hw 23 rfl) e35 f39 f38 (wq hw 24 rfl) (wq hw 14 rfl) (ty := (.object cL)) (by decide) rfl rfl (g := (mkF m 19 #[.val (.ref a0), .val (.ref a1), .val (.long q2), .second, .val (.ref x1)] [(.ref x1), (.ref a1)])) rfl rfl (hb hby d5_19)
    have f49 : Exa Z h48 x1 cH := f36.wr W48
    have f50 : Fld Z h48 x1 cH "tick" "J" (.long t1) := f37.other W48 (Or.inl (Ne.symm Ne5))
    have f51 : Exa Z h48 a1 cL := f38.wr W48
    have f52 : Fld Z h48 x1 cL "prev" dL (.ref z1) := f40.other W48 (Or.inl (Ne.symm Ne5))
    have f53 : Exa Z h48 z1 cL := f41.wr W48
    have f54 : Fld Z h48 z1 cL "next" dL w1 := f42.other W48 (Or.inl (Ne.symm Ne6))
    have f55 : Fld Z h48 x1 cL "next" dL nx1 := f43.other W48 (Or.inl (Ne.symm Ne5))
    have f56 : Fld Z h48 z1 cL "prev" dL pz1 := f44.other W48 (Or.inl (Ne.symm Ne6))
    have f57 : Fld Z h48 a1 cL "prev" dL (.ref z1) := f45.other W48 (Or.inr (slot_ne (Or.inl (wq hw 59 rfl)) (Or.inl (wq hw 24 rfl)) (by decide) (t := (.object cL)) (t' := (.object cL)) (by decide) (by decide)))
    have f58 : Fld Z h48 a1 cL "next" dL (.ref x1) := f39.same W48
    have Kp48 : Keep h0 h48 [a1, z1, x1] := Kp35.wr W48 (Or.inl (List.mem_of_getElem? (i := 0) rfl))
    have Z59 : n0 ≤ h48.size := Nat.le_trans Z46 (Nat.le_of_eq W48.size.symm)
    have N60 := Fr.snoc X48 N47 Ge2
    refine Goes.by st48 ?_
    clear f36 f37 f38 f39 f40 f41 f42 f43 f44 f45 X35 N47 Z46 Kp35 e35
    refine Goes.by (B := T48.setTop (mkF m 24 #[.val (.ref a0), .val (.ref a1), .val (.long q2), .second, .val (.ref x1)] [(.ref x1)])) (fun t k => ?_) ?_
    · refine XS.aload X48.here hx rfl (hb hby d5_22) rfl rfl ?_
      exact k
    refine Goes.by (B := T48.setTop (mkF m 28 #[.val (.ref a0), .val (.ref a1), .val (.long q2), .second, .val (.ref x1)] [(.ref a1), (.ref z1)])) (fun t k => ?_) ?_
    · refine getFR X48 hx hZ hown (wq hw 58 rfl) e48 f52 (g := (mkF m 24 #[.val (.ref a0), .val (.ref a1), .val (.long q2), .second, .val (.ref x1)] [(.ref x1)])) rfl rfl (hb hby d5_24) ?_
      refine XS.aloadN X48.here hx rfl (hb hby d5_27) rfl rfl ?_
      exact k
    obtain ⟨T62, h62, X62, e62, W62, st62⟩ := putFR X48 hx hZ hown (wq hw 23 rfl) e48 f54 f53 (wq hw 24 rfl) (wq hw 14 rfl) (ty := (.object cL)) (by decide) rfl rfl (g := (mkF m 28 #[.val (.ref a0), .val (.ref a1), .val (.long q2), .second, .val (.ref x1)] [(.ref a1), (.ref z1)])) rfl rfl (hb hby d5_28)
    have f63 : Exa Z h62 x1 cH := f49.wr W62
    have f64 : Fld Z h62 x1 cH "tick" "J" (.long t1) := f50.other W62 (Or.inl Ne7)
    have f65 : Exa Z h62 a1 cL := f51.wr W62
    have f66 : Fld Z h62 x1 cL "prev" dL (.ref z1) := f52.other W62 (Or.inl Ne7)
    have f67 : Exa Z h62 z1 cL := f53.wr W62
    have f68 : Fld Z h62 x1 cL "next" dL nx1 := f55.other W62 (Or.inl Ne7)
    have f69 : Fld Z h62 z1 cL "prev" dL pz1 := f56.other W62 (Or.inr (slot_ne (Or.inl (wq hw 59 rfl)) (Or.inl (wq hw 24 rfl)) (by decide) (t := (.object cL)) (t' := (.object cL)) (by decide) (by decide)))
    have f70 : Fld Z h62 a1 cL "prev" dL (.ref z1) := f57.other W62 (Or.inl Ne6)
    have f71 : Fld Z h62 a1 cL "next" dL (.ref x1) := f58.other W62 (Or.inl Ne6)
    have f72 : Fld Z h62 z1 cL "next" dL (.ref a1) := f54.same W62
    have Kp62 : Keep h0 h62 [a1, z1, x1] := Kp48.wr W62 (Or.inl (List.mem_of_getElem? (i := 1) rfl))
    have Z73 : n0 ≤ h62.size := Nat.le_trans Z59 (Nat.le_of_eq W62.size.symm)
    have N74 := Fr.snoc X62 N60 Ge4
    refine Goes.by st62 ?_
    clear f49 f50 f51 f52 f53 f54 f55 f56 f57 f58 X48 N60 Z59 Kp48 e48
    refine Goes.by (B := T62.setTop (mkF m 34 #[.val (.ref a0), .val (.ref a1), .val (.long q2), .second, .val (.ref x1)] [(.ref a1), (.ref x1)])) (fun t k => ?_) ?_
    · refine XS.aload X62.here hx rfl (hb hby d5_31) rfl rfl ?_
      refine XS.aloadN X62.here hx rfl (hb hby d5_33) rfl rfl ?_
      exact k
    obtain ⟨T75, h75, X75, e75, W75, st75⟩ := putFR X62 hx hZ hown (wq hw 58 rfl) e62 f66 f63 (wq hw 56 rfl) (wq hw 44 rfl) (ty := (.object cL)) (by decide) rfl rfl (g := (mkF m 34 #[.val (.ref a0), .val (.ref a1), .val (.long q2), .second, .val (.ref x1)] [(.ref a1), (.ref x1)])) rfl rfl (hb hby d5_34)
    have f76 : Exa Z h75 x1 cH := f63.wr W75
    have f77 : Fld Z h75 x1 cH "tick" "J" (.long t1) := f64.other W75 (Or.inr (slot_ne (Or.inr (wq hw 52 rfl)) (Or.inl (wq hw 56 rfl)) (by decide) (t := .long) (t' := (.object cL)) (by decide) (by decide)))
    have f78 : Exa Z h75 a1 cL := f65.wr W75
    have f79 : Exa Z h75 z1 cL := f67.wr W75
    have f80 : Fld Z h75 x1 cL "next" dL nx1 := f68.other W75 (Or.inr (slot_ne (Or.inl (wq hw 54 rfl)) (Or.inl (wq hw 56 rfl)) (by decide) (t := (.object cL)) (t' := (.object cL)) (by decide) (by decide)))
    have f81 : Fld Z h75 z1 cL "prev" dL pz1 := f69.other W75 (Or.inl (Ne.symm Ne7))
    have f82 : Fld Z h75 a1 cL "prev" dL (.ref z1) := f70.other W75 (Or.inl Ne5)
    have f83 : Fld Z h75 a1 cL "next" dL (.ref x1) := f71.other W75 (Or.inl Ne5)
    have f84 : Fld Z h75 z1 cL "next" dL (.ref a1) := f72.other W75 (Or.inl (Ne.symm Ne7))
    have f85 : Fld Z h75 x1 cL "prev" dL (.ref a1) := f66.same W75
    have Kp75 : Keep h0 h75 [a1, z1, x1] := Kp62.wr W75 (Or.inl (List.mem_of_getElem? (i := 2) rfl))
    have Z86 : n0 ≤ h75.size := Nat.le_trans Z73 (Nat.le_of_eq W75.size.symm)
    have N87 := Fr.snoc X75 N74 Ge3
    refine Goes.by st75 ?_
    clear f63 f64 f65 f66 f67 f68 f69 f70 f71 f72 X62 N74 Z73 Kp62 e62
    obtain ⟨fs, hr, hrun, hended, hW, hsame⟩ := X75.leave (v := none) (fun _ => rfl)
    refine Goes.mk _ _ ?_ ⟨hrun, hended, _, _, rfl, ?_, ⟨_, rfl⟩, hW, hsame.mono (by decide) (by decide)⟩
    · exact X75.returnOut hx Bd.returns (hb hby d5_37) hr
    · show QFile1 Z a0 a1 q2 ar kA x1 t1 nl pl z1 w1 nx1 pz1 h0 n0 _ T75.heap _
      rw [e75]
      exact (Or.inl ⟨hd2, rfl, N87, Kp75, f83, f82, f84, f81, f80, f85, f77⟩)
  · have Kt89 : Keep h0 h0 [ar, a0, a1] := Keep.refl _ _
    have ne90 : a0 ≠ b5 := Nat.ne_of_lt (Nat.lt_of_lt_of_le F0.lt sz15)
    have ne91 : ar ≠ b5 := Nat.ne_of_lt (Nat.lt_of_lt_of_le F3.lt sz15)
    have ne92 : a1 ≠ b5 := Nat.ne_of_lt (Nat.lt_of_lt_of_le F7.lt sz15)
    have ge93 : n0 ≤ b5 := Nat.le_trans Z0 sz15
    have sz94 : h0.size ≤ b5 := Nat.le_trans Kt89.1 sz15
    have KK17 := K17
    have f95 : Exa Z T1.heap a0 cD := F0.keep KK17
    have f96 : Exa Z T1.heap a1 cL := F7.keep KK17
    have f97 : Fld Z T1.heap a1 cL "next" dL nl := F8.keep KK17 (ninS Ne3 (ninS Ne4 nin0))
    have f98 : Fld Z T1.heap a1 cL "prev" dL pl := F9.keep KK17 (ninS Ne3 (ninS Ne4 nin0))
    have KpK17 : Keep h0 T1.heap [ar, a0, a1] := Kt89.trans K17 (allS (Or.inl (List.mem_of_getElem? (i := 1) rfl)) (allS (Or.inl (List.mem_of_getElem? (i := 0) rfl)) all0))
    have Z99 : n0 ≤ T1.heap.size := Nat.le_trans Z0 K17.1
    have N100 := Fr.app N0 Nq16
    refine Goes.by (fun _ k => st1.trans k) ?_
    show Goes p.tables e below _ (T1.setTop (mkF m 5 #[.val (.ref a0), .val (.ref a1), .val (.long q2), .second, .unset] [(.ref b5)]))
    refine Goes.by (B := T1.setTop (mkF m 10 #[.val (.ref a0), .val (.ref a1), .val (.long q2), .second, .val (.ref b5)] [(.ref b5), (.ref a1)])) (fun t k => ?_) ?_
    · refine XS.astore X1.here hx rfl (hb hby d5_5) rfl rfl (l' := #[.val (.ref a0), .val (.ref a1), .val (.long q2), .second, .val (.ref b5)]) rfl ?_
      refine XS.aloadN X1.here hx rfl (hb hby d5_7) rfl rfl ?_
      refine XS.aload X1.here hx rfl (hb hby d5_8) rfl rfl ?_
      exact k
    refine Goes.by (B := T1.setTop (mkF m 13 #[.val (.ref a0), .val (.ref a1), .val (.long q2), .second, .val (.ref b5)] [(.ref b5), (.ref a1)])) (fun t k => ?_) ?_
    · refine getFR X1 hx hZ hown (wq hw 58 rfl) rfl f14 (g := (mkF m 10 #[.val (.ref a0), .val (.ref a1), .val (.long q2), .second, .val (.ref b5)] [(.ref b5), (.ref a1)])) rfl rfl (hb hby d5_10) ?_
      exact k
    obtain ⟨T102, h102, X102, e102, W102, st102⟩ := putFR X1 hx hZ hown (wq hw 58 rfl) rfl f98 f96 (wq hw 59 rfl) (wq hw 14 rfl) (ty := (.object cL)) (by decide) rfl rfl (g := (mkF m 13 #[.val (.ref a0), .val (.ref a1), .val (.long q2), .second, .val (.ref b5)] [(.ref b5), (.ref a1)])) rfl rfl (hb hby d5_13)
    have f103 : Exa Z h102 a0 cD := f95.wr W102
    have f104 : Exa Z h102 a1 cL := f96.wr W102
    have f105 : Fld Z h102 a1 cL "next" dL nl := f97.other W102 (Or.inr (slot_ne (Or.inl (wq hw 24 rfl)) (Or.inl (wq hw 59 rfl)) (by decide) (t := (.object cL)) (t' := (.object cL)) (by decide) (by decide)))
    have f106 : Fld Z h102 a0 cD "heads" dA (.ref ar) := f8.other W102 (Or.inl (Ne.symm Ne3))
    have f107 : Fld Z h102 a0 cD "count" "I" (.int (2 : Int32)) := f9.other W102 (Or.inl (Ne.symm Ne3))
    have f108 : Arv Z h102 ar kA (.object cH) (4 : Int32) [(.ref b5), (.ref x1), .null, .null] .null := f10.other W102 (Ne.symm Ne4)
    have f109 : Exa Z h102 b5 cH := f11.wr W102
    have f110 : Fld Z h102 b5 cH "tick" "J" (.long q2) := f12.other W102 (Or.inl (Ne.symm ne92))
    have f111 : Fld Z h102 b5 cL "next" dL (.ref b5) := f13.other W102 (Or.inl (Ne.symm ne92))
    have f112 : Fld Z h102 b5 cL "prev" dL (.ref b5) := f14.other W102 (Or.inl (Ne.symm ne92))
    have f113 : Fld Z h102 a1 cL "prev" dL (.ref b5) := f98.same W102
    have Kp102 : Keep h0 h102 [ar, a0, a1] := KpK17.wr W102 (Or.inl (List.mem_of_getElem? (i := 2) rfl))
    have Z114 : n0 ≤ h102.size := Nat.le_trans Z99 (Nat.le_of_eq W102.size.symm)
    have N115 := Fr.snoc X102 N100 Ge2
    refine Goes.by st102 ?_
    clear f95 f96 f97 f98 f8 f9 f10 f11 f12 f13 f14 X1 N100 Z99 KpK17
    refine Goes.by (B := T102.setTop (mkF m 19 #[.val (.ref a0), .val (.ref a1), .val (.long q2), .second, .val (.ref b5)] [(.ref b5), (.ref a1)])) (fun t k => ?_) ?_
    · refine XS.aloadN X102.here hx rfl (hb hby d5_16) rfl rfl ?_
      refine XS.aload X102.here hx rfl (hb hby d5_17) rfl rfl ?_
      exact k
    obtain ⟨T116, h116, X116, e116, W116, st116⟩ := putFR X102 hx hZ hown (wq hw 23 rfl) e102 f105 f104 (wq hw 24 rfl) (wq hw 14 rfl) (ty := (.object cL)) (by decide) rfl rfl (g := (mkF m 19 #[.val (.ref a0), .val (.ref a1), .val (.long q2), .second, .val (.ref b5)] [(.ref b5), (.ref a1)])) rfl rfl (hb hby d5_19)
    have f117 : Exa Z h116 a0 cD := f103.wr W116
    have f118 : Exa Z h116 a1 cL := f104.wr W116
    have f119 : Fld Z h116 a0 cD "heads" dA (.ref ar) := f106.other W116 (Or.inl (Ne.symm Ne3))
    have f120 : Fld Z h116 a0 cD "count" "I" (.int (2 : Int32)) := f107.other W116 (Or.inl (Ne.symm Ne3))
    have f121 : Arv Z h116 ar kA (.object cH) (4 : Int32) [(.ref b5), (.ref x1), .null, .null] .null := f108.other W116 (Ne.symm Ne4)
    have f122 : Exa Z h116 b5 cH := f109.wr W116
    have f123 : Fld Z h116 b5 cH "tick" "J" (.long q2) := f110.other W116 (Or.inl (Ne.symm ne92))
    have f124 : Fld Z h116 b5 cL "next" dL (.ref b5) := f111.other W116 (Or.inl (Ne.symm ne92))
    have f125 : Fld Z h116 b5 cL "prev" dL (.ref b5) := f112.other W116 (Or.inl (Ne.symm ne92))
    have f126 : Fld Z h116 a1 cL "prev" dL (.ref b5) := f113.other W116 (Or.inr (slot_ne (Or.inl (wq hw 59 rfl)) (Or.inl (wq hw 24 rfl)) (by decide) (t := (.object cL)) (t' := (.object cL)) (by decide) (by decide)))
    have f127 : Fld Z h116 a1 cL "next" dL (.ref b5) := f105.same W116
    have Kp116 : Keep h0 h116 [ar, a0, a1] := Kp102.wr W116 (Or.inl (List.mem_of_getElem? (i := 2) rfl))
    have Z128 : n0 ≤ h116.size := Nat.le_trans Z114 (Nat.le_of_eq W116.size.symm)
    have N129 := Fr.snoc X116 N115 Ge2
    refine Goes.by st116 ?_
    clear f103 f104 f105 f106 f107 f108 f109 f110 f111 f112 f113 X102 N115 Z114 Kp102 e102
    refine Goes.by (B := T116.setTop (mkF m 24 #[.val (.ref a0), .val (.ref a1), .val (.long q2), .second, .val (.ref b5)] [(.ref b5)])) (fun t k => ?_) ?_
    · refine XS.aload X116.here hx rfl (hb hby d5_22) rfl rfl ?_
      exact k
    refine Goes.by (B := T116.setTop (mkF m 28 #[.val (.ref a0), .val (.ref a1), .val (.long q2), .second, .val (.ref b5)] [(.ref a1), (.ref b5)])) (fun t k => ?_) ?_
    · refine getFR X116 hx hZ hown (wq hw 58 rfl) e116 f125 (g := (mkF m 24 #[.val (.ref a0), .val (.ref a1), .val (.long q2), .second, .val (.ref b5)] [(.ref b5)])) rfl rfl (hb hby d5_24) ?_
      refine XS.aloadN X116.here hx rfl (hb hby d5_27) rfl rfl ?_
      exact k
    obtain ⟨T131, h131, X131, e131, W131, st131⟩ := putFR X116 hx hZ hown (wq hw 23 rfl) e116 f124 f122 (wq hw 54 rfl) (wq hw 44 rfl) (ty := (.object cL)) (by decide) rfl rfl (g := (mkF m 28 #[.val (.ref a0), .val (.ref a1), .val (.long q2), .second, .val (.ref b5)] [(.ref a1), (.ref b5)])) rfl rfl (hb hby d5_28)
    have f132 : Exa Z h131 a0 cD := f117.wr W131
    have f133 : Exa Z h131 a1 cL := f118.wr W131
    have f134 : Fld Z h131 a0 cD "heads" dA (.ref ar) := f119.other W131 (Or.inl ne90)
    have f135 : Fld Z h131 a0 cD "count" "I" (.int (2 : Int32)) := f120.other W131 (Or.inl ne90)
    have f136 : Arv Z h131 ar kA (.object cH) (4 : Int32) [(.ref b5), (.ref x1), .null, .null] .null := f121.other W131 ne91
    have f137 : Exa Z h131 b5 cH := f122.wr W131
    have f138 : Fld Z h131 b5 cH "tick" "J" (.long q2) := f123.other W131 (Or.inr (slot_ne (Or.inr (wq hw 52 rfl)) (Or.inl (wq hw 54 rfl)) (by decide) (t := .long) (t' := (.object cL)) (by decide) (by decide)))
    have f139 : Fld Z h131 b5 cL "prev" dL (.ref b5) := f125.other W131 (Or.inr (slot_ne (Or.inl (wq hw 56 rfl)) (Or.inl (wq hw 54 rfl)) (by decide) (t := (.object cL)) (t' := (.object cL)) (by decide) (by decide)))
    have f140 : Fld Z h131 a1 cL "prev" dL (.ref b5) := f126.other W131 (Or.inl ne92)
    have f141 : Fld Z h131 a1 cL "next" dL (.ref b5) := f127.other W131 (Or.inl ne92)
    have f142 : Fld Z h131 b5 cL "next" dL (.ref a1) := f124.same W131
    have Kp131 : Keep h0 h131 [ar, a0, a1] := Kp116.wr W131 (Or.inr sz94)
    have Z143 : n0 ≤ h131.size := Nat.le_trans Z128 (Nat.le_of_eq W131.size.symm)
    have N144 := Fr.snoc X131 N129 ge93
    refine Goes.by st131 ?_
    clear f117 f118 f119 f120 f121 f122 f123 f124 f125 f126 f127 X116 N129 Z128 Kp116 e116
    refine Goes.by (B := T131.setTop (mkF m 34 #[.val (.ref a0), .val (.ref a1), .val (.long q2), .second, .val (.ref b5)] [(.ref a1), (.ref b5)])) (fun t k => ?_) ?_
    · refine XS.aload X131.here hx rfl (hb hby d5_31) rfl rfl ?_
      refine XS.aloadN X131.here hx rfl (hb hby d5_33) rfl rfl ?_
      exact k
    obtain ⟨T145, h145, X145, e145, W145, st145⟩ := putFR X131 hx hZ hown (wq hw 58 rfl) e131 f139 f137 (wq hw 56 rfl) (wq hw 44 rfl) (ty := (.object cL)) (by decide) rfl rfl (g := (mkF m 34 #[.val (.ref a0), .val (.ref a1), .val (.long q2), .second, .val (.ref b5)] [(.ref a1), (.ref b5)])) rfl rfl (hb hby d5_34)
    have f146 : Exa Z h145 a0 cD := f132.wr W145
    have f147 : Exa Z h145 a1 cL := f133.wr W145
    have f148 : Fld Z h145 a0 cD "heads" dA (.ref ar) := f134.other W145 (Or.inl ne90)
    have f149 : Fld Z h145 a0 cD "count" "I" (.int (2 : Int32)) := f135.other W145 (Or.inl ne90)
    have f150 : Arv Z h145 ar kA (.object cH) (4 : Int32) [(.ref b5), (.ref x1), .null, .null] .null := f136.other W145 ne91
    have f151 : Exa Z h145 b5 cH := f137.wr W145
    have f152 : Fld Z h145 b5 cH "tick" "J" (.long q2) := f138.other W145 (Or.inr (slot_ne (Or.inr (wq hw 52 rfl)) (Or.inl (wq hw 56 rfl)) (by decide) (t := .long) (t' := (.object cL)) (by decide) (by decide)))
    have f153 : Fld Z h145 a1 cL "prev" dL (.ref b5) := f140.other W145 (Or.inl ne92)
    have f154 : Fld Z h145 a1 cL "next" dL (.ref b5) := f141.other W145 (Or.inl ne92)
    have f155 : Fld Z h145 b5 cL "next" dL (.ref a1) := f142.other W145 (Or.inr (slot_ne (Or.inl (wq hw 54 rfl)) (Or.inl (wq hw 56 rfl)) (by decide) (t := (.object cL)) (t' := (.object cL)) (by decide) (by decide)))
    have f156 : Fld Z h145 b5 cL "prev" dL (.ref a1) := f139.same W145
    have Kp145 : Keep h0 h145 [ar, a0, a1] := Kp131.wr W145 (Or.inr sz94)
    have Z157 : n0 ≤ h145.size := Nat.le_trans Z143 (Nat.le_of_eq W145.size.symm)
    have N158 := Fr.snoc X145 N144 ge93
    refine Goes.by st145 ?_
    clear f132 f133 f134 f135 f136 f137 f138 f139 f140 f141 f142 X131 N144 Z143 Kp131 e131
    obtain ⟨fs, hr, hrun, hended, hW, hsame⟩ := X145.leave (v := none) (fun _ => rfl)
    refine Goes.mk _ _ ?_ ⟨hrun, hended, _, _, rfl, ?_, ⟨_, rfl⟩, hW, hsame.mono (by decide) (by decide)⟩
    · exact X145.returnOut hx Bd.returns (hb hby d5_37) hr
    · show QFile1 Z a0 a1 q2 ar kA x1 t1 nl pl z1 w1 nx1 pz1 h0 n0 _ T145.heap _
      rw [e145]
      exact (Or.inr (Or.inl ⟨b5, hd6, hd7, rfl, N158, Kp145, sz94, f148, f149, f150, f151, f152, f155, f156, f154, f153⟩))
  · have Kt160 : Keep h0 h0 [ar, a0, a1] := Keep.refl _ _
    have ne161 : a0 ≠ b18 := Nat.ne_of_lt (Nat.lt_of_lt_of_le F0.lt sz28)
    have ne162 : ar ≠ b18 := Nat.ne_of_lt (Nat.lt_of_lt_of_le F3.lt sz28)
    have ne163 : a1 ≠ b18 := Nat.ne_of_lt (Nat.lt_of_lt_of_le F7.lt sz28)
    have ge164 : n0 ≤ b18 := Nat.le_trans Z0 sz28
    have sz165 : h0.size ≤ b18 := Nat.le_trans Kt160.1 sz28
    have KK30 := K30
    have f166 : Exa Z T1.heap a0 cD := F0.keep KK30
    have f167 : Exa Z T1.heap a1 cL := F7.keep KK30
    have f168 : Fld Z T1.heap a1 cL "next" dL nl := F8.keep KK30 (ninS Ne3 (ninS Ne4 nin0))
    have f169 : Fld Z T1.heap a1 cL "prev" dL pl := F9.keep KK30 (ninS Ne3 (ninS Ne4 nin0))
    have KpK30 : Keep h0 T1.heap [ar, a0, a1] := Kt160.trans K30 (allS (Or.inl (List.mem_of_getElem? (i := 1) rfl)) (allS (Or.inl (List.mem_of_getElem? (i := 0) rfl)) all0))
    have Z170 : n0 ≤ T1.heap.size := Nat.le_trans Z0 K30.1
    have N171 := Fr.app N0 Nq29
    refine Goes.by (fun _ k => st1.trans k) ?_
    show Goes p.tables e below _ (T1.setTop (mkF m 5 #[.val (.ref a0), .val (.ref a1), .val (.long q2), .second, .unset] [(.ref b18)]))
    refine Goes.by (B := T1.setTop (mkF m 10 #[.val (.ref a0), .val (.ref a1), .val (.long q2), .second, .val (.ref b18)] [(.ref b18), (.ref a1)])) (fun t k => ?_) ?_
    · refine XS.astore X1.here hx rfl (hb hby d5_5) rfl rfl (l' := #[.val (.ref a0), .val (.ref a1), .val (.long q2), .second, .val (.ref b18)]) rfl ?_
      refine XS.aloadN X1.here hx rfl (hb hby d5_7) rfl rfl ?_
      refine XS.aload X1.here hx rfl (hb hby d5_8) rfl rfl ?_
      exact k
    refine Goes.by (B := T1.setTop (mkF m 13 #[.val (.ref a0), .val (.ref a1), .val (.long q2), .second, .val (.ref b18)] [(.ref b18), (.ref a1)])) (fun t k => ?_) ?_
    · refine getFR X1 hx hZ hown (wq hw 58 rfl) rfl f27 (g := (mkF m 10 #[.val (.ref a0), .val (.ref a1), .val (.long q2), .second, .val (.ref b18)] [(.ref b18), (.ref a1)])) rfl rfl (hb hby d5_10) ?_
      exact k
    obtain ⟨T173, h173, X173, e173, W173, st173⟩ := putFR X1 hx hZ hown (wq hw 58 rfl) rfl f169 f167 (wq hw 59 rfl) (wq hw 14 rfl) (ty := (.object cL)) (by decide) rfl rfl (g := (mkF m 13 #[.val (.ref a0), .val (.ref a1), .val (.long q2), .second, .val (.ref b18)] [(.ref b18), (.ref a1)])) rfl rfl (hb hby d5_13)
    have f174 : Exa Z h173 a0 cD := f166.wr W173
    have f175 : Exa Z h173 a1 cL := f167.wr W173
    have f176 : Fld Z h173 a1 cL "next" dL nl := f168.other W173 (Or.inr (slot_ne (Or.inl (wq hw 24 rfl)) (Or.inl (wq hw 59 rfl)) (by decide) (t := (.object cL)) (t' := (.object cL)) (by decide) (by decide)))
    have f177 : Fld Z h173 a0 cD "heads" dA (.ref ar) := f21.other W173 (Or.inl (Ne.symm Ne3))
    have f178 : Fld Z h173 a0 cD "count" "I" (.int (2 : Int32)) := f22.other W173 (Or.inl (Ne.symm Ne3))
    have f179 : Arv Z h173 ar kA (.object cH) (4 : Int32) [(.ref x1), (.ref b18), .null, .null] .null := f23.other W173 (Ne.symm Ne4)
    have f180 : Exa Z h173 b18 cH := f24.wr W173
    have f181 : Fld Z h173 b18 cH "tick" "J" (.long q2) := f25.other W173 (Or.inl (Ne.symm ne163))
    have f182 : Fld Z h173 b18 cL "next" dL (.ref b18) := f26.other W173 (Or.inl (Ne.symm ne163))
    have f183 : Fld Z h173 b18 cL "prev" dL (.ref b18) := f27.other W173 (Or.inl (Ne.symm ne163))
    have f184 : Fld Z h173 a1 cL "prev" dL (.ref b18) := f169.same W173
    have Kp173 : Keep h0 h173 [ar, a0, a1] := KpK30.wr W173 (Or.inl (List.mem_of_getElem? (i := 2) rfl))
    have Z185 : n0 ≤ h173.size := Nat.le_trans Z170 (Nat.le_of_eq W173.size.symm)
    have N186 := Fr.snoc X173 N171 Ge2
    refine Goes.by st173 ?_
    clear f166 f167 f168 f169 f21 f22 f23 f24 f25 f26 f27 X1 N171 Z170 KpK30
    refine Goes.by (B := T173.setTop (mkF m 19 #[.val (.ref a0), .val (.ref a1), .val (.long q2), .second, .val (.ref b18)] [(.ref b18), (.ref a1)])) (fun t k => ?_) ?_
    · refine XS.aloadN X173.here hx rfl (hb hby d5_16) rfl rfl ?_
      refine XS.aload X173.here hx rfl (hb hby d5_17) rfl rfl ?_
      exact k
    obtain ⟨T187, h187, X187, e187, W187, st187⟩ := putFR X173 hx hZ hown (wq hw 23 rfl) e173 f176 f175 (wq hw 24 rfl) (wq hw 14 rfl) (ty := (.object cL)) (by decide) rfl rfl (g := (mkF m 19 #[.val (.ref a0), .val (.ref a1), .val (.long q2), .second, .val (.ref b18)] [(.ref b18), (.ref a1)])) rfl rfl (hb hby d5_19)
    have f188 : Exa Z h187 a0 cD := f174.wr W187
    have f189 : Exa Z h187 a1 cL := f175.wr W187
    have f190 : Fld Z h187 a0 cD "heads" dA (.ref ar) := f177.other W187 (Or.inl (Ne.symm Ne3))
    have f191 : Fld Z h187 a0 cD "count" "I" (.int (2 : Int32)) := f178.other W187 (Or.inl (Ne.symm Ne3))
    have f192 : Arv Z h187 ar kA (.object cH) (4 : Int32) [(.ref x1), (.ref b18), .null, .null] .null := f179.other W187 (Ne.symm Ne4)
    have f193 : Exa Z h187 b18 cH := f180.wr W187
    have f194 : Fld Z h187 b18 cH "tick" "J" (.long q2) := f181.other W187 (Or.inl (Ne.symm ne163))
    have f195 : Fld Z h187 b18 cL "next" dL (.ref b18) := f182.other W187 (Or.inl (Ne.symm ne163))
    have f196 : Fld Z h187 b18 cL "prev" dL (.ref b18) := f183.other W187 (Or.inl (Ne.symm ne163))
    have f197 : Fld Z h187 a1 cL "prev" dL (.ref b18) := f184.other W187 (Or.inr (slot_ne (Or.inl (wq hw 59 rfl)) (Or.inl (wq hw 24 rfl)) (by decide) (t := (.object cL)) (t' := (.object cL)) (by decide) (by decide)))
    have f198 : Fld Z h187 a1 cL "next" dL (.ref b18) := f176.same W187
    have Kp187 : Keep h0 h187 [ar, a0, a1] := Kp173.wr W187 (Or.inl (List.mem_of_getElem? (i := 2) rfl))
    have Z199 : n0 ≤ h187.size := Nat.le_trans Z185 (Nat.le_of_eq W187.size.symm)
    have N200 := Fr.snoc X187 N186 Ge2
    refine Goes.by st187 ?_
    clear f174 f175 f176 f177 f178 f179 f180 f181 f182 f183 f184 X173 N186 Z185 Kp173 e173
    refine Goes.by (B := T187.setTop (mkF m 24 #[.val (.ref a0), .val (.ref a1), .val (.long q2), .second, .val (.ref b18)] [(.ref b18)])) (fun t k => ?_) ?_
    · refine XS.aload X187.here hx rfl (hb hby d5_22) rfl rfl ?_
      exact k
    refine Goes.by (B := T187.setTop (mkF m 28 #[.val (.ref a0), .val (.ref a1), .val (.long q2), .second, .val (.ref b18)] [(.ref a1), (.ref b18)])) (fun t k => ?_) ?_
    · refine getFR X187 hx hZ hown (wq hw 58 rfl) e187 f196 (g := (mkF m 24 #[.val (.ref a0), .val (.ref a1), .val (.long q2), .second, .val (.ref b18)] [(.ref b18)])) rfl rfl (hb hby d5_24) ?_
      refine XS.aloadN X187.here hx rfl (hb hby d5_27) rfl rfl ?_
      exact k
    obtain ⟨T202, h202, X202, e202, W202, st202⟩ := putFR X187 hx hZ hown (wq hw 23 rfl) e187 f195 f193 (wq hw 54 rfl) (wq hw 44 rfl) (ty := (.object cL)) (by decide) rfl rfl (g := (mkF m 28 #[.val (.ref a0), .val (.ref a1), .val (.long q2), .second, .val (.ref b18)] [(.ref a1), (.ref b18)])) rfl rfl (hb hby d5_28)
    have f203 : Exa Z h202 a0 cD := f188.wr W202
    have f204 : Exa Z h202 a1 cL := f189.wr W202
    have f205 : Fld Z h202 a0 cD "heads" dA (.ref ar) := f190.other W202 (Or.inl ne161)
    have f206 : Fld Z h202 a0 cD "count" "I" (.int (2 : Int32)) := f191.other W202 (Or.inl ne161)
    have f207 : Arv Z h202 ar kA (.object cH) (4 : Int32) [(.ref x1), (.ref b18), .null, .null] .null := f192.other W202 ne162
    have f208 : Exa Z h202 b18 cH := f193.wr W202
    have f209 : Fld Z h202 b18 cH "tick" "J" (.long q2) := f194.other W202 (Or.inr (slot_ne (Or.inr (wq hw 52 rfl)) (Or.inl (wq hw 54 rfl)) (by decide) (t := .long) (t' := (.object cL)) (by decide) (by decide)))
    have f210 : Fld Z h202 b18 cL "prev" dL (.ref b18) := f196.other W202 (Or.inr (slot_ne (Or.inl (wq hw 56 rfl)) (Or.inl (wq hw 54 rfl)) (by decide) (t := (.object cL)) (t' := (.object cL)) (by decide) (by decide)))
    have f211 : Fld Z h202 a1 cL "prev" dL (.ref b18) := f197.other W202 (Or.inl ne163)
    have f212 : Fld Z h202 a1 cL "next" dL (.ref b18) := f198.other W202 (Or.inl ne163)
    have f213 : Fld Z h202 b18 cL "next" dL (.ref a1) := f195.same W202
    have Kp202 : Keep h0 h202 [ar, a0, a1] := Kp187.wr W202 (Or.inr sz165)
    have Z214 : n0 ≤ h202.size := Nat.le_trans Z199 (Nat.le_of_eq W202.size.symm)
    have N215 := Fr.snoc X202 N200 ge164
    refine Goes.by st202 ?_
    clear f188 f189 f190 f191 f192 f193 f194 f195 f196 f197 f198 X187 N200 Z199 Kp187 e187
    refine Goes.by (B := T202.setTop (mkF m 34 #[.val (.ref a0), .val (.ref a1), .val (.long q2), .second, .val (.ref b18)] [(.ref a1), (.ref b18)])) (fun t k => ?_) ?_
    · refine XS.aload X202.here hx rfl (hb hby d5_31) rfl rfl ?_
      refine XS.aloadN X202.here hx rfl (hb hby d5_33) rfl rfl ?_
      exact k
    obtain ⟨T216, h216, X216, e216, W216, st216⟩ := putFR X202 hx hZ hown (wq hw 58 rfl) e202 f210 f208 (wq hw 56 rfl) (wq hw 44 rfl) (ty := (.object cL)) (by decide) rfl rfl (g := (mkF m 34 #[.val (.ref a0), .val (.ref a1), .val (.long q2), .second, .val (.ref b18)] [(.ref a1), (.ref b18)])) rfl rfl (hb hby d5_34)
    have f217 : Exa Z h216 a0 cD := f203.wr W216
    have f218 : Exa Z h216 a1 cL := f204.wr W216
    have f219 : Fld Z h216 a0 cD "heads" dA (.ref ar) := f205.other W216 (Or.inl ne161)
    have f220 : Fld Z h216 a0 cD "count" "I" (.int (2 : Int32)) := f206.other W216 (Or.inl ne161)
    have f221 : Arv Z h216 ar kA (.object cH) (4 : Int32) [(.ref x1), (.ref b18), .null, .null] .null := f207.other W216 ne162
    have f222 : Exa Z h216 b18 cH := f208.wr W216
    have f223 : Fld Z h216 b18 cH "tick" "J" (.long q2) := f209.other W216 (Or.inr (slot_ne (Or.inr (wq hw 52 rfl)) (Or.inl (wq hw 56 rfl)) (by decide) (t := .long) (t' := (.object cL)) (by decide) (by decide)))
    have f224 : Fld Z h216 a1 cL "prev" dL (.ref b18) := f211.other W216 (Or.inl ne163)
    have f225 : Fld Z h216 a1 cL "next" dL (.ref b18) := f212.other W216 (Or.inl ne163)
    have f226 : Fld Z h216 b18 cL "next" dL (.ref a1) := f213.other W216 (Or.inr (slot_ne (Or.inl (wq hw 54 rfl)) (Or.inl (wq hw 56 rfl)) (by decide) (t := (.object cL)) (t' := (.object cL)) (by decide) (by decide)))
    have f227 : Fld Z h216 b18 cL "prev" dL (.ref a1) := f210.same W216
    have Kp216 : Keep h0 h216 [ar, a0, a1] := Kp202.wr W216 (Or.inr sz165)
    have Z228 : n0 ≤ h216.size := Nat.le_trans Z214 (Nat.le_of_eq W216.size.symm)
    have N229 := Fr.snoc X216 N215 ge164
    refine Goes.by st216 ?_
    clear f203 f204 f205 f206 f207 f208 f209 f210 f211 f212 f213 X202 N215 Z214 Kp202 e202
    obtain ⟨fs, hr, hrun, hended, hW, hsame⟩ := X216.leave (v := none) (fun _ => rfl)
    refine Goes.mk _ _ ?_ ⟨hrun, hended, _, _, rfl, ?_, ⟨_, rfl⟩, hW, hsame.mono (by decide) (by decide)⟩
    · exact X216.returnOut hx Bd.returns (hb hby d5_37) hr
    · show QFile1 Z a0 a1 q2 ar kA x1 t1 nl pl z1 w1 nx1 pz1 h0 n0 _ T216.heap _
      rw [e216]
      exact (Or.inr (Or.inr ⟨b18, hd19, hd20, rfl, N229, Kp216, sz165, f219, f220, f221, f222, f223, f226, f227, f225, f224⟩))
def QFile2 (Z : State) (a0 : Addr) (a1 : Addr) (q2 : Int64) (ar : Addr) (kA : ClassId) (x1 : Addr) (x2 : Addr) (t1 : Int64) (t2 : Int64) (nl : Value) (pl : Value) (z1 : Addr) (z2 : Addr) (w1 : Value) (w2 : Value) (nx1 : Value) (nx2 : Value) (pz1 : Value) (pz2 : Value) (h0 : Heap) (n0 : Nat) (v : Option Value) (h : Heap) (L : List Loc) : Prop := (t2 = q2 ∧ v = none ∧ Fr n0 L ∧ Keep h0 h [a1, z2, x2] ∧ Fld Z h a1 cL "next" dL (.ref x2) ∧ Fld Z h a1 cL "prev" dL (.ref z2) ∧ Fld Z h z2 cL "next" dL (.ref a1) ∧ Fld Z h z2 cL "prev" dL pz2 ∧ Fld Z h x2 cL "next" dL nx2 ∧ Fld Z h x2 cL "prev" dL (.ref a1) ∧ Fld Z h x2 cH "tick" "J" (.long t2)) ∨ (∃ b5 : Addr, ¬ (t2 = q2) ∧ fDue2 q2 t1 t2 = (0 : Int32) ∧ v = none ∧ Fr n0 L ∧ Keep h0 h [ar, a0, a1] ∧ h0.size ≤ b5 ∧ Fld Z h a0 cD "heads" dA (.ref ar) ∧ Fld Z h a0 cD "count" "I" (.int (3 : Int32)) ∧ Arv Z h ar kA (.object cH) (4 : Int32) [(.ref b5), (.ref x1), (.ref x2), .null] .null ∧ Exa Z h b5 cH ∧ Fld Z h b5 cH "tick" "J" (.long q2) ∧ Fld Z h b5 cL "next" dL (.ref a1) ∧ Fld Z h b5 cL "prev" dL (.ref a1) ∧ Fld Z h a1 cL "next" dL (.ref b5) ∧ Fld Z h a1 cL "prev" dL (.ref b5)) ∨ (¬ (t2 = q2) ∧ fDue2 q2 t1 t2 = (1 : Int32) ∧ t1 = q2 ∧ v = none ∧ Fr n0 L ∧ Keep h0 h [a1, z1, x1] ∧ Fld Z h a1 cL "next" dL (.ref x1) ∧ Fld Z h a1 cL "prev" dL (.ref z1) ∧ Fld Z h z1 cL "next" dL (.ref a1) ∧ Fld Z h z1 cL "prev" dL pz1 ∧ Fld Z h x1 cL "next" dL nx1 ∧ Fld Z h x1 cL "prev" dL (.ref a1) ∧ Fld Z h x1 cH "tick" "J" (.long t1)) ∨ (∃ b23 : Addr, ¬ (t2 = q2) ∧ fDue2 q2 t1 t2 = (1 : Int32) ∧ ¬ (t1 = q2) ∧ v = none ∧ Fr n0 L ∧ Keep h0 h [ar, a0, a1] ∧ h0.size ≤ b23 ∧ Fld Z h a0 cD "heads" dA (.ref ar) ∧ Fld Z h a0 cD "count" "I" (.int (3 : Int32)) ∧ Arv Z h ar kA (.object cH) (4 : Int32) [(.ref x1), (.ref b23), (.ref x2), .null] .null ∧ Exa Z h b23 cH ∧ Fld Z h b23 cH "tick" "J" (.long q2) ∧ Fld Z h b23 cL "next" dL (.ref a1) ∧ Fld Z h b23 cL "prev" dL (.ref a1) ∧ Fld Z h a1 cL "next" dL (.ref b23) ∧ Fld Z h a1 cL "prev" dL (.ref b23)) ∨ (∃ b37 : Addr, ¬ (t2 = q2) ∧ fDue2 q2 t1 t2 = (2 : Int32) ∧ v = none ∧ Fr n0 L ∧ Keep h0 h [ar, a0, a1] ∧ h0.size ≤ b37 ∧ Fld Z h a0 cD "heads" dA (.ref ar) ∧ Fld Z h a0 cD "count" "I" (.int (3 : Int32)) ∧ Arv Z h ar kA (.object cH) (4 : Int32) [(.ref x1), (.ref x2), (.ref b37), .null] .null ∧ Exa Z h b37 cH ∧ Fld Z h b37 cH "tick" "J" (.long q2) ∧ Fld Z h b37 cL "next" dL (.ref a1) ∧ Fld Z h b37 cL "prev" dL (.ref a1) ∧ Fld Z h a1 cL "next" dL (.ref b37) ∧ Fld Z h a1 cL "prev" dL (.ref b37))
theorem efFile2 (m : MethodId) (x0 : Addr) (x1 : Addr) (x2 : Int64) : entryFrame m #[(.ref x0), (.ref x1), (.long x2)] 5 = mkF m 0 #[.val (.ref x0), .val (.ref x1), .val (.long x2), .second, .unset] [] := by first | (simp [entryFrame, mkF, argsToLocals, Value.category]; done) | rfl
set_option maxRecDepth 65536 in
set_option maxHeartbeats 40000000 in
theorem rmFile2 (l : Launch) (Z : State) (az : Array Value) (hw : ∀ d ∈ tables_1, d.before az Z = true) (ws : List Jvm.Cond) (a0 : Addr) (a1 : Addr) (q2 : Int64) (ar : Addr) (kA : ClassId) (x1 : Addr) (x2 : Addr) (t1 : Int64) (t2 : Int64) (nl : Value) (pl : Value) (z1 : Addr) (z2 : Addr) (w1 : Value) (w2 : Value) (nx1 : Value) (nx2 : Value) (pz1 : Value) (pz2 : Value) (h0 : Heap) (n0 : Nat) (Z0 : n0 ≤ h0.size) (F0 : Exa Z h0 a0 cD) (F1 : Fld Z h0 a0 cD "heads" dA (.ref ar)) (F2 : Fld Z h0 a0 cD "count" "I" (.int (2 : Int32))) (F3 : Arv Z h0 ar kA (.object cH) (4 : Int32) [(.ref x1), (.ref x2), .null, .null] .null) (F4 : Ovr Z kA cH) (F5 : Exa Z h0 x1 cH) (F6 : Fld Z h0 x1 cH "tick" "J" (.long t1)) (F7 : Exa Z h0 x2 cH) (F8 : Fld Z h0 x2 cH "tick" "J" (.long t2)) (F9 : Exa Z h0 a1 cL) (F10 : Fld Z h0 a1 cL "next" dL nl) (F11 : Fld Z h0 a1 cL "prev" dL pl) (F12 : Fld Z h0 x1 cL "prev" dL (.ref z1)) (F13 : Exa Z h0 z1 cL) (F14 : Fld Z h0 z1 cL "next" dL w1) (F15 : Fld Z h0 x1 cL "next" dL nx1) (F16 : Fld Z h0 z1 cL "prev" dL pz1) (F17 : Fld Z h0 x2 cL "prev" dL (.ref z2)) (F18 : Exa Z h0 z2 cL) (F19 : Fld Z h0 z2 cL "next" dL w2) (F20 : Fld Z h0 x2 cL "next" dL nx2) (F21 : Fld Z h0 z2 cL "prev" dL pz2) (Ne0 : a0 ≠ ar) (Ne1 : x1 ≠ a0) (Ne2 : x2 ≠ a0) (Ne3 : x1 ≠ ar) (Ne4 : x2 ≠ ar) (Ne5 : a1 ≠ a0) (Ne6 : a1 ≠ ar) (Ne7 : a1 ≠ x1) (Ne8 : a1 ≠ z1) (Ne9 : x1 ≠ z1) (Ne10 : a1 ≠ x2) (Ne11 : a1 ≠ z2) (Ne12 : x2 ≠ z2) (Ge0 : n0 ≤ a0) (Ge1 : n0 ≤ ar) (Ge2 : n0 ≤ a1) (Ge3 : n0 ≤ x1) (Ge4 : n0 ≤ x2) (Ge5 : n0 ≤ z1) (Ge6 : n0 ≤ z2) :
    MetFree l y3 (head1 (Jvm.Cond.code y3 prog_4_method_5_code 5 none :: ws) ({ frames := 4, cells := 1, slots := 3, locals := 55 } : Room)) (fun a U => a = #[(.ref a0), (.ref a1), (.long q2)] ∧ Z.Warmed39 U.vm ∧ U.heap = h0) (fun _ _ _ _ _ => True) (fun _ U o U' => ∃ v L, o = .returned v ∧ QFile2 Z a0 a1 q2 ar kA x1 x2 t1 t2 nl pl z1 z2 w1 w2 nx1 nx2 pz1 pz2 h0 n0 v U'.heap L ∧ FrameEnd U o U' L ({ frames := 4, cells := 1, slots := 3, locals := 55 } : Room).cells ({ frames := 4, cells := 1, slots := 3, locals := 55 } : Room).slots) := by
  refine MetFree.of_bodySF (plainFor_of_name own_pn_com_example_admit_one_admitone_engine_DueOrder) hisR ?_
  intro p e s m args below meth c s₁ Bd hml0 hP hK
  obtain ⟨rfl, hZ, hh⟩ := hP
  have hx := Bd.exec
  have hby := Bd.bytes
  have hml : c.maxLocals = 5 := hml0
  have hown : s.vm.findClass cD = some m.cls := findClass_of_methodNamed Bd.named
  have hnm := (name_of_methodNamed Bd.named Bd.method).1
  have X0 : Stand p l e ({ frames := 4, cells := 1, slots := 3, locals := 55 } : Room) s m #[(.ref a0), (.ref a1), (.long q2)] below meth c s₁ [] 0 0 := Stand.of_body Bd
  have e0 : s₁.heap = h0 := by rw [← hh, Bd.state]; rfl
  have N0 := Fr.nil n0
  have Kp0 : Keep h0 h0 [] := Keep.refl _ _
  refine Goes.start ?_
  refine Goes.by (B := s₁.setTop (mkF m 0 #[.val (.ref a0), .val (.ref a1), .val (.long q2), .second, .unset] [])) (fun t k => castTop (efFile2 m a0 a1 q2) k) ?_
  refine Goes.by (B := s₁.setTop (mkF m 2 #[.val (.ref a0), .val (.ref a1), .val (.long q2), .second, .unset] [(.long q2), (.ref a0)])) (fun t k => ?_) ?_
  · refine XS.aloadN X0.here hx rfl (hb hby d5_0) rfl rfl ?_
    refine XS.lloadN X0.here hx rfl (hb hby d5_1) rfl ?_
    exact k
  obtain ⟨cq1, q1, q1'⟩ := (F0).cell
  obtain ⟨_, _, ⟨T1, L1, k1, n1⟩, -, X1, ⟨Lc1, hQ1, l1, y1, z1⟩, st1⟩ := X0.privateBack hx (y := y4) hown (mvT hZ (wq hw 30 rfl)) (mvT hZ (wq hw 31 rfl)) (own_sel hZ (wq hw 1 rfl) (wq hw 32 rfl) (wq hw 31 rfl) (by decide)) (Cond.privateMethod_at (mvP hZ (wq hw 32 rfl) (args := #[]))) (mvT hZ (wq hw 33 rfl)) (by decide) (backOf (W := 0) (rmHeadOf2 l Z az hw [] a0 q2 ar kA x1 x2 t1 t2 h0 n0 Z0 F0 F1 F2 F3 F4 F5 F6 F7 F8 Ne0 Ne1 Ne2 Ne3 Ne4 Ge0 Ge1) hZ (wq hw 33 rfl) (wq hw 2 rfl) (by decide) (by decide)) (g := (mkF m 2 #[.val (.ref a0), .val (.ref a1), .val (.long q2), .second, .unset] [(.long q2), (.ref a0)])) rfl (by rw [hml]; rfl) (Steps.refl _) (a := a0) (by rw [e0]; exact q1) q1' (argsL := [(.long q2)]) (rest := []) (lenOf own_pd3 rfl) rfl (by show 2 * 0 + _ ≤ _; exact Nat.le_of_eq rfl) (hb hby d5_2) (fun _ _ => ⟨rfl, e0, (by decide : 0 + 1 ≤ _), (by decide : 0 + 3 ≤ _)⟩)
  dsimp only [Pt.U, Pt.locs, Pt.cells, Pt.slots] at X1 l1 y1 z1 st1 hQ1
  subst l1 y1 z1
  replace X1 : Stand p l e ({ frames := 4, cells := 1, slots := 3, locals := 55 } : Room) s m #[(.ref a0), (.ref a1), (.long q2)] below meth c T1 _ 1 3 := X1
  rcases hQ1 with ⟨hd2, rfl, Nq3, K4⟩ | ⟨b5, hd6, hd7, rfl, Nq16, K17, sz15, f8, f9, f10, f11, f12, f13, f14⟩ | ⟨hd18, hd19, hd20, rfl, Nq21, K22⟩ | ⟨b23, hd24, hd25, hd26, rfl, Nq35, K36, sz34, f27, f28, f29, f30, f31, f32, f33⟩ | ⟨b37, hd38, hd39, rfl, Nq48, K49, sz47, f40, f41, f42, f43, f44, f45, f46⟩
  · have Kt51 : Keep h0 h0 [a1, z2, x2] := Keep.refl _ _
    have N52 := Fr.app N0 Nq3
    refine Goes.by (fun _ k => st1.trans k) ?_
    show Goes p.tables e below _ (T1.setTop (mkF m 5 #[.val (.ref a0), .val (.ref a1), .val (.long q2), .second, .unset] [(.ref x2)]))
    refine Goes.by (B := T1.setTop (mkF m 10 #[.val (.ref a0), .val (.ref a1), .val (.long q2), .second, .val (.ref x2)] [(.ref x2), (.ref a1)])) (fun t k => ?_) ?_
    · refine XS.astore X1.here hx rfl (hb hby d5_5) rfl rfl (l' := #[.val (.ref a0), .val (.ref a1), .val (.long q2), .second, .val (.ref x2)]) rfl ?_
      refine XS.aloadN X1.here hx rfl (hb hby d5_7) rfl rfl ?_
      refine XS.aload X1.here hx rfl (hb hby d5_8) rfl rfl ?_
      exact k
    refine Goes.by (B := T1.setTop (mkF m 13 #[.val (.ref a0), .val (.ref a1), .val (.long q2), .second, .val (.ref x2)] [(.ref z2), (.ref a1)])) (fun t k => ?_) ?_
    · refine getFR X1 hx hZ hown (wq hw 58 rfl) K4 F17 (g := (mkF m 10 #[.val (.ref a0), .val (.ref a1), .val (.long q2), .second, .val (.ref x2)] [(.ref x2), (.ref a1)])) rfl rfl (hb hby d5_10) ?_
      exact k
    obtain ⟨T54, h54, X54, e54, W54, st54⟩ := putFR X1 hx hZ hown (wq hw 58 rfl) K4 F11 F9 (wq hw 59 rfl) (wq hw 14 rfl) (ty := (.object cL)) (by decide) rfl rfl (g := (mkF m 13 #[.val (.ref a0), .val (.ref a1), .val (.long q2), .second, .val (.ref x2)] [(.ref z2), (.ref a1)])) rfl rfl (hb hby d5_13)
    have f55 : Exa Z h54 x2 cH := F7.wr W54
    have f56 : Fld Z h54 x2 cH "tick" "J" (.long t2) := F8.other W54 (Or.inl (Ne.symm Ne10))
    have f57 : Exa Z h54 a1 cL := F9.wr W54
    have f58 : Fld Z h54 a1 cL "next" dL nl := F10.other W54 (Or.inr (slot_ne (Or.inl (wq hw 24 rfl)) (Or.inl (wq hw 59 rfl)) (by decide) (t := (.object cL)) (t' := (.object cL)) (by decide) (by decide)))
    have f59 : Fld Z h54 x2 cL "prev" dL (.ref z2) := F17.other W54 (Or.inl (Ne.symm Ne10))
    have f60 : Exa Z h54 z2 cL := F18.wr W54
    have f61 : Fld Z h54 z2 cL "next" dL w2 := F19.other W54 (Or.inl (Ne.symm Ne11))
    have f62 : Fld Z h54 x2 cL "next" dL nx2 := F20.other W54 (Or.inl (Ne.symm Ne10))
    have f63 : Fld Z h54 z2 cL "prev" dL pz2 := F21.other W54 (Or.inl (Ne.symm Ne11))
    have f64 : Fld Z h54 a1 cL "prev" dL (.ref z2) := F11.same W54
    have Kp54 : Keep h0 h54 [a1, z2, x2] := Kt51.wr W54 (Or.inl (List.mem_of_getElem? (i := 0) rfl))
    have Z65 : n0 ≤ h54.size := Nat.le_trans Z0 (Nat.le_of_eq W54.size.symm)
    have N66 := Fr.snoc X54 N52 Ge2
    refine Goes.by st54 ?_
    clear X1 N52 Kt51 K4
    refine Goes.by (B := T54.setTop (mkF m 19 #[.val (.ref a0), .val (.ref a1), .val (.long q2), .second, .val (.ref x2)] [(.ref x2), (.ref a1)])) (fun t k => ?_) ?_
    · refine XS.aloadN X54.here hx rfl (hb hby d5_16) rfl rfl ?_
      refine XS.aload X54.here hx rfl (hb hby d5_17) rfl rfl ?_
      exact k
    obtain ⟨T67, h67, X67, e67, W67, st67⟩ := putFR X54 hx hZ hown (wq hw 23 rfl) e54 f58 f57 (wq hw 24 rfl) (wq hw 14 rfl) (ty := (.object cL)) (by decide) rfl rfl (g := (mkF m 19 #[.val (.ref a0), .val (.ref a1), .val (.long q2), .second, .val (.ref x2)] [(.ref x2), (.ref a1)])) rfl rfl (hb hby d5_19)
    have f68 : Exa Z h67 x2 cH := f55.wr W67
    have f69 : Fld Z h67 x2 cH "tick" "J" (.long t2) := f56.other W67 (Or.inl (Ne.symm Ne10))
    have f70 : Exa Z h67 a1 cL := f57.wr W67
    have f71 : Fld Z h67 x2 cL "prev" dL (.ref z2) := f59.other W67 (Or.inl (Ne.symm Ne10))
    have f72 : Exa Z h67 z2 cL := f60.wr W67
    have f73 : Fld Z h67 z2 cL "next" dL w2 := f61.other W67 (Or.inl (Ne.symm Ne11))
    have f74 : Fld Z h67 x2 cL "next" dL nx2 := f62.other W67 (Or.inl (Ne.symm Ne10))
    have f75 : Fld Z h67 z2 cL "prev" dL pz2 := f63.other W67 (Or.inl (Ne.symm Ne11))
    have f76 : Fld Z h67 a1 cL "prev" dL (.ref z2) := f64.other W67 (Or.inr (slot_ne (Or.inl (wq hw 59 rfl)) (Or.inl (wq hw 24 rfl)) (by decide) (t := (.object cL)) (t' := (.object cL)) (by decide) (by decide)))
    have f77 : Fld Z h67 a1 cL "next" dL (.ref x2) := f58.same W67
    have Kp67 : Keep h0 h67 [a1, z2, x2] := Kp54.wr W67 (Or.inl (List.mem_of_getElem? (i := 0) rfl))
    have Z78 : n0 ≤ h67.size := Nat.le_trans Z65 (Nat.le_of_eq W67.size.symm)
    have N79 := Fr.snoc X67 N66 Ge2
    refine Goes.by st67 ?_
    clear f55 f56 f57 f58 f59 f60 f61 f62 f63 f64 X54 N66 Z65 Kp54 e54
    refine Goes.by (B := T67.setTop (mkF m 24 #[.val (.ref a0), .val (.ref a1), .val (.long q2), .second, .val (.ref x2)] [(.ref x2)])) (fun t k => ?_) ?_
    · refine XS.aload X67.here hx rfl (hb hby d5_22) rfl rfl ?_
      exact k
    refine Goes.by (B := T67.setTop (mkF m 28 #[.val (.ref a0), .val (.ref a1), .val (.long q2), .second, .val (.ref x2)] [(.ref a1), (.ref z2)])) (fun t k => ?_) ?_
    · refine getFR X67 hx hZ hown (wq hw 58 rfl) e67 f71 (g := (mkF m 24 #[.val (.ref a0), .val (.ref a1), .val (.long q2), .second, .val (.ref x2)] [(.ref x2)])) rfl rfl (hb hby d5_24) ?_
      refine XS.aloadN X67.here hx rfl (hb hby d5_27) rfl rfl ?_
      exact k
    obtain ⟨T81, h81, X81, e81, W81, st81⟩ := putFR X67 hx hZ hown (wq hw 23 rfl) e67 f73 f72 (wq hw 24 rfl) (wq hw 14 rfl) (ty := (.object cL)) (by decide) rfl rfl (g := (mkF m 28 #[.val (.ref a0), .val (.ref a1), .val (.long q2), .second, .val (.ref x2)] [(.ref a1), (.ref z2)])) rfl rfl (hb hby d5_28)
    have f82 : Exa Z h81 x2 cH := f68.wr W81
    have f83 : Fld Z h81 x2 cH "tick" "J" (.long t2) := f69.other W81 (Or.inl Ne12)
    have f84 : Exa Z h81 a1 cL := f70.wr W81
    have f85 : Fld Z h81 x2 cL "prev" dL (.ref z2) := f71.other W81 (Or.inl Ne12)
    have f86 : Exa Z h81 z2 cL := f72.wr W81
    have f87 : Fld Z h81 x2 cL "next" dL nx2 := f74.other W81 (Or.inl Ne12)
    have f88 : Fld Z h81 z2 cL "prev" dL pz2 := f75.other W81 (Or.inr (slot_ne (Or.inl (wq hw 59 rfl)) (Or.inl (wq hw 24 rfl)) (by decide) (t := (.object cL)) (t' := (.object cL)) (by decide) (by decide)))
    have f89 : Fld Z h81 a1 cL "prev" dL (.ref z2) := f76.other W81 (Or.inl Ne11)
    have f90 : Fld Z h81 a1 cL "next" dL (.ref x2) := f77.other W81 (Or.inl Ne11)
    have f91 : Fld Z h81 z2 cL "next" dL (.ref a1) := f73.same W81
    have Kp81 : Keep h0 h81 [a1, z2, x2] := Kp67.wr W81 (Or.inl (List.mem_of_getElem? (i := 1) rfl))
    have Z92 : n0 ≤ h81.size := Nat.le_trans Z78 (Nat.le_of_eq W81.size.symm)
    have N93 := Fr.snoc X81 N79 Ge6
    refine Goes.by st81 ?_
    clear f68 f69 f70 f71 f72 f73 f74 f75 f76 f77 X67 N79 Z78 Kp67 e67
    refine Goes.by (B := T81.setTop (mkF m 34 #[.val (.ref a0), .val (.ref a1), .val (.long q2), .second, .val (.ref x2)] [(.ref a1), (.ref x2)])) (fun t k => ?_) ?_
    · refine XS.aload X81.here hx rfl (hb hby d5_31) rfl rfl ?_
      refine XS.aloadN X81.here hx rfl (hb hby d5_33) rfl rfl ?_
      exact k
    obtain ⟨T94, h94, X94, e94, W94, st94⟩ := putFR X81 hx hZ hown (wq hw 58 rfl) e81 f85 f82 (wq hw 56 rfl) (wq hw 44 rfl) (ty := (.object cL)) (by decide) rfl rfl (g := (mkF m 34 #[.val (.ref a0), .val (.ref a1), .val (.long q2), .second, .val (.ref x2)] [(.ref a1), (.ref x2)])) rfl rfl (hb hby d5_34)
    have f95 : Exa Z h94 x2 cH := f82.wr W94
    have f96 : Fld Z h94 x2 cH "tick" "J" (.long t2) := f83.other W94 (Or.inr (slot_ne (Or.inr (wq hw 52 rfl)) (Or.inl (wq hw 56 rfl)) (by decide) (t := .long) (t' := (.object cL)) (by decide) (by decide)))
    have f97 : Exa Z h94 a1 cL := f84.wr W94
    have f98 : Exa Z h94 z2 cL := f86.wr W94
    have f99 : Fld Z h94 x2 cL "next" dL nx2 := f87.other W94 (Or.inr (slot_ne (Or.inl (wq hw 54 rfl)) (Or.inl (wq hw 56 rfl)) (by decide) (t := (.object cL)) (t' := (.object cL)) (by decide) (by decide)))
    have f100 : Fld Z h94 z2 cL "prev" dL pz2 := f88.other W94 (Or.inl (Ne.symm Ne12))
    have f101 : Fld Z h94 a1 cL "prev" dL (.ref z2) := f89.other W94 (Or.inl Ne10)
    have f102 : Fld Z h94 a1 cL "next" dL (.ref x2) := f90.other W94 (Or.inl Ne10)
    have f103 : Fld Z h94 z2 cL "next" dL (.ref a1) := f91.other W94 (Or.inl (Ne.symm Ne12))
    have f104 : Fld Z h94 x2 cL "prev" dL (.ref a1) := f85.same W94
    have Kp94 : Keep h0 h94 [a1, z2, x2] := Kp81.wr W94 (Or.inl (List.mem_of_getElem? (i := 2) rfl))
    have Z105 : n0 ≤ h94.size := Nat.le_trans Z92 (Nat.le_of_eq W94.size.symm)
    have N106 := Fr.snoc X94 N93 Ge4
    refine Goes.by st94 ?_
    clear f82 f83 f84 f85 f86 f87 f88 f89 f90 f91 X81 N93 Z92 Kp81 e81
    obtain ⟨fs, hr, hrun, hended, hW, hsame⟩ := X94.leave (v := none) (fun _ => rfl)
    refine Goes.mk _ _ ?_ ⟨hrun, hended, _, _, rfl, ?_, ⟨_, rfl⟩, hW, hsame.mono (by decide) (by decide)⟩
    · exact X94.returnOut hx Bd.returns (hb hby d5_37) hr
    · show QFile2 Z a0 a1 q2 ar kA x1 x2 t1 t2 nl pl z1 z2 w1 w2 nx1 nx2 pz1 pz2 h0 n0 _ T94.heap _
      rw [e94]
      exact (Or.inl ⟨hd2, rfl, N106, Kp94, f102, f101, f103, f100, f99, f104, f96⟩)
  · have Kt108 : Keep h0 h0 [ar, a0, a1] := Keep.refl _ _
    have ne109 : a0 ≠ b5 := Nat.ne_of_lt (Nat.lt_of_lt_of_le F0.lt sz15)
    have ne110 : ar ≠ b5 := Nat.ne_of_lt (Nat.lt_of_lt_of_le F3.lt sz15)
    have ne111 : a1 ≠ b5 := Nat.ne_of_lt (Nat.lt_of_lt_of_le F9.lt sz15)
    have ge112 : n0 ≤ b5 := Nat.le_trans Z0 sz15
    have sz113 : h0.size ≤ b5 := Nat.le_trans Kt108.1 sz15
    have KK17 := K17
    have f114 : Exa Z T1.heap a0 cD := F0.keep KK17
    have f115 : Exa Z T1.heap a1 cL := F9.keep KK17
    have f116 : Fld Z T1.heap a1 cL "next" dL nl := F10.keep KK17 (ninS Ne5 (ninS Ne6 nin0))
    have f117 : Fld Z T1.heap a1 cL "prev" dL pl := F11.keep KK17 (ninS Ne5 (ninS Ne6 nin0))
    have KpK17 : Keep h0 T1.heap [ar, a0, a1] := Kt108.trans K17 (allS (Or.inl (List.mem_of_getElem? (i := 1) rfl)) (allS (Or.inl (List.mem_of_getElem? (i := 0) rfl)) all0))
    have Z118 : n0 ≤ T1.heap.size := Nat.le_trans Z0 K17.1
    have N119 := Fr.app N0 Nq16
    refine Goes.by (fun _ k => st1.trans k) ?_
    show Goes p.tables e below _ (T1.setTop (mkF m 5 #[.val (.ref a0), .val (.ref a1), .val (.long q2), .second, .unset] [(.ref b5)]))
    refine Goes.by (B := T1.setTop (mkF m 10 #[.val (.ref a0), .val (.ref a1), .val (.long q2), .second, .val (.ref b5)] [(.ref b5), (.ref a1)])) (fun t k => ?_) ?_
    · refine XS.astore X1.here hx rfl (hb hby d5_5) rfl rfl (l' := #[.val (.ref a0), .val (.ref a1), .val (.long q2), .second, .val (.ref b5)]) rfl ?_
      refine XS.aloadN X1.here hx rfl (hb hby d5_7) rfl rfl ?_
      refine XS.aload X1.here hx rfl (hb hby d5_8) rfl rfl ?_
      exact k
    refine Goes.by (B := T1.setTop (mkF m 13 #[.val (.ref a0), .val (.ref a1), .val (.long q2), .second, .val (.ref b5)] [(.ref b5), (.ref a1)])) (fun t k => ?_) ?_
    · refine getFR X1 hx hZ hown (wq hw 58 rfl) rfl f14 (g := (mkF m 10 #[.val (.ref a0), .val (.ref a1), .val (.long q2), .second, .val (.ref b5)] [(.ref b5), (.ref a1)])) rfl rfl (hb hby d5_10) ?_
      exact k
    obtain ⟨T121, h121, X121, e121, W121, st121⟩ := putFR X1 hx hZ hown (wq hw 58 rfl) rfl f117 f115 (wq hw 59 rfl) (wq hw 14 rfl) (ty := (.object cL)) (by decide) rfl rfl (g := (mkF m 13 #[.val (.ref a0), .val (.ref a1), .val (.long q2), .second, .val (.ref b5)] [(.ref b5), (.ref a1)])) rfl rfl (hb hby d5_13)
    have f122 : Exa Z h121 a0 cD := f114.wr W121
    have f123 : Exa Z h121 a1 cL := f115.wr W121
    have f124 : Fld Z h121 a1 cL "next" dL nl := f116.other W121 (Or.inr (slot_ne (Or.inl (wq hw 24 rfl)) (Or.inl (wq hw 59 rfl)) (by decide) (t := (.object cL)) (t' := (.object cL)) (by decide) (by decide)))
    have f125 : Fld Z h121 a0 cD "heads" dA (.ref ar) := f8.other W121 (Or.inl (Ne.symm Ne5))
    have f126 : Fld Z h121 a0 cD "count" "I" (.int (3 : Int32)) := f9.other W121 (Or.inl (Ne.symm Ne5))
    have f127 : Arv Z h121 ar kA (.object cH) (4 : Int32) [(.ref b5), (.ref x1), (.ref x2), .null] .null := f10.other W121 (Ne.symm Ne6)
    have f128 : Exa Z h121 b5 cH := f11.wr W121
    have f129 : Fld Z h121 b5 cH "tick" "J" (.long q2) := f12.other W121 (Or.inl (Ne.symm ne111))
    have f130 : Fld Z h121 b5 cL "next" dL (.ref b5) := f13.other W121 (Or.inl (Ne.symm ne111))
    have f131 : Fld Z h121 b5 cL "prev" dL (.ref b5) := f14.other W121 (Or.inl (Ne.symm ne111))
    have f132 : Fld Z h121 a1 cL "prev" dL (.ref b5) := f117.same W121
    have Kp121 : Keep h0 h121 [ar, a0, a1] := KpK17.wr W121 (Or.inl (List.mem_of_getElem? (i := 2) rfl))
    have Z133 : n0 ≤ h121.size := Nat.le_trans Z118 (Nat.le_of_eq W121.size.symm)
    have N134 := Fr.snoc X121 N119 Ge2
    refine Goes.by st121 ?_
    clear f114 f115 f116 f117 f8 f9 f10 f11 f12 f13 f14 X1 N119 Z118 KpK17
    refine Goes.by (B := T121.setTop (mkF m 19 #[.val (.ref a0), .val (.ref a1), .val (.long q2), .second, .val (.ref b5)] [(.ref b5), (.ref a1)])) (fun t k => ?_) ?_
    · refine XS.aloadN X121.here hx rfl (hb hby d5_16) rfl rfl ?_
      refine XS.aload X121.here hx rfl (hb hby d5_17) rfl rfl ?_
      exact k
    obtain ⟨T135, h135, X135, e135, W135, st135⟩ := putFR X121 hx hZ hown (wq hw 23 rfl) e121 f124 f123 (wq hw 24 rfl) (wq hw 14 rfl) (ty := (.object cL)) (by decide) rfl rfl (g := (mkF m 19 #[.val (.ref a0), .val (.ref a1), .val (.long q2), .second, .val (.ref b5)] [(.ref b5), (.ref a1)])) rfl rfl (hb hby d5_19)
    have f136 : Exa Z h135 a0 cD := f122.wr W135
    have f137 : Exa Z h135 a1 cL := f123.wr W135
    have f138 : Fld Z h135 a0 cD "heads" dA (.ref ar) := f125.other W135 (Or.inl (Ne.symm Ne5))
    have f139 : Fld Z h135 a0 cD "count" "I" (.int (3 : Int32)) := f126.other W135 (Or.inl (Ne.symm Ne5))
    have f140 : Arv Z h135 ar kA (.object cH) (4 : Int32) [(.ref b5), (.ref x1), (.ref x2), .null] .null := f127.other W135 (Ne.symm Ne6)
    have f141 : Exa Z h135 b5 cH := f128.wr W135
    have f142 : Fld Z h135 b5 cH "tick" "J" (.long q2) := f129.other W135 (Or.inl (Ne.symm ne111))
    have f143 : Fld Z h135 b5 cL "next" dL (.ref b5) := f130.other W135 (Or.inl (Ne.symm ne111))
    have f144 : Fld Z h135 b5 cL "prev" dL (.ref b5) := f131.other W135 (Or.inl (Ne.symm ne111))
    have f145 : Fld Z h135 a1 cL "prev" dL (.ref b5) := f132.other W135 (Or.inr (slot_ne (Or.inl (wq hw 59 rfl)) (Or.inl (wq hw 24 rfl)) (by decide) (t := (.object cL)) (t' := (.object cL)) (by decide) (by decide)))
    have f146 : Fld Z h135 a1 cL "next" dL (.ref b5) := f124.same W135
    have Kp135 : Keep h0 h135 [ar, a0, a1] := Kp121.wr W135 (Or.inl (List.mem_of_getElem? (i := 2) rfl))
    have Z147 : n0 ≤ h135.size := Nat.le_trans Z133 (Nat.le_of_eq W135.size.symm)
    have N148 := Fr.snoc X135 N134 Ge2
    refine Goes.by st135 ?_
    clear f122 f123 f124 f125 f126 f127 f128 f129 f130 f131 f132 X121 N134 Z133 Kp121 e121
    refine Goes.by (B := T135.setTop (mkF m 24 #[.val (.ref a0), .val (.ref a1), .val (.long q2), .second, .val (.ref b5)] [(.ref b5)])) (fun t k => ?_) ?_
    · refine XS.aload X135.here hx rfl (hb hby d5_22) rfl rfl ?_
      exact k
    refine Goes.by (B := T135.setTop (mkF m 28 #[.val (.ref a0), .val (.ref a1), .val (.long q2), .second, .val (.ref b5)] [(.ref a1), (.ref b5)])) (fun t k => ?_) ?_
    · refine getFR X135 hx hZ hown (wq hw 58 rfl) e135 f144 (g := (mkF m 24 #[.val (.ref a0), .val (.ref a1), .val (.long q2), .second, .val (.ref b5)] [(.ref b5)])) rfl rfl (hb hby d5_24) ?_
      refine XS.aloadN X135.here hx rfl (hb hby d5_27) rfl rfl ?_
      exact k
    obtain ⟨T150, h150, X150, e150, W150, st150⟩ := putFR X135 hx hZ hown (wq hw 23 rfl) e135 f143 f141 (wq hw 54 rfl) (wq hw 44 rfl) (ty := (.object cL)) (by decide) rfl rfl (g := (mkF m 28 #[.val (.ref a0), .val (.ref a1), .val (.long q2), .second, .val (.ref b5)] [(.ref a1), (.ref b5)])) rfl rfl (hb hby d5_28)
    have f151 : Exa Z h150 a0 cD := f136.wr W150
    have f152 : Exa Z h150 a1 cL := f137.wr W150
    have f153 : Fld Z h150 a0 cD "heads" dA (.ref ar) := f138.other W150 (Or.inl ne109)
    have f154 : Fld Z h150 a0 cD "count" "I" (.int (3 : Int32)) := f139.other W150 (Or.inl ne109)
    have f155 : Arv Z h150 ar kA (.object cH) (4 : Int32) [(.ref b5), (.ref x1), (.ref x2), .null] .null := f140.other W150 ne110
    have f156 : Exa Z h150 b5 cH := f141.wr W150
    have f157 : Fld Z h150 b5 cH "tick" "J" (.long q2) := f142.other W150 (Or.inr (slot_ne (Or.inr (wq hw 52 rfl)) (Or.inl (wq hw 54 rfl)) (by decide) (t := .long) (t' := (.object cL)) (by decide) (by decide)))
    have f158 : Fld Z h150 b5 cL "prev" dL (.ref b5) := f144.other W150 (Or.inr (slot_ne (Or.inl (wq hw 56 rfl)) (Or.inl (wq hw 54 rfl)) (by decide) (t := (.object cL)) (t' := (.object cL)) (by decide) (by decide)))
    have f159 : Fld Z h150 a1 cL "prev" dL (.ref b5) := f145.other W150 (Or.inl ne111)
    have f160 : Fld Z h150 a1 cL "next" dL (.ref b5) := f146.other W150 (Or.inl ne111)
    have f161 : Fld Z h150 b5 cL "next" dL (.ref a1) := f143.same W150
    have Kp150 : Keep h0 h150 [ar, a0, a1] := Kp135.wr W150 (Or.inr sz113)
    have Z162 : n0 ≤ h150.size := Nat.le_trans Z147 (Nat.le_of_eq W150.size.symm)
    have N163 := Fr.snoc X150 N148 ge112
    refine Goes.by st150 ?_
    clear f136 f137 f138 f139 f140 f141 f142 f143 f144 f145 f146 X135 N148 Z147 Kp135 e135
    refine Goes.by (B := T150.setTop (mkF m 34 #[.val (.ref a0), .val (.ref a1), .val (.long q2), .second, .val (.ref b5)] [(.ref a1), (.ref b5)])) (fun t k => ?_) ?_
    · refine XS.aload X150.here hx rfl (hb hby d5_31) rfl rfl ?_
      refine XS.aloadN X150.here hx rfl (hb hby d5_33) rfl rfl ?_
      exact k
    obtain ⟨T164, h164, X164, e164, W164, st164⟩ := putFR X150 hx hZ hown (wq hw 58 rfl) e150 f158 f156 (wq hw 56 rfl) (wq hw 44 rfl) (ty := (.object cL)) (by decide) rfl rfl (g := (mkF m 34 #[.val (.ref a0), .val (.ref a1), .val (.long q2), .second, .val (.ref b5)] [(.ref a1), (.ref b5)])) rfl rfl (hb hby d5_34)
    have f165 : Exa Z h164 a0 cD := f151.wr W164
    have f166 : Exa Z h164 a1 cL := f152.wr W164
    have f167 : Fld Z h164 a0 cD "heads" dA (.ref ar) := f153.other W164 (Or.inl ne109)
    have f168 : Fld Z h164 a0 cD "count" "I" (.int (3 : Int32)) := f154.other W164 (Or.inl ne109)
    have f169 : Arv Z h164 ar kA (.object cH) (4 : Int32) [(.ref b5), (.ref x1), (.ref x2), .null] .null := f155.other W164 ne110
    have f170 : Exa Z h164 b5 cH := f156.wr W164
    have f171 : Fld Z h164 b5 cH "tick" "J" (.long q2) := f157.other W164 (Or.inr (slot_ne (Or.inr (wq hw 52 rfl)) (Or.inl (wq hw 56 rfl)) (by decide) (t := .long) (t' := (.object cL)) (by decide) (by decide)))
    have f172 : Fld Z h164 a1 cL "prev" dL (.ref b5) := f159.other W164 (Or.inl ne111)
    have f173 : Fld Z h164 a1 cL "next" dL (.ref b5) := f160.other W164 (Or.inl ne111)
    have f174 : Fld Z h164 b5 cL "next" dL (.ref a1) := f161.other W164 (Or.inr (slot_ne (Or.inl (wq hw 54 rfl)) (Or.inl (wq hw 56 rfl)) (by decide) (t := (.object cL)) (t' := (.object cL)) (by decide) (by decide)))
    have f175 : Fld Z h164 b5 cL "prev" dL (.ref a1) := f158.same W164
    have Kp164 : Keep h0 h164 [ar, a0, a1] := Kp150.wr W164 (Or.inr sz113)
    have Z176 : n0 ≤ h164.size := Nat.le_trans Z162 (Nat.le_of_eq W164.size.symm)
    have N177 := Fr.snoc X164 N163 ge112
    refine Goes.by st164 ?_
    clear f151 f152 f153 f154 f155 f156 f157 f158 f159 f160 f161 X150 N163 Z162 Kp150 e150
    obtain ⟨fs, hr, hrun, hended, hW, hsame⟩ := X164.leave (v := none) (fun _ => rfl)
    refine Goes.mk _ _ ?_ ⟨hrun, hended, _, _, rfl, ?_, ⟨_, rfl⟩, hW, hsame.mono (by decide) (by decide)⟩
    · exact X164.returnOut hx Bd.returns (hb hby d5_37) hr
    · show QFile2 Z a0 a1 q2 ar kA x1 x2 t1 t2 nl pl z1 z2 w1 w2 nx1 nx2 pz1 pz2 h0 n0 _ T164.heap _
      rw [e164]
      exact (Or.inr (Or.inl ⟨b5, hd6, hd7, rfl, N177, Kp164, sz113, f167, f168, f169, f170, f171, f174, f175, f173, f172⟩))
  · have Kt179 : Keep h0 h0 [a1, z1, x1] := Keep.refl _ _
    have N180 := Fr.app N0 Nq21
    refine Goes.by (fun _ k => st1.trans k) ?_
    show Goes p.tables e below _ (T1.setTop (mkF m 5 #[.val (.ref a0), .val (.ref a1), .val (.long q2), .second, .unset] [(.ref x1)]))
    refine Goes.by (B := T1.setTop (mkF m 10 #[.val (.ref a0), .val (.ref a1), .val (.long q2), .second, .val (.ref x1)] [(.ref x1), (.ref a1)])) (fun t k => ?_) ?_
    · refine XS.astore X1.here hx rfl (hb hby d5_5) rfl rfl (l' := #[.val (.ref a0), .val (.ref a1), .val (.long q2), .second, .val (.ref x1)]) rfl ?_
      refine XS.aloadN X1.here hx rfl (hb hby d5_7) rfl rfl ?_
      refine XS.aload X1.here hx rfl (hb hby d5_8) rfl rfl ?_
      exact k
    refine Goes.by (B := T1.setTop (mkF m 13 #[.val (.ref a0), .val (.ref a1), .val (.long q2), .second, .val (.ref x1)] [(.ref z1), (.ref a1)])) (fun t k => ?_) ?_
    · refine getFR X1 hx hZ hown (wq hw 58 rfl) K22 F12 (g := (mkF m 10 #[.val (.ref a0), .val (.ref a1), .val (.long q2), .second, .val (.ref x1)] [(.ref x1), (.ref a1)])) rfl rfl (hb hby d5_10) ?_
      exact k
    obtain ⟨T182, h182, X182, e182, W182, st182⟩ := putFR X1 hx hZ hown (wq hw 58 rfl) K22 F11 F9 (wq hw 59 rfl) (wq hw 14 rfl) (ty := (.object cL)) (by decide) rfl rfl (g := (mkF m 13 #[.val (.ref a0), .val (.ref a1), .val (.long q2), .second, .val (.ref x1)] [(.ref z1), (.ref a1)])) rfl rfl (hb hby d5_13)
    have f183 : Exa Z h182 x1 cH := F5.wr W182
    have f184 : Fld Z h182 x1 cH "tick" "J" (.long t1) := F6.other W182 (Or.inl (Ne.symm Ne7))
    have f185 : Exa Z h182 a1 cL := F9.wr W182
    have f186 : Fld Z h182 a1 cL "next" dL nl := F10.other W182 (Or.inr (slot_ne (Or.inl (wq hw 24 rfl)) (Or.inl (wq hw 59 rfl)) (by decide) (t := (.object cL)) (t' := (.object cL)) (by decide) (by decide)))
    have f187 : Fld Z h182 x1 cL "prev" dL (.ref z1) := F12.other W182 (Or.inl (Ne.symm Ne7))
    have f188 : Exa Z h182 z1 cL := F13.wr W182
    have f189 : Fld Z h182 z1 cL "next" dL w1 := F14.other W182 (Or.inl (Ne.symm Ne8))
    have f190 : Fld Z h182 x1 cL "next" dL nx1 := F15.other W182 (Or.inl (Ne.symm Ne7))
    have f191 : Fld Z h182 z1 cL "prev" dL pz1 := F16.other W182 (Or.inl (Ne.symm Ne8))
    have f192 : Fld Z h182 a1 cL "prev" dL (.ref z1) := F11.same W182
    have Kp182 : Keep h0 h182 [a1, z1, x1] := Kt179.wr W182 (Or.inl (List.mem_of_getElem? (i := 0) rfl))
    have Z193 : n0 ≤ h182.size := Nat.le_trans Z0 (Nat.le_of_eq W182.size.symm)
    have N194 := Fr.snoc X182 N180 Ge2
    refine Goes.by st182 ?_
    clear X1 N180 Kt179 K22
    refine Goes.by (B := T182.setTop (mkF m 19 #[.val (.ref a0), .val (.ref a1), .val (.long q2), .second, .val (.ref x1)] [(.ref x1), (.ref a1)])) (fun t k => ?_) ?_
    · refine XS.aloadN X182.here hx rfl (hb hby d5_16) rfl rfl ?_
      refine XS.aload X182.here hx rfl (hb hby d5_17) rfl rfl ?_
      exact k
    obtain ⟨T195, h195, X195, e195, W195, st195⟩ := putFR X182 hx hZ hown (wq hw 23 rfl) e182 f186 f185 (wq hw 24 rfl) (wq hw 14 rfl) (ty := (.object cL)) (by decide) rfl rfl (g := (mkF m 19 #[.val (.ref a0), .val (.ref a1), .val (.long q2), .second, .val (.ref x1)] [(.ref x1), (.ref a1)])) rfl rfl (hb hby d5_19)
    have f196 : Exa Z h195 x1 cH := f183.wr W195
    have f197 : Fld Z h195 x1 cH "tick" "J" (.long t1) := f184.other W195 (Or.inl (Ne.symm Ne7))
    have f198 : Exa Z h195 a1 cL := f185.wr W195
    have f199 : Fld Z h195 x1 cL "prev" dL (.ref z1) := f187.other W195 (Or.inl (Ne.symm Ne7))
    have f200 : Exa Z h195 z1 cL := f188.wr W195
    have f201 : Fld Z h195 z1 cL "next" dL w1 := f189.other W195 (Or.inl (Ne.symm Ne8))
    have f202 : Fld Z h195 x1 cL "next" dL nx1 := f190.other W195 (Or.inl (Ne.symm Ne7))
    have f203 : Fld Z h195 z1 cL "prev" dL pz1 := f191.other W195 (Or.inl (Ne.symm Ne8))
    have f204 : Fld Z h195 a1 cL "prev" dL (.ref z1) := f192.other W195 (Or.inr (slot_ne (Or.inl (wq hw 59 rfl)) (Or.inl (wq hw 24 rfl)) (by decide) (t := (.object cL)) (t' := (.object cL)) (by decide) (by decide)))
    have f205 : Fld Z h195 a1 cL "next" dL (.ref x1) := f186.same W195
    have Kp195 : Keep h0 h195 [a1, z1, x1] := Kp182.wr W195 (Or.inl (List.mem_of_getElem? (i := 0) rfl))
    have Z206 : n0 ≤ h195.size := Nat.le_trans Z193 (Nat.le_of_eq W195.size.symm)
    have N207 := Fr.snoc X195 N194 Ge2
    refine Goes.by st195 ?_
    clear f183 f184 f185 f186 f187 f188 f189 f190 f191 f192 X182 N194 Z193 Kp182 e182
    refine Goes.by (B := T195.setTop (mkF m 24 #[.val (.ref a0), .val (.ref a1), .val (.long q2), .second, .val (.ref x1)] [(.ref x1)])) (fun t k => ?_) ?_
    · refine XS.aload X195.here hx rfl (hb hby d5_22) rfl rfl ?_
      exact k
    refine Goes.by (B := T195.setTop (mkF m 28 #[.val (.ref a0), .val (.ref a1), .val (.long q2), .second, .val (.ref x1)] [(.ref a1), (.ref z1)])) (fun t k => ?_) ?_
    · refine getFR X195 hx hZ hown (wq hw 58 rfl) e195 f199 (g := (mkF m 24 #[.val (.ref a0), .val (.ref a1), .val (.long q2), .second, .val (.ref x1)] [(.ref x1)])) rfl rfl (hb hby d5_24) ?_
      refine XS.aloadN X195.here hx rfl (hb hby d5_27) rfl rfl ?_
      exact k
    obtain ⟨T209, h209, X209, e209, W209, st209⟩ := putFR X195 hx hZ hown (wq hw 23 rfl) e195 f201 f200 (wq hw 24 rfl) (wq hw 14 rfl) (ty := (.object cL)) (by decide) rfl rfl (g := (mkF m 28 #[.val (.ref a0), .val (.ref a1), .val (.long q2), .second, .val (.ref x1)] [(.ref a1), (.ref z1)])) rfl rfl (hb hby d5_28)
    have f210 : Exa Z h209 x1 cH := f196.wr W209
    have f211 : Fld Z h209 x1 cH "tick" "J" (.long t1) := f197.other W209 (Or.inl Ne9)
    have f212 : Exa Z h209 a1 cL := f198.wr W209
    have f213 : Fld Z h209 x1 cL "prev" dL (.ref z1) := f199.other W209 (Or.inl Ne9)
    have f214 : Exa Z h209 z1 cL := f200.wr W209
    have f215 : Fld Z h209 x1 cL "next" dL nx1 := f202.other W209 (Or.inl Ne9)
    have f216 : Fld Z h209 z1 cL "prev" dL pz1 := f203.other W209 (Or.inr (slot_ne (Or.inl (wq hw 59 rfl)) (Or.inl (wq hw 24 rfl)) (by decide) (t := (.object cL)) (t' := (.object cL)) (by decide) (by decide)))
    have f217 : Fld Z h209 a1 cL "prev" dL (.ref z1) := f204.other W209 (Or.inl Ne8)
    have f218 : Fld Z h209 a1 cL "next" dL (.ref x1) := f205.other W209 (Or.inl Ne8)
    have f219 : Fld Z h209 z1 cL "next" dL (.ref a1) := f201.same W209
    have Kp209 : Keep h0 h209 [a1, z1, x1] := Kp195.wr W209 (Or.inl (List.mem_of_getElem? (i := 1) rfl))
    have Z220 : n0 ≤ h209.size := Nat.le_trans Z206 (Nat.le_of_eq W209.size.symm)
    have N221 := Fr.snoc X209 N207 Ge5
    refine Goes.by st209 ?_
    clear f196 f197 f198 f199 f200 f201 f202 f203 f204 f205 X195 N207 Z206 Kp195 e195
    refine Goes.by (B := T209.setTop (mkF m 34 #[.val (.ref a0), .val (.ref a1), .val (.long q2), .second, .val (.ref x1)] [(.ref a1), (.ref x1)])) (fun t k => ?_) ?_
    · refine XS.aload X209.here hx rfl (hb hby d5_31) rfl rfl ?_
      refine XS.aloadN X209.here hx rfl (hb hby d5_33) rfl rfl ?_
      exact k
    obtain ⟨T222, h222, X222, e222, W222, st222⟩ := putFR X209 hx hZ hown (wq hw 58 rfl) e209 f213 f210 (wq hw 56 rfl) (wq hw 44 rfl) (ty := (.object cL)) (by decide) rfl rfl (g := (mkF m 34 #[.val (.ref a0), .val (.ref a1), .val (.long q2), .second, .val (.ref x1)] [(.ref a1), (.ref x1)])) rfl rfl (hb hby d5_34)
    have f223 : Exa Z h222 x1 cH := f210.wr W222
    have f224 : Fld Z h222 x1 cH "tick" "J" (.long t1) := f211.other W222 (Or.inr (slot_ne (Or.inr (wq hw 52 rfl)) (Or.inl (wq hw 56 rfl)) (by decide) (t := .long) (t' := (.object cL)) (by decide) (by decide)))
    have f225 : Exa Z h222 a1 cL := f212.wr W222
    have f226 : Exa Z h222 z1 cL := f214.wr W222
    have f227 : Fld Z h222 x1 cL "next" dL nx1 := f215.other W222 (Or.inr (slot_ne (Or.inl (wq hw 54 rfl)) (Or.inl (wq hw 56 rfl)) (by decide) (t := (.object cL)) (t' := (.object cL)) (by decide) (by decide)))
    have f228 : Fld Z h222 z1 cL "prev" dL pz1 := f216.other W222 (Or.inl (Ne.symm Ne9))
    have f229 : Fld Z h222 a1 cL "prev" dL (.ref z1) := f217.other W222 (Or.inl Ne7)
    have f230 : Fld Z h222 a1 cL "next" dL (.ref x1) := f218.other W222 (Or.inl Ne7)
    have f231 : Fld Z h222 z1 cL "next" dL (.ref a1) := f219.other W222 (Or.inl (Ne.symm Ne9))
    have f232 : Fld Z h222 x1 cL "prev" dL (.ref a1) := f213.same W222
    have Kp222 : Keep h0 h222 [a1, z1, x1] := Kp209.wr W222 (Or.inl (List.mem_of_getElem? (i := 2) rfl))
    have Z233 : n0 ≤ h222.size := Nat.le_trans Z220 (Nat.le_of_eq W222.size.symm)
    have N234 := Fr.snoc X222 N221 Ge3
    refine Goes.by st222 ?_
    clear f210 f211 f212 f213 f214 f215 f216 f217 f218 f219 X209 N221 Z220 Kp209 e209
    obtain ⟨fs, hr, hrun, hended, hW, hsame⟩ := X222.leave (v := none) (fun _ => rfl)
    refine Goes.mk _ _ ?_ ⟨hrun, hended, _, _, rfl, ?_, ⟨_, rfl⟩, hW, hsame.mono (by decide) (by decide)⟩
    · exact X222.returnOut hx Bd.returns (hb hby d5_37) hr
    · show QFile2 Z a0 a1 q2 ar kA x1 x2 t1 t2 nl pl z1 z2 w1 w2 nx1 nx2 pz1 pz2 h0 n0 _ T222.heap _
      rw [e222]
      exact (Or.inr (Or.inr (Or.inl ⟨hd18, hd19, hd20, rfl, N234, Kp222, f230, f229, f231, f228, f227, f232, f224⟩)))
  · have Kt236 : Keep h0 h0 [ar, a0, a1] := Keep.refl _ _
    have ne237 : a0 ≠ b23 := Nat.ne_of_lt (Nat.lt_of_lt_of_le F0.lt sz34)
    have ne238 : ar ≠ b23 := Nat.ne_of_lt (Nat.lt_of_lt_of_le F3.lt sz34)
    have ne239 : a1 ≠ b23 := Nat.ne_of_lt (Nat.lt_of_lt_of_le F9.lt sz34)
    have ge240 : n0 ≤ b23 := Nat.le_trans Z0 sz34
    have sz241 : h0.size ≤ b23 := Nat.le_trans Kt236.1 sz34
    have KK36 := K36
    have f242 : Exa Z T1.heap a0 cD := F0.keep KK36
    have f243 : Exa Z T1.heap a1 cL := F9.keep KK36
    have f244 : Fld Z T1.heap a1 cL "next" dL nl := F10.keep KK36 (ninS Ne5 (ninS Ne6 nin0))
    have f245 : Fld Z T1.heap a1 cL "prev" dL pl := F11.keep KK36 (ninS Ne5 (ninS Ne6 nin0))
    have KpK36 : Keep h0 T1.heap [ar, a0, a1] := Kt236.trans K36 (allS (Or.inl (List.mem_of_getElem? (i := 1) rfl)) (allS (Or.inl (List.mem_of_getElem? (i := 0) rfl)) all0))
    have Z246 : n0 ≤ T1.heap.size := Nat.le_trans Z0 K36.1
    have N247 := Fr.app N0 Nq35
    refine Goes.by (fun _ k => st1.trans k) ?_
    show Goes p.tables e below _ (T1.setTop (mkF m 5 #[.val (.ref a0), .val (.ref a1), .val (.long q2), .second, .unset] [(.ref b23)]))
    refine Goes.by (B := T1.setTop (mkF m 10 #[.val (.ref a0), .val (.ref a1), .val (.long q2), .second, .val (.ref b23)] [(.ref b23), (.ref a1)])) (fun t k => ?_) ?_
    · refine XS.astore X1.here hx rfl (hb hby d5_5) rfl rfl (l' := #[.val (.ref a0), .val (.ref a1), .val (.long q2), .second, .val (.ref b23)]) rfl ?_
      refine XS.aloadN X1.here hx rfl (hb hby d5_7) rfl rfl ?_
      refine XS.aload X1.here hx rfl (hb hby d5_8) rfl rfl ?_
      exact k
    refine Goes.by (B := T1.setTop (mkF m 13 #[.val (.ref a0), .val (.ref a1), .val (.long q2), .second, .val (.ref b23)] [(.ref b23), (.ref a1)])) (fun t k => ?_) ?_
    · refine getFR X1 hx hZ hown (wq hw 58 rfl) rfl f33 (g := (mkF m 10 #[.val (.ref a0), .val (.ref a1), .val (.long q2), .second, .val (.ref b23)] [(.ref b23), (.ref a1)])) rfl rfl (hb hby d5_10) ?_
      exact k
    obtain ⟨T249, h249, X249, e249, W249, st249⟩ := putFR X1 hx hZ hown (wq hw 58 rfl) rfl f245 f243 (wq hw 59 rfl) (wq hw 14 rfl) (ty := (.object cL)) (by decide) rfl rfl (g := (mkF m 13 #[.val (.ref a0), .val (.ref a1), .val (.long q2), .second, .val (.ref b23)] [(.ref b23), (.ref a1)])) rfl rfl (hb hby d5_13)
    have f250 : Exa Z h249 a0 cD := f242.wr W249
    have f251 : Exa Z h249 a1 cL := f243.wr W249
    have f252 : Fld Z h249 a1 cL "next" dL nl := f244.other W249 (Or.inr (slot_ne (Or.inl (wq hw 24 rfl)) (Or.inl (wq hw 59 rfl)) (by decide) (t := (.object cL)) (t' := (.object cL)) (by decide) (by decide)))
    have f253 : Fld Z h249 a0 cD "heads" dA (.ref ar) := f27.other W249 (Or.inl (Ne.symm Ne5))
    have f254 : Fld Z h249 a0 cD "count" "I" (.int (3 : Int32)) := f28.other W249 (Or.inl (Ne.symm Ne5))
    have f255 : Arv Z h249 ar kA (.object cH) (4 : Int32) [(.ref x1), (.ref b23), (.ref x2), .null] .null := f29.other W249 (Ne.symm Ne6)
    have f256 : Exa Z h249 b23 cH := f30.wr W249
    have f257 : Fld Z h249 b23 cH "tick" "J" (.long q2) := f31.other W249 (Or.inl (Ne.symm ne239))
    have f258 : Fld Z h249 b23 cL "next" dL (.ref b23) := f32.other W249 (Or.inl (Ne.symm ne239))
    have f259 : Fld Z h249 b23 cL "prev" dL (.ref b23) := f33.other W249 (Or.inl (Ne.symm ne239))
    have f260 : Fld Z h249 a1 cL "prev" dL (.ref b23) := f245.same W249
    have Kp249 : Keep h0 h249 [ar, a0, a1] := KpK36.wr W249 (Or.inl (List.mem_of_getElem? (i := 2) rfl))
    have Z261 : n0 ≤ h249.size := Nat.le_trans Z246 (Nat.le_of_eq W249.size.symm)
    have N262 := Fr.snoc X249 N247 Ge2
    refine Goes.by st249 ?_
    clear f242 f243 f244 f245 f27 f28 f29 f30 f31 f32 f33 X1 N247 Z246 KpK36
    refine Goes.by (B := T249.setTop (mkF m 19 #[.val (.ref a0), .val (.ref a1), .val (.long q2), .second, .val (.ref b23)] [(.ref b23), (.ref a1)])) (fun t k => ?_) ?_
    · refine XS.aloadN X249.here hx rfl (hb hby d5_16) rfl rfl ?_
      refine XS.aload X249.here hx rfl (hb hby d5_17) rfl rfl ?_
      exact k
    obtain ⟨T263, h263, X263, e263, W263, st263⟩ := putFR X249 hx hZ hown (wq hw 23 rfl) e249 f252 f251 (wq hw 24 rfl) (wq hw 14 rfl) (ty := (.object cL)) (by decide) rfl rfl (g := (mkF m 19 #[.val (.ref a0), .val (.ref a1), .val (.long q2), .second, .val (.ref b23)] [(.ref b23), (.ref a1)])) rfl rfl (hb hby d5_19)
    have f264 : Exa Z h263 a0 cD := f250.wr W263
    have f265 : Exa Z h263 a1 cL := f251.wr W263
    have f266 : Fld Z h263 a0 cD "heads" dA (.ref ar) := f253.other W263 (Or.inl (Ne.symm Ne5))
    have f267 : Fld Z h263 a0 cD "count" "I" (.int (3 : Int32)) := f254.other W263 (Or.inl (Ne.symm Ne5))
    have f268 : Arv Z h263 ar kA (.object cH) (4 : Int32) [(.ref x1), (.ref b23), (.ref x2), .null] .null := f255.other W263 (Ne.symm Ne6)
    have f269 : Exa Z h263 b23 cH := f256.wr W263
    have f270 : Fld Z h263 b23 cH "tick" "J" (.long q2) := f257.other W263 (Or.inl (Ne.symm ne239))
    have f271 : Fld Z h263 b23 cL "next" dL (.ref b23) := f258.other W263 (Or.inl (Ne.symm ne239))
    have f272 : Fld Z h263 b23 cL "prev" dL (.ref b23) := f259.other W263 (Or.inl (Ne.symm ne239))
    have f273 : Fld Z h263 a1 cL "prev" dL (.ref b23) := f260.other W263 (Or.inr (slot_ne (Or.inl (wq hw 59 rfl)) (Or.inl (wq hw 24 rfl)) (by decide) (t := (.object cL)) (t' := (.object cL)) (by decide) (by decide)))
    have f274 : Fld Z h263 a1 cL "next" dL (.ref b23) := f252.same W263
    have Kp263 : Keep h0 h263 [ar, a0, a1] := Kp249.wr W263 (Or.inl (List.mem_of_getElem? (i := 2) rfl))
    have Z275 : n0 ≤ h263.size := Nat.le_trans Z261 (Nat.le_of_eq W263.size.symm)
    have N276 := Fr.snoc X263 N262 Ge2
    refine Goes.by st263 ?_
    clear f250 f251 f252 f253 f254 f255 f256 f257 f258 f259 f260 X249 N262 Z261 Kp249 e249
    refine Goes.by (B := T263.setTop (mkF m 24 #[.val (.ref a0), .val (.ref a1), .val (.long q2), .second, .val (.ref b23)] [(.ref b23)])) (fun t k => ?_) ?_
    · refine XS.aload X263.here hx rfl (hb hby d5_22) rfl rfl ?_
      exact k
    refine Goes.by (B := T263.setTop (mkF m 28 #[.val (.ref a0), .val (.ref a1), .val (.long q2), .second, .val (.ref b23)] [(.ref a1), (.ref b23)])) (fun t k => ?_) ?_
    · refine getFR X263 hx hZ hown (wq hw 58 rfl) e263 f272 (g := (mkF m 24 #[.val (.ref a0), .val (.ref a1), .val (.long q2), .second, .val (.ref b23)] [(.ref b23)])) rfl rfl (hb hby d5_24) ?_
      refine XS.aloadN X263.here hx rfl (hb hby d5_27) rfl rfl ?_
      exact k
    obtain ⟨T278, h278, X278, e278, W278, st278⟩ := putFR X263 hx hZ hown (wq hw 23 rfl) e263 f271 f269 (wq hw 54 rfl) (wq hw 44 rfl) (ty := (.object cL)) (by decide) rfl rfl (g := (mkF m 28 #[.val (.ref a0), .val (.ref a1), .val (.long q2), .second, .val (.ref b23)] [(.ref a1), (.ref b23)])) rfl rfl (hb hby d5_28)
    have f279 : Exa Z h278 a0 cD := f264.wr W278
    have f280 : Exa Z h278 a1 cL := f265.wr W278
    have f281 : Fld Z h278 a0 cD "heads" dA (.ref ar) := f266.other W278 (Or.inl ne237)
    have f282 : Fld Z h278 a0 cD "count" "I" (.int (3 : Int32)) := f267.other W278 (Or.inl ne237)
    have f283 : Arv Z h278 ar kA (.object cH) (4 : Int32) [(.ref x1), (.ref b23), (.ref x2), .null] .null := f268.other W278 ne238
    have f284 : Exa Z h278 b23 cH := f269.wr W278
    have f285 : Fld Z h278 b23 cH "tick" "J" (.long q2) := f270.other W278 (Or.inr (slot_ne (Or.inr (wq hw 52 rfl)) (Or.inl (wq hw 54 rfl)) (by decide) (t := .long) (t' := (.object cL)) (by decide) (by decide)))
    have f286 : Fld Z h278 b23 cL "prev" dL (.ref b23) := f272.other W278 (Or.inr (slot_ne (Or.inl (wq hw 56 rfl)) (Or.inl (wq hw 54 rfl)) (by decide) (t := (.object cL)) (t' := (.object cL)) (by decide) (by decide)))
    have f287 : Fld Z h278 a1 cL "prev" dL (.ref b23) := f273.other W278 (Or.inl ne239)
    have f288 : Fld Z h278 a1 cL "next" dL (.ref b23) := f274.other W278 (Or.inl ne239)
    have f289 : Fld Z h278 b23 cL "next" dL (.ref a1) := f271.same W278
    have Kp278 : Keep h0 h278 [ar, a0, a1] := Kp263.wr W278 (Or.inr sz241)
    have Z290 : n0 ≤ h278.size := Nat.le_trans Z275 (Nat.le_of_eq W278.size.symm)
    have N291 := Fr.snoc X278 N276 ge240
    refine Goes.by st278 ?_
    clear f264 f265 f266 f267 f268 f269 f270 f271 f272 f273 f274 X263 N276 Z275 Kp263 e263
    refine Goes.by (B := T278.setTop (mkF m 34 #[.val (.ref a0), .val (.ref a1), .val (.long q2), .second, .val (.ref b23)] [(.ref a1), (.ref b23)])) (fun t k => ?_) ?_
    · refine XS.aload X278.here hx rfl (hb hby d5_31) rfl rfl ?_
      refine XS.aloadN X278.here hx rfl (hb hby d5_33) rfl rfl ?_
      exact k
    obtain ⟨T292, h292, X292, e292, W292, st292⟩ := putFR X278 hx hZ hown (wq hw 58 rfl) e278 f286 f284 (wq hw 56 rfl) (wq hw 44 rfl) (ty := (.object cL)) (by decide) rfl rfl (g := (mkF m 34 #[.val (.ref a0), .val (.ref a1), .val (.long q2), .second, .val (.ref b23)] [(.ref a1), (.ref b23)])) rfl rfl (hb hby d5_34)
    have f293 : Exa Z h292 a0 cD := f279.wr W292
    have f294 : Exa Z h292 a1 cL := f280.wr W292
    have f295 : Fld Z h292 a0 cD "heads" dA (.ref ar) := f281.other W292 (Or.inl ne237)
    have f296 : Fld Z h292 a0 cD "count" "I" (.int (3 : Int32)) := f282.other W292 (Or.inl ne237)
    have f297 : Arv Z h292 ar kA (.object cH) (4 : Int32) [(.ref x1), (.ref b23), (.ref x2), .null] .null := f283.other W292 ne238
    have f298 : Exa Z h292 b23 cH := f284.wr W292
    have f299 : Fld Z h292 b23 cH "tick" "J" (.long q2) := f285.other W292 (Or.inr (slot_ne (Or.inr (wq hw 52 rfl)) (Or.inl (wq hw 56 rfl)) (by decide) (t := .long) (t' := (.object cL)) (by decide) (by decide)))
    have f300 : Fld Z h292 a1 cL "prev" dL (.ref b23) := f287.other W292 (Or.inl ne239)
    have f301 : Fld Z h292 a1 cL "next" dL (.ref b23) := f288.other W292 (Or.inl ne239)
    have f302 : Fld Z h292 b23 cL "next" dL (.ref a1) := f289.other W292 (Or.inr (slot_ne (Or.inl (wq hw 54 rfl)) (Or.inl (wq hw 56 rfl)) (by decide) (t := (.object cL)) (t' := (.object cL)) (by decide) (by decide)))
    have f303 : Fld Z h292 b23 cL "prev" dL (.ref a1) := f286.same W292
    have Kp292 : Keep h0 h292 [ar, a0, a1] := Kp278.wr W292 (Or.inr sz241)
    have Z304 : n0 ≤ h292.size := Nat.le_trans Z290 (Nat.le_of_eq W292.size.symm)
    have N305 := Fr.snoc X292 N291 ge240
    refine Goes.by st292 ?_
    clear f279 f280 f281 f282 f283 f284 f285 f286 f287 f288 f289 X278 N291 Z290 Kp278 e278
    obtain ⟨fs, hr, hrun, hended, hW, hsame⟩ := X292.leave (v := none) (fun _ => rfl)
    refine Goes.mk _ _ ?_ ⟨hrun, hended, _, _, rfl, ?_, ⟨_, rfl⟩, hW, hsame.mono (by decide) (by decide)⟩
    · exact X292.returnOut hx Bd.returns (hb hby d5_37) hr
    · show QFile2 Z a0 a1 q2 ar kA x1 x2 t1 t2 nl pl z1 z2 w1 w2 nx1 nx2 pz1 pz2 h0 n0 _ T292.heap _
      rw [e292]
      exact (Or.inr (Or.inr (Or.inr (Or.inl ⟨b23, hd24, hd25, hd26, rfl, N305, Kp292, sz241, f295, f296, f297, f298, f299, f302, f303, f301, f300⟩))))
  · have Kt307 : Keep h0 h0 [ar, a0, a1] := Keep.refl _ _
    have ne308 : a0 ≠ b37 := Nat.ne_of_lt (Nat.lt_of_lt_of_le F0.lt sz47)
    have ne309 : ar ≠ b37 := Nat.ne_of_lt (Nat.lt_of_lt_of_le F3.lt sz47)
    have ne310 : a1 ≠ b37 := Nat.ne_of_lt (Nat.lt_of_lt_of_le F9.lt sz47)
    have ge311 : n0 ≤ b37 := Nat.le_trans Z0 sz47
    have sz312 : h0.size ≤ b37 := Nat.le_trans Kt307.1 sz47
    have KK49 := K49
    have f313 : Exa Z T1.heap a0 cD := F0.keep KK49
    have f314 : Exa Z T1.heap a1 cL := F9.keep KK49
    have f315 : Fld Z T1.heap a1 cL "next" dL nl := F10.keep KK49 (ninS Ne5 (ninS Ne6 nin0))
    have f316 : Fld Z T1.heap a1 cL "prev" dL pl := F11.keep KK49 (ninS Ne5 (ninS Ne6 nin0))
    have KpK49 : Keep h0 T1.heap [ar, a0, a1] := Kt307.trans K49 (allS (Or.inl (List.mem_of_getElem? (i := 1) rfl)) (allS (Or.inl (List.mem_of_getElem? (i := 0) rfl)) all0))
    have Z317 : n0 ≤ T1.heap.size := Nat.le_trans Z0 K49.1
    have N318 := Fr.app N0 Nq48
    refine Goes.by (fun _ k => st1.trans k) ?_
    show Goes p.tables e below _ (T1.setTop (mkF m 5 #[.val (.ref a0), .val (.ref a1), .val (.long q2), .second, .unset] [(.ref b37)]))
    refine Goes.by (B := T1.setTop (mkF m 10 #[.val (.ref a0), .val (.ref a1), .val (.long q2), .second, .val (.ref b37)] [(.ref b37), (.ref a1)])) (fun t k => ?_) ?_
    · refine XS.astore X1.here hx rfl (hb hby d5_5) rfl rfl (l' := #[.val (.ref a0), .val (.ref a1), .val (.long q2), .second, .val (.ref b37)]) rfl ?_
      refine XS.aloadN X1.here hx rfl (hb hby d5_7) rfl rfl ?_
      refine XS.aload X1.here hx rfl (hb hby d5_8) rfl rfl ?_
      exact k
    refine Goes.by (B := T1.setTop (mkF m 13 #[.val (.ref a0), .val (.ref a1), .val (.long q2), .second, .val (.ref b37)] [(.ref b37), (.ref a1)])) (fun t k => ?_) ?_
    · refine getFR X1 hx hZ hown (wq hw 58 rfl) rfl f46 (g := (mkF m 10 #[.val (.ref a0), .val (.ref a1), .val (.long q2), .second, .val (.ref b37)] [(.ref b37), (.ref a1)])) rfl rfl (hb hby d5_10) ?_
      exact k
    obtain ⟨T320, h320, X320, e320, W320, st320⟩ := putFR X1 hx hZ hown (wq hw 58 rfl) rfl f316 f314 (wq hw 59 rfl) (wq hw 14 rfl) (ty := (.object cL)) (by decide) rfl rfl (g := (mkF m 13 #[.val (.ref a0), .val (.ref a1), .val (.long q2), .second, .val (.ref b37)] [(.ref b37), (.ref a1)])) rfl rfl (hb hby d5_13)
    have f321 : Exa Z h320 a0 cD := f313.wr W320
    have f322 : Exa Z h320 a1 cL := f314.wr W320
    have f323 : Fld Z h320 a1 cL "next" dL nl := f315.other W320 (Or.inr (slot_ne (Or.inl (wq hw 24 rfl)) (Or.inl (wq hw 59 rfl)) (by decide) (t := (.object cL)) (t' := (.object cL)) (by decide) (by decide)))
    have f324 : Fld Z h320 a0 cD "heads" dA (.ref ar) := f40.other W320 (Or.inl (Ne.symm Ne5))
    have f325 : Fld Z h320 a0 cD "count" "I" (.int (3 : Int32)) := f41.other W320 (Or.inl (Ne.symm Ne5))
    have f326 : Arv Z h320 ar kA (.object cH) (4 : Int32) [(.ref x1), (.ref x2), (.ref b37), .null] .null := f42.other W320 (Ne.symm Ne6)
    have f327 : Exa Z h320 b37 cH := f43.wr W320
    have f328 : Fld Z h320 b37 cH "tick" "J" (.long q2) := f44.other W320 (Or.inl (Ne.symm ne310))
    have f329 : Fld Z h320 b37 cL "next" dL (.ref b37) := f45.other W320 (Or.inl (Ne.symm ne310))
    have f330 : Fld Z h320 b37 cL "prev" dL (.ref b37) := f46.other W320 (Or.inl (Ne.symm ne310))
    have f331 : Fld Z h320 a1 cL "prev" dL (.ref b37) := f316.same W320
    have Kp320 : Keep h0 h320 [ar, a0, a1] := KpK49.wr W320 (Or.inl (List.mem_of_getElem? (i := 2) rfl))
    have Z332 : n0 ≤ h320.size := Nat.le_trans Z317 (Nat.le_of_eq W320.size.symm)
    have N333 := Fr.snoc X320 N318 Ge2
    refine Goes.by st320 ?_
    clear f313 f314 f315 f316 f40 f41 f42 f43 f44 f45 f46 X1 N318 Z317 KpK49
    refine Goes.by (B := T320.setTop (mkF m 19 #[.val (.ref a0), .val (.ref a1), .val (.long q2), .second, .val (.ref b37)] [(.ref b37), (.ref a1)])) (fun t k => ?_) ?_
    · refine XS.aloadN X320.here hx rfl (hb hby d5_16) rfl rfl ?_
      refine XS.aload X320.here hx rfl (hb hby d5_17) rfl rfl ?_
      exact k
    obtain ⟨T334, h334, X334, e334, W334, st334⟩ := putFR X320 hx hZ hown (wq hw 23 rfl) e320 f323 f322 (wq hw 24 rfl) (wq hw 14 rfl) (ty := (.object cL)) (by decide) rfl rfl (g := (mkF m 19 #[.val (.ref a0), .val (.ref a1), .val (.long q2), .second, .val (.ref b37)] [(.ref b37), (.ref a1)])) rfl rfl (hb hby d5_19)
    have f335 : Exa Z h334 a0 cD := f321.wr W334
    have f336 : Exa Z h334 a1 cL := f322.wr W334
    have f337 : Fld Z h334 a0 cD "heads" dA (.ref ar) := f324.other W334 (Or.inl (Ne.symm Ne5))
    have f338 : Fld Z h334 a0 cD "count" "I" (.int (3 : Int32)) := f325.other W334 (Or.inl (Ne.symm Ne5))
    have f339 : Arv Z h334 ar kA (.object cH) (4 : Int32) [(.ref x1), (.ref x2), (.ref b37), .null] .null := f326.other W334 (Ne.symm Ne6)
    have f340 : Exa Z h334 b37 cH := f327.wr W334
    have f341 : Fld Z h334 b37 cH "tick" "J" (.long q2) := f328.other W334 (Or.inl (Ne.symm ne310))
    have f342 : Fld Z h334 b37 cL "next" dL (.ref b37) := f329.other W334 (Or.inl (Ne.symm ne310))
    have f343 : Fld Z h334 b37 cL "prev" dL (.ref b37) := f330.other W334 (Or.inl (Ne.symm ne310))
    have f344 : Fld Z h334 a1 cL "prev" dL (.ref b37) := f331.other W334 (Or.inr (slot_ne (Or.inl (wq hw 59 rfl)) (Or.inl (wq hw 24 rfl)) (by decide) (t := (.object cL)) (t' := (.object cL)) (by decide) (by decide)))
    have f345 : Fld Z h334 a1 cL "next" dL (.ref b37) := f323.same W334
    have Kp334 : Keep h0 h334 [ar, a0, a1] := Kp320.wr W334 (Or.inl (List.mem_of_getElem? (i := 2) rfl))
    have Z346 : n0 ≤ h334.size := Nat.le_trans Z332 (Nat.le_of_eq W334.size.symm)
    have N347 := Fr.snoc X334 N333 Ge2
    refine Goes.by st334 ?_
    clear f321 f322 f323 f324 f325 f326 f327 f328 f329 f330 f331 X320 N333 Z332 Kp320 e320
    refine Goes.by (B := T334.setTop (mkF m 24 #[.val (.ref a0), .val (.ref a1), .val (.long q2), .second, .val (.ref b37)] [(.ref b37)])) (fun t k => ?_) ?_
    · refine XS.aload X334.here hx rfl (hb hby d5_22) rfl rfl ?_
      exact k
    refine Goes.by (B := T334.setTop (mkF m 28 #[.val (.ref a0), .val (.ref a1), .val (.long q2), .second, .val (.ref b37)] [(.ref a1), (.ref b37)])) (fun t k => ?_) ?_
    · refine getFR X334 hx hZ hown (wq hw 58 rfl) e334 f343 (g := (mkF m 24 #[.val (.ref a0), .val (.ref a1), .val (.long q2), .second, .val (.ref b37)] [(.ref b37)])) rfl rfl (hb hby d5_24) ?_
      refine XS.aloadN X334.here hx rfl (hb hby d5_27) rfl rfl ?_
      exact k
    obtain ⟨T349, h349, X349, e349, W349, st349⟩ := putFR X334 hx hZ hown (wq hw 23 rfl) e334 f342 f340 (wq hw 54 rfl) (wq hw 44 rfl) (ty := (.object cL)) (by decide) rfl rfl (g := (mkF m 28 #[.val (.ref a0), .val (.ref a1), .val (.long q2), .second, .val (.ref b37)] [(.ref a1), (.ref b37)])) rfl rfl (hb hby d5_28)
    have f350 : Exa Z h349 a0 cD := f335.wr W349
    have f351 : Exa Z h349 a1 cL := f336.wr W349
    have f352 : Fld Z h349 a0 cD "heads" dA (.ref ar) := f337.other W349 (Or.inl ne308)
    have f353 : Fld Z h349 a0 cD "count" "I" (.int (3 : Int32)) := f338.other W349 (Or.inl ne308)
    have f354 : Arv Z h349 ar kA (.object cH) (4 : Int32) [(.ref x1), (.ref x2), (.ref b37), .null] .null := f339.other W349 ne309
    have f355 : Exa Z h349 b37 cH := f340.wr W349
    have f356 : Fld Z h349 b37 cH "tick" "J" (.long q2) := f341.other W349 (Or.inr (slot_ne (Or.inr (wq hw 52 rfl)) (Or.inl (wq hw 54 rfl)) (by decide) (t := .long) (t' := (.object cL)) (by decide) (by decide)))
    have f357 : Fld Z h349 b37 cL "prev" dL (.ref b37) := f343.other W349 (Or.inr (slot_ne (Or.inl (wq hw 56 rfl)) (Or.inl (wq hw 54 rfl)) (by decide) (t := (.object cL)) (t' := (.object cL)) (by decide) (by decide)))
    have f358 : Fld Z h349 a1 cL "prev" dL (.ref b37) := f344.other W349 (Or.inl ne310)
    have f359 : Fld Z h349 a1 cL "next" dL (.ref b37) := f345.other W349 (Or.inl ne310)
    have f360 : Fld Z h349 b37 cL "next" dL (.ref a1) := f342.same W349
    have Kp349 : Keep h0 h349 [ar, a0, a1] := Kp334.wr W349 (Or.inr sz312)
    have Z361 : n0 ≤ h349.size := Nat.le_trans Z346 (Nat.le_of_eq W349.size.symm)
    have N362 := Fr.snoc X349 N347 ge311
    refine Goes.by st349 ?_
    clear f335 f336 f337 f338 f339 f340 f341 f342 f343 f344 f345 X334 N347 Z346 Kp334 e334
    refine Goes.by (B := T349.setTop (mkF m 34 #[.val (.ref a0), .val (.ref a1), .val (.long q2), .second, .val (.ref b37)] [(.ref a1), (.ref b37)])) (fun t k => ?_) ?_
    · refine XS.aload X349.here hx rfl (hb hby d5_31) rfl rfl ?_
      refine XS.aloadN X349.here hx rfl (hb hby d5_33) rfl rfl ?_
      exact k
    obtain ⟨T363, h363, X363, e363, W363, st363⟩ := putFR X349 hx hZ hown (wq hw 58 rfl) e349 f357 f355 (wq hw 56 rfl) (wq hw 44 rfl) (ty := (.object cL)) (by decide) rfl rfl (g := (mkF m 34 #[.val (.ref a0), .val (.ref a1), .val (.long q2), .second, .val (.ref b37)] [(.ref a1), (.ref b37)])) rfl rfl (hb hby d5_34)
    have f364 : Exa Z h363 a0 cD := f350.wr W363
    have f365 : Exa Z h363 a1 cL := f351.wr W363
    have f366 : Fld Z h363 a0 cD "heads" dA (.ref ar) := f352.other W363 (Or.inl ne308)
    have f367 : Fld Z h363 a0 cD "count" "I" (.int (3 : Int32)) := f353.other W363 (Or.inl ne308)
    have f368 : Arv Z h363 ar kA (.object cH) (4 : Int32) [(.ref x1), (.ref x2), (.ref b37), .null] .null := f354.other W363 ne309
    have f369 : Exa Z h363 b37 cH := f355.wr W363
    have f370 : Fld Z h363 b37 cH "tick" "J" (.long q2) := f356.other W363 (Or.inr (slot_ne (Or.inr (wq hw 52 rfl)) (Or.inl (wq hw 56 rfl)) (by decide) (t := .long) (t' := (.object cL)) (by decide) (by decide)))
    have f371 : Fld Z h363 a1 cL "prev" dL (.ref b37) := f358.other W363 (Or.inl ne310)
    have f372 : Fld Z h363 a1 cL "next" dL (.ref b37) := f359.other W363 (Or.inl ne310)
    have f373 : Fld Z h363 b37 cL "next" dL (.ref a1) := f360.other W363 (Or.inr (slot_ne (Or.inl (wq hw 54 rfl)) (Or.inl (wq hw 56 rfl)) (by decide) (t := (.object cL)) (t' := (.object cL)) (by decide) (by decide)))
    have f374 : Fld Z h363 b37 cL "prev" dL (.ref a1) := f357.same W363
    have Kp363 : Keep h0 h363 [ar, a0, a1] := Kp349.wr W363 (Or.inr sz312)
    have Z375 : n0 ≤ h363.size := Nat.le_trans Z361 (Nat.le_of_eq W363.size.symm)
    have N376 := Fr.snoc X363 N362 ge311
    refine Goes.by st363 ?_
    clear f350 f351 f352 f353 f354 f355 f356 f357 f358 f359 f360 X349 N362 Z361 Kp349 e349
    obtain ⟨fs, hr, hrun, hended, hW, hsame⟩ := X363.leave (v := none) (fun _ => rfl)
    refine Goes.mk _ _ ?_ ⟨hrun, hended, _, _, rfl, ?_, ⟨_, rfl⟩, hW, hsame.mono (by decide) (by decide)⟩
    · exact X363.returnOut hx Bd.returns (hb hby d5_37) hr
    · show QFile2 Z a0 a1 q2 ar kA x1 x2 t1 t2 nl pl z1 z2 w1 w2 nx1 nx2 pz1 pz2 h0 n0 _ T363.heap _
      rw [e363]
      exact (Or.inr (Or.inr (Or.inr (Or.inr ⟨b37, hd38, hd39, rfl, N376, Kp363, sz312, f366, f367, f368, f369, f370, f373, f374, f372, f371⟩))))
theorem d9_0 : decode prog_4_method_6_code 0 = .ok (.aload_n 1, 1) := by decide +kernel
theorem d9_1 : decode prog_4_method_6_code 1 = .ok (.getfield 37, 3) := by decide +kernel
theorem d9_4 : decode prog_4_method_6_code 4 = .ok (.astore_n 2, 1) := by decide +kernel
theorem d9_5 : decode prog_4_method_6_code 5 = .ok (.aload_n 2, 1) := by decide +kernel
theorem d9_6 : decode prog_4_method_6_code 6 = .ok (.aload_n 1, 1) := by decide +kernel
theorem d9_7 : decode prog_4_method_6_code 7 = .ok (.getfield 27, 3) := by decide +kernel
theorem d9_10 : decode prog_4_method_6_code 10 = .ok (.putfield 27, 3) := by decide +kernel
theorem d9_13 : decode prog_4_method_6_code 13 = .ok (.aload_n 1, 1) := by decide +kernel
theorem d9_14 : decode prog_4_method_6_code 14 = .ok (.getfield 27, 3) := by decide +kernel
theorem d9_17 : decode prog_4_method_6_code 17 = .ok (.aload_n 2, 1) := by decide +kernel
theorem d9_18 : decode prog_4_method_6_code 18 = .ok (.putfield 37, 3) := by decide +kernel
theorem d9_21 : decode prog_4_method_6_code 21 = .ok (.aload_n 1, 1) := by decide +kernel
theorem d9_22 : decode prog_4_method_6_code 22 = .ok (.aconst_null, 1) := by decide +kernel
theorem d9_23 : decode prog_4_method_6_code 23 = .ok (.putfield 27, 3) := by decide +kernel
theorem d9_26 : decode prog_4_method_6_code 26 = .ok (.aload_n 1, 1) := by decide +kernel
theorem d9_27 : decode prog_4_method_6_code 27 = .ok (.aconst_null, 1) := by decide +kernel
theorem d9_28 : decode prog_4_method_6_code 28 = .ok (.putfield 37, 3) := by decide +kernel
theorem d9_31 : decode prog_4_method_6_code 31 = .ok (.aload_n 2, 1) := by decide +kernel
theorem d9_32 : decode prog_4_method_6_code 32 = .ok (.getfield 27, 3) := by decide +kernel
theorem d9_35 : decode prog_4_method_6_code 35 = .ok (.aload_n 2, 1) := by decide +kernel
theorem d9_36 : decode prog_4_method_6_code 36 = .ok (.if_acmp .ne 11, 3) := by decide +kernel
theorem d9_47 : decode prog_4_method_6_code 47 = .ok (.return_, 1) := by decide +kernel
def QRemLL (Z : State) (a0 : Addr) (a1 : Addr) (u : Addr) (w : Addr) (nu : Value) (pu : Value) (nw : Value) (pw : Value) (h0 : Heap) (n0 : Nat) (v : Option Value) (h : Heap) (L : List Loc) : Prop := v = none ∧ Fr n0 L ∧ Keep h0 h [u, w, a1] ∧ Fld Z h a1 cL "next" dL .null ∧ Fld Z h a1 cL "prev" dL .null ∧ Fld Z h u cL "next" dL (.ref w) ∧ Fld Z h u cL "prev" dL pu ∧ Fld Z h w cL "next" dL nw ∧ Fld Z h w cL "prev" dL (.ref u)
theorem efRemLL (m : MethodId) (x0 : Addr) (x1 : Addr) : entryFrame m #[(.ref x0), (.ref x1)] 3 = mkF m 0 #[.val (.ref x0), .val (.ref x1), .unset] [] := by first | (simp [entryFrame, mkF, argsToLocals, Value.category]; done) | rfl
set_option maxRecDepth 65536 in
set_option maxHeartbeats 40000000 in
theorem rmRemLL (l : Launch) (Z : State) (az : Array Value) (hw : ∀ d ∈ tables_1, d.before az Z = true) (ws : List Jvm.Cond) (a0 : Addr) (a1 : Addr) (u : Addr) (w : Addr) (nu : Value) (pu : Value) (nw : Value) (pw : Value) (h0 : Heap) (n0 : Nat) (Z0 : n0 ≤ h0.size) (F0 : Exa Z h0 a1 cL) (F1 : Fld Z h0 a1 cL "prev" dL (.ref u)) (F2 : Fld Z h0 a1 cL "next" dL (.ref w)) (F3 : Exa Z h0 u cL) (F4 : Fld Z h0 u cL "next" dL nu) (F5 : Fld Z h0 u cL "prev" dL pu) (F6 : Exa Z h0 w cL) (F7 : Fld Z h0 w cL "next" dL nw) (F8 : Fld Z h0 w cL "prev" dL pw) (Ne0 : a1 ≠ u) (Ne1 : a1 ≠ w) (Ne2 : u ≠ w) (Ge0 : n0 ≤ a1) (Ge1 : n0 ≤ u) (Ge2 : n0 ≤ w) :
    MetFree l y7 (head1 (Jvm.Cond.code y7 prog_4_method_6_code 3 none :: ws) ({ frames := 2, cells := 0, slots := 0, locals := 32 } : Room)) (fun a U => a = #[(.ref a0), (.ref a1)] ∧ Z.Warmed39 U.vm ∧ U.heap = h0) (fun _ _ _ _ _ => True) (fun _ U o U' => ∃ v L, o = .returned v ∧ QRemLL Z a0 a1 u w nu pu nw pw h0 n0 v U'.heap L ∧ FrameEnd U o U' L ({ frames := 2, cells := 0, slots := 0, locals := 32 } : Room).cells ({ frames := 2, cells := 0, slots := 0, locals := 32 } : Room).slots) := by
  refine MetFree.of_bodySF (plainFor_of_name own_pn_com_example_admit_one_admitone_engine_DueOrder) hisR ?_
  intro p e s m args below meth c s₁ Bd hml0 hP hK
  obtain ⟨rfl, hZ, hh⟩ := hP
  have hx := Bd.exec
  have hby := Bd.bytes
  have hml : c.maxLocals = 3 := hml0
  have hown : s.vm.findClass cD = some m.cls := findClass_of_methodNamed Bd.named
  have hnm := (name_of_methodNamed Bd.named Bd.method).1
  have X0 : Stand p l e ({ frames := 2, cells := 0, slots := 0, locals := 32 } : Room) s m #[(.ref a0), (.ref a1)] below meth c s₁ [] 0 0 := Stand.of_body Bd
  have e0 : s₁.heap = h0 := by rw [← hh, Bd.state]; rfl
  have N0 := Fr.nil n0
  have Kp0 : Keep h0 h0 [u, w, a1] := Keep.refl _ _
  refine Goes.start ?_
  refine Goes.by (B := s₁.setTop (mkF m 0 #[.val (.ref a0), .val (.ref a1), .unset] [])) (fun t k => castTop (efRemLL m a0 a1) k) ?_
  refine Goes.by (B := s₁.setTop (mkF m 1 #[.val (.ref a0), .val (.ref a1), .unset] [(.ref a1)])) (fun t k => ?_) ?_
  · refine XS.aloadN X0.here hx rfl (hb hby d9_0) rfl rfl ?_
    exact k
  refine Goes.by (B := s₁.setTop (mkF m 7 #[.val (.ref a0), .val (.ref a1), .val (.ref u)] [(.ref a1), (.ref u)])) (fun t k => ?_) ?_
  · refine getFR X0 hx hZ hown (wq hw 58 rfl) e0 F1 (g := (mkF m 1 #[.val (.ref a0), .val (.ref a1), .unset] [(.ref a1)])) rfl rfl (hb hby d9_1) ?_
    refine XS.astoreN X0.here hx rfl (hb hby d9_4) rfl rfl (l' := #[.val (.ref a0), .val (.ref a1), .val (.ref u)]) rfl ?_
    refine XS.aloadN X0.here hx rfl (hb hby d9_5) rfl rfl ?_
    refine XS.aloadN X0.here hx rfl (hb hby d9_6) rfl rfl ?_
    exact k
  refine Goes.by (B := s₁.setTop (mkF m 10 #[.val (.ref a0), .val (.ref a1), .val (.ref u)] [(.ref w), (.ref u)])) (fun t k => ?_) ?_
  · refine getFR X0 hx hZ hown (wq hw 23 rfl) e0 F2 (g := (mkF m 7 #[.val (.ref a0), .val (.ref a1), .val (.ref u)] [(.ref a1), (.ref u)])) rfl rfl (hb hby d9_7) ?_
    exact k
  obtain ⟨T3, h3, X3, e3, W3, st3⟩ := putFR X0 hx hZ hown (wq hw 23 rfl) e0 F4 F3 (wq hw 24 rfl) (wq hw 14 rfl) (ty := (.object cL)) (by decide) rfl rfl (g := (mkF m 10 #[.val (.ref a0), .val (.ref a1), .val (.ref u)] [(.ref w), (.ref u)])) rfl rfl (hb hby d9_10)
  have f4 : Exa Z h3 a1 cL := F0.wr W3
  have f5 : Fld Z h3 a1 cL "prev" dL (.ref u) := F1.other W3 (Or.inl Ne0)
  have f6 : Fld Z h3 a1 cL "next" dL (.ref w) := F2.other W3 (Or.inl Ne0)
  have f7 : Exa Z h3 u cL := F3.wr W3
  have f8 : Fld Z h3 u cL "prev" dL pu := F5.other W3 (Or.inr (slot_ne (Or.inl (wq hw 59 rfl)) (Or.inl (wq hw 24 rfl)) (by decide) (t := (.object cL)) (t' := (.object cL)) (by decide) (by decide)))
  have f9 : Exa Z h3 w cL := F6.wr W3
  have f10 : Fld Z h3 w cL "next" dL nw := F7.other W3 (Or.inl (Ne.symm Ne2))
  have f11 : Fld Z h3 w cL "prev" dL pw := F8.other W3 (Or.inl (Ne.symm Ne2))
  have f12 : Fld Z h3 u cL "next" dL (.ref w) := F4.same W3
  have Kp3 : Keep h0 h3 [u, w, a1] := Kp0.wr W3 (Or.inl (List.mem_of_getElem? (i := 0) rfl))
  have Z13 : n0 ≤ h3.size := Nat.le_trans Z0 (Nat.le_of_eq W3.size.symm)
  have N14 := Fr.snoc X3 N0 Ge1
  refine Goes.by st3 ?_
  clear X0 N0
  refine Goes.by (B := T3.setTop (mkF m 14 #[.val (.ref a0), .val (.ref a1), .val (.ref u)] [(.ref a1)])) (fun t k => ?_) ?_
  · refine XS.aloadN X3.here hx rfl (hb hby d9_13) rfl rfl ?_
    exact k
  refine Goes.by (B := T3.setTop (mkF m 18 #[.val (.ref a0), .val (.ref a1), .val (.ref u)] [(.ref u), (.ref w)])) (fun t k => ?_) ?_
  · refine getFR X3 hx hZ hown (wq hw 23 rfl) e3 f6 (g := (mkF m 14 #[.val (.ref a0), .val (.ref a1), .val (.ref u)] [(.ref a1)])) rfl rfl (hb hby d9_14) ?_
    refine XS.aloadN X3.here hx rfl (hb hby d9_17) rfl rfl ?_
    exact k
  obtain ⟨T16, h16, X16, e16, W16, st16⟩ := putFR X3 hx hZ hown (wq hw 58 rfl) e3 f11 f9 (wq hw 59 rfl) (wq hw 14 rfl) (ty := (.object cL)) (by decide) rfl rfl (g := (mkF m 18 #[.val (.ref a0), .val (.ref a1), .val (.ref u)] [(.ref u), (.ref w)])) rfl rfl (hb hby d9_18)
  have f17 : Exa Z h16 a1 cL := f4.wr W16
  have f18 : Fld Z h16 a1 cL "prev" dL (.ref u) := f5.other W16 (Or.inl Ne1)
  have f19 : Fld Z h16 a1 cL "next" dL (.ref w) := f6.other W16 (Or.inl Ne1)
  have f20 : Exa Z h16 u cL := f7.wr W16
  have f21 : Fld Z h16 u cL "prev" dL pu := f8.other W16 (Or.inl Ne2)
  have f22 : Exa Z h16 w cL := f9.wr W16
  have f23 : Fld Z h16 w cL "next" dL nw := f10.other W16 (Or.inr (slot_ne (Or.inl (wq hw 24 rfl)) (Or.inl (wq hw 59 rfl)) (by decide) (t := (.object cL)) (t' := (.object cL)) (by decide) (by decide)))
  have f24 : Fld Z h16 u cL "next" dL (.ref w) := f12.other W16 (Or.inl Ne2)
  have f25 : Fld Z h16 w cL "prev" dL (.ref u) := f11.same W16
  have Kp16 : Keep h0 h16 [u, w, a1] := Kp3.wr W16 (Or.inl (List.mem_of_getElem? (i := 1) rfl))
  have Z26 : n0 ≤ h16.size := Nat.le_trans Z13 (Nat.le_of_eq W16.size.symm)
  have N27 := Fr.snoc X16 N14 Ge2
  refine Goes.by st16 ?_
  clear f4 f5 f6 f7 f8 f9 f10 f11 f12 X3 N14 Z13 Kp3 e3
  refine Goes.by (B := T16.setTop (mkF m 23 #[.val (.ref a0), .val (.ref a1), .val (.ref u)] [.null, (.ref a1)])) (fun t k => ?_) ?_
  · refine XS.aloadN X16.here hx rfl (hb hby d9_21) rfl rfl ?_
    refine XS.aconstNull X16.here hx rfl (hb hby d9_22) ?_
    exact k
  obtain ⟨T28, h28, X28, e28, W28, st28⟩ := putFR X16 hx hZ hown (wq hw 23 rfl) e16 f19 f17 (wq hw 24 rfl) (wq hw 14 rfl) (ty := (.object cL)) (by decide) rfl rfl (g := (mkF m 23 #[.val (.ref a0), .val (.ref a1), .val (.ref u)] [.null, (.ref a1)])) rfl rfl (hb hby d9_23)
  have f29 : Exa Z h28 a1 cL := f17.wr W28
  have f30 : Fld Z h28 a1 cL "prev" dL (.ref u) := f18.other W28 (Or.inr (slot_ne (Or.inl (wq hw 59 rfl)) (Or.inl (wq hw 24 rfl)) (by decide) (t := (.object cL)) (t' := (.object cL)) (by decide) (by decide)))
  have f31 : Exa Z h28 u cL := f20.wr W28
  have f32 : Fld Z h28 u cL "prev" dL pu := f21.other W28 (Or.inl (Ne.symm Ne0))
  have f33 : Exa Z h28 w cL := f22.wr W28
  have f34 : Fld Z h28 w cL "next" dL nw := f23.other W28 (Or.inl (Ne.symm Ne1))
  have f35 : Fld Z h28 u cL "next" dL (.ref w) := f24.other W28 (Or.inl (Ne.symm Ne0))
  have f36 : Fld Z h28 w cL "prev" dL (.ref u) := f25.other W28 (Or.inl (Ne.symm Ne1))
  have f37 : Fld Z h28 a1 cL "next" dL .null := f19.same W28
  have Kp28 : Keep h0 h28 [u, w, a1] := Kp16.wr W28 (Or.inl (List.mem_of_getElem? (i := 2) rfl))
  have Z38 : n0 ≤ h28.size := Nat.le_trans Z26 (Nat.le_of_eq W28.size.symm)
  have N39 := Fr.snoc X28 N27 Ge0
  refine Goes.by st28 ?_
  clear f17 f18 f19 f20 f21 f22 f23 f24 f25 X16 N27 Z26 Kp16 e16
  refine Goes.by (B := T28.setTop (mkF m 28 #[.val (.ref a0), .val (.ref a1), .val (.ref u)] [.null, (.ref a1)])) (fun t k => ?_) ?_
  · refine XS.aloadN X28.here hx rfl (hb hby d9_26) rfl rfl ?_
    refine XS.aconstNull X28.here hx rfl (hb hby d9_27) ?_
    exact k
  obtain ⟨T40, h40, X40, e40, W40, st40⟩ := putFR X28 hx hZ hown (wq hw 58 rfl) e28 f30 f29 (wq hw 59 rfl) (wq hw 14 rfl) (ty := (.object cL)) (by decide) rfl rfl (g := (mkF m 28 #[.val (.ref a0), .val (.ref a1), .val (.ref u)] [.null, (.ref a1)])) rfl rfl (hb hby d9_28)
  have f41 : Exa Z h40 a1 cL := f29.wr W40
  have f42 : Exa Z h40 u cL := f31.wr W40
  have f43 : Fld Z h40 u cL "prev" dL pu := f32.other W40 (Or.inl (Ne.symm Ne0))
  have f44 : Exa Z h40 w cL := f33.wr W40
  have f45 : Fld Z h40 w cL "next" dL nw := f34.other W40 (Or.inl (Ne.symm Ne1))
  have f46 : Fld Z h40 u cL "next" dL (.ref w) := f35.other W40 (Or.inl (Ne.symm Ne0))
  have f47 : Fld Z h40 w cL "prev" dL (.ref u) := f36.other W40 (Or.inl (Ne.symm Ne1))
  have f48 : Fld Z h40 a1 cL "next" dL .null := f37.other W40 (Or.inr (slot_ne (Or.inl (wq hw 24 rfl)) (Or.inl (wq hw 59 rfl)) (by decide) (t := (.object cL)) (t' := (.object cL)) (by decide) (by decide)))
  have f49 : Fld Z h40 a1 cL "prev" dL .null := f30.same W40
  have Kp40 : Keep h0 h40 [u, w, a1] := Kp28.wr W40 (Or.inl (List.mem_of_getElem? (i := 2) rfl))
  have Z50 : n0 ≤ h40.size := Nat.le_trans Z38 (Nat.le_of_eq W40.size.symm)
  have N51 := Fr.snoc X40 N39 Ge0
  refine Goes.by st40 ?_
  clear f29 f30 f31 f32 f33 f34 f35 f36 f37 X28 N39 Z38 Kp28 e28
  refine Goes.by (B := T40.setTop (mkF m 32 #[.val (.ref a0), .val (.ref a1), .val (.ref u)] [(.ref u)])) (fun t k => ?_) ?_
  · refine XS.aloadN X40.here hx rfl (hb hby d9_31) rfl rfl ?_
    exact k
  refine Goes.by (B := T40.setTop (mkF m 47 #[.val (.ref a0), .val (.ref a1), .val (.ref u)] [])) (fun t k => ?_) ?_
  · refine getFR X40 hx hZ hown (wq hw 23 rfl) e40 f46 (g := (mkF m 32 #[.val (.ref a0), .val (.ref a1), .val (.ref u)] [(.ref u)])) rfl rfl (hb hby d9_32) ?_
    refine XS.aloadN X40.here hx rfl (hb hby d9_35) rfl rfl ?_
    refine Jvm.RoadKit.acmp (g := (mkF m 36 #[.val (.ref a0), .val (.ref a1), .val (.ref u)] [(.ref u), (.ref w)])) X40 hx rfl rfl rfl (pc0 := 36) (pc' := 47) (same := false) rfl (hb hby d9_36) rfl (decide_eq_false fun q => (Ne.symm Ne2) (Value.ref.inj q)) (by decide) (by decide) ?_
    exact k
  obtain ⟨fs, hr, hrun, hended, hW, hsame⟩ := X40.leave (v := none) (fun _ => rfl)
  refine Goes.mk _ _ ?_ ⟨hrun, hended, _, _, rfl, ?_, ⟨_, rfl⟩, hW, hsame.mono (by decide) (by decide)⟩
  · exact X40.returnOut hx Bd.returns (hb hby d9_47) hr
  · show QRemLL Z a0 a1 u w nu pu nw pw h0 n0 _ T40.heap _
    rw [e40]
    exact ⟨rfl, N51, Kp40, f48, f49, f46, f43, f45, f47⟩
def QRemLH (Z : State) (a0 : Addr) (a1 : Addr) (u : Addr) (w : Addr) (nu : Value) (pu : Value) (nw : Value) (pw : Value) (tw : Int64) (h0 : Heap) (n0 : Nat) (v : Option Value) (h : Heap) (L : List Loc) : Prop := v = none ∧ Fr n0 L ∧ Keep h0 h [u, w, a1] ∧ Fld Z h a1 cL "next" dL .null ∧ Fld Z h a1 cL "prev" dL .null ∧ Fld Z h u cL "next" dL (.ref w) ∧ Fld Z h u cL "prev" dL pu ∧ Fld Z h w cL "next" dL nw ∧ Fld Z h w cL "prev" dL (.ref u) ∧ Fld Z h w cH "tick" "J" (.long tw)
theorem efRemLH (m : MethodId) (x0 : Addr) (x1 : Addr) : entryFrame m #[(.ref x0), (.ref x1)] 3 = mkF m 0 #[.val (.ref x0), .val (.ref x1), .unset] [] := by first | (simp [entryFrame, mkF, argsToLocals, Value.category]; done) | rfl
set_option maxRecDepth 65536 in
set_option maxHeartbeats 40000000 in
theorem rmRemLH (l : Launch) (Z : State) (az : Array Value) (hw : ∀ d ∈ tables_1, d.before az Z = true) (ws : List Jvm.Cond) (a0 : Addr) (a1 : Addr) (u : Addr) (w : Addr) (nu : Value) (pu : Value) (nw : Value) (pw : Value) (tw : Int64) (h0 : Heap) (n0 : Nat) (Z0 : n0 ≤ h0.size) (F0 : Exa Z h0 a1 cL) (F1 : Fld Z h0 a1 cL "prev" dL (.ref u)) (F2 : Fld Z h0 a1 cL "next" dL (.ref w)) (F3 : Exa Z h0 u cL) (F4 : Fld Z h0 u cL "next" dL nu) (F5 : Fld Z h0 u cL "prev" dL pu) (F6 : Exa Z h0 w cH) (F7 : Fld Z h0 w cL "next" dL nw) (F8 : Fld Z h0 w cL "prev" dL pw) (F9 : Fld Z h0 w cH "tick" "J" (.long tw)) (Ne0 : a1 ≠ u) (Ne1 : a1 ≠ w) (Ne2 : u ≠ w) (Ge0 : n0 ≤ a1) (Ge1 : n0 ≤ u) (Ge2 : n0 ≤ w) :
    MetFree l y7 (head1 (Jvm.Cond.code y7 prog_4_method_6_code 3 none :: ws) ({ frames := 2, cells := 0, slots := 0, locals := 32 } : Room)) (fun a U => a = #[(.ref a0), (.ref a1)] ∧ Z.Warmed39 U.vm ∧ U.heap = h0) (fun _ _ _ _ _ => True) (fun _ U o U' => ∃ v L, o = .returned v ∧ QRemLH Z a0 a1 u w nu pu nw pw tw h0 n0 v U'.heap L ∧ FrameEnd U o U' L ({ frames := 2, cells := 0, slots := 0, locals := 32 } : Room).cells ({ frames := 2, cells := 0, slots := 0, locals := 32 } : Room).slots) := by
  refine MetFree.of_bodySF (plainFor_of_name own_pn_com_example_admit_one_admitone_engine_DueOrder) hisR ?_
  intro p e s m args below meth c s₁ Bd hml0 hP hK
  obtain ⟨rfl, hZ, hh⟩ := hP
  have hx := Bd.exec
  have hby := Bd.bytes
  have hml : c.maxLocals = 3 := hml0
  have hown : s.vm.findClass cD = some m.cls := findClass_of_methodNamed Bd.named
  have hnm := (name_of_methodNamed Bd.named Bd.method).1
  have X0 : Stand p l e ({ frames := 2, cells := 0, slots := 0, locals := 32 } : Room) s m #[(.ref a0), (.ref a1)] below meth c s₁ [] 0 0 := Stand.of_body Bd
  have e0 : s₁.heap = h0 := by rw [← hh, Bd.state]; rfl
  have N0 := Fr.nil n0
  have Kp0 : Keep h0 h0 [u, w, a1] := Keep.refl _ _
  refine Goes.start ?_
  refine Goes.by (B := s₁.setTop (mkF m 0 #[.val (.ref a0), .val (.ref a1), .unset] [])) (fun t k => castTop (efRemLH m a0 a1) k) ?_
  refine Goes.by (B := s₁.setTop (mkF m 1 #[.val (.ref a0), .val (.ref a1), .unset] [(.ref a1)])) (fun t k => ?_) ?_
  · refine XS.aloadN X0.here hx rfl (hb hby d9_0) rfl rfl ?_
    exact k
  refine Goes.by (B := s₁.setTop (mkF m 7 #[.val (.ref a0), .val (.ref a1), .val (.ref u)] [(.ref a1), (.ref u)])) (fun t k => ?_) ?_
  · refine getFR X0 hx hZ hown (wq hw 58 rfl) e0 F1 (g := (mkF m 1 #[.val (.ref a0), .val (.ref a1), .unset] [(.ref a1)])) rfl rfl (hb hby d9_1) ?_
    refine XS.astoreN X0.here hx rfl (hb hby d9_4) rfl rfl (l' := #[.val (.ref a0), .val (.ref a1), .val (.ref u)]) rfl ?_
    refine XS.aloadN X0.here hx rfl (hb hby d9_5) rfl rfl ?_
    refine XS.aloadN X0.here hx rfl (hb hby d9_6) rfl rfl ?_
    exact k
  refine Goes.by (B := s₁.setTop (mkF m 10 #[.val (.ref a0), .val (.ref a1), .val (.ref u)] [(.ref w), (.ref u)])) (fun t k => ?_) ?_
  · refine getFR X0 hx hZ hown (wq hw 23 rfl) e0 F2 (g := (mkF m 7 #[.val (.ref a0), .val (.ref a1), .val (.ref u)] [(.ref a1), (.ref u)])) rfl rfl (hb hby d9_7) ?_
    exact k
  obtain ⟨T3, h3, X3, e3, W3, st3⟩ := putFR X0 hx hZ hown (wq hw 23 rfl) e0 F4 F3 (wq hw 24 rfl) (wq hw 14 rfl) (ty := (.object cL)) (by decide) rfl rfl (g := (mkF m 10 #[.val (.ref a0), .val (.ref a1), .val (.ref u)] [(.ref w), (.ref u)])) rfl rfl (hb hby d9_10)
  have f4 : Exa Z h3 a1 cL := F0.wr W3
  have f5 : Fld Z h3 a1 cL "prev" dL (.ref u) := F1.other W3 (Or.inl Ne0)
  have f6 : Fld Z h3 a1 cL "next" dL (.ref w) := F2.other W3 (Or.inl Ne0)
  have f7 : Exa Z h3 u cL := F3.wr W3
  have f8 : Fld Z h3 u cL "prev" dL pu := F5.other W3 (Or.inr (slot_ne (Or.inl (wq hw 59 rfl)) (Or.inl (wq hw 24 rfl)) (by decide) (t := (.object cL)) (t' := (.object cL)) (by decide) (by decide)))
  have f9 : Exa Z h3 w cH := F6.wr W3
  have f10 : Fld Z h3 w cL "next" dL nw := F7.other W3 (Or.inl (Ne.symm Ne2))
  have f11 : Fld Z h3 w cL "prev" dL pw := F8.other W3 (Or.inl (Ne.symm Ne2))
  have f12 : Fld Z h3 w cH "tick" "J" (.long tw) := F9.other W3 (Or.inl (Ne.symm Ne2))
  have f13 : Fld Z h3 u cL "next" dL (.ref w) := F4.same W3
  have Kp3 : Keep h0 h3 [u, w, a1] := Kp0.wr W3 (Or.inl (List.mem_of_getElem? (i := 0) rfl))
  have Z14 : n0 ≤ h3.size := Nat.le_trans Z0 (Nat.le_of_eq W3.size.symm)
  have N15 := Fr.snoc X3 N0 Ge1
  refine Goes.by st3 ?_
  clear X0 N0
  refine Goes.by (B := T3.setTop (mkF m 14 #[.val (.ref a0), .val (.ref a1), .val (.ref u)] [(.ref a1)])) (fun t k => ?_) ?_
  · refine XS.aloadN X3.here hx rfl (hb hby d9_13) rfl rfl ?_
    exact k
  refine Goes.by (B := T3.setTop (mkF m 18 #[.val (.ref a0), .val (.ref a1), .val (.ref u)] [(.ref u), (.ref w)])) (fun t k => ?_) ?_
  · refine getFR X3 hx hZ hown (wq hw 23 rfl) e3 f6 (g := (mkF m 14 #[.val (.ref a0), .val (.ref a1), .val (.ref u)] [(.ref a1)])) rfl rfl (hb hby d9_14) ?_
    refine XS.aloadN X3.here hx rfl (hb hby d9_17) rfl rfl ?_
    exact k
  obtain ⟨T17, h17, X17, e17, W17, st17⟩ := putFR X3 hx hZ hown (wq hw 58 rfl) e3 f11 f9 (wq hw 56 rfl) (wq hw 44 rfl) (ty := (.object cL)) (by decide) rfl rfl (g := (mkF m 18 #[.val (.ref a0), .val (.ref a1), .val (.ref u)] [(.ref u), (.ref w)])) rfl rfl (hb hby d9_18)
  have f18 : Exa Z h17 a1 cL := f4.wr W17
  have f19 : Fld Z h17 a1 cL "prev" dL (.ref u) := f5.other W17 (Or.inl Ne1)
  have f20 : Fld Z h17 a1 cL "next" dL (.ref w) := f6.other W17 (Or.inl Ne1)
  have f21 : Exa Z h17 u cL := f7.wr W17
  have f22 : Fld Z h17 u cL "prev" dL pu := f8.other W17 (Or.inl Ne2)
  have f23 : Exa Z h17 w cH := f9.wr W17
  have f24 : Fld Z h17 w cL "next" dL nw := f10.other W17 (Or.inr (slot_ne (Or.inl (wq hw 54 rfl)) (Or.inl (wq hw 56 rfl)) (by decide) (t := (.object cL)) (t' := (.object cL)) (by decide) (by decide)))
  have f25 : Fld Z h17 w cH "tick" "J" (.long tw) := f12.other W17 (Or.inr (slot_ne (Or.inr (wq hw 52 rfl)) (Or.inl (wq hw 56 rfl)) (by decide) (t := .long) (t' := (.object cL)) (by decide) (by decide)))
  have f26 : Fld Z h17 u cL "next" dL (.ref w) := f13.other W17 (Or.inl Ne2)
  have f27 : Fld Z h17 w cL "prev" dL (.ref u) := f11.same W17
  have Kp17 : Keep h0 h17 [u, w, a1] := Kp3.wr W17 (Or.inl (List.mem_of_getElem? (i := 1) rfl))
  have Z28 : n0 ≤ h17.size := Nat.le_trans Z14 (Nat.le_of_eq W17.size.symm)
  have N29 := Fr.snoc X17 N15 Ge2
  refine Goes.by st17 ?_
  clear f4 f5 f6 f7 f8 f9 f10 f11 f12 f13 X3 N15 Z14 Kp3 e3
  refine Goes.by (B := T17.setTop (mkF m 23 #[.val (.ref a0), .val (.ref a1), .val (.ref u)] [.null, (.ref a1)])) (fun t k => ?_) ?_
  · refine XS.aloadN X17.here hx rfl (hb hby d9_21) rfl rfl ?_
    refine XS.aconstNull X17.here hx rfl (hb hby d9_22) ?_
    exact k
  obtain ⟨T30, h30, X30, e30, W30, st30⟩ := putFR X17 hx hZ hown (wq hw 23 rfl) e17 f20 f18 (wq hw 24 rfl) (wq hw 14 rfl) (ty := (.object cL)) (by decide) rfl rfl (g := (mkF m 23 #[.val (.ref a0), .val (.ref a1), .val (.ref u)] [.null, (.ref a1)])) rfl rfl (hb hby d9_23)
  have f31 : Exa Z h30 a1 cL := f18.wr W30
  have f32 : Fld Z h30 a1 cL "prev" dL (.ref u) := f19.other W30 (Or.inr (slot_ne (Or.inl (wq hw 59 rfl)) (Or.inl (wq hw 24 rfl)) (by decide) (t := (.object cL)) (t' := (.object cL)) (by decide) (by decide)))
  have f33 : Exa Z h30 u cL := f21.wr W30
  have f34 : Fld Z h30 u cL "prev" dL pu := f22.other W30 (Or.inl (Ne.symm Ne0))
  have f35 : Exa Z h30 w cH := f23.wr W30
  have f36 : Fld Z h30 w cL "next" dL nw := f24.other W30 (Or.inl (Ne.symm Ne1))
  have f37 : Fld Z h30 w cH "tick" "J" (.long tw) := f25.other W30 (Or.inl (Ne.symm Ne1))
  have f38 : Fld Z h30 u cL "next" dL (.ref w) := f26.other W30 (Or.inl (Ne.symm Ne0))
  have f39 : Fld Z h30 w cL "prev" dL (.ref u) := f27.other W30 (Or.inl (Ne.symm Ne1))
  have f40 : Fld Z h30 a1 cL "next" dL .null := f20.same W30
  have Kp30 : Keep h0 h30 [u, w, a1] := Kp17.wr W30 (Or.inl (List.mem_of_getElem? (i := 2) rfl))
  have Z41 : n0 ≤ h30.size := Nat.le_trans Z28 (Nat.le_of_eq W30.size.symm)
  have N42 := Fr.snoc X30 N29 Ge0
  refine Goes.by st30 ?_
  clear f18 f19 f20 f21 f22 f23 f24 f25 f26 f27 X17 N29 Z28 Kp17 e17
  refine Goes.by (B := T30.setTop (mkF m 28 #[.val (.ref a0), .val (.ref a1), .val (.ref u)] [.null, (.ref a1)])) (fun t k => ?_) ?_
  · refine XS.aloadN X30.here hx rfl (hb hby d9_26) rfl rfl ?_
    refine XS.aconstNull X30.here hx rfl (hb hby d9_27) ?_
    exact k
  obtain ⟨T43, h43, X43, e43, W43, st43⟩ := putFR X30 hx hZ hown (wq hw 58 rfl) e30 f32 f31 (wq hw 59 rfl) (wq hw 14 rfl) (ty := (.object cL)) (by decide) rfl rfl (g := (mkF m 28 #[.val (.ref a0), .val (.ref a1), .val (.ref u)] [.null, (.ref a1)])) rfl rfl (hb hby d9_28)
  have f44 : Exa Z h43 a1 cL := f31.wr W43
  have f45 : Exa Z h43 u cL := f33.wr W43
  have f46 : Fld Z h43 u cL "prev" dL pu := f34.other W43 (Or.inl (Ne.symm Ne0))
  have f47 : Exa Z h43 w cH := f35.wr W43
  have f48 : Fld Z h43 w cL "next" dL nw := f36.other W43 (Or.inl (Ne.symm Ne1))
  have f49 : Fld Z h43 w cH "tick" "J" (.long tw) := f37.other W43 (Or.inl (Ne.symm Ne1))
  have f50 : Fld Z h43 u cL "next" dL (.ref w) := f38.other W43 (Or.inl (Ne.symm Ne0))
  have f51 : Fld Z h43 w cL "prev" dL (.ref u) := f39.other W43 (Or.inl (Ne.symm Ne1))
  have f52 : Fld Z h43 a1 cL "next" dL .null := f40.other W43 (Or.inr (slot_ne (Or.inl (wq hw 24 rfl)) (Or.inl (wq hw 59 rfl)) (by decide) (t := (.object cL)) (t' := (.object cL)) (by decide) (by decide)))
  have f53 : Fld Z h43 a1 cL "prev" dL .null := f32.same W43
  have Kp43 : Keep h0 h43 [u, w, a1] := Kp30.wr W43 (Or.inl (List.mem_of_getElem? (i := 2) rfl))
  have Z54 : n0 ≤ h43.size := Nat.le_trans Z41 (Nat.le_of_eq W43.size.symm)
  have N55 := Fr.snoc X43 N42 Ge0
  refine Goes.by st43 ?_
  clear f31 f32 f33 f34 f35 f36 f37 f38 f39 f40 X30 N42 Z41 Kp30 e30
  refine Goes.by (B := T43.setTop (mkF m 32 #[.val (.ref a0), .val (.ref a1), .val (.ref u)] [(.ref u)])) (fun t k => ?_) ?_
  · refine XS.aloadN X43.here hx rfl (hb hby d9_31) rfl rfl ?_
    exact k
  refine Goes.by (B := T43.setTop (mkF m 47 #[.val (.ref a0), .val (.ref a1), .val (.ref u)] [])) (fun t k => ?_) ?_
  · refine getFR X43 hx hZ hown (wq hw 23 rfl) e43 f50 (g := (mkF m 32 #[.val (.ref a0), .val (.ref a1), .val (.ref u)] [(.ref u)])) rfl rfl (hb hby d9_32) ?_
    refine XS.aloadN X43.here hx rfl (hb hby d9_35) rfl rfl ?_
    refine Jvm.RoadKit.acmp (g := (mkF m 36 #[.val (.ref a0), .val (.ref a1), .val (.ref u)] [(.ref u), (.ref w)])) X43 hx rfl rfl rfl (pc0 := 36) (pc' := 47) (same := false) rfl (hb hby d9_36) rfl (decide_eq_false fun q => (Ne.symm Ne2) (Value.ref.inj q)) (by decide) (by decide) ?_
    exact k
  obtain ⟨fs, hr, hrun, hended, hW, hsame⟩ := X43.leave (v := none) (fun _ => rfl)
  refine Goes.mk _ _ ?_ ⟨hrun, hended, _, _, rfl, ?_, ⟨_, rfl⟩, hW, hsame.mono (by decide) (by decide)⟩
  · exact X43.returnOut hx Bd.returns (hb hby d9_47) hr
  · show QRemLH Z a0 a1 u w nu pu nw pw tw h0 n0 _ T43.heap _
    rw [e43]
    exact ⟨rfl, N55, Kp43, f52, f53, f50, f46, f48, f51, f49⟩
def QRemHL (Z : State) (a0 : Addr) (a1 : Addr) (u : Addr) (w : Addr) (nu : Value) (pu : Value) (nw : Value) (pw : Value) (tu : Int64) (h0 : Heap) (n0 : Nat) (v : Option Value) (h : Heap) (L : List Loc) : Prop := v = none ∧ Fr n0 L ∧ Keep h0 h [u, w, a1] ∧ Fld Z h a1 cL "next" dL .null ∧ Fld Z h a1 cL "prev" dL .null ∧ Fld Z h u cL "next" dL (.ref w) ∧ Fld Z h u cL "prev" dL pu ∧ Fld Z h w cL "next" dL nw ∧ Fld Z h w cL "prev" dL (.ref u) ∧ Fld Z h u cH "tick" "J" (.long tu)
theorem efRemHL (m : MethodId) (x0 : Addr) (x1 : Addr) : entryFrame m #[(.ref x0), (.ref x1)] 3 = mkF m 0 #[.val (.ref x0), .val (.ref x1), .unset] [] := by first | (simp [entryFrame, mkF, argsToLocals, Value.category]; done) | rfl
set_option maxRecDepth 65536 in
set_option maxHeartbeats 40000000 in
theorem rmRemHL (l : Launch) (Z : State) (az : Array Value) (hw : ∀ d ∈ tables_1, d.before az Z = true) (ws : List Jvm.Cond) (a0 : Addr) (a1 : Addr) (u : Addr) (w : Addr) (nu : Value) (pu : Value) (nw : Value) (pw : Value) (tu : Int64) (h0 : Heap) (n0 : Nat) (Z0 : n0 ≤ h0.size) (F0 : Exa Z h0 a1 cL) (F1 : Fld Z h0 a1 cL "prev" dL (.ref u)) (F2 : Fld Z h0 a1 cL "next" dL (.ref w)) (F3 : Exa Z h0 u cH) (F4 : Fld Z h0 u cL "next" dL nu) (F5 : Fld Z h0 u cL "prev" dL pu) (F6 : Exa Z h0 w cL) (F7 : Fld Z h0 w cL "next" dL nw) (F8 : Fld Z h0 w cL "prev" dL pw) (F9 : Fld Z h0 u cH "tick" "J" (.long tu)) (Ne0 : a1 ≠ u) (Ne1 : a1 ≠ w) (Ne2 : u ≠ w) (Ge0 : n0 ≤ a1) (Ge1 : n0 ≤ u) (Ge2 : n0 ≤ w) :
    MetFree l y7 (head1 (Jvm.Cond.code y7 prog_4_method_6_code 3 none :: ws) ({ frames := 2, cells := 0, slots := 0, locals := 32 } : Room)) (fun a U => a = #[(.ref a0), (.ref a1)] ∧ Z.Warmed39 U.vm ∧ U.heap = h0) (fun _ _ _ _ _ => True) (fun _ U o U' => ∃ v L, o = .returned v ∧ QRemHL Z a0 a1 u w nu pu nw pw tu h0 n0 v U'.heap L ∧ FrameEnd U o U' L ({ frames := 2, cells := 0, slots := 0, locals := 32 } : Room).cells ({ frames := 2, cells := 0, slots := 0, locals := 32 } : Room).slots) := by
  refine MetFree.of_bodySF (plainFor_of_name own_pn_com_example_admit_one_admitone_engine_DueOrder) hisR ?_
  intro p e s m args below meth c s₁ Bd hml0 hP hK
  obtain ⟨rfl, hZ, hh⟩ := hP
  have hx := Bd.exec
  have hby := Bd.bytes
  have hml : c.maxLocals = 3 := hml0
  have hown : s.vm.findClass cD = some m.cls := findClass_of_methodNamed Bd.named
  have hnm := (name_of_methodNamed Bd.named Bd.method).1
  have X0 : Stand p l e ({ frames := 2, cells := 0, slots := 0, locals := 32 } : Room) s m #[(.ref a0), (.ref a1)] below meth c s₁ [] 0 0 := Stand.of_body Bd
  have e0 : s₁.heap = h0 := by rw [← hh, Bd.state]; rfl
  have N0 := Fr.nil n0
  have Kp0 : Keep h0 h0 [u, w, a1] := Keep.refl _ _
  refine Goes.start ?_
  refine Goes.by (B := s₁.setTop (mkF m 0 #[.val (.ref a0), .val (.ref a1), .unset] [])) (fun t k => castTop (efRemHL m a0 a1) k) ?_
  refine Goes.by (B := s₁.setTop (mkF m 1 #[.val (.ref a0), .val (.ref a1), .unset] [(.ref a1)])) (fun t k => ?_) ?_
  · refine XS.aloadN X0.here hx rfl (hb hby d9_0) rfl rfl ?_
    exact k
  refine Goes.by (B := s₁.setTop (mkF m 7 #[.val (.ref a0), .val (.ref a1), .val (.ref u)] [(.ref a1), (.ref u)])) (fun t k => ?_) ?_
  · refine getFR X0 hx hZ hown (wq hw 58 rfl) e0 F1 (g := (mkF m 1 #[.val (.ref a0), .val (.ref a1), .unset] [(.ref a1)])) rfl rfl (hb hby d9_1) ?_
    refine XS.astoreN X0.here hx rfl (hb hby d9_4) rfl rfl (l' := #[.val (.ref a0), .val (.ref a1), .val (.ref u)]) rfl ?_
    refine XS.aloadN X0.here hx rfl (hb hby d9_5) rfl rfl ?_
    refine XS.aloadN X0.here hx rfl (hb hby d9_6) rfl rfl ?_
    exact k
  refine Goes.by (B := s₁.setTop (mkF m 10 #[.val (.ref a0), .val (.ref a1), .val (.ref u)] [(.ref w), (.ref u)])) (fun t k => ?_) ?_
  · refine getFR X0 hx hZ hown (wq hw 23 rfl) e0 F2 (g := (mkF m 7 #[.val (.ref a0), .val (.ref a1), .val (.ref u)] [(.ref a1), (.ref u)])) rfl rfl (hb hby d9_7) ?_
    exact k
  obtain ⟨T3, h3, X3, e3, W3, st3⟩ := putFR X0 hx hZ hown (wq hw 23 rfl) e0 F4 F3 (wq hw 54 rfl) (wq hw 44 rfl) (ty := (.object cL)) (by decide) rfl rfl (g := (mkF m 10 #[.val (.ref a0), .val (.ref a1), .val (.ref u)] [(.ref w), (.ref u)])) rfl rfl (hb hby d9_10)
  have f4 : Exa Z h3 a1 cL := F0.wr W3
  have f5 : Fld Z h3 a1 cL "prev" dL (.ref u) := F1.other W3 (Or.inl Ne0)
  have f6 : Fld Z h3 a1 cL "next" dL (.ref w) := F2.other W3 (Or.inl Ne0)
  have f7 : Exa Z h3 u cH := F3.wr W3
  have f8 : Fld Z h3 u cL "prev" dL pu := F5.other W3 (Or.inr (slot_ne (Or.inl (wq hw 56 rfl)) (Or.inl (wq hw 54 rfl)) (by decide) (t := (.object cL)) (t' := (.object cL)) (by decide) (by decide)))
  have f9 : Exa Z h3 w cL := F6.wr W3
  have f10 : Fld Z h3 w cL "next" dL nw := F7.other W3 (Or.inl (Ne.symm Ne2))
  have f11 : Fld Z h3 w cL "prev" dL pw := F8.other W3 (Or.inl (Ne.symm Ne2))
  have f12 : Fld Z h3 u cH "tick" "J" (.long tu) := F9.other W3 (Or.inr (slot_ne (Or.inr (wq hw 52 rfl)) (Or.inl (wq hw 54 rfl)) (by decide) (t := .long) (t' := (.object cL)) (by decide) (by decide)))
  have f13 : Fld Z h3 u cL "next" dL (.ref w) := F4.same W3
  have Kp3 : Keep h0 h3 [u, w, a1] := Kp0.wr W3 (Or.inl (List.mem_of_getElem? (i := 0) rfl))
  have Z14 : n0 ≤ h3.size := Nat.le_trans Z0 (Nat.le_of_eq W3.size.symm)
  have N15 := Fr.snoc X3 N0 Ge1
  refine Goes.by st3 ?_
  clear X0 N0
  refine Goes.by (B := T3.setTop (mkF m 14 #[.val (.ref a0), .val (.ref a1), .val (.ref u)] [(.ref a1)])) (fun t k => ?_) ?_
  · refine XS.aloadN X3.here hx rfl (hb hby d9_13) rfl rfl ?_
    exact k
  refine Goes.by (B := T3.setTop (mkF m 18 #[.val (.ref a0), .val (.ref a1), .val (.ref u)] [(.ref u), (.ref w)])) (fun t k => ?_) ?_
  · refine getFR X3 hx hZ hown (wq hw 23 rfl) e3 f6 (g := (mkF m 14 #[.val (.ref a0), .val (.ref a1), .val (.ref u)] [(.ref a1)])) rfl rfl (hb hby d9_14) ?_
    refine XS.aloadN X3.here hx rfl (hb hby d9_17) rfl rfl ?_
    exact k
  obtain ⟨T17, h17, X17, e17, W17, st17⟩ := putFR X3 hx hZ hown (wq hw 58 rfl) e3 f11 f9 (wq hw 59 rfl) (wq hw 14 rfl) (ty := (.object cL)) (by decide) rfl rfl (g := (mkF m 18 #[.val (.ref a0), .val (.ref a1), .val (.ref u)] [(.ref u), (.ref w)])) rfl rfl (hb hby d9_18)
  have f18 : Exa Z h17 a1 cL := f4.wr W17
  have f19 : Fld Z h17 a1 cL "prev" dL (.ref u) := f5.other W17 (Or.inl Ne1)
  have f20 : Fld Z h17 a1 cL "next" dL (.ref w) := f6.other W17 (Or.inl Ne1)
  have f21 : Exa Z h17 u cH := f7.wr W17
  have f22 : Fld Z h17 u cL "prev" dL pu := f8.other W17 (Or.inl Ne2)
  have f23 : Exa Z h17 w cL := f9.wr W17
  have f24 : Fld Z h17 w cL "next" dL nw := f10.other W17 (Or.inr (slot_ne (Or.inl (wq hw 24 rfl)) (Or.inl (wq hw 59 rfl)) (by decide) (t := (.object cL)) (t' := (.object cL)) (by decide) (by decide)))
  have f25 : Fld Z h17 u cH "tick" "J" (.long tu) := f12.other W17 (Or.inl Ne2)
  have f26 : Fld Z h17 u cL "next" dL (.ref w) := f13.other W17 (Or.inl Ne2)
  have f27 : Fld Z h17 w cL "prev" dL (.ref u) := f11.same W17
  have Kp17 : Keep h0 h17 [u, w, a1] := Kp3.wr W17 (Or.inl (List.mem_of_getElem? (i := 1) rfl))
  have Z28 : n0 ≤ h17.size := Nat.le_trans Z14 (Nat.le_of_eq W17.size.symm)
  have N29 := Fr.snoc X17 N15 Ge2
  refine Goes.by st17 ?_
  clear f4 f5 f6 f7 f8 f9 f10 f11 f12 f13 X3 N15 Z14 Kp3 e3
  refine Goes.by (B := T17.setTop (mkF m 23 #[.val (.ref a0), .val (.ref a1), .val (.ref u)] [.null, (.ref a1)])) (fun t k => ?_) ?_
  · refine XS.aloadN X17.here hx rfl (hb hby d9_21) rfl rfl ?_
    refine XS.aconstNull X17.here hx rfl (hb hby d9_22) ?_
    exact k
  obtain ⟨T30, h30, X30, e30, W30, st30⟩ := putFR X17 hx hZ hown (wq hw 23 rfl) e17 f20 f18 (wq hw 24 rfl) (wq hw 14 rfl) (ty := (.object cL)) (by decide) rfl rfl (g := (mkF m 23 #[.val (.ref a0), .val (.ref a1), .val (.ref u)] [.null, (.ref a1)])) rfl rfl (hb hby d9_23)
  have f31 : Exa Z h30 a1 cL := f18.wr W30
  have f32 : Fld Z h30 a1 cL "prev" dL (.ref u) := f19.other W30 (Or.inr (slot_ne (Or.inl (wq hw 59 rfl)) (Or.inl (wq hw 24 rfl)) (by decide) (t := (.object cL)) (t' := (.object cL)) (by decide) (by decide)))
  have f33 : Exa Z h30 u cH := f21.wr W30
  have f34 : Fld Z h30 u cL "prev" dL pu := f22.other W30 (Or.inl (Ne.symm Ne0))
  have f35 : Exa Z h30 w cL := f23.wr W30
  have f36 : Fld Z h30 w cL "next" dL nw := f24.other W30 (Or.inl (Ne.symm Ne1))
  have f37 : Fld Z h30 u cH "tick" "J" (.long tu) := f25.other W30 (Or.inl (Ne.symm Ne0))
  have f38 : Fld Z h30 u cL "next" dL (.ref w) := f26.other W30 (Or.inl (Ne.symm Ne0))
  have f39 : Fld Z h30 w cL "prev" dL (.ref u) := f27.other W30 (Or.inl (Ne.symm Ne1))
  have f40 : Fld Z h30 a1 cL "next" dL .null := f20.same W30
  have Kp30 : Keep h0 h30 [u, w, a1] := Kp17.wr W30 (Or.inl (List.mem_of_getElem? (i := 2) rfl))
  have Z41 : n0 ≤ h30.size := Nat.le_trans Z28 (Nat.le_of_eq W30.size.symm)
  have N42 := Fr.snoc X30 N29 Ge0
  refine Goes.by st30 ?_
  clear f18 f19 f20 f21 f22 f23 f24 f25 f26 f27 X17 N29 Z28 Kp17 e17
  refine Goes.by (B := T30.setTop (mkF m 28 #[.val (.ref a0), .val (.ref a1), .val (.ref u)] [.null, (.ref a1)])) (fun t k => ?_) ?_
  · refine XS.aloadN X30.here hx rfl (hb hby d9_26) rfl rfl ?_
    refine XS.aconstNull X30.here hx rfl (hb hby d9_27) ?_
    exact k
  obtain ⟨T43, h43, X43, e43, W43, st43⟩ := putFR X30 hx hZ hown (wq hw 58 rfl) e30 f32 f31 (wq hw 59 rfl) (wq hw 14 rfl) (ty := (.object cL)) (by decide) rfl rfl (g := (mkF m 28 #[.val (.ref a0), .val (.ref a1), .val (.ref u)] [.null, (.ref a1)])) rfl rfl (hb hby d9_28)
  have f44 : Exa Z h43 a1 cL := f31.wr W43
  have f45 : Exa Z h43 u cH := f33.wr W43
  have f46 : Fld Z h43 u cL "prev" dL pu := f34.other W43 (Or.inl (Ne.symm Ne0))
  have f47 : Exa Z h43 w cL := f35.wr W43
  have f48 : Fld Z h43 w cL "next" dL nw := f36.other W43 (Or.inl (Ne.symm Ne1))
  have f49 : Fld Z h43 u cH "tick" "J" (.long tu) := f37.other W43 (Or.inl (Ne.symm Ne0))
  have f50 : Fld Z h43 u cL "next" dL (.ref w) := f38.other W43 (Or.inl (Ne.symm Ne0))
  have f51 : Fld Z h43 w cL "prev" dL (.ref u) := f39.other W43 (Or.inl (Ne.symm Ne1))
  have f52 : Fld Z h43 a1 cL "next" dL .null := f40.other W43 (Or.inr (slot_ne (Or.inl (wq hw 24 rfl)) (Or.inl (wq hw 59 rfl)) (by decide) (t := (.object cL)) (t' := (.object cL)) (by decide) (by decide)))
  have f53 : Fld Z h43 a1 cL "prev" dL .null := f32.same W43
  have Kp43 : Keep h0 h43 [u, w, a1] := Kp30.wr W43 (Or.inl (List.mem_of_getElem? (i := 2) rfl))
  have Z54 : n0 ≤ h43.size := Nat.le_trans Z41 (Nat.le_of_eq W43.size.symm)
  have N55 := Fr.snoc X43 N42 Ge0
  refine Goes.by st43 ?_
  clear f31 f32 f33 f34 f35 f36 f37 f38 f39 f40 X30 N42 Z41 Kp30 e30
  refine Goes.by (B := T43.setTop (mkF m 32 #[.val (.ref a0), .val (.ref a1), .val (.ref u)] [(.ref u)])) (fun t k => ?_) ?_
  · refine XS.aloadN X43.here hx rfl (hb hby d9_31) rfl rfl ?_
    exact k
  refine Goes.by (B := T43.setTop (mkF m 47 #[.val (.ref a0), .val (.ref a1), .val (.ref u)] [])) (fun t k => ?_) ?_
  · refine getFR X43 hx hZ hown (wq hw 23 rfl) e43 f50 (g := (mkF m 32 #[.val (.ref a0), .val (.ref a1), .val (.ref u)] [(.ref u)])) rfl rfl (hb hby d9_32) ?_
    refine XS.aloadN X43.here hx rfl (hb hby d9_35) rfl rfl ?_
    refine Jvm.RoadKit.acmp (g := (mkF m 36 #[.val (.ref a0), .val (.ref a1), .val (.ref u)] [(.ref u), (.ref w)])) X43 hx rfl rfl rfl (pc0 := 36) (pc' := 47) (same := false) rfl (hb hby d9_36) rfl (decide_eq_false fun q => (Ne.symm Ne2) (Value.ref.inj q)) (by decide) (by decide) ?_
    exact k
  obtain ⟨fs, hr, hrun, hended, hW, hsame⟩ := X43.leave (v := none) (fun _ => rfl)
  refine Goes.mk _ _ ?_ ⟨hrun, hended, _, _, rfl, ?_, ⟨_, rfl⟩, hW, hsame.mono (by decide) (by decide)⟩
  · exact X43.returnOut hx Bd.returns (hb hby d9_47) hr
  · show QRemHL Z a0 a1 u w nu pu nw pw tu h0 n0 _ T43.heap _
    rw [e43]
    exact ⟨rfl, N55, Kp43, f52, f53, f50, f46, f48, f51, f49⟩
def QRemHH (Z : State) (a0 : Addr) (a1 : Addr) (u : Addr) (w : Addr) (nu : Value) (pu : Value) (nw : Value) (pw : Value) (tu : Int64) (tw : Int64) (h0 : Heap) (n0 : Nat) (v : Option Value) (h : Heap) (L : List Loc) : Prop := v = none ∧ Fr n0 L ∧ Keep h0 h [u, w, a1] ∧ Fld Z h a1 cL "next" dL .null ∧ Fld Z h a1 cL "prev" dL .null ∧ Fld Z h u cL "next" dL (.ref w) ∧ Fld Z h u cL "prev" dL pu ∧ Fld Z h w cL "next" dL nw ∧ Fld Z h w cL "prev" dL (.ref u) ∧ Fld Z h u cH "tick" "J" (.long tu) ∧ Fld Z h w cH "tick" "J" (.long tw)
theorem efRemHH (m : MethodId) (x0 : Addr) (x1 : Addr) : entryFrame m #[(.ref x0), (.ref x1)] 3 = mkF m 0 #[.val (.ref x0), .val (.ref x1), .unset] [] := by first | (simp [entryFrame, mkF, argsToLocals, Value.category]; done) | rfl
set_option maxRecDepth 65536 in
set_option maxHeartbeats 40000000 in
theorem rmRemHH (l : Launch) (Z : State) (az : Array Value) (hw : ∀ d ∈ tables_1, d.before az Z = true) (ws : List Jvm.Cond) (a0 : Addr) (a1 : Addr) (u : Addr) (w : Addr) (nu : Value) (pu : Value) (nw : Value) (pw : Value) (tu : Int64) (tw : Int64) (h0 : Heap) (n0 : Nat) (Z0 : n0 ≤ h0.size) (F0 : Exa Z h0 a1 cL) (F1 : Fld Z h0 a1 cL "prev" dL (.ref u)) (F2 : Fld Z h0 a1 cL "next" dL (.ref w)) (F3 : Exa Z h0 u cH) (F4 : Fld Z h0 u cL "next" dL nu) (F5 : Fld Z h0 u cL "prev" dL pu) (F6 : Exa Z h0 w cH) (F7 : Fld Z h0 w cL "next" dL nw) (F8 : Fld Z h0 w cL "prev" dL pw) (F9 : Fld Z h0 u cH "tick" "J" (.long tu)) (F10 : Fld Z h0 w cH "tick" "J" (.long tw)) (Ne0 : a1 ≠ u) (Ne1 : a1 ≠ w) (Ne2 : u ≠ w) (Ge0 : n0 ≤ a1) (Ge1 : n0 ≤ u) (Ge2 : n0 ≤ w) :
    MetFree l y7 (head1 (Jvm.Cond.code y7 prog_4_method_6_code 3 none :: ws) ({ frames := 2, cells := 0, slots := 0, locals := 32 } : Room)) (fun a U => a = #[(.ref a0), (.ref a1)] ∧ Z.Warmed39 U.vm ∧ U.heap = h0) (fun _ _ _ _ _ => True) (fun _ U o U' => ∃ v L, o = .returned v ∧ QRemHH Z a0 a1 u w nu pu nw pw tu tw h0 n0 v U'.heap L ∧ FrameEnd U o U' L ({ frames := 2, cells := 0, slots := 0, locals := 32 } : Room).cells ({ frames := 2, cells := 0, slots := 0, locals := 32 } : Room).slots) := by
  refine MetFree.of_bodySF (plainFor_of_name own_pn_com_example_admit_one_admitone_engine_DueOrder) hisR ?_
  intro p e s m args below meth c s₁ Bd hml0 hP hK
  obtain ⟨rfl, hZ, hh⟩ := hP
  have hx := Bd.exec
  have hby := Bd.bytes
  have hml : c.maxLocals = 3 := hml0
  have hown : s.vm.findClass cD = some m.cls := findClass_of_methodNamed Bd.named
  have hnm := (name_of_methodNamed Bd.named Bd.method).1
  have X0 : Stand p l e ({ frames := 2, cells := 0, slots := 0, locals := 32 } : Room) s m #[(.ref a0), (.ref a1)] below meth c s₁ [] 0 0 := Stand.of_body Bd
  have e0 : s₁.heap = h0 := by rw [← hh, Bd.state]; rfl
  have N0 := Fr.nil n0
  have Kp0 : Keep h0 h0 [u, w, a1] := Keep.refl _ _
  refine Goes.start ?_
  refine Goes.by (B := s₁.setTop (mkF m 0 #[.val (.ref a0), .val (.ref a1), .unset] [])) (fun t k => castTop (efRemHH m a0 a1) k) ?_
  refine Goes.by (B := s₁.setTop (mkF m 1 #[.val (.ref a0), .val (.ref a1), .unset] [(.ref a1)])) (fun t k => ?_) ?_
  · refine XS.aloadN X0.here hx rfl (hb hby d9_0) rfl rfl ?_
    exact k
  refine Goes.by (B := s₁.setTop (mkF m 7 #[.val (.ref a0), .val (.ref a1), .val (.ref u)] [(.ref a1), (.ref u)])) (fun t k => ?_) ?_
  · refine getFR X0 hx hZ hown (wq hw 58 rfl) e0 F1 (g := (mkF m 1 #[.val (.ref a0), .val (.ref a1), .unset] [(.ref a1)])) rfl rfl (hb hby d9_1) ?_
    refine XS.astoreN X0.here hx rfl (hb hby d9_4) rfl rfl (l' := #[.val (.ref a0), .val (.ref a1), .val (.ref u)]) rfl ?_
    refine XS.aloadN X0.here hx rfl (hb hby d9_5) rfl rfl ?_
    refine XS.aloadN X0.here hx rfl (hb hby d9_6) rfl rfl ?_
    exact k
  refine Goes.by (B := s₁.setTop (mkF m 10 #[.val (.ref a0), .val (.ref a1), .val (.ref u)] [(.ref w), (.ref u)])) (fun t k => ?_) ?_
  · refine getFR X0 hx hZ hown (wq hw 23 rfl) e0 F2 (g := (mkF m 7 #[.val (.ref a0), .val (.ref a1), .val (.ref u)] [(.ref a1), (.ref u)])) rfl rfl (hb hby d9_7) ?_
    exact k
  obtain ⟨T3, h3, X3, e3, W3, st3⟩ := putFR X0 hx hZ hown (wq hw 23 rfl) e0 F4 F3 (wq hw 54 rfl) (wq hw 44 rfl) (ty := (.object cL)) (by decide) rfl rfl (g := (mkF m 10 #[.val (.ref a0), .val (.ref a1), .val (.ref u)] [(.ref w), (.ref u)])) rfl rfl (hb hby d9_10)
  have f4 : Exa Z h3 a1 cL := F0.wr W3
  have f5 : Fld Z h3 a1 cL "prev" dL (.ref u) := F1.other W3 (Or.inl Ne0)
  have f6 : Fld Z h3 a1 cL "next" dL (.ref w) := F2.other W3 (Or.inl Ne0)
  have f7 : Exa Z h3 u cH := F3.wr W3
  have f8 : Fld Z h3 u cL "prev" dL pu := F5.other W3 (Or.inr (slot_ne (Or.inl (wq hw 56 rfl)) (Or.inl (wq hw 54 rfl)) (by decide) (t := (.object cL)) (t' := (.object cL)) (by decide) (by decide)))
  have f9 : Exa Z h3 w cH := F6.wr W3
  have f10 : Fld Z h3 w cL "next" dL nw := F7.other W3 (Or.inl (Ne.symm Ne2))
  have f11 : Fld Z h3 w cL "prev" dL pw := F8.other W3 (Or.inl (Ne.symm Ne2))
  have f12 : Fld Z h3 u cH "tick" "J" (.long tu) := F9.other W3 (Or.inr (slot_ne (Or.inr (wq hw 52 rfl)) (Or.inl (wq hw 54 rfl)) (by decide) (t := .long) (t' := (.object cL)) (by decide) (by decide)))
  have f13 : Fld Z h3 w cH "tick" "J" (.long tw) := F10.other W3 (Or.inl (Ne.symm Ne2))
  have f14 : Fld Z h3 u cL "next" dL (.ref w) := F4.same W3
  have Kp3 : Keep h0 h3 [u, w, a1] := Kp0.wr W3 (Or.inl (List.mem_of_getElem? (i := 0) rfl))
  have Z15 : n0 ≤ h3.size := Nat.le_trans Z0 (Nat.le_of_eq W3.size.symm)
  have N16 := Fr.snoc X3 N0 Ge1
  refine Goes.by st3 ?_
  clear X0 N0
  refine Goes.by (B := T3.setTop (mkF m 14 #[.val (.ref a0), .val (.ref a1), .val (.ref u)] [(.ref a1)])) (fun t k => ?_) ?_
  · refine XS.aloadN X3.here hx rfl (hb hby d9_13) rfl rfl ?_
    exact k
  refine Goes.by (B := T3.setTop (mkF m 18 #[.val (.ref a0), .val (.ref a1), .val (.ref u)] [(.ref u), (.ref w)])) (fun t k => ?_) ?_
  · refine getFR X3 hx hZ hown (wq hw 23 rfl) e3 f6 (g := (mkF m 14 #[.val (.ref a0), .val (.ref a1), .val (.ref u)] [(.ref a1)])) rfl rfl (hb hby d9_14) ?_
    refine XS.aloadN X3.here hx rfl (hb hby d9_17) rfl rfl ?_
    exact k
  obtain ⟨T18, h18, X18, e18, W18, st18⟩ := putFR X3 hx hZ hown (wq hw 58 rfl) e3 f11 f9 (wq hw 56 rfl) (wq hw 44 rfl) (ty := (.object cL)) (by decide) rfl rfl (g := (mkF m 18 #[.val (.ref a0), .val (.ref a1), .val (.ref u)] [(.ref u), (.ref w)])) rfl rfl (hb hby d9_18)
  have f19 : Exa Z h18 a1 cL := f4.wr W18
  have f20 : Fld Z h18 a1 cL "prev" dL (.ref u) := f5.other W18 (Or.inl Ne1)
  have f21 : Fld Z h18 a1 cL "next" dL (.ref w) := f6.other W18 (Or.inl Ne1)
  have f22 : Exa Z h18 u cH := f7.wr W18
  have f23 : Fld Z h18 u cL "prev" dL pu := f8.other W18 (Or.inl Ne2)
  have f24 : Exa Z h18 w cH := f9.wr W18
  have f25 : Fld Z h18 w cL "next" dL nw := f10.other W18 (Or.inr (slot_ne (Or.inl (wq hw 54 rfl)) (Or.inl (wq hw 56 rfl)) (by decide) (t := (.object cL)) (t' := (.object cL)) (by decide) (by decide)))
  have f26 : Fld Z h18 u cH "tick" "J" (.long tu) := f12.other W18 (Or.inl Ne2)
  have f27 : Fld Z h18 w cH "tick" "J" (.long tw) := f13.other W18 (Or.inr (slot_ne (Or.inr (wq hw 52 rfl)) (Or.inl (wq hw 56 rfl)) (by decide) (t := .long) (t' := (.object cL)) (by decide) (by decide)))
  have f28 : Fld Z h18 u cL "next" dL (.ref w) := f14.other W18 (Or.inl Ne2)
  have f29 : Fld Z h18 w cL "prev" dL (.ref u) := f11.same W18
  have Kp18 : Keep h0 h18 [u, w, a1] := Kp3.wr W18 (Or.inl (List.mem_of_getElem? (i := 1) rfl))
  have Z30 : n0 ≤ h18.size := Nat.le_trans Z15 (Nat.le_of_eq W18.size.symm)
  have N31 := Fr.snoc X18 N16 Ge2
  refine Goes.by st18 ?_
  clear f4 f5 f6 f7 f8 f9 f10 f11 f12 f13 f14 X3 N16 Z15 Kp3 e3
  refine Goes.by (B := T18.setTop (mkF m 23 #[.val (.ref a0), .val (.ref a1), .val (.ref u)] [.null, (.ref a1)])) (fun t k => ?_) ?_
  · refine XS.aloadN X18.here hx rfl (hb hby d9_21) rfl rfl ?_
    refine XS.aconstNull X18.here hx rfl (hb hby d9_22) ?_
    exact k
  obtain ⟨T32, h32, X32, e32, W32, st32⟩ := putFR X18 hx hZ hown (wq hw 23 rfl) e18 f21 f19 (wq hw 24 rfl) (wq hw 14 rfl) (ty := (.object cL)) (by decide) rfl rfl (g := (mkF m 23 #[.val (.ref a0), .val (.ref a1), .val (.ref u)] [.null, (.ref a1)])) rfl rfl (hb hby d9_23)
  have f33 : Exa Z h32 a1 cL := f19.wr W32
  have f34 : Fld Z h32 a1 cL "prev" dL (.ref u) := f20.other W32 (Or.inr (slot_ne (Or.inl (wq hw 59 rfl)) (Or.inl (wq hw 24 rfl)) (by decide) (t := (.object cL)) (t' := (.object cL)) (by decide) (by decide)))
  have f35 : Exa Z h32 u cH := f22.wr W32
  have f36 : Fld Z h32 u cL "prev" dL pu := f23.other W32 (Or.inl (Ne.symm Ne0))
  have f37 : Exa Z h32 w cH := f24.wr W32
  have f38 : Fld Z h32 w cL "next" dL nw := f25.other W32 (Or.inl (Ne.symm Ne1))
  have f39 : Fld Z h32 u cH "tick" "J" (.long tu) := f26.other W32 (Or.inl (Ne.symm Ne0))
  have f40 : Fld Z h32 w cH "tick" "J" (.long tw) := f27.other W32 (Or.inl (Ne.symm Ne1))
  have f41 : Fld Z h32 u cL "next" dL (.ref w) := f28.other W32 (Or.inl (Ne.symm Ne0))
  have f42 : Fld Z h32 w cL "prev" dL (.ref u) := f29.other W32 (Or.inl (Ne.symm Ne1))
  have f43 : Fld Z h32 a1 cL "next" dL .null := f21.same W32
  have Kp32 : Keep h0 h32 [u, w, a1] := Kp18.wr W32 (Or.inl (List.mem_of_getElem? (i := 2) rfl))
  have Z44 : n0 ≤ h32.size := Nat.le_trans Z30 (Nat.le_of_eq W32.size.symm)
  have N45 := Fr.snoc X32 N31 Ge0
  refine Goes.by st32 ?_
  clear f19 f20 f21 f22 f23 f24 f25 f26 f27 f28 f29 X18 N31 Z30 Kp18 e18
  refine Goes.by (B := T32.setTop (mkF m 28 #[.val (.ref a0), .val (.ref a1), .val (.ref u)] [.null, (.ref a1)])) (fun t k => ?_) ?_
  · refine XS.aloadN X32.here hx rfl (hb hby d9_26) rfl rfl ?_
    refine XS.aconstNull X32.here hx rfl (hb hby d9_27) ?_
    exact k
  obtain ⟨T46, h46, X46, e46, W46, st46⟩ := putFR X32 hx hZ hown (wq hw 58 rfl) e32 f34 f33 (wq hw 59 rfl) (wq hw 14 rfl) (ty := (.object cL)) (by decide) rfl rfl (g := (mkF m 28 #[.val (.ref a0), .val (.ref a1), .val (.ref u)] [.null, (.ref a1)])) rfl rfl (hb hby d9_28)
  have f47 : Exa Z h46 a1 cL := f33.wr W46
  have f48 : Exa Z h46 u cH := f35.wr W46
  have f49 : Fld Z h46 u cL "prev" dL pu := f36.other W46 (Or.inl (Ne.symm Ne0))
  have f50 : Exa Z h46 w cH := f37.wr W46
  have f51 : Fld Z h46 w cL "next" dL nw := f38.other W46 (Or.inl (Ne.symm Ne1))
  have f52 : Fld Z h46 u cH "tick" "J" (.long tu) := f39.other W46 (Or.inl (Ne.symm Ne0))
  have f53 : Fld Z h46 w cH "tick" "J" (.long tw) := f40.other W46 (Or.inl (Ne.symm Ne1))
  have f54 : Fld Z h46 u cL "next" dL (.ref w) := f41.other W46 (Or.inl (Ne.symm Ne0))
  have f55 : Fld Z h46 w cL "prev" dL (.ref u) := f42.other W46 (Or.inl (Ne.symm Ne1))
  have f56 : Fld Z h46 a1 cL "next" dL .null := f43.other W46 (Or.inr (slot_ne (Or.inl (wq hw 24 rfl)) (Or.inl (wq hw 59 rfl)) (by decide) (t := (.object cL)) (t' := (.object cL)) (by decide) (by decide)))
  have f57 : Fld Z h46 a1 cL "prev" dL .null := f34.same W46
  have Kp46 : Keep h0 h46 [u, w, a1] := Kp32.wr W46 (Or.inl (List.mem_of_getElem? (i := 2) rfl))
  have Z58 : n0 ≤ h46.size := Nat.le_trans Z44 (Nat.le_of_eq W46.size.symm)
  have N59 := Fr.snoc X46 N45 Ge0
  refine Goes.by st46 ?_
  clear f33 f34 f35 f36 f37 f38 f39 f40 f41 f42 f43 X32 N45 Z44 Kp32 e32
  refine Goes.by (B := T46.setTop (mkF m 32 #[.val (.ref a0), .val (.ref a1), .val (.ref u)] [(.ref u)])) (fun t k => ?_) ?_
  · refine XS.aloadN X46.here hx rfl (hb hby d9_31) rfl rfl ?_
    exact k
  refine Goes.by (B := T46.setTop (mkF m 47 #[.val (.ref a0), .val (.ref a1), .val (.ref u)] [])) (fun t k => ?_) ?_
  · refine getFR X46 hx hZ hown (wq hw 23 rfl) e46 f54 (g := (mkF m 32 #[.val (.ref a0), .val (.ref a1), .val (.ref u)] [(.ref u)])) rfl rfl (hb hby d9_32) ?_
    refine XS.aloadN X46.here hx rfl (hb hby d9_35) rfl rfl ?_
    refine Jvm.RoadKit.acmp (g := (mkF m 36 #[.val (.ref a0), .val (.ref a1), .val (.ref u)] [(.ref u), (.ref w)])) X46 hx rfl rfl rfl (pc0 := 36) (pc' := 47) (same := false) rfl (hb hby d9_36) rfl (decide_eq_false fun q => (Ne.symm Ne2) (Value.ref.inj q)) (by decide) (by decide) ?_
    exact k
  obtain ⟨fs, hr, hrun, hended, hW, hsame⟩ := X46.leave (v := none) (fun _ => rfl)
  refine Goes.mk _ _ ?_ ⟨hrun, hended, _, _, rfl, ?_, ⟨_, rfl⟩, hW, hsame.mono (by decide) (by decide)⟩
  · exact X46.returnOut hx Bd.returns (hb hby d9_47) hr
  · show QRemHH Z a0 a1 u w nu pu nw pw tu tw h0 n0 _ T46.heap _
    rw [e46]
    exact ⟨rfl, N59, Kp46, f56, f57, f54, f49, f51, f55, f52, f53⟩
theorem d9_39 : decode prog_4_method_6_code 39 = .ok (.aload_n 0, 1) := by decide +kernel
theorem d9_40 : decode prog_4_method_6_code 40 = .ok (.aload_n 2, 1) := by decide +kernel
theorem d9_41 : decode prog_4_method_6_code 41 = .ok (.checkcast 9, 3) := by decide +kernel
theorem d9_44 : decode prog_4_method_6_code 44 = .ok (.invokevirtual 40, 3) := by decide +kernel
theorem own_pd4 : parseMethodDescriptor "(Lcom/example/admit_one/admitone/engine/DueOrder$Head;)V" = some ⟨[(.object cH)], none⟩ := by decide +kernel
def QRemL1_1 (Z : State) (a0 : Addr) (a1 : Addr) (ar : Addr) (kA : ClassId) (x1 : Addr) (t1 : Int64) (nu : Value) (pu : Value) (h0 : Heap) (n0 : Nat) (v : Option Value) (h : Heap) (L : List Loc) : Prop := v = none ∧ Fr n0 L ∧ Keep h0 h [x1, a1, a0, ar] ∧ Fld Z h a0 cD "heads" dA (.ref ar) ∧ Fld Z h a0 cD "count" "I" (.int (0 : Int32)) ∧ Arv Z h ar kA (.object cH) (4 : Int32) [.null, .null, .null, .null] .null ∧ Fld Z h a1 cL "next" dL .null ∧ Fld Z h a1 cL "prev" dL .null
theorem efRemL1_1 (m : MethodId) (x0 : Addr) (x1 : Addr) : entryFrame m #[(.ref x0), (.ref x1)] 3 = mkF m 0 #[.val (.ref x0), .val (.ref x1), .unset] [] := by first | (simp [entryFrame, mkF, argsToLocals, Value.category]; done) | rfl
set_option maxRecDepth 65536 in
set_option maxHeartbeats 40000000 in
theorem rmRemL1_1 (l : Launch) (Z : State) (az : Array Value) (hw : ∀ d ∈ tables_1, d.before az Z = true) (ws : List Jvm.Cond) (a0 : Addr) (a1 : Addr) (ar : Addr) (kA : ClassId) (x1 : Addr) (t1 : Int64) (nu : Value) (pu : Value) (h0 : Heap) (n0 : Nat) (Z0 : n0 ≤ h0.size) (F0 : Exa Z h0 a0 cD) (F1 : Fld Z h0 a0 cD "heads" dA (.ref ar)) (F2 : Fld Z h0 a0 cD "count" "I" (.int (1 : Int32))) (F3 : Arv Z h0 ar kA (.object cH) (4 : Int32) [(.ref x1), .null, .null, .null] .null) (F4 : Ovr Z kA cH) (F5 : Exa Z h0 x1 cH) (F6 : Fld Z h0 x1 cH "tick" "J" (.long t1)) (F7 : Exa Z h0 a1 cL) (F8 : Fld Z h0 a1 cL "prev" dL (.ref x1)) (F9 : Fld Z h0 a1 cL "next" dL (.ref x1)) (F10 : Fld Z h0 x1 cL "next" dL nu) (F11 : Fld Z h0 x1 cL "prev" dL pu) (Ne0 : a0 ≠ ar) (Ne1 : x1 ≠ a0) (Ne2 : x1 ≠ ar) (Ne3 : a1 ≠ a0) (Ne4 : a1 ≠ ar) (Ne5 : a1 ≠ x1) (Ge0 : n0 ≤ a0) (Ge1 : n0 ≤ ar) (Ge2 : n0 ≤ a1) (Ge3 : n0 ≤ x1) (HD : fDue1 t1 t1 = (1 : Int32)) :
    MetFree l y7 (head1 (Jvm.Cond.code y7 prog_4_method_6_code 3 none :: ws) ({ frames := 2, cells := 0, slots := 0, locals := 32 } : Room)) (fun a U => a = #[(.ref a0), (.ref a1)] ∧ Z.Warmed39 U.vm ∧ U.heap = h0) (fun _ _ _ _ _ => True) (fun _ U o U' => ∃ v L, o = .returned v ∧ QRemL1_1 Z a0 a1 ar kA x1 t1 nu pu h0 n0 v U'.heap L ∧ FrameEnd U o U' L ({ frames := 2, cells := 0, slots := 0, locals := 32 } : Room).cells ({ frames := 2, cells := 0, slots := 0, locals := 32 } : Room).slots) := by
  refine MetFree.of_bodySF (plainFor_of_name own_pn_com_example_admit_one_admitone_engine_DueOrder) hisR ?_
  intro p e s m args below meth c s₁ Bd hml0 hP hK
  obtain ⟨rfl, hZ, hh⟩ := hP
  have hx := Bd.exec
  have hby := Bd.bytes
  have hml : c.maxLocals = 3 := hml0
  have hown : s.vm.findClass cD = some m.cls := findClass_of_methodNamed Bd.named
  have hnm := (name_of_methodNamed Bd.named Bd.method).1
  have X0 : Stand p l e ({ frames := 2, cells := 0, slots := 0, locals := 32 } : Room) s m #[(.ref a0), (.ref a1)] below meth c s₁ [] 0 0 := Stand.of_body Bd
  have e0 : s₁.heap = h0 := by rw [← hh, Bd.state]; rfl
  have N0 := Fr.nil n0
  have Kp0 : Keep h0 h0 [x1, a1, a0, ar] := Keep.refl _ _
  refine Goes.start ?_
  refine Goes.by (B := s₁.setTop (mkF m 0 #[.val (.ref a0), .val (.ref a1), .unset] [])) (fun t k => castTop (efRemL1_1 m a0 a1) k) ?_
  refine Goes.by (B := s₁.setTop (mkF m 1 #[.val (.ref a0), .val (.ref a1), .unset] [(.ref a1)])) (fun t k => ?_) ?_
  · refine XS.aloadN X0.here hx rfl (hb hby d9_0) rfl rfl ?_
    exact k
  refine Goes.by (B := s₁.setTop (mkF m 7 #[.val (.ref a0), .val (.ref a1), .val (.ref x1)] [(.ref a1), (.ref x1)])) (fun t k => ?_) ?_
  · refine getFR X0 hx hZ hown (wq hw 58 rfl) e0 F8 (g := (mkF m 1 #[.val (.ref a0), .val (.ref a1), .unset] [(.ref a1)])) rfl rfl (hb hby d9_1) ?_
    refine XS.astoreN X0.here hx rfl (hb hby d9_4) rfl rfl (l' := #[.val (.ref a0), .val (.ref a1), .val (.ref x1)]) rfl ?_
    refine XS.aloadN X0.here hx rfl (hb hby d9_5) rfl rfl ?_
    refine XS.aloadN X0.here hx rfl (hb hby d9_6) rfl rfl ?_
    exact k
  refine Goes.by (B := s₁.setTop (mkF m 10 #[.val (.ref a0), .val (.ref a1), .val (.ref x1)] [(.ref x1), (.ref x1)])) (fun t k => ?_) ?_
  · refine getFR X0 hx hZ hown (wq hw 23 rfl) e0 F9 (g := (mkF m 7 #[.val (.ref a0), .val (.ref a1), .val (.ref x1)] [(.ref a1), (.ref x1)])) rfl rfl (hb hby d9_7) ?_
    exact k
  obtain ⟨T3, h3, X3, e3, W3, st3⟩ := putFR X0 hx hZ hown (wq hw 23 rfl) e0 F10 F5 (wq hw 54 rfl) (wq hw 44 rfl) (ty := (.object cL)) (by decide) rfl rfl (g := (mkF m 10 #[.val (.ref a0), .val (.ref a1), .val (.ref x1)] [(.ref x1), (.ref x1)])) rfl rfl (hb hby d9_10)
  have f4 : Exa Z h3 a0 cD := F0.wr W3
  have f5 : Fld Z h3 a0 cD "heads" dA (.ref ar) := F1.other W3 (Or.inl (Ne.symm Ne1))
  have f6 : Fld Z h3 a0 cD "count" "I" (.int (1 : Int32)) := F2.other W3 (Or.inl (Ne.symm Ne1))
  have f7 : Arv Z h3 ar kA (.object cH) (4 : Int32) [(.ref x1), .null, .null, .null] .null := F3.other W3 (Ne.symm Ne2)
  have f8 : Exa Z h3 x1 cH := F5.wr W3
  have f9 : Fld Z h3 x1 cH "tick" "J" (.long t1) := F6.other W3 (Or.inr (slot_ne (Or.inr (wq hw 52 rfl)) (Or.inl (wq hw 54 rfl)) (by decide) (t := .long) (t' := (.object cL)) (by decide) (by decide)))
  have f10 : Exa Z h3 a1 cL := F7.wr W3
  have f11 : Fld Z h3 a1 cL "prev" dL (.ref x1) := F8.other W3 (Or.inl Ne5)
  have f12 : Fld Z h3 a1 cL "next" dL (.ref x1) := F9.other W3 (Or.inl Ne5)
  have f13 : Fld Z h3 x1 cL "prev" dL pu := F11.other W3 (Or.inr (slot_ne (Or.inl (wq hw 56 rfl)) (Or.inl (wq hw 54 rfl)) (by decide) (t := (.object cL)) (t' := (.object cL)) (by decide) (by decide)))
  have f14 : Fld Z h3 x1 cL "next" dL (.ref x1) := F10.same W3
  have Kp3 : Keep h0 h3 [x1, a1, a0, ar] := Kp0.wr W3 (Or.inl (List.mem_of_getElem? (i := 0) rfl))
  have Z15 : n0 ≤ h3.size := Nat.le_trans Z0 (Nat.le_of_eq W3.size.symm)
  have N16 := Fr.snoc X3 N0 Ge3
  refine Goes.by st3 ?_
  clear X0 N0
  refine Goes.by (B := T3.setTop (mkF m 14 #[.val (.ref a0), .val (.ref a1), .val (.ref x1)] [(.ref a1)])) (fun t k => ?_) ?_
  · refine XS.aloadN X3.here hx rfl (hb hby d9_13) rfl rfl ?_
    exact k
  refine Goes.by (B := T3.setTop (mkF m 18 #[.val (.ref a0), .val (.ref a1), .val (.ref x1)] [(.ref x1), (.ref x1)])) (fun t k => ?_) ?_
  · refine getFR X3 hx hZ hown (wq hw 23 rfl) e3 f12 (g := (mkF m 14 #[.val (.ref a0), .val (.ref a1), .val (.ref x1)] [(.ref a1)])) rfl rfl (hb hby d9_14) ?_
    refine XS.aloadN X3.here hx rfl (hb hby d9_17) rfl rfl ?_
    exact k
  obtain ⟨T18, h18, X18, e18, W18, st18⟩ := putFR X3 hx hZ hown (wq hw 58 rfl) e3 f13 f8 (wq hw 56 rfl) (wq hw 44 rfl) (ty := (.object cL)) (by decide) rfl rfl (g := (mkF m 18 #[.val (.ref a0), .val (.ref a1), .val (.ref x1)] [(.ref x1), (.ref x1)])) rfl rfl (hb hby d9_18)
  have f19 : Exa Z h18 a0 cD := f4.wr W18
  have f20 : Fld Z h18 a0 cD "heads" dA (.ref ar) := f5.other W18 (Or.inl (Ne.symm Ne1))
  have f21 : Fld Z h18 a0 cD "count" "I" (.int (1 : Int32)) := f6.other W18 (Or.inl (Ne.symm Ne1))
  have f22 : Arv Z h18 ar kA (.object cH) (4 : Int32) [(.ref x1), .null, .null, .null] .null := f7.other W18 (Ne.symm Ne2)
  have f23 : Exa Z h18 x1 cH := f8.wr W18
  have f24 : Fld Z h18 x1 cH "tick" "J" (.long t1) := f9.other W18 (Or.inr (slot_ne (Or.inr (wq hw 52 rfl)) (Or.inl (wq hw 56 rfl)) (by decide) (t := .long) (t' := (.object cL)) (by decide) (by decide)))
  have f25 : Exa Z h18 a1 cL := f10.wr W18
  have f26 : Fld Z h18 a1 cL "prev" dL (.ref x1) := f11.other W18 (Or.inl Ne5)
  have f27 : Fld Z h18 a1 cL "next" dL (.ref x1) := f12.other W18 (Or.inl Ne5)
  have f28 : Fld Z h18 x1 cL "next" dL (.ref x1) := f14.other W18 (Or.inr (slot_ne (Or.inl (wq hw 54 rfl)) (Or.inl (wq hw 56 rfl)) (by decide) (t := (.object cL)) (t' := (.object cL)) (by decide) (by decide)))
  have f29 : Fld Z h18 x1 cL "prev" dL (.ref x1) := f13.same W18
  have Kp18 : Keep h0 h18 [x1, a1, a0, ar] := Kp3.wr W18 (Or.inl (List.mem_of_getElem? (i := 0) rfl))
  have Z30 : n0 ≤ h18.size := Nat.le_trans Z15 (Nat.le_of_eq W18.size.symm)
  have N31 := Fr.snoc X18 N16 Ge3
  refine Goes.by st18 ?_
  clear f4 f5 f6 f7 f8 f9 f10 f11 f12 f13 f14 X3 N16 Z15 Kp3 e3
  refine Goes.by (B := T18.setTop (mkF m 23 #[.val (.ref a0), .val (.ref a1), .val (.ref x1)] [.null, (.ref a1)])) (fun t k => ?_) ?_
  · refine XS.aloadN X18.here hx rfl (hb hby d9_21) rfl rfl ?_
    refine XS.aconstNull X18.here hx rfl (hb hby d9_22) ?_
    exact k
  obtain ⟨T32, h32, X32, e32, W32, st32⟩ := putFR X18 hx hZ hown (wq hw 23 rfl) e18 f27 f25 (wq hw 24 rfl) (wq hw 14 rfl) (ty := (.object cL)) (by decide) rfl rfl (g := (mkF m 23 #[.val (.ref a0), .val (.ref a1), .val (.ref x1)] [.null, (.ref a1)])) rfl rfl (hb hby d9_23)
  have f33 : Exa Z h32 a0 cD := f19.wr W32
  have f34 : Fld Z h32 a0 cD "heads" dA (.ref ar) := f20.other W32 (Or.inl (Ne.symm Ne3))
  have f35 : Fld Z h32 a0 cD "count" "I" (.int (1 : Int32)) := f21.other W32 (Or.inl (Ne.symm Ne3))
  have f36 : Arv Z h32 ar kA (.object cH) (4 : Int32) [(.ref x1), .null, .null, .null] .null := f22.other W32 (Ne.symm Ne4)
  have f37 : Exa Z h32 x1 cH := f23.wr W32
  have f38 : Fld Z h32 x1 cH "tick" "J" (.long t1) := f24.other W32 (Or.inl (Ne.symm Ne5))
  have f39 : Exa Z h32 a1 cL := f25.wr W32
  have f40 : Fld Z h32 a1 cL "prev" dL (.ref x1) := f26.other W32 (Or.inr (slot_ne (Or.inl (wq hw 59 rfl)) (Or.inl (wq hw 24 rfl)) (by decide) (t := (.object cL)) (t' := (.object cL)) (by decide) (by decide)))
  have f41 : Fld Z h32 x1 cL "next" dL (.ref x1) := f28.other W32 (Or.inl (Ne.symm Ne5))
  have f42 : Fld Z h32 x1 cL "prev" dL (.ref x1) := f29.other W32 (Or.inl (Ne.symm Ne5))
  have f43 : Fld Z h32 a1 cL "next" dL .null := f27.same W32
  have Kp32 : Keep h0 h32 [x1, a1, a0, ar] := Kp18.wr W32 (Or.inl (List.mem_of_getElem? (i := 1) rfl))
  have Z44 : n0 ≤ h32.size := Nat.le_trans Z30 (Nat.le_of_eq W32.size.symm)
  have N45 := Fr.snoc X32 N31 Ge2
  refine Goes.by st32 ?_
  clear f19 f20 f21 f22 f23 f24 f25 f26 f27 f28 f29 X18 N31 Z30 Kp18 e18
  refine Goes.by (B := T32.setTop (mkF m 28 #[.val (.ref a0), .val (.ref a1), .val (.ref x1)] [.null, (.ref a1)])) (fun t k => ?_) ?_
  · refine XS.aloadN X32.here hx rfl (hb hby d9_26) rfl rfl ?_
    refine XS.aconstNull X32.here hx rfl (hb hby d9_27) ?_
    exact k
  obtain ⟨T46, h46, X46, e46, W46, st46⟩ := putFR X32 hx hZ hown (wq hw 58 rfl) e32 f40 f39 (wq hw 59 rfl) (wq hw 14 rfl) (ty := (.object cL)) (by decide) rfl rfl (g := (mkF m 28 #[.val (.ref a0), .val (.ref a1), .val (.ref x1)] [.null, (.ref a1)])) rfl rfl (hb hby d9_28)
  have f47 : Exa Z h46 a0 cD := f33.wr W46
  have f48 : Fld Z h46 a0 cD "heads" dA (.ref ar) := f34.other W46 (Or.inl (Ne.symm Ne3))
  have f49 : Fld Z h46 a0 cD "count" "I" (.int (1 : Int32)) := f35.other W46 (Or.inl (Ne.symm Ne3))
  have f50 : Arv Z h46 ar kA (.object cH) (4 : Int32) [(.ref x1), .null, .null, .null] .null := f36.other W46 (Ne.symm Ne4)
  have f51 : Exa Z h46 x1 cH := f37.wr W46
  have f52 : Fld Z h46 x1 cH "tick" "J" (.long t1) := f38.other W46 (Or.inl (Ne.symm Ne5))
  have f53 : Exa Z h46 a1 cL := f39.wr W46
  have f54 : Fld Z h46 x1 cL "next" dL (.ref x1) := f41.other W46 (Or.inl (Ne.symm Ne5))
  have f55 : Fld Z h46 x1 cL "prev" dL (.ref x1) := f42.other W46 (Or.inl (Ne.symm Ne5))
  have f56 : Fld Z h46 a1 cL "next" dL .null := f43.other W46 (Or.inr (slot_ne (Or.inl (wq hw 24 rfl)) (Or.inl (wq hw 59 rfl)) (by decide) (t := (.object cL)) (t' := (.object cL)) (by decide) (by decide)))
  have f57 : Fld Z h46 a1 cL "prev" dL .null := f40.same W46
  have Kp46 : Keep h0 h46 [x1, a1, a0, ar] := Kp32.wr W46 (Or.inl (List.mem_of_getElem? (i := 1) rfl))
  have Z58 : n0 ≤ h46.size := Nat.le_trans Z44 (Nat.le_of_eq W46.size.symm)
  have N59 := Fr.snoc X46 N45 Ge2
  refine Goes.by st46 ?_
  clear f33 f34 f35 f36 f37 f38 f39 f40 f41 f42 f43 X32 N45 Z44 Kp32 e32
  refine Goes.by (B := T46.setTop (mkF m 32 #[.val (.ref a0), .val (.ref a1), .val (.ref x1)] [(.ref x1)])) (fun t k => ?_) ?_
  · refine XS.aloadN X46.here hx rfl (hb hby d9_31) rfl rfl ?_
    exact k
  refine Goes.by (B := T46.setTop (mkF m 41 #[.val (.ref a0), .val (.ref a1), .val (.ref x1)] [(.ref x1), (.ref a0)])) (fun t k => ?_) ?_
  · refine getFR X46 hx hZ hown (wq hw 23 rfl) e46 f54 (g := (mkF m 32 #[.val (.ref a0), .val (.ref a1), .val (.ref x1)] [(.ref x1)])) rfl rfl (hb hby d9_32) ?_
    refine XS.aloadN X46.here hx rfl (hb hby d9_35) rfl rfl ?_
    refine Jvm.RoadKit.acmp (g := (mkF m 36 #[.val (.ref a0), .val (.ref a1), .val (.ref x1)] [(.ref x1), (.ref x1)])) X46 hx rfl rfl rfl (pc0 := 36) (pc' := 39) (same := true) rfl (hb hby d9_36) rfl (decide_eq_true rfl) (by decide) (by decide) ?_
    refine XS.aloadN X46.here hx rfl (hb hby d9_39) rfl rfl ?_
    refine XS.aloadN X46.here hx rfl (hb hby d9_40) rfl rfl ?_
    exact k
  obtain ⟨T61, X61, e61, st61⟩ := castY X46 hx hZ hown (wq hw 9 rfl) e46 (Ins.self f51) (g := (mkF m 41 #[.val (.ref a0), .val (.ref a1), .val (.ref x1)] [(.ref x1), (.ref a0)])) rfl rfl (hb hby d9_41)
  refine Goes.by st61 ?_
  clear X46 e46
  obtain ⟨cq62, q62, q62'⟩ := (f47).cell
  obtain ⟨_, _, ⟨T62, L62, k62, n62⟩, -, X62, ⟨Lc62, hQ62, l62, y62, z62⟩, st62⟩ := X61.privateBack hx (y := y8) hown (mvT hZ (wq hw 65 rfl)) (mvT hZ (wq hw 66 rfl)) (own_sel hZ (wq hw 1 rfl) (wq hw 67 rfl) (wq hw 66 rfl) (by decide)) (Cond.privateMethod_at (mvP hZ (wq hw 67 rfl) (args := #[]))) (mvT hZ (wq hw 68 rfl)) (by decide) (backOf (W := 0) (rmDrop1_1 l Z az hw [] a0 x1 ar kA t1 h46 n0 Z58 f47 f48 f49 f50 F4 f51 f52 Ne0 Ne1 Ne2 Ge0 Ge1 HD) hZ (wq hw 68 rfl) (wq hw 2 rfl) (by decide) (by decide)) (g := (mkF m 44 #[.val (.ref a0), .val (.ref a1), .val (.ref x1)] [(.ref x1), (.ref a0)])) rfl (by rw [hml]; rfl) (Steps.refl _) (a := a0) (by rw [e61]; exact q62) q62' (argsL := [(.ref x1)]) (rest := []) (lenOf own_pd4 rfl) rfl (by show 2 * 0 + _ ≤ _; exact Nat.le_of_eq rfl) (hb hby d9_44) (fun _ _ => ⟨rfl, e61, (by decide : 0 + 0 ≤ _), (by decide : 0 + 0 ≤ _)⟩)
  dsimp only [Pt.U, Pt.locs, Pt.cells, Pt.slots] at X62 l62 y62 z62 st62 hQ62
  subst l62 y62 z62
  replace X62 : Stand p l e ({ frames := 2, cells := 0, slots := 0, locals := 32 } : Room) s m #[(.ref a0), (.ref a1)] below meth c T62 _ 0 0 := X62
  obtain ⟨rfl, N62q, K62, f63, f64, f65⟩ := hQ62
  have f66 : Exa Z T62.heap a0 cD := f47.keep K62
  have f67 : Exa Z T62.heap x1 cH := f51.keep K62
  have f68 : Fld Z T62.heap x1 cH "tick" "J" (.long t1) := f52.keep K62 (ninS Ne2 (ninS Ne1 nin0))
  have f69 : Exa Z T62.heap a1 cL := f53.keep K62
  have f70 : Fld Z T62.heap x1 cL "next" dL (.ref x1) := f54.keep K62 (ninS Ne2 (ninS Ne1 nin0))
  have f71 : Fld Z T62.heap x1 cL "prev" dL (.ref x1) := f55.keep K62 (ninS Ne2 (ninS Ne1 nin0))
  have f72 : Fld Z T62.heap a1 cL "next" dL .null := f56.keep K62 (ninS Ne4 (ninS Ne3 nin0))
  have f73 : Fld Z T62.heap a1 cL "prev" dL .null := f57.keep K62 (ninS Ne4 (ninS Ne3 nin0))
  have Kp62 : Keep h0 T62.heap [x1, a1, a0, ar] := Kp46.trans K62 (allS (Or.inl (List.mem_of_getElem? (i := 3) rfl)) (allS (Or.inl (List.mem_of_getElem? (i := 2) rfl)) all0))
  have Z74 : n0 ≤ T62.heap.size := Nat.le_trans Z58 K62.1
  have N75 := Fr.app N59 N62q
  refine Goes.by (fun _ k => st62.trans k) ?_
  clear f47 f48 f49 f50 f51 f52 f53 f54 f55 f56 f57 X61 N59 Z58 Kp46 e61
  obtain ⟨fs, hr, hrun, hended, hW, hsame⟩ := X62.leave (v := none) (fun _ => rfl)
  refine Goes.mk _ _ ?_ ⟨hrun, hended, _, _, rfl, ?_, ⟨_, rfl⟩, hW, hsame.mono (by decide) (by decide)⟩
  · exact X62.returnOut hx Bd.returns (hb hby d9_47) hr
  · show QRemL1_1 Z a0 a1 ar kA x1 t1 nu pu h0 n0 _ T62.heap _
    exact ⟨rfl, N75, Kp62, f63, f64, f65, f72, f73⟩
def QRemL2_1 (Z : State) (a0 : Addr) (a1 : Addr) (ar : Addr) (kA : ClassId) (x1 : Addr) (x2 : Addr) (t1 : Int64) (t2 : Int64) (nu : Value) (pu : Value) (h0 : Heap) (n0 : Nat) (v : Option Value) (h : Heap) (L : List Loc) : Prop := v = none ∧ Fr n0 L ∧ Keep h0 h [x1, a1, a0, ar] ∧ Fld Z h a0 cD "heads" dA (.ref ar) ∧ Fld Z h a0 cD "count" "I" (.int (1 : Int32)) ∧ Arv Z h ar kA (.object cH) (4 : Int32) [(.ref x2), .null, .null, .null] .null ∧ Fld Z h a1 cL "next" dL .null ∧ Fld Z h a1 cL "prev" dL .null
theorem efRemL2_1 (m : MethodId) (x0 : Addr) (x1 : Addr) : entryFrame m #[(.ref x0), (.ref x1)] 3 = mkF m 0 #[.val (.ref x0), .val (.ref x1), .unset] [] := by first | (simp [entryFrame, mkF, argsToLocals, Value.category]; done) | rfl
set_option maxRecDepth 65536 in
set_option maxHeartbeats 40000000 in
theorem rmRemL2_1 (l : Launch) (Z : State) (az : Array Value) (hw : ∀ d ∈ tables_1, d.before az Z = true) (ws : List Jvm.Cond) (a0 : Addr) (a1 : Addr) (ar : Addr) (kA : ClassId) (x1 : Addr) (x2 : Addr) (t1 : Int64) (t2 : Int64) (nu : Value) (pu : Value) (h0 : Heap) (n0 : Nat) (Z0 : n0 ≤ h0.size) (F0 : Exa Z h0 a0 cD) (F1 : Fld Z h0 a0 cD "heads" dA (.ref ar)) (F2 : Fld Z h0 a0 cD "count" "I" (.int (2 : Int32))) (F3 : Arv Z h0 ar kA (.object cH) (4 : Int32) [(.ref x1), (.ref x2), .null, .null] .null) (F4 : Ovr Z kA cH) (F5 : Exa Z h0 x1 cH) (F6 : Fld Z h0 x1 cH "tick" "J" (.long t1)) (F7 : Exa Z h0 x2 cH) (F8 : Fld Z h0 x2 cH "tick" "J" (.long t2)) (F9 : Exa Z h0 a1 cL) (F10 : Fld Z h0 a1 cL "prev" dL (.ref x1)) (F11 : Fld Z h0 a1 cL "next" dL (.ref x1)) (F12 : Fld Z h0 x1 cL "next" dL nu) (F13 : Fld Z h0 x1 cL "prev" dL pu) (Ne0 : a0 ≠ ar) (Ne1 : x1 ≠ a0) (Ne2 : x2 ≠ a0) (Ne3 : x1 ≠ ar) (Ne4 : x2 ≠ ar) (Ne5 : a1 ≠ a0) (Ne6 : a1 ≠ ar) (Ne7 : a1 ≠ x1) (Ne8 : a1 ≠ x2) (Ne9 : x1 ≠ x2) (Ge0 : n0 ≤ a0) (Ge1 : n0 ≤ ar) (Ge2 : n0 ≤ a1) (Ge3 : n0 ≤ x1) (HD : fDue2 t1 t1 t2 = (1 : Int32)) :
    MetFree l y7 (head1 (Jvm.Cond.code y7 prog_4_method_6_code 3 none :: ws) ({ frames := 2, cells := 0, slots := 0, locals := 32 } : Room)) (fun a U => a = #[(.ref a0), (.ref a1)] ∧ Z.Warmed39 U.vm ∧ U.heap = h0) (fun _ _ _ _ _ => True) (fun _ U o U' => ∃ v L, o = .returned v ∧ QRemL2_1 Z a0 a1 ar kA x1 x2 t1 t2 nu pu h0 n0 v U'.heap L ∧ FrameEnd U o U' L ({ frames := 2, cells := 0, slots := 0, locals := 32 } : Room).cells ({ frames := 2, cells := 0, slots := 0, locals := 32 } : Room).slots) := by
  refine MetFree.of_bodySF (plainFor_of_name own_pn_com_example_admit_one_admitone_engine_DueOrder) hisR ?_
  intro p e s m args below meth c s₁ Bd hml0 hP hK
  obtain ⟨rfl, hZ, hh⟩ := hP
  have hx := Bd.exec
  have hby := Bd.bytes
  have hml : c.maxLocals = 3 := hml0
  have hown : s.vm.findClass cD = some m.cls := findClass_of_methodNamed Bd.named
  have hnm := (name_of_methodNamed Bd.named Bd.method).1
  have X0 : Stand p l e ({ frames := 2, cells := 0, slots := 0, locals := 32 } : Room) s m #[(.ref a0), (.ref a1)] below meth c s₁ [] 0 0 := Stand.of_body Bd
  have e0 : s₁.heap = h0 := by rw [← hh, Bd.state]; rfl
  have N0 := Fr.nil n0
  have Kp0 : Keep h0 h0 [x1, a1, a0, ar] := Keep.refl _ _
  refine Goes.start ?_
  refine Goes.by (B := s₁.setTop (mkF m 0 #[.val (.ref a0), .val (.ref a1), .unset] [])) (fun t k => castTop (efRemL2_1 m a0 a1) k) ?_
  refine Goes.by (B := s₁.setTop (mkF m 1 #[.val (.ref a0), .val (.ref a1), .unset] [(.ref a1)])) (fun t k => ?_) ?_
  · refine XS.aloadN X0.here hx rfl (hb hby d9_0) rfl rfl ?_
    exact k
  refine Goes.by (B := s₁.setTop (mkF m 7 #[.val (.ref a0), .val (.ref a1), .val (.ref x1)] [(.ref a1), (.ref x1)])) (fun t k => ?_) ?_
  · refine getFR X0 hx hZ hown (wq hw 58 rfl) e0 F10 (g := (mkF m 1 #[.val (.ref a0), .val (.ref a1), .unset] [(.ref a1)])) rfl rfl (hb hby d9_1) ?_
    refine XS.astoreN X0.here hx rfl (hb hby d9_4) rfl rfl (l' := #[.val (.ref a0), .val (.ref a1), .val (.ref x1)]) rfl ?_
    refine XS.aloadN X0.here hx rfl (hb hby d9_5) rfl rfl ?_
    refine XS.aloadN X0.here hx rfl (hb hby d9_6) rfl rfl ?_
    exact k
  refine Goes.by (B := s₁.setTop (mkF m 10 #[.val (.ref a0), .val (.ref a1), .val (.ref x1)] [(.ref x1), (.ref x1)])) (fun t k => ?_) ?_
  · refine getFR X0 hx hZ hown (wq hw 23 rfl) e0 F11 (g := (mkF m 7 #[.val (.ref a0), .val (.ref a1), .val (.ref x1)] [(.ref a1), (.ref x1)])) rfl rfl (hb hby d9_7) ?_
    exact k
  obtain ⟨T3, h3, X3, e3, W3, st3⟩ := putFR X0 hx hZ hown (wq hw 23 rfl) e0 F12 F5 (wq hw 54 rfl) (wq hw 44 rfl) (ty := (.object cL)) (by decide) rfl rfl (g := (mkF m 10 #[.val (.ref a0), .val (.ref a1), .val (.ref x1)] [(.ref x1), (.ref x1)])) rfl rfl (hb hby d9_10)
  have f4 : Exa Z h3 a0 cD := F0.wr W3
  have f5 : Fld Z h3 a0 cD "heads" dA (.ref ar) := F1.other W3 (Or.inl (Ne.symm Ne1))
  have f6 : Fld Z h3 a0 cD "count" "I" (.int (2 : Int32)) := F2.other W3 (Or.inl (Ne.symm Ne1))
  have f7 : Arv Z h3 ar kA (.object cH) (4 : Int32) [(.ref x1), (.ref x2), .null, .null] .null := F3.other W3 (Ne.symm Ne3)
  have f8 : Exa Z h3 x1 cH := F5.wr W3
  have f9 : Fld Z h3 x1 cH "tick" "J" (.long t1) := F6.other W3 (Or.inr (slot_ne (Or.inr (wq hw 52 rfl)) (Or.inl (wq hw 54 rfl)) (by decide) (t := .long) (t' := (.object cL)) (by decide) (by decide)))
  have f10 : Exa Z h3 x2 cH := F7.wr W3
  have f11 : Fld Z h3 x2 cH "tick" "J" (.long t2) := F8.other W3 (Or.inl (Ne.symm Ne9))
  have f12 : Exa Z h3 a1 cL := F9.wr W3
  have f13 : Fld Z h3 a1 cL "prev" dL (.ref x1) := F10.other W3 (Or.inl Ne7)
  have f14 : Fld Z h3 a1 cL "next" dL (.ref x1) := F11.other W3 (Or.inl Ne7)
  have f15 : Fld Z h3 x1 cL "prev" dL pu := F13.other W3 (Or.inr (slot_ne (Or.inl (wq hw 56 rfl)) (Or.inl (wq hw 54 rfl)) (by decide) (t := (.object cL)) (t' := (.object cL)) (by decide) (by decide)))
  have f16 : Fld Z h3 x1 cL "next" dL (.ref x1) := F12.same W3
  have Kp3 : Keep h0 h3 [x1, a1, a0, ar] := Kp0.wr W3 (Or.inl (List.mem_of_getElem? (i := 0) rfl))
  have Z17 : n0 ≤ h3.size := Nat.le_trans Z0 (Nat.le_of_eq W3.size.symm)
  have N18 := Fr.snoc X3 N0 Ge3
  refine Goes.by st3 ?_
  clear X0 N0
  refine Goes.by (B := T3.setTop (mkF m 14 #[.val (.ref a0), .val (.ref a1), .val (.ref x1)] [(.ref a1)])) (fun t k => ?_) ?_
  · refine XS.aloadN X3.here hx rfl (hb hby d9_13) rfl rfl ?_
    exact k
  refine Goes.by (B := T3.setTop (mkF m 18 #[.val (.ref a0), .val (.ref a1), .val (.ref x1)] [(.ref x1), (.ref x1)])) (fun t k => ?_) ?_
  · refine getFR X3 hx hZ hown (wq hw 23 rfl) e3 f14 (g := (mkF m 14 #[.val (.ref a0), .val (.ref a1), .val (.ref x1)] [(.ref a1)])) rfl rfl (hb hby d9_14) ?_
    refine XS.aloadN X3.here hx rfl (hb hby d9_17) rfl rfl ?_
    exact k
  obtain ⟨T20, h20, X20, e20, W20, st20⟩ := putFR X3 hx hZ hown (wq hw 58 rfl) e3 f15 f8 (wq hw 56 rfl) (wq hw 44 rfl) (ty := (.object cL)) (by decide) rfl rfl (g := (mkF m 18 #[.val (.ref a0), .val (.ref a1), .val (.ref x1)] [(.ref x1), (.ref x1)])) rfl rfl (hb hby d9_18)
  have f21 : Exa Z h20 a0 cD := f4.wr W20
  have f22 : Fld Z h20 a0 cD "heads" dA (.ref ar) := f5.other W20 (Or.inl (Ne.symm Ne1))
  have f23 : Fld Z h20 a0 cD "count" "I" (.int (2 : Int32)) := f6.other W20 (Or.inl (Ne.symm Ne1))
  have f24 : Arv Z h20 ar kA (.object cH) (4 : Int32) [(.ref x1), (.ref x2), .null, .null] .null := f7.other W20 (Ne.symm Ne3)
  have f25 : Exa Z h20 x1 cH := f8.wr W20
  have f26 : Fld Z h20 x1 cH "tick" "J" (.long t1) := f9.other W20 (Or.inr (slot_ne (Or.inr (wq hw 52 rfl)) (Or.inl (wq hw 56 rfl)) (by decide) (t := .long) (t' := (.object cL)) (by decide) (by decide)))
  have f27 : Exa Z h20 x2 cH := f10.wr W20
  have f28 : Fld Z h20 x2 cH "tick" "J" (.long t2) := f11.other W20 (Or.inl (Ne.symm Ne9))
  have f29 : Exa Z h20 a1 cL := f12.wr W20
  have f30 : Fld Z h20 a1 cL "prev" dL (.ref x1) := f13.other W20 (Or.inl Ne7)
  have f31 : Fld Z h20 a1 cL "next" dL (.ref x1) := f14.other W20 (Or.inl Ne7)
  have f32 : Fld Z h20 x1 cL "next" dL (.ref x1) := f16.other W20 (Or.inr (slot_ne (Or.inl (wq hw 54 rfl)) (Or.inl (wq hw 56 rfl)) (by decide) (t := (.object cL)) (t' := (.object cL)) (by decide) (by decide)))
  have f33 : Fld Z h20 x1 cL "prev" dL (.ref x1) := f15.same W20
  have Kp20 : Keep h0 h20 [x1, a1, a0, ar] := Kp3.wr W20 (Or.inl (List.mem_of_getElem? (i := 0) rfl))
  have Z34 : n0 ≤ h20.size := Nat.le_trans Z17 (Nat.le_of_eq W20.size.symm)
  have N35 := Fr.snoc X20 N18 Ge3
  refine Goes.by st20 ?_
  clear f4 f5 f6 f7 f8 f9 f10 f11 f12 f13 f14 f15 f16 X3 N18 Z17 Kp3 e3
  refine Goes.by (B := T20.setTop (mkF m 23 #[.val (.ref a0), .val (.ref a1), .val (.ref x1)] [.null, (.ref a1)])) (fun t k => ?_) ?_
  · refine XS.aloadN X20.here hx rfl (hb hby d9_21) rfl rfl ?_
    refine XS.aconstNull X20.here hx rfl (hb hby d9_22) ?_
    exact k
  obtain ⟨T36, h36, X36, e36, W36, st36⟩ := putFR X20 hx hZ hown (wq hw 23 rfl) e20 f31 f29 (wq hw 24 rfl) (wq hw 14 rfl) (ty := (.object cL)) (by decide) rfl rfl (g := (mkF m 23 #[.val (.ref a0), .val (.ref a1), .val (.ref x1)] [.null, (.ref a1)])) rfl rfl (hb hby d9_23)
  have f37 : Exa Z h36 a0 cD := f21.wr W36
  have f38 : Fld Z h36 a0 cD "heads" dA (.ref ar) := f22.other W36 (Or.inl (Ne.symm Ne5))
  have f39 : Fld Z h36 a0 cD "count" "I" (.int (2 : Int32)) := f23.other W36 (Or.inl (Ne.symm Ne5))
  have f40 : Arv Z h36 ar kA (.object cH) (4 : Int32) [(.ref x1), (.ref x2), .null, .null] .null := f24.other W36 (Ne.symm Ne6)
  have f41 : Exa Z h36 x1 cH := f25.wr W36
  have f42 : Fld Z h36 x1 cH "tick" "J" (.long t1) := f26.other W36 (Or.inl (Ne.symm Ne7))
  have f43 : Exa Z h36 x2 cH := f27.wr W36
  have f44 : Fld Z h36 x2 cH "tick" "J" (.long t2) := f28.other W36 (Or.inl (Ne.symm Ne8))
  have f45 : Exa Z h36 a1 cL := f29.wr W36
  have f46 : Fld Z h36 a1 cL "prev" dL (.ref x1) := f30.other W36 (Or.inr (slot_ne (Or.inl (wq hw 59 rfl)) (Or.inl (wq hw 24 rfl)) (by decide) (t := (.object cL)) (t' := (.object cL)) (by decide) (by decide)))
  have f47 : Fld Z h36 x1 cL "next" dL (.ref x1) := f32.other W36 (Or.inl (Ne.symm Ne7))
  have f48 : Fld Z h36 x1 cL "prev" dL (.ref x1) := f33.other W36 (Or.inl (Ne.symm Ne7))
  have f49 : Fld Z h36 a1 cL "next" dL .null := f31.same W36
  have Kp36 : Keep h0 h36 [x1, a1, a0, ar] := Kp20.wr W36 (Or.inl (List.mem_of_getElem? (i := 1) rfl))
  have Z50 : n0 ≤ h36.size := Nat.le_trans Z34 (Nat.le_of_eq W36.size.symm)
  have N51 := Fr.snoc X36 N35 Ge2
  refine Goes.by st36 ?_
  clear f21 f22 f23 f24 f25 f26 f27 f28 f29 f30 f31 f32 f33 X20 N35 Z34 Kp20 e20
  refine Goes.by (B := T36.setTop (mkF m 28 #[.val (.ref a0), .val (.ref a1), .val (.ref x1)] [.null, (.ref a1)])) (fun t k => ?_) ?_
  · refine XS.aloadN X36.here hx rfl (hb hby d9_26) rfl rfl ?_
    refine XS.aconstNull X36.here hx rfl (hb hby d9_27) ?_
    exact k
  obtain ⟨T52, h52, X52, e52, W52, st52⟩ := putFR X36 hx hZ hown (wq hw 58 rfl) e36 f46 f45 (wq hw 59 rfl) (wq hw 14 rfl) (ty := (.object cL)) (by decide) rfl rfl (g := (mkF m 28 #[.val (.ref a0), .val (.ref a1), .val (.ref x1)] [.null, (.ref a1)])) rfl rfl (hb hby d9_28)
  have f53 : Exa Z h52 a0 cD := f37.wr W52
  have f54 : Fld Z h52 a0 cD "heads" dA (.ref ar) := f38.other W52 (Or.inl (Ne.symm Ne5))
  have f55 : Fld Z h52 a0 cD "count" "I" (.int (2 : Int32)) := f39.other W52 (Or.inl (Ne.symm Ne5))
  have f56 : Arv Z h52 ar kA (.object cH) (4 : Int32) [(.ref x1), (.ref x2), .null, .null] .null := f40.other W52 (Ne.symm Ne6)
  have f57 : Exa Z h52 x1 cH := f41.wr W52
  have f58 : Fld Z h52 x1 cH "tick" "J" (.long t1) := f42.other W52 (Or.inl (Ne.symm Ne7))
  have f59 : Exa Z h52 x2 cH := f43.wr W52
  have f60 : Fld Z h52 x2 cH "tick" "J" (.long t2) := f44.other W52 (Or.inl (Ne.symm Ne8))
  have f61 : Exa Z h52 a1 cL := f45.wr W52
  have f62 : Fld Z h52 x1 cL "next" dL (.ref x1) := f47.other W52 (Or.inl (Ne.symm Ne7))
  have f63 : Fld Z h52 x1 cL "prev" dL (.ref x1) := f48.other W52 (Or.inl (Ne.symm Ne7))
  have f64 : Fld Z h52 a1 cL "next" dL .null := f49.other W52 (Or.inr (slot_ne (Or.inl (wq hw 24 rfl)) (Or.inl (wq hw 59 rfl)) (by decide) (t := (.object cL)) (t' := (.object cL)) (by decide) (by decide)))
  have f65 : Fld Z h52 a1 cL "prev" dL .null := f46.same W52
  have Kp52 : Keep h0 h52 [x1, a1, a0, ar] := Kp36.wr W52 (Or.inl (List.mem_of_getElem? (i := 1) rfl))
  have Z66 : n0 ≤ h52.size := Nat.le_trans Z50 (Nat.le_of_eq W52.size.symm)
  have N67 := Fr.snoc X52 N51 Ge2
  refine Goes.by st52 ?_
  clear f37 f38 f39 f40 f41 f42 f43 f44 f45 f46 f47 f48 f49 X36 N51 Z50 Kp36 e36
  refine Goes.by (B := T52.setTop (mkF m 32 #[.val (.ref a0), .val (.ref a1), .val (.ref x1)] [(.ref x1)])) (fun t k => ?_) ?_
  · refine XS.aloadN X52.here hx rfl (hb hby d9_31) rfl rfl ?_
    exact k
  refine Goes.by (B := T52.setTop (mkF m 41 #[.val (.ref a0), .val (.ref a1), .val (.ref x1)] [(.ref x1), (.ref a0)])) (fun t k => ?_) ?_
  · refine getFR X52 hx hZ hown (wq hw 23 rfl) e52 f62 (g := (mkF m 32 #[.val (.ref a0), .val (.ref a1), .val (.ref x1)] [(.ref x1)])) rfl rfl (hb hby d9_32) ?_
    refine XS.aloadN X52.here hx rfl (hb hby d9_35) rfl rfl ?_
    refine Jvm.RoadKit.acmp (g := (mkF m 36 #[.val (.ref a0), .val (.ref a1), .val (.ref x1)] [(.ref x1), (.ref x1)])) X52 hx rfl rfl rfl (pc0 := 36) (pc' := 39) (same := true) rfl (hb hby d9_36) rfl (decide_eq_true rfl) (by decide) (by decide) ?_
    refine XS.aloadN X52.here hx rfl (hb hby d9_39) rfl rfl ?_
    refine XS.aloadN X52.here hx rfl (hb hby d9_40) rfl rfl ?_
    exact k
  obtain ⟨T69, X69, e69, st69⟩ := castY X52 hx hZ hown (wq hw 9 rfl) e52 (Ins.self f57) (g := (mkF m 41 #[.val (.ref a0), .val (.ref a1), .val (.ref x1)] [(.ref x1), (.ref a0)])) rfl rfl (hb hby d9_41)
  refine Goes.by st69 ?_
  clear X52 e52
  obtain ⟨cq70, q70, q70'⟩ := (f53).cell
  obtain ⟨_, _, ⟨T70, L70, k70, n70⟩, -, X70, ⟨Lc70, hQ70, l70, y70, z70⟩, st70⟩ := X69.privateBack hx (y := y8) hown (mvT hZ (wq hw 65 rfl)) (mvT hZ (wq hw 66 rfl)) (own_sel hZ (wq hw 1 rfl) (wq hw 67 rfl) (wq hw 66 rfl) (by decide)) (Cond.privateMethod_at (mvP hZ (wq hw 67 rfl) (args := #[]))) (mvT hZ (wq hw 68 rfl)) (by decide) (backOf (W := 0) (rmDrop2_1 l Z az hw [] a0 x1 ar kA x2 t1 t2 h52 n0 Z66 f53 f54 f55 f56 F4 f57 f58 f59 f60 Ne0 Ne1 Ne2 Ne3 Ne4 Ge0 Ge1 HD) hZ (wq hw 68 rfl) (wq hw 2 rfl) (by decide) (by decide)) (g := (mkF m 44 #[.val (.ref a0), .val (.ref a1), .val (.ref x1)] [(.ref x1), (.ref a0)])) rfl (by rw [hml]; rfl) (Steps.refl _) (a := a0) (by rw [e69]; exact q70) q70' (argsL := [(.ref x1)]) (rest := []) (lenOf own_pd4 rfl) rfl (by show 2 * 0 + _ ≤ _; exact Nat.le_of_eq rfl) (hb hby d9_44) (fun _ _ => ⟨rfl, e69, (by decide : 0 + 0 ≤ _), (by decide : 0 + 0 ≤ _)⟩)
  dsimp only [Pt.U, Pt.locs, Pt.cells, Pt.slots] at X70 l70 y70 z70 st70 hQ70
  subst l70 y70 z70
  replace X70 : Stand p l e ({ frames := 2, cells := 0, slots := 0, locals := 32 } : Room) s m #[(.ref a0), (.ref a1)] below meth c T70 _ 0 0 := X70
  obtain ⟨rfl, N70q, K70, f71, f72, f73⟩ := hQ70
  have f74 : Exa Z T70.heap a0 cD := f53.keep K70
  have f75 : Exa Z T70.heap x1 cH := f57.keep K70
  have f76 : Fld Z T70.heap x1 cH "tick" "J" (.long t1) := f58.keep K70 (ninS Ne3 (ninS Ne1 nin0))
  have f77 : Exa Z T70.heap x2 cH := f59.keep K70
  have f78 : Fld Z T70.heap x2 cH "tick" "J" (.long t2) := f60.keep K70 (ninS Ne4 (ninS Ne2 nin0))
  have f79 : Exa Z T70.heap a1 cL := f61.keep K70
  have f80 : Fld Z T70.heap x1 cL "next" dL (.ref x1) := f62.keep K70 (ninS Ne3 (ninS Ne1 nin0))
  have f81 : Fld Z T70.heap x1 cL "prev" dL (.ref x1) := f63.keep K70 (ninS Ne3 (ninS Ne1 nin0))
  have f82 : Fld Z T70.heap a1 cL "next" dL .null := f64.keep K70 (ninS Ne6 (ninS Ne5 nin0))
  have f83 : Fld Z T70.heap a1 cL "prev" dL .null := f65.keep K70 (ninS Ne6 (ninS Ne5 nin0))
  have Kp70 : Keep h0 T70.heap [x1, a1, a0, ar] := Kp52.trans K70 (allS (Or.inl (List.mem_of_getElem? (i := 3) rfl)) (allS (Or.inl (List.mem_of_getElem? (i := 2) rfl)) all0))
  have Z84 : n0 ≤ T70.heap.size := Nat.le_trans Z66 K70.1
  have N85 := Fr.app N67 N70q
  refine Goes.by (fun _ k => st70.trans k) ?_
  clear f53 f54 f55 f56 f57 f58 f59 f60 f61 f62 f63 f64 f65 X69 N67 Z66 Kp52 e69
  obtain ⟨fs, hr, hrun, hended, hW, hsame⟩ := X70.leave (v := none) (fun _ => rfl)
  refine Goes.mk _ _ ?_ ⟨hrun, hended, _, _, rfl, ?_, ⟨_, rfl⟩, hW, hsame.mono (by decide) (by decide)⟩
  · exact X70.returnOut hx Bd.returns (hb hby d9_47) hr
  · show QRemL2_1 Z a0 a1 ar kA x1 x2 t1 t2 nu pu h0 n0 _ T70.heap _
    exact ⟨rfl, N85, Kp70, f71, f72, f73, f82, f83⟩
def QRemL2_2 (Z : State) (a0 : Addr) (a1 : Addr) (ar : Addr) (kA : ClassId) (x1 : Addr) (x2 : Addr) (t1 : Int64) (t2 : Int64) (nu : Value) (pu : Value) (h0 : Heap) (n0 : Nat) (v : Option Value) (h : Heap) (L : List Loc) : Prop := v = none ∧ Fr n0 L ∧ Keep h0 h [x2, a1, a0, ar] ∧ Fld Z h a0 cD "heads" dA (.ref ar) ∧ Fld Z h a0 cD "count" "I" (.int (1 : Int32)) ∧ Arv Z h ar kA (.object cH) (4 : Int32) [(.ref x1), .null, .null, .null] .null ∧ Fld Z h a1 cL "next" dL .null ∧ Fld Z h a1 cL "prev" dL .null
theorem efRemL2_2 (m : MethodId) (x0 : Addr) (x1 : Addr) : entryFrame m #[(.ref x0), (.ref x1)] 3 = mkF m 0 #[.val (.ref x0), .val (.ref x1), .unset] [] := by first | (simp [entryFrame, mkF, argsToLocals, Value.category]; done) | rfl
set_option maxRecDepth 65536 in
set_option maxHeartbeats 40000000 in
theorem rmRemL2_2 (l : Launch) (Z : State) (az : Array Value) (hw : ∀ d ∈ tables_1, d.before az Z = true) (ws : List Jvm.Cond) (a0 : Addr) (a1 : Addr) (ar : Addr) (kA : ClassId) (x1 : Addr) (x2 : Addr) (t1 : Int64) (t2 : Int64) (nu : Value) (pu : Value) (h0 : Heap) (n0 : Nat) (Z0 : n0 ≤ h0.size) (F0 : Exa Z h0 a0 cD) (F1 : Fld Z h0 a0 cD "heads" dA (.ref ar)) (F2 : Fld Z h0 a0 cD "count" "I" (.int (2 : Int32))) (F3 : Arv Z h0 ar kA (.object cH) (4 : Int32) [(.ref x1), (.ref x2), .null, .null] .null) (F4 : Ovr Z kA cH) (F5 : Exa Z h0 x1 cH) (F6 : Fld Z h0 x1 cH "tick" "J" (.long t1)) (F7 : Exa Z h0 x2 cH) (F8 : Fld Z h0 x2 cH "tick" "J" (.long t2)) (F9 : Exa Z h0 a1 cL) (F10 : Fld Z h0 a1 cL "prev" dL (.ref x2)) (F11 : Fld Z h0 a1 cL "next" dL (.ref x2)) (F12 : Fld Z h0 x2 cL "next" dL nu) (F13 : Fld Z h0 x2 cL "prev" dL pu) (Ne0 : a0 ≠ ar) (Ne1 : x1 ≠ a0) (Ne2 : x2 ≠ a0) (Ne3 : x1 ≠ ar) (Ne4 : x2 ≠ ar) (Ne5 : a1 ≠ a0) (Ne6 : a1 ≠ ar) (Ne7 : a1 ≠ x1) (Ne8 : a1 ≠ x2) (Ne9 : x2 ≠ x1) (Ge0 : n0 ≤ a0) (Ge1 : n0 ≤ ar) (Ge2 : n0 ≤ a1) (Ge3 : n0 ≤ x2) (HD : fDue2 t2 t1 t2 = (2 : Int32)) :
    MetFree l y7 (head1 (Jvm.Cond.code y7 prog_4_method_6_code 3 none :: ws) ({ frames := 2, cells := 0, slots := 0, locals := 32 } : Room)) (fun a U => a = #[(.ref a0), (.ref a1)] ∧ Z.Warmed39 U.vm ∧ U.heap = h0) (fun _ _ _ _ _ => True) (fun _ U o U' => ∃ v L, o = .returned v ∧ QRemL2_2 Z a0 a1 ar kA x1 x2 t1 t2 nu pu h0 n0 v U'.heap L ∧ FrameEnd U o U' L ({ frames := 2, cells := 0, slots := 0, locals := 32 } : Room).cells ({ frames := 2, cells := 0, slots := 0, locals := 32 } : Room).slots) := by
  refine MetFree.of_bodySF (plainFor_of_name own_pn_com_example_admit_one_admitone_engine_DueOrder) hisR ?_
  intro p e s m args below meth c s₁ Bd hml0 hP hK
  obtain ⟨rfl, hZ, hh⟩ := hP
  have hx := Bd.exec
  have hby := Bd.bytes
  have hml : c.maxLocals = 3 := hml0
  have hown : s.vm.findClass cD = some m.cls := findClass_of_methodNamed Bd.named
  have hnm := (name_of_methodNamed Bd.named Bd.method).1
  have X0 : Stand p l e ({ frames := 2, cells := 0, slots := 0, locals := 32 } : Room) s m #[(.ref a0), (.ref a1)] below meth c s₁ [] 0 0 := Stand.of_body Bd
  have e0 : s₁.heap = h0 := by rw [← hh, Bd.state]; rfl
  have N0 := Fr.nil n0
  have Kp0 : Keep h0 h0 [x2, a1, a0, ar] := Keep.refl _ _
  refine Goes.start ?_
  refine Goes.by (B := s₁.setTop (mkF m 0 #[.val (.ref a0), .val (.ref a1), .unset] [])) (fun t k => castTop (efRemL2_2 m a0 a1) k) ?_
  refine Goes.by (B := s₁.setTop (mkF m 1 #[.val (.ref a0), .val (.ref a1), .unset] [(.ref a1)])) (fun t k => ?_) ?_
  · refine XS.aloadN X0.here hx rfl (hb hby d9_0) rfl rfl ?_
    exact k
  refine Goes.by (B := s₁.setTop (mkF m 7 #[.val (.ref a0), .val (.ref a1), .val (.ref x2)] [(.ref a1), (.ref x2)])) (fun t k => ?_) ?_
  · refine getFR X0 hx hZ hown (wq hw 58 rfl) e0 F10 (g := (mkF m 1 #[.val (.ref a0), .val (.ref a1), .unset] [(.ref a1)])) rfl rfl (hb hby d9_1) ?_
    refine XS.astoreN X0.here hx rfl (hb hby d9_4) rfl rfl (l' := #[.val (.ref a0), .val (.ref a1), .val (.ref x2)]) rfl ?_
    refine XS.aloadN X0.here hx rfl (hb hby d9_5) rfl rfl ?_
    refine XS.aloadN X0.here hx rfl (hb hby d9_6) rfl rfl ?_
    exact k
  refine Goes.by (B := s₁.setTop (mkF m 10 #[.val (.ref a0), .val (.ref a1), .val (.ref x2)] [(.ref x2), (.ref x2)])) (fun t k => ?_) ?_
  · refine getFR X0 hx hZ hown (wq hw 23 rfl) e0 F11 (g := (mkF m 7 #[.val (.ref a0), .val (.ref a1), .val (.ref x2)] [(.ref a1), (.ref x2)])) rfl rfl (hb hby d9_7) ?_
    exact k
  obtain ⟨T3, h3, X3, e3, W3, st3⟩ := putFR X0 hx hZ hown (wq hw 23 rfl) e0 F12 F7 (wq hw 54 rfl) (wq hw 44 rfl) (ty := (.object cL)) (by decide) rfl rfl (g := (mkF m 10 #[.val (.ref a0), .val (.ref a1), .val (.ref x2)] [(.ref x2), (.ref x2)])) rfl rfl (hb hby d9_10)
  have f4 : Exa Z h3 a0 cD := F0.wr W3
  have f5 : Fld Z h3 a0 cD "heads" dA (.ref ar) := F1.other W3 (Or.inl (Ne.symm Ne2))
  have f6 : Fld Z h3 a0 cD "count" "I" (.int (2 : Int32)) := F2.other W3 (Or.inl (Ne.symm Ne2))
  have f7 : Arv Z h3 ar kA (.object cH) (4 : Int32) [(.ref x1), (.ref x2), .null, .null] .null := F3.other W3 (Ne.symm Ne4)
  have f8 : Exa Z h3 x1 cH := F5.wr W3
  have f9 : Fld Z h3 x1 cH "tick" "J" (.long t1) := F6.other W3 (Or.inl (Ne.symm Ne9))
  have f10 : Exa Z h3 x2 cH := F7.wr W3
  have f11 : Fld Z h3 x2 cH "tick" "J" (.long t2) := F8.other W3 (Or.inr (slot_ne (Or.inr (wq hw 52 rfl)) (Or.inl (wq hw 54 rfl)) (by decide) (t := .long) (t' := (.object cL)) (by decide) (by decide)))
  have f12 : Exa Z h3 a1 cL := F9.wr W3
  have f13 : Fld Z h3 a1 cL "prev" dL (.ref x2) := F10.other W3 (Or.inl Ne8)
  have f14 : Fld Z h3 a1 cL "next" dL (.ref x2) := F11.other W3 (Or.inl Ne8)
  have f15 : Fld Z h3 x2 cL "prev" dL pu := F13.other W3 (Or.inr (slot_ne (Or.inl (wq hw 56 rfl)) (Or.inl (wq hw 54 rfl)) (by decide) (t := (.object cL)) (t' := (.object cL)) (by decide) (by decide)))
  have f16 : Fld Z h3 x2 cL "next" dL (.ref x2) := F12.same W3
  have Kp3 : Keep h0 h3 [x2, a1, a0, ar] := Kp0.wr W3 (Or.inl (List.mem_of_getElem? (i := 0) rfl))
  have Z17 : n0 ≤ h3.size := Nat.le_trans Z0 (Nat.le_of_eq W3.size.symm)
  have N18 := Fr.snoc X3 N0 Ge3
  refine Goes.by st3 ?_
  clear X0 N0
  refine Goes.by (B := T3.setTop (mkF m 14 #[.val (.ref a0), .val (.ref a1), .val (.ref x2)] [(.ref a1)])) (fun t k => ?_) ?_
  · refine XS.aloadN X3.here hx rfl (hb hby d9_13) rfl rfl ?_
    exact k
  refine Goes.by (B := T3.setTop (mkF m 18 #[.val (.ref a0), .val (.ref a1), .val (.ref x2)] [(.ref x2), (.ref x2)])) (fun t k => ?_) ?_
  · refine getFR X3 hx hZ hown (wq hw 23 rfl) e3 f14 (g := (mkF m 14 #[.val (.ref a0), .val (.ref a1), .val (.ref x2)] [(.ref a1)])) rfl rfl (hb hby d9_14) ?_
    refine XS.aloadN X3.here hx rfl (hb hby d9_17) rfl rfl ?_
    exact k
  obtain ⟨T20, h20, X20, e20, W20, st20⟩ := putFR X3 hx hZ hown (wq hw 58 rfl) e3 f15 f10 (wq hw 56 rfl) (wq hw 44 rfl) (ty := (.object cL)) (by decide) rfl rfl (g := (mkF m 18 #[.val (.ref a0), .val (.ref a1), .val (.ref x2)] [(.ref x2), (.ref x2)])) rfl rfl (hb hby d9_18)
  have f21 : Exa Z h20 a0 cD := f4.wr W20
  have f22 : Fld Z h20 a0 cD "heads" dA (.ref ar) := f5.other W20 (Or.inl (Ne.symm Ne2))
  have f23 : Fld Z h20 a0 cD "count" "I" (.int (2 : Int32)) := f6.other W20 (Or.inl (Ne.symm Ne2))
  have f24 : Arv Z h20 ar kA (.object cH) (4 : Int32) [(.ref x1), (.ref x2), .null, .null] .null := f7.other W20 (Ne.symm Ne4)
  have f25 : Exa Z h20 x1 cH := f8.wr W20
  have f26 : Fld Z h20 x1 cH "tick" "J" (.long t1) := f9.other W20 (Or.inl (Ne.symm Ne9))
  have f27 : Exa Z h20 x2 cH := f10.wr W20
  have f28 : Fld Z h20 x2 cH "tick" "J" (.long t2) := f11.other W20 (Or.inr (slot_ne (Or.inr (wq hw 52 rfl)) (Or.inl (wq hw 56 rfl)) (by decide) (t := .long) (t' := (.object cL)) (by decide) (by decide)))
  have f29 : Exa Z h20 a1 cL := f12.wr W20
  have f30 : Fld Z h20 a1 cL "prev" dL (.ref x2) := f13.other W20 (Or.inl Ne8)
  have f31 : Fld Z h20 a1 cL "next" dL (.ref x2) := f14.other W20 (Or.inl Ne8)
  have f32 : Fld Z h20 x2 cL "next" dL (.ref x2) := f16.other W20 (Or.inr (slot_ne (Or.inl (wq hw 54 rfl)) (Or.inl (wq hw 56 rfl)) (by decide) (t := (.object cL)) (t' := (.object cL)) (by decide) (by decide)))
  have f33 : Fld Z h20 x2 cL "prev" dL (.ref x2) := f15.same W20
  have Kp20 : Keep h0 h20 [x2, a1, a0, ar] := Kp3.wr W20 (Or.inl (List.mem_of_getElem? (i := 0) rfl))
  have Z34 : n0 ≤ h20.size := Nat.le_trans Z17 (Nat.le_of_eq W20.size.symm)
  have N35 := Fr.snoc X20 N18 Ge3
  refine Goes.by st20 ?_
  clear f4 f5 f6 f7 f8 f9 f10 f11 f12 f13 f14 f15 f16 X3 N18 Z17 Kp3 e3
  refine Goes.by (B := T20.setTop (mkF m 23 #[.val (.ref a0), .val (.ref a1), .val (.ref x2)] [.null, (.ref a1)])) (fun t k => ?_) ?_
  · refine XS.aloadN X20.here hx rfl (hb hby d9_21) rfl rfl ?_
    refine XS.aconstNull X20.here hx rfl (hb hby d9_22) ?_
    exact k
  obtain ⟨T36, h36, X36, e36, W36, st36⟩ := putFR X20 hx hZ hown (wq hw 23 rfl) e20 f31 f29 (wq hw 24 rfl) (wq hw 14 rfl) (ty := (.object cL)) (by decide) rfl rfl (g := (mkF m 23 #[.val (.ref a0), .val (.ref a1), .val (.ref x2)] [.null, (.ref a1)])) rfl rfl (hb hby d9_23)
  have f37 : Exa Z h36 a0 cD := f21.wr W36
  have f38 : Fld Z h36 a0 cD "heads" dA (.ref ar) := f22.other W36 (Or.inl (Ne.symm Ne5))
  have f39 : Fld Z h36 a0 cD "count" "I" (.int (2 : Int32)) := f23.other W36 (Or.inl (Ne.symm Ne5))
  have f40 : Arv Z h36 ar kA (.object cH) (4 : Int32) [(.ref x1), (.ref x2), .null, .null] .null := f24.other W36 (Ne.symm Ne6)
  have f41 : Exa Z h36 x1 cH := f25.wr W36
  have f42 : Fld Z h36 x1 cH "tick" "J" (.long t1) := f26.other W36 (Or.inl (Ne.symm Ne7))
  have f43 : Exa Z h36 x2 cH := f27.wr W36
  have f44 : Fld Z h36 x2 cH "tick" "J" (.long t2) := f28.other W36 (Or.inl (Ne.symm Ne8))
  have f45 : Exa Z h36 a1 cL := f29.wr W36
  have f46 : Fld Z h36 a1 cL "prev" dL (.ref x2) := f30.other W36 (Or.inr (slot_ne (Or.inl (wq hw 59 rfl)) (Or.inl (wq hw 24 rfl)) (by decide) (t := (.object cL)) (t' := (.object cL)) (by decide) (by decide)))
  have f47 : Fld Z h36 x2 cL "next" dL (.ref x2) := f32.other W36 (Or.inl (Ne.symm Ne8))
  have f48 : Fld Z h36 x2 cL "prev" dL (.ref x2) := f33.other W36 (Or.inl (Ne.symm Ne8))
  have f49 : Fld Z h36 a1 cL "next" dL .null := f31.same W36
  have Kp36 : Keep h0 h36 [x2, a1, a0, ar] := Kp20.wr W36 (Or.inl (List.mem_of_getElem? (i := 1) rfl))
  have Z50 : n0 ≤ h36.size := Nat.le_trans Z34 (Nat.le_of_eq W36.size.symm)
  have N51 := Fr.snoc X36 N35 Ge2
  refine Goes.by st36 ?_
  clear f21 f22 f23 f24 f25 f26 f27 f28 f29 f30 f31 f32 f33 X20 N35 Z34 Kp20 e20
  refine Goes.by (B := T36.setTop (mkF m 28 #[.val (.ref a0), .val (.ref a1), .val (.ref x2)] [.null, (.ref a1)])) (fun t k => ?_) ?_
  · refine XS.aloadN X36.here hx rfl (hb hby d9_26) rfl rfl ?_
    refine XS.aconstNull X36.here hx rfl (hb hby d9_27) ?_
    exact k
  obtain ⟨T52, h52, X52, e52, W52, st52⟩ := putFR X36 hx hZ hown (wq hw 58 rfl) e36 f46 f45 (wq hw 59 rfl) (wq hw 14 rfl) (ty := (.object cL)) (by decide) rfl rfl (g := (mkF m 28 #[.val (.ref a0), .val (.ref a1), .val (.ref x2)] [.null, (.ref a1)])) rfl rfl (hb hby d9_28)
  have f53 : Exa Z h52 a0 cD := f37.wr W52
  have f54 : Fld Z h52 a0 cD "heads" dA (.ref ar) := f38.other W52 (Or.inl (Ne.symm Ne5))
  have f55 : Fld Z h52 a0 cD "count" "I" (.int (2 : Int32)) := f39.other W52 (Or.inl (Ne.symm Ne5))
  have f56 : Arv Z h52 ar kA (.object cH) (4 : Int32) [(.ref x1), (.ref x2), .null, .null] .null := f40.other W52 (Ne.symm Ne6)
  have f57 : Exa Z h52 x1 cH := f41.wr W52
  have f58 : Fld Z h52 x1 cH "tick" "J" (.long t1) := f42.other W52 (Or.inl (Ne.symm Ne7))
  have f59 : Exa Z h52 x2 cH := f43.wr W52
  have f60 : Fld Z h52 x2 cH "tick" "J" (.long t2) := f44.other W52 (Or.inl (Ne.symm Ne8))
  have f61 : Exa Z h52 a1 cL := f45.wr W52
  have f62 : Fld Z h52 x2 cL "next" dL (.ref x2) := f47.other W52 (Or.inl (Ne.symm Ne8))
  have f63 : Fld Z h52 x2 cL "prev" dL (.ref x2) := f48.other W52 (Or.inl (Ne.symm Ne8))
  have f64 : Fld Z h52 a1 cL "next" dL .null := f49.other W52 (Or.inr (slot_ne (Or.inl (wq hw 24 rfl)) (Or.inl (wq hw 59 rfl)) (by decide) (t := (.object cL)) (t' := (.object cL)) (by decide) (by decide)))
  have f65 : Fld Z h52 a1 cL "prev" dL .null := f46.same W52
  have Kp52 : Keep h0 h52 [x2, a1, a0, ar] := Kp36.wr W52 (Or.inl (List.mem_of_getElem? (i := 1) rfl))
  have Z66 : n0 ≤ h52.size := Nat.le_trans Z50 (Nat.le_of_eq W52.size.symm)
  have N67 := Fr.snoc X52 N51 Ge2
  refine Goes.by st52 ?_
  clear f37 f38 f39 f40 f41 f42 f43 f44 f45 f46 f47 f48 f49 X36 N51 Z50 Kp36 e36
  refine Goes.by (B := T52.setTop (mkF m 32 #[.val (.ref a0), .val (.ref a1), .val (.ref x2)] [(.ref x2)])) (fun t k => ?_) ?_
  · refine XS.aloadN X52.here hx rfl (hb hby d9_31) rfl rfl ?_
    exact k
  refine Goes.by (B := T52.setTop (mkF m 41 #[.val (.ref a0), .val (.ref a1), .val (.ref x2)] [(.ref x2), (.ref a0)])) (fun t k => ?_) ?_
  · refine getFR X52 hx hZ hown (wq hw 23 rfl) e52 f62 (g := (mkF m 32 #[.val (.ref a0), .val (.ref a1), .val (.ref x2)] [(.ref x2)])) rfl rfl (hb hby d9_32) ?_
    refine XS.aloadN X52.here hx rfl (hb hby d9_35) rfl rfl ?_
    refine Jvm.RoadKit.acmp (g := (mkF m 36 #[.val (.ref a0), .val (.ref a1), .val (.ref x2)] [(.ref x2), (.ref x2)])) X52 hx rfl rfl rfl (pc0 := 36) (pc' := 39) (same := true) rfl (hb hby d9_36) rfl (decide_eq_true rfl) (by decide) (by decide) ?_
    refine XS.aloadN X52.here hx rfl (hb hby d9_39) rfl rfl ?_
    refine XS.aloadN X52.here hx rfl (hb hby d9_40) rfl rfl ?_
    exact k
  obtain ⟨T69, X69, e69, st69⟩ := castY X52 hx hZ hown (wq hw 9 rfl) e52 (Ins.self f59) (g := (mkF m 41 #[.val (.ref a0), .val (.ref a1), .val (.ref x2)] [(.ref x2), (.ref a0)])) rfl rfl (hb hby d9_41)
  refine Goes.by st69 ?_
  clear X52 e52
  obtain ⟨cq70, q70, q70'⟩ := (f53).cell
  obtain ⟨_, _, ⟨T70, L70, k70, n70⟩, -, X70, ⟨Lc70, hQ70, l70, y70, z70⟩, st70⟩ := X69.privateBack hx (y := y8) hown (mvT hZ (wq hw 65 rfl)) (mvT hZ (wq hw 66 rfl)) (own_sel hZ (wq hw 1 rfl) (wq hw 67 rfl) (wq hw 66 rfl) (by decide)) (Cond.privateMethod_at (mvP hZ (wq hw 67 rfl) (args := #[]))) (mvT hZ (wq hw 68 rfl)) (by decide) (backOf (W := 0) (rmDrop2_2 l Z az hw [] a0 x2 ar kA x1 t1 t2 h52 n0 Z66 f53 f54 f55 f56 F4 f57 f58 f59 f60 Ne0 Ne1 Ne2 Ne3 Ne4 Ge0 Ge1 HD) hZ (wq hw 68 rfl) (wq hw 2 rfl) (by decide) (by decide)) (g := (mkF m 44 #[.val (.ref a0), .val (.ref a1), .val (.ref x2)] [(.ref x2), (.ref a0)])) rfl (by rw [hml]; rfl) (Steps.refl _) (a := a0) (by rw [e69]; exact q70) q70' (argsL := [(.ref x2)]) (rest := []) (lenOf own_pd4 rfl) rfl (by show 2 * 0 + _ ≤ _; exact Nat.le_of_eq rfl) (hb hby d9_44) (fun _ _ => ⟨rfl, e69, (by decide : 0 + 0 ≤ _), (by decide : 0 + 0 ≤ _)⟩)
  dsimp only [Pt.U, Pt.locs, Pt.cells, Pt.slots] at X70 l70 y70 z70 st70 hQ70
  subst l70 y70 z70
  replace X70 : Stand p l e ({ frames := 2, cells := 0, slots := 0, locals := 32 } : Room) s m #[(.ref a0), (.ref a1)] below meth c T70 _ 0 0 := X70
  obtain ⟨rfl, N70q, K70, f71, f72, f73⟩ := hQ70
  have f74 : Exa Z T70.heap a0 cD := f53.keep K70
  have f75 : Exa Z T70.heap x1 cH := f57.keep K70
  have f76 : Fld Z T70.heap x1 cH "tick" "J" (.long t1) := f58.keep K70 (ninS Ne3 (ninS Ne1 nin0))
  have f77 : Exa Z T70.heap x2 cH := f59.keep K70
  have f78 : Fld Z T70.heap x2 cH "tick" "J" (.long t2) := f60.keep K70 (ninS Ne4 (ninS Ne2 nin0))
  have f79 : Exa Z T70.heap a1 cL := f61.keep K70
  have f80 : Fld Z T70.heap x2 cL "next" dL (.ref x2) := f62.keep K70 (ninS Ne4 (ninS Ne2 nin0))
  have f81 : Fld Z T70.heap x2 cL "prev" dL (.ref x2) := f63.keep K70 (ninS Ne4 (ninS Ne2 nin0))
  have f82 : Fld Z T70.heap a1 cL "next" dL .null := f64.keep K70 (ninS Ne6 (ninS Ne5 nin0))
  have f83 : Fld Z T70.heap a1 cL "prev" dL .null := f65.keep K70 (ninS Ne6 (ninS Ne5 nin0))
  have Kp70 : Keep h0 T70.heap [x2, a1, a0, ar] := Kp52.trans K70 (allS (Or.inl (List.mem_of_getElem? (i := 3) rfl)) (allS (Or.inl (List.mem_of_getElem? (i := 2) rfl)) all0))
  have Z84 : n0 ≤ T70.heap.size := Nat.le_trans Z66 K70.1
  have N85 := Fr.app N67 N70q
  refine Goes.by (fun _ k => st70.trans k) ?_
  clear f53 f54 f55 f56 f57 f58 f59 f60 f61 f62 f63 f64 f65 X69 N67 Z66 Kp52 e69
  obtain ⟨fs, hr, hrun, hended, hW, hsame⟩ := X70.leave (v := none) (fun _ => rfl)
  refine Goes.mk _ _ ?_ ⟨hrun, hended, _, _, rfl, ?_, ⟨_, rfl⟩, hW, hsame.mono (by decide) (by decide)⟩
  · exact X70.returnOut hx Bd.returns (hb hby d9_47) hr
  · show QRemL2_2 Z a0 a1 ar kA x1 x2 t1 t2 nu pu h0 n0 _ T70.heap _
    exact ⟨rfl, N85, Kp70, f71, f72, f73, f82, f83⟩
theorem d4_0 : decode prog_4_method_4_code 0 = .ok (.aload_n 0, 1) := by decide +kernel
theorem d4_1 : decode prog_4_method_4_code 1 = .ok (.getfield 27, 3) := by decide +kernel
theorem d4_4 : decode prog_4_method_4_code 4 = .ok (.ifnull 7, 3) := by decide +kernel
theorem d4_11 : decode prog_4_method_4_code 11 = .ok (.iconst 0, 1) := by decide +kernel
theorem d4_12 : decode prog_4_method_4_code 12 = .ok (.ireturn, 1) := by decide +kernel
def QIsN (Z : State) (a0 : Addr) (h0 : Heap) (n0 : Nat) (v : Option Value) (h : Heap) (L : List Loc) : Prop := v = some (.int (0 : Int32)) ∧ Fr n0 L ∧ h = h0
theorem efIsN (m : MethodId) (x0 : Addr) : entryFrame m #[(.ref x0)] 1 = mkF m 0 #[.val (.ref x0)] [] := by first | (simp [entryFrame, mkF, argsToLocals, Value.category]; done) | rfl
set_option maxRecDepth 65536 in
set_option maxHeartbeats 40000000 in
theorem rmIsN (l : Launch) (Z : State) (az : Array Value) (hw : ∀ d ∈ tables_1, d.before az Z = true) (ws : List Jvm.Cond) (a0 : Addr) (h0 : Heap) (n0 : Nat) (Z0 : n0 ≤ h0.size) (F0 : Fld Z h0 a0 cL "next" dL .null) :
    MetFree l y2 (head1 (Jvm.Cond.code y2 prog_4_method_4_code 1 (some .boolean) :: ws) ({ frames := 0, cells := 0, slots := 0, locals := 0 } : Room)) (fun a U => a = #[(.ref a0)] ∧ Z.Warmed39 U.vm ∧ U.heap = h0) (fun _ _ _ _ _ => True) (fun _ U o U' => ∃ v L, o = .returned v ∧ QIsN Z a0 h0 n0 v U'.heap L ∧ FrameEnd U o U' L ({ frames := 0, cells := 0, slots := 0, locals := 0 } : Room).cells ({ frames := 0, cells := 0, slots := 0, locals := 0 } : Room).slots) := by
  refine MetFree.of_bodySF (plainFor_of_name own_pn_com_example_admit_one_admitone_engine_DueOrder) hisR ?_
  intro p e s m args below meth c s₁ Bd hml0 hP hK
  obtain ⟨rfl, hZ, hh⟩ := hP
  have hx := Bd.exec
  have hby := Bd.bytes
  have hml : c.maxLocals = 1 := hml0
  have hown : s.vm.findClass cD = some m.cls := findClass_of_methodNamed Bd.named
  have hnm := (name_of_methodNamed Bd.named Bd.method).1
  have X0 : Stand p l e ({ frames := 0, cells := 0, slots := 0, locals := 0 } : Room) s m #[(.ref a0)] below meth c s₁ [] 0 0 := Stand.of_body Bd
  have e0 : s₁.heap = h0 := by rw [← hh, Bd.state]; rfl
  have N0 := Fr.nil n0
  have Kp0 : Keep h0 h0 [] := Keep.refl _ _
  refine Goes.start ?_
  refine Goes.by (B := s₁.setTop (mkF m 0 #[.val (.ref a0)] [])) (fun t k => castTop (efIsN m a0) k) ?_
  refine Goes.by (B := s₁.setTop (mkF m 1 #[.val (.ref a0)] [(.ref a0)])) (fun t k => ?_) ?_
  · refine XS.aloadN X0.here hx rfl (hb hby d4_0) rfl rfl ?_
    exact k
  refine Goes.by (B := s₁.setTop (mkF m 12 #[.val (.ref a0)] [(.int (0 : Int32))])) (fun t k => ?_) ?_
  · refine getFR X0 hx hZ hown (wq hw 23 rfl) e0 F0 (g := (mkF m 1 #[.val (.ref a0)] [(.ref a0)])) rfl rfl (hb hby d4_1) ?_
    refine XS.ifnullYes X0.here hx rfl (pc0 := 4) (pc' := 11) rfl (hb hby d4_4) rfl (by decide) (by decide) ?_
    refine XS.iconst X0.here hx rfl (hb hby d4_11) ?_
    exact k
  obtain ⟨fs, hr, hrun, hended, hW, hsame⟩ := X0.leave (v := some (.int (0 : Int32))) (fun h => by rw [Bd.returns] at h; cases h)
  refine Goes.mk _ _ ?_ ⟨hrun, hended, _, _, rfl, ?_, ⟨_, rfl⟩, hW, hsame.mono (by decide) (by decide)⟩
  · exact retN X0 hx (t := .boolean) Bd.returns (by simp) (hb hby d4_12) hr
  · show QIsN Z a0 h0 n0 _ s₁.heap _
    rw [e0]
    exact ⟨rfl, N0, rfl⟩
theorem d4_7 : decode prog_4_method_4_code 7 = .ok (.iconst 1, 1) := by decide +kernel
theorem d4_8 : decode prog_4_method_4_code 8 = .ok (.goto 4, 3) := by decide +kernel
def QIsY (Z : State) (a0 : Addr) (nx : Addr) (h0 : Heap) (n0 : Nat) (v : Option Value) (h : Heap) (L : List Loc) : Prop := v = some (.int (1 : Int32)) ∧ Fr n0 L ∧ h = h0
theorem efIsY (m : MethodId) (x0 : Addr) : entryFrame m #[(.ref x0)] 1 = mkF m 0 #[.val (.ref x0)] [] := by first | (simp [entryFrame, mkF, argsToLocals, Value.category]; done) | rfl
set_option maxRecDepth 65536 in
set_option maxHeartbeats 40000000 in
theorem rmIsY (l : Launch) (Z : State) (az : Array Value) (hw : ∀ d ∈ tables_1, d.before az Z = true) (ws : List Jvm.Cond) (a0 : Addr) (nx : Addr) (h0 : Heap) (n0 : Nat) (Z0 : n0 ≤ h0.size) (F0 : Fld Z h0 a0 cL "next" dL (.ref nx)) :
    MetFree l y2 (head1 (Jvm.Cond.code y2 prog_4_method_4_code 1 (some .boolean) :: ws) ({ frames := 0, cells := 0, slots := 0, locals := 0 } : Room)) (fun a U => a = #[(.ref a0)] ∧ Z.Warmed39 U.vm ∧ U.heap = h0) (fun _ _ _ _ _ => True) (fun _ U o U' => ∃ v L, o = .returned v ∧ QIsY Z a0 nx h0 n0 v U'.heap L ∧ FrameEnd U o U' L ({ frames := 0, cells := 0, slots := 0, locals := 0 } : Room).cells ({ frames := 0, cells := 0, slots := 0, locals := 0 } : Room).slots) := by
  refine MetFree.of_bodySF (plainFor_of_name own_pn_com_example_admit_one_admitone_engine_DueOrder) hisR ?_
  intro p e s m args below meth c s₁ Bd hml0 hP hK
  obtain ⟨rfl, hZ, hh⟩ := hP
  have hx := Bd.exec
  have hby := Bd.bytes
  have hml : c.maxLocals = 1 := hml0
  have hown : s.vm.findClass cD = some m.cls := findClass_of_methodNamed Bd.named
  have hnm := (name_of_methodNamed Bd.named Bd.method).1
  have X0 : Stand p l e ({ frames := 0, cells := 0, slots := 0, locals := 0 } : Room) s m #[(.ref a0)] below meth c s₁ [] 0 0 := Stand.of_body Bd
  have e0 : s₁.heap = h0 := by rw [← hh, Bd.state]; rfl
  have N0 := Fr.nil n0
  have Kp0 : Keep h0 h0 [] := Keep.refl _ _
  refine Goes.start ?_
  refine Goes.by (B := s₁.setTop (mkF m 0 #[.val (.ref a0)] [])) (fun t k => castTop (efIsY m a0) k) ?_
  refine Goes.by (B := s₁.setTop (mkF m 1 #[.val (.ref a0)] [(.ref a0)])) (fun t k => ?_) ?_
  · refine XS.aloadN X0.here hx rfl (hb hby d4_0) rfl rfl ?_
    exact k
  refine Goes.by (B := s₁.setTop (mkF m 12 #[.val (.ref a0)] [(.int (1 : Int32))])) (fun t k => ?_) ?_
  · refine getFR X0 hx hZ hown (wq hw 23 rfl) e0 F0 (g := (mkF m 1 #[.val (.ref a0)] [(.ref a0)])) rfl rfl (hb hby d4_1) ?_
    refine XS.ifnullNo X0.here hx rfl (hb hby d4_4) rfl ?_
    refine XS.iconst X0.here hx rfl (hb hby d4_7) ?_
    refine XS.goto X0.here hx rfl (pc0 := 8) (pc' := 12) rfl (hb hby d4_8) (by decide) (by decide) ?_
    exact k
  obtain ⟨fs, hr, hrun, hended, hW, hsame⟩ := X0.leave (v := some (.int (1 : Int32))) (fun h => by rw [Bd.returns] at h; cases h)
  refine Goes.mk _ _ ?_ ⟨hrun, hended, _, _, rfl, ?_, ⟨_, rfl⟩, hW, hsame.mono (by decide) (by decide)⟩
  · exact retN X0 hx (t := .boolean) Bd.returns (by simp) (hb hby d4_12) hr
  · show QIsY Z a0 nx h0 n0 _ s₁.heap _
    rw [e0]
    exact ⟨rfl, N0, rfl⟩
def upd {α : Type} (f : Addr → α) (a : Addr) (v : α) : Addr → α := fun x => if x = a then v else f x
theorem upd_at {α : Type} (f : Addr → α) (a : Addr) (v : α) : upd f a v a = v := if_pos rfl
theorem upd_ne {α : Type} (f : Addr → α) {a x : Addr} (v : α) (h : x ≠ a) : upd f a v x = f x := if_neg h
/-- a chain: each one's next is the one behind it, whose prev it is -/
def Lk (N P : Addr → Value) : List Addr → Prop
  | [] => True
  | [_] => True
  | x :: y :: r => N x = .ref y ∧ P y = .ref x ∧ Lk N P (y :: r)
theorem Lk.congr {N P N' P' : Addr → Value} : ∀ (c : List Addr), (∀ u ∈ c.dropLast, N' u = N u) → (∀ u ∈ c.tail, P' u = P u) → Lk N P c → Lk N' P' c
  | [], _, _, _ => trivial
  | [_], _, _, _ => trivial
  | x :: y :: r, h1, h2, ⟨a, b, k⟩ => by
    refine ⟨(h1 x (by simp)).trans a, (h2 y (by simp)).trans b, ?_⟩
    refine Lk.congr (y :: r) (fun u hu => h1 u (by simp; exact Or.inr hu)) (fun u hu => h2 u ?_) k
    exact List.mem_of_mem_tail hu
theorem Lk.split {N P : Addr → Value} (z : Addr) (d : List Addr) : ∀ (c : List Addr), Lk N P (c ++ z :: d) ↔ (Lk N P (c ++ [z]) ∧ Lk N P (z :: d))
  | [] => by simp [Lk]
  | [x] => by
    show (N x = .ref z ∧ P z = .ref x ∧ Lk N P (z :: d)) ↔ ((N x = .ref z ∧ P z = .ref x ∧ Lk N P [z]) ∧ Lk N P (z :: d))
    simp only [Lk, and_true]
    constructor
    · intro ⟨a, b, c⟩; exact ⟨⟨a, b⟩, c⟩
    · intro ⟨⟨a, b⟩, c⟩; exact ⟨a, b, c⟩
  | x :: y :: r => by
    have ih := Lk.split (N := N) (P := P) z d (y :: r)
    show (N x = .ref y ∧ P y = .ref x ∧ Lk N P ((y :: r) ++ z :: d)) ↔ ((N x = .ref y ∧ P y = .ref x ∧ Lk N P ((y :: r) ++ [z])) ∧ Lk N P (z :: d))
    rw [ih]
    constructor
    · intro ⟨a, b, c, e⟩; exact ⟨⟨a, b, c⟩, e⟩
    · intro ⟨⟨a, b, c⟩, e⟩; exact ⟨a, b, c, e⟩
/-- what the order holds: heads by rising ticks, each with the ring of the links that are filed under its tick -/
def Inv (hs : List Addr) (τ : Addr → Int64) (N P : Addr → Value) (ls : List Addr) (tk : Addr → Option Int64) : Prop :=
  hs.Pairwise (fun a b => τ a < τ b) ∧ (∀ x ∈ hs, x ∉ ls) ∧
  (∀ x ∈ hs, ∃ ms : List Addr, ms ≠ [] ∧ ms.Nodup ∧ Lk N P (x :: (ms ++ [x])) ∧ ∀ l, l ∈ ms ↔ (l ∈ ls ∧ tk l = some (τ x))) ∧
  (∀ l ∈ ls, tk l = none → N l = .null) ∧ (∀ l ∈ ls, ∀ t, tk l = some t → ∃ x ∈ hs, τ x = t)
theorem own_tinj {τ : Addr → Int64} : ∀ {hs : List Addr}, hs.Pairwise (fun a b => τ a < τ b) → ∀ {x y : Addr}, x ∈ hs → y ∈ hs → τ x = τ y → x = y
  | [], _, _, _, hx, _, _ => nomatch hx
  | a :: r, hp, x, y, hx, hy, e => by
    rw [List.pairwise_cons] at hp
    rcases List.mem_cons.mp hx with hx1 | hx1
    · rcases List.mem_cons.mp hy with hy1 | hy1
      · exact hx1.trans hy1.symm
      · exact absurd (show τ y < τ y by have q := hp.1 y hy1; rw [← hx1, e] at q; exact q) Int64.lt_irrefl
    · rcases List.mem_cons.mp hy with hy1 | hy1
      · exact absurd (show τ x < τ x by have q := hp.1 x hx1; rw [← hy1, ← e] at q; exact q) Int64.lt_irrefl
      · exact own_tinj hp.2 hx1 hy1 e
/-- a link that is filed has a next -/
theorem Inv.filed {hs : List Addr} {τ : Addr → Int64} {N P : Addr → Value} {ls : List Addr} {tk : Addr → Option Int64} (I : Inv hs τ N P ls tk) {l : Addr} (hl : l ∈ ls) {t : Int64} (ht : tk l = some t) :
    ∃ x ∈ hs, τ x = t ∧ ∃ m1 m2, (m1 ++ l :: m2).Nodup ∧ x ∉ m1 ++ l :: m2 ∧ Lk N P ((x :: m1) ++ l :: (m2 ++ [x])) ∧ ∀ l', l' ∈ m1 ++ l :: m2 ↔ (l' ∈ ls ∧ tk l' = some t) := by
  obtain ⟨i1, i2, i3, i4, i5⟩ := I
  obtain ⟨x, hx, rfl⟩ := i5 l hl t ht
  obtain ⟨ms, m0, mn, mk, mm⟩ := i3 x hx
  have hm : l ∈ ms := (mm l).mpr ⟨hl, ht⟩
  obtain ⟨m1, m2, rfl⟩ := List.append_of_mem hm
  refine ⟨x, hx, rfl, m1, m2, mn, fun q => i2 x hx ((mm x).mp q).1, ?_, mm⟩
  simpa using mk
theorem own_lk_next {N P : Addr → Value} {l : Addr} : ∀ (d : List Addr), d ≠ [] → Lk N P (l :: d) → ∃ y r, d = y :: r ∧ N l = .ref y ∧ P y = .ref l
  | [], h, _ => absurd rfl h
  | y :: r, _, ⟨a, b, _⟩ => ⟨y, r, rfl, a, b⟩
theorem own_lk_prev {N P : Addr → Value} {l : Addr} : ∀ (c : List Addr), c ≠ [] → Lk N P (c ++ [l]) → ∃ r u, c = r ++ [u] ∧ N u = .ref l ∧ P l = .ref u := fun c h k => by
  have e : c = c.dropLast ++ [c.getLast h] := (List.dropLast_concat_getLast h).symm
  rw [e] at k
  have k2 := ((Lk.split (N := N) (P := P) (c.getLast h) [l] c.dropLast).mp (by simpa using k)).2
  exact ⟨c.dropLast, c.getLast h, e, k2.1, k2.2.1⟩

theorem Inv.append {hs : List Addr} {τ : Addr → Int64} {N P : Addr → Value} {ls : List Addr} {tk : Addr → Option Int64} (I : Inv hs τ N P ls tk) {l x z : Addr} {t : Int64} (hl : l ∈ ls) (hn : tk l = none) (hx : x ∈ hs) (ht : τ x = t) (hz : P x = .ref z) :
    z ∈ ls ∧ z ≠ l ∧ Inv hs τ (upd (upd N l (.ref x)) z (.ref l)) (upd (upd P l (.ref z)) x (.ref l)) ls (upd tk l (some t)) := by
  subst ht
  obtain ⟨i1, i2, i3, i4, i5⟩ := I
  obtain ⟨ms, m0, mn, mk, mm⟩ := i3 x hx
  have hxl : x ≠ l := fun e => i2 x hx (e ▸ hl)
  have mk' : Lk N P ((x :: ms) ++ [x]) := mk
  obtain ⟨r, z', er, n1, p1⟩ := own_lk_prev (x :: ms) (by simp) mk'
  have ez : z' = z := by rw [hz] at p1; exact (Value.ref.inj p1).symm
  subst ez
  have hzm : z' ∈ ms := by
    have : (x :: ms).getLast (by simp) = z' := by simp [er]
    rw [List.getLast_cons m0] at this
    exact this ▸ List.getLast_mem m0
  have zl := (mm z').mp hzm
  have hzl : z' ≠ l := fun e => by rw [e, hn] at zl; exact nomatch zl.2
  have hxz : x ≠ z' := fun e => i2 x hx (e ▸ zl.1)
  have hlm : l ∉ ms := fun q => by have := ((mm l).mp q).2; rw [hn] at this; exact nomatch this
  have hxm : x ∉ ms := fun q => i2 x hx ((mm x).mp q).1
  have nd : (x :: ms).Nodup := List.nodup_cons.mpr ⟨hxm, mn⟩
  have hrz : z' ∉ r := by
    rw [er, List.nodup_append] at nd
    intro q
    exact nd.2.2 z' q z' (by simp) rfl
  refine ⟨zl.1, hzl, i1, i2, fun y hy => ?_, fun l' h1 h2 => ?_, fun l' h1 t' h2 => ?_⟩
  · by_cases e : y = x
    · subst e
      refine ⟨ms ++ [l], by simp, ?_, ?_, fun l' => ?_⟩
      · rw [List.nodup_append]
        exact ⟨mn, by simp, fun a ha b hb => by rw [List.mem_singleton.mp hb]; exact fun q => hlm (q ▸ ha)⟩
      · have e2 : y :: ((ms ++ [l]) ++ [y]) = r ++ z' :: [l, y] := by
          have : y :: ms = r ++ [z'] := er
          calc y :: ((ms ++ [l]) ++ [y]) = (y :: ms) ++ [l, y] := by simp
            _ = _ := by rw [this]; simp
        rw [e2, Lk.split]
        constructor
        · have k1 : Lk N P (r ++ [z']) := by
            have := (Lk.split (N := N) (P := P) z' [y] r).mp (by
              have e3 : r ++ z' :: [y] = y :: (ms ++ [y]) := by
                have : y :: ms = r ++ [z'] := er
                calc r ++ z' :: [y] = (r ++ [z']) ++ [y] := by simp
                  _ = _ := by rw [← this]; simp
              rw [e3]; exact mk)
            exact this.1
          refine Lk.congr _ (fun u hu => ?_) (fun u hu => ?_) k1
          · have hu' : u ∈ r := by simpa using hu
            have hum : u ∈ y :: ms := by rw [er]; exact List.mem_append_left _ hu'
            have h1 : u ≠ z' := fun q => hrz (q ▸ hu')
            have h2 : u ≠ l := fun q => by
              rcases List.mem_cons.mp hum with q2 | q2
              · exact hxl (q2.symm.trans q)
              · exact hlm (q ▸ q2)
            rw [upd_ne _ _ h1, upd_ne _ _ h2]
          · have hum : u ∈ ms := by
              have q : u ∈ (y :: ms).tail := by rw [er]; exact hu
              exact q
            have h1 : u ≠ y := fun q => hxm (q ▸ hum)
            have h2 : u ≠ l := fun q => hlm (q ▸ hum)
            rw [upd_ne _ _ h1, upd_ne _ _ h2]
        · refine ⟨upd_at _ _ _, ?_, ?_, upd_at _ _ _, trivial⟩
          · rw [upd_ne _ _ (Ne.symm hxl), upd_at]
          · rw [upd_ne _ _ (Ne.symm hzl), upd_at]
      · by_cases e3 : l' = l
        · subst e3
          rw [upd_at]
          simp [hl]
        · rw [upd_ne _ _ e3, List.mem_append, List.mem_singleton, ← mm l']
          exact ⟨fun q => q.elim id (fun q => absurd q e3), Or.inl⟩
    · obtain ⟨ns, k0, kn, kk, km⟩ := i3 y hy
      have hty : τ x ≠ τ y := fun q => e (own_tinj i1 hy hx q.symm)
      have hyl : y ≠ l := fun q => i2 y hy (q ▸ hl)
      have hyz : y ≠ z' := fun q => i2 y hy (q ▸ zl.1)
      have huz : ∀ u ∈ ns, u ≠ z' ∧ u ≠ l ∧ u ≠ x := fun u hu => by
        have q := (km u).mp hu
        refine ⟨fun e4 => ?_, fun e4 => ?_, fun e4 => ?_⟩
        · rw [e4, zl.2] at q; exact hty (Option.some.inj q.2)
        · rw [e4, hn] at q; exact nomatch q.2
        · exact i2 x hx (e4 ▸ q.1)
      have hall : ∀ u ∈ y :: (ns ++ [y]), u ≠ z' ∧ u ≠ l ∧ u ≠ x := fun u hu => by
        rcases List.mem_cons.mp hu with q | q
        · rw [q]; exact ⟨hyz, hyl, e⟩
        · rcases List.mem_append.mp q with q | q
          · exact huz u q
          · rw [List.mem_singleton.mp q]; exact ⟨hyz, hyl, e⟩
      refine ⟨ns, k0, kn, Lk.congr _ (fun u hu => ?_) (fun u hu => ?_) kk, fun l' => ?_⟩
      · have q := hall u ((List.dropLast_sublist _).subset hu)
        rw [upd_ne _ _ q.1, upd_ne _ _ q.2.1]
      · have q := hall u (List.mem_of_mem_tail hu)
        rw [upd_ne _ _ q.2.2, upd_ne _ _ q.2.1]
      · rw [km l']
        by_cases e3 : l' = l
        · subst e3
          rw [upd_at, hn]
          constructor
          · intro q; exact nomatch q.2
          · intro q; exact absurd (Option.some.inj q.2) hty
        · rw [upd_ne _ _ e3]
  · have e3 : l' ≠ l := fun q => by rw [q, upd_at] at h2; exact nomatch h2
    rw [upd_ne _ _ e3] at h2
    have e4 : l' ≠ z' := fun q => by rw [q, zl.2] at h2; exact nomatch h2
    rw [upd_ne _ _ e4, upd_ne _ _ e3]; exact i4 l' h1 h2
  · by_cases e3 : l' = l
    · rw [e3, upd_at] at h2; exact ⟨x, hx, Option.some.inj h2⟩
    · rw [upd_ne _ _ e3] at h2; exact i5 l' h1 t' h2
theorem Inv.insert {pre post : List Addr} {τ : Addr → Int64} {N P : Addr → Value} {ls : List Addr} {tk : Addr → Option Int64} (I : Inv (pre ++ post) τ N P ls tk) {l b : Addr} {t : Int64} (hl : l ∈ ls) (hn : tk l = none)
    (h1 : ∀ x ∈ pre, τ x < t) (h2 : ∀ x ∈ post, t < τ x) (hb : b ∉ pre ++ post) (hbl : b ∉ ls) :
    Inv (pre ++ b :: post) (upd τ b t) (upd (upd N l (.ref b)) b (.ref l)) (upd (upd P l (.ref b)) b (.ref l)) ls (upd tk l (some t)) := by
  obtain ⟨i1, i2, i3, i4, i5⟩ := I
  have hlb : l ≠ b := fun e => hbl (e ▸ hl)
  have hne : ∀ x ∈ pre ++ post, x ≠ b := fun x hx e => hb (e ▸ hx)
  have hmem : ∀ x, x ∈ pre ++ b :: post ↔ (x = b ∨ x ∈ pre ++ post) := fun x => by
    simp only [List.mem_append, List.mem_cons]
    constructor
    · rintro (q | q | q)
      · exact Or.inr (Or.inl q)
      · exact Or.inl q
      · exact Or.inr (Or.inr q)
    · rintro (q | q | q)
      · exact Or.inr (Or.inl q)
      · exact Or.inl q
      · exact Or.inr (Or.inr q)
  have hτ : ∀ x ∈ pre ++ post, upd τ b t x = τ x := fun x hx => upd_ne _ _ (hne x hx)
  have htne : ∀ x ∈ pre ++ post, τ x ≠ t := fun x hx e => by
    rcases List.mem_append.mp hx with q | q
    · exact absurd (e ▸ h1 x q) Int64.lt_irrefl
    · exact absurd (e ▸ h2 x q) Int64.lt_irrefl
  refine ⟨?_, fun x hx => ?_, fun x hx => ?_, fun l' a1 a2 => ?_, fun l' a1 t' a2 => ?_⟩
  · rw [List.pairwise_append] at i1 ⊢
    rw [List.pairwise_cons]
    refine ⟨?_, ⟨fun y hy => ?_, ?_⟩, fun a ha c hc => ?_⟩
    · refine List.Pairwise.imp_of_mem (fun {a c} ha hc q => ?_) i1.1
      rw [hτ a (List.mem_append_left _ ha), hτ c (List.mem_append_left _ hc)]; exact q
    · rw [upd_at, hτ y (List.mem_append_right _ hy)]; exact h2 y hy
    · refine List.Pairwise.imp_of_mem (fun {a c} ha hc q => ?_) i1.2.1
      rw [hτ a (List.mem_append_right _ ha), hτ c (List.mem_append_right _ hc)]; exact q
    · rw [hτ a (List.mem_append_left _ ha)]
      rcases List.mem_cons.mp hc with q | q
      · rw [q, upd_at]; exact h1 a ha
      · rw [hτ c (List.mem_append_right _ q)]; exact i1.2.2 a ha c q
  · rcases (hmem x).mp hx with q | q
    · rw [q]; exact hbl
    · exact i2 x q
  · rcases (hmem x).mp hx with q | q
    · subst q
      refine ⟨[l], by simp, by simp, ⟨upd_at _ _ _, ?_, ?_, upd_at _ _ _, trivial⟩, fun l' => ?_⟩
      · rw [upd_ne _ _ hlb, upd_at]
      · rw [upd_ne _ _ hlb, upd_at]
      · rw [upd_at, List.mem_singleton]
        constructor
        · intro e; rw [e, upd_at]; exact ⟨hl, rfl⟩
        · intro ⟨a1, a2⟩
          by_cases e : l' = l
          · exact e
          · rw [upd_ne _ _ e] at a2
            obtain ⟨y, hy, ey⟩ := i5 l' a1 t a2
            exact absurd ey (htne y hy)
    · obtain ⟨ns, k0, kn, kk, km⟩ := i3 x q
      have hxb := hne x q
      have hxl : x ≠ l := fun e => i2 x q (e ▸ hl)
      have hu : ∀ u ∈ ns, u ≠ b ∧ u ≠ l := fun u hu => by
        have z := (km u).mp hu
        exact ⟨fun e => hbl (e ▸ z.1), fun e => by rw [e, hn] at z; exact nomatch z.2⟩
      have hall : ∀ u ∈ x :: (ns ++ [x]), u ≠ b ∧ u ≠ l := fun u hu' => by
        rcases List.mem_cons.mp hu' with z | z
        · rw [z]; exact ⟨hxb, hxl⟩
        · rcases List.mem_append.mp z with z | z
          · exact hu u z
          · rw [List.mem_singleton.mp z]; exact ⟨hxb, hxl⟩
      refine ⟨ns, k0, kn, Lk.congr _ (fun u hu' => ?_) (fun u hu' => ?_) kk, fun l' => ?_⟩
      · have z := hall u ((List.dropLast_sublist _).subset hu')
        rw [upd_ne _ _ z.1, upd_ne _ _ z.2]
      · have z := hall u (List.mem_of_mem_tail hu')
        rw [upd_ne _ _ z.1, upd_ne _ _ z.2]
      · rw [km l', hτ x q]
        by_cases e : l' = l
        · subst e
          rw [upd_at, hn]
          constructor
          · intro z; exact nomatch z.2
          · intro z; exact absurd (Option.some.inj z.2).symm (htne x q)
        · rw [upd_ne _ _ e]
  · have e3 : l' ≠ l := fun q => by rw [q, upd_at] at a2; exact nomatch a2
    rw [upd_ne _ _ e3] at a2
    have e4 : l' ≠ b := fun q => hbl (q ▸ a1)
    rw [upd_ne _ _ e4, upd_ne _ _ e3]; exact i4 l' a1 a2
  · by_cases e3 : l' = l
    · rw [e3, upd_at] at a2; exact ⟨b, (hmem b).mpr (Or.inl rfl), by rw [upd_at]; exact Option.some.inj a2⟩
    · rw [upd_ne _ _ e3] at a2
      obtain ⟨y, hy, ey⟩ := i5 l' a1 t' a2
      exact ⟨y, (hmem y).mpr (Or.inr hy), (hτ y hy).trans ey⟩
theorem own_bounds {N P : Addr → Value} {x l : Addr} {m1 m2 : List Addr} (k : Lk N P ((x :: m1) ++ l :: (m2 ++ [x]))) {u v : Addr} (hu : P l = .ref u) (hv : N l = .ref v) :
    (∃ c1, x :: m1 = c1 ++ [u]) ∧ (∃ c2, m2 ++ [x] = v :: c2) := by
  have k1 := (Lk.split (N := N) (P := P) l (m2 ++ [x]) (x :: m1)).mp k
  obtain ⟨r, u', e1, -, p1⟩ := own_lk_prev (x :: m1) (by simp) k1.1
  obtain ⟨v', r', e2, n1, -⟩ := own_lk_next (m2 ++ [x]) (by simp) k1.2
  rw [hu] at p1
  rw [hv] at n1
  cases p1
  cases n1
  exact ⟨⟨r, e1⟩, ⟨r', e2⟩⟩
/-- the ring without l -/
theorem own_cut {N P : Addr → Value} {x l u v : Addr} {m1 m2 c1 c2 : List Addr} (k : Lk N P ((x :: m1) ++ l :: (m2 ++ [x]))) (e1 : x :: m1 = c1 ++ [u]) (e2 : m2 ++ [x] = v :: c2) (nd : (m1 ++ l :: m2).Nodup) (hx : x ∉ m1 ++ l :: m2) :
    Lk (upd (upd N u (.ref v)) l .null) (upd (upd P v (.ref u)) l .null) (x :: ((m1 ++ m2) ++ [x])) := by
  have k1 := (Lk.split (N := N) (P := P) l (m2 ++ [x]) (x :: m1)).mp k
  have ka : Lk N P (c1 ++ [u]) := by
    have := k1.1
    rw [e1] at this
    exact ((Lk.split (N := N) (P := P) u [l] c1).mp (by simpa using this)).1
  have kb : Lk N P (v :: c2) := by
    have := k1.2
    rw [e2] at this
    exact this.2.2
  rw [List.nodup_append] at nd
  obtain ⟨n1, n2, n3⟩ := nd
  rw [List.nodup_cons] at n2
  have hl1 : l ∉ m1 := fun q => n3 l q l (by simp) rfl
  have hl2 : l ∉ m2 := n2.1
  have hx1 : x ∉ m1 := fun q => hx (List.mem_append_left _ q)
  have hx2 : x ∉ m2 := fun q => hx (List.mem_append_right _ (List.mem_cons_of_mem _ q))
  have hxl : x ≠ l := fun q => hx (by rw [q]; simp)
  have d12 : ∀ a ∈ m1, a ∉ m2 := fun a ha q => n3 a ha a (List.mem_cons_of_mem _ q) rfl
  have e : x :: ((m1 ++ m2) ++ [x]) = c1 ++ u :: (v :: c2) := by
    calc x :: ((m1 ++ m2) ++ [x]) = (x :: m1) ++ (m2 ++ [x]) := by simp
      _ = _ := by rw [e1, e2]; simp
  have ndA : (c1 ++ [u]).Nodup := by rw [← e1]; exact List.nodup_cons.mpr ⟨hx1, n1⟩
  have ndB : (v :: c2).Nodup := by
    rw [← e2, List.nodup_append]
    exact ⟨n2.2, by simp, fun a ha b hb => by rw [List.mem_singleton.mp hb]; exact fun q => hx2 (q ▸ ha)⟩
  have hul : u ≠ l := fun q => by
    have : u ∈ x :: m1 := by rw [e1]; simp
    rcases List.mem_cons.mp this with z | z
    · exact hxl (z.symm.trans q)
    · exact hl1 (q ▸ z)
  have hvl : v ≠ l := fun q => by
    have : v ∈ m2 ++ [x] := by rw [e2]; simp
    rcases List.mem_append.mp this with z | z
    · exact hl2 (q ▸ z)
    · exact hxl ((List.mem_singleton.mp z).symm.trans q)
  rw [e, Lk.split]
  refine ⟨Lk.congr _ (fun a ha => ?_) (fun a ha => ?_) ka, ?_, ?_, Lk.congr _ (fun a ha => ?_) (fun a ha => ?_) kb⟩
  · have ha' : a ∈ c1 := by simpa using ha
    have h1 : a ≠ u := fun q => by
      rw [List.nodup_append] at ndA
      exact ndA.2.2 a ha' u (by simp) q
    have h2 : a ≠ l := fun q => by
      have : a ∈ x :: m1 := by rw [e1]; exact List.mem_append_left _ ha'
      rcases List.mem_cons.mp this with z | z
      · exact hxl (z.symm.trans q)
      · exact hl1 (q ▸ z)
    rw [upd_ne _ _ h2, upd_ne _ _ h1]
  · have ha' : a ∈ m1 := by
      have : a ∈ (x :: m1).tail := by rw [e1]; exact ha
      exact this
    have h1 : a ≠ v := fun q => by
      have : v ∈ m2 ++ [x] := by rw [e2]; simp
      rcases List.mem_append.mp this with z | z
      · exact d12 a ha' (q ▸ z)
      · exact hx1 (by rw [← List.mem_singleton.mp z, ← q]; exact ha')
    have h2 : a ≠ l := fun q => hl1 (q ▸ ha')
    rw [upd_ne _ _ h2, upd_ne _ _ h1]
  · rw [upd_ne _ _ hul, upd_at]
  · rw [upd_ne _ _ hvl, upd_at]
  · have ha' : a ∈ m2 := by
      have : a ∈ (m2 ++ [x]).dropLast := by rw [e2]; exact ha
      simpa using this
    have h1 : a ≠ u := fun q => by
      have : u ∈ x :: m1 := by rw [e1]; simp
      rcases List.mem_cons.mp this with z | z
      · exact hx2 (by rw [← z, ← q]; exact ha')
      · exact d12 u z (q ▸ ha')
    have h2 : a ≠ l := fun q => hl2 (q ▸ ha')
    rw [upd_ne _ _ h2, upd_ne _ _ h1]
  · have ha' : a ∈ c2 := ha
    rw [List.nodup_cons] at ndB
    have h1 : a ≠ v := fun q => ndB.1 (q ▸ ha')
    have h2 : a ≠ l := fun q => by
      have : a ∈ m2 ++ [x] := by rw [e2]; exact List.mem_cons_of_mem _ ha'
      rcases List.mem_append.mp this with z | z
      · exact hl2 (q ▸ z)
      · exact hxl ((List.mem_singleton.mp z).symm.trans q)
    rw [upd_ne _ _ h2, upd_ne _ _ h1]
/-- what removing l does to the other rings: nothing -/
theorem own_rest {hs : List Addr} {τ : Addr → Int64} {N P : Addr → Value} {ls : List Addr} {tk : Addr → Option Int64} (I : Inv hs τ N P ls tk) {l x u v : Addr} {m1 m2 c1 c2 : List Addr} (hx : x ∈ hs) (hm : ∀ l', l' ∈ m1 ++ l :: m2 ↔ (l' ∈ ls ∧ tk l' = some (τ x)))
    (e1 : x :: m1 = c1 ++ [u]) (e2 : m2 ++ [x] = v :: c2) : ∀ y ∈ hs, y ≠ x → ∃ ms : List Addr, ms ≠ [] ∧ ms.Nodup ∧ Lk (upd (upd N u (.ref v)) l .null) (upd (upd P v (.ref u)) l .null) (y :: (ms ++ [y])) ∧ ∀ l', l' ∈ ms ↔ (l' ∈ ls ∧ upd tk l none l' = some (τ y)) := fun y hy e => by
  obtain ⟨i1, i2, i3, i4, i5⟩ := I
  obtain ⟨ns, k0, kn, kk, km⟩ := i3 y hy
  have hl := (hm l).mp (by simp)
  have hty : τ x ≠ τ y := fun q => e (own_tinj i1 hy hx q.symm)
  have hin : ∀ a, a = x ∨ a ∈ m1 ++ l :: m2 → a ≠ y ∧ a ∉ ns := fun a ha => by
    rcases ha with q | q
    · rw [q]; exact ⟨fun z => e z.symm, fun z => i2 x hx ((km x).mp z).1⟩
    · have z := (hm a).mp q
      refine ⟨fun w => i2 y hy (w ▸ z.1), fun w => ?_⟩
      have w' := ((km a).mp w).2
      rw [z.2] at w'; exact hty (Option.some.inj w')
  have hu : u = x ∨ u ∈ m1 ++ l :: m2 := by
    have : u ∈ x :: m1 := by rw [e1]; simp
    rcases List.mem_cons.mp this with z | z
    · exact Or.inl z
    · exact Or.inr (List.mem_append_left _ z)
  have hv : v = x ∨ v ∈ m1 ++ l :: m2 := by
    have : v ∈ m2 ++ [x] := by rw [e2]; simp
    rcases List.mem_append.mp this with z | z
    · exact Or.inr (List.mem_append_right _ (List.mem_cons_of_mem _ z))
    · exact Or.inl (List.mem_singleton.mp z)
  have hu' := hin u hu
  have hv' := hin v hv
  have hl' := hin l (Or.inr (by simp))
  have hall : ∀ a ∈ y :: (ns ++ [y]), a ≠ u ∧ a ≠ v ∧ a ≠ l := fun a ha => by
    have key : ∀ w : Addr, w ≠ y ∧ w ∉ ns → a ≠ w := fun w hw q => by
      rcases List.mem_cons.mp ha with z | z
      · exact hw.1 (q.symm.trans z)
      · rcases List.mem_append.mp z with z | z
        · exact hw.2 (q ▸ z)
        · exact hw.1 (q.symm.trans (List.mem_singleton.mp z))
    exact ⟨key u hu', key v hv', key l hl'⟩
  refine ⟨ns, k0, kn, Lk.congr _ (fun a ha => ?_) (fun a ha => ?_) kk, fun l' => ?_⟩
  · have q := hall a ((List.dropLast_sublist _).subset ha)
    rw [upd_ne _ _ q.2.2, upd_ne _ _ q.1]
  · have q := hall a (List.mem_of_mem_tail ha)
    rw [upd_ne _ _ q.2.2, upd_ne _ _ q.2.1]
  · rw [km l']
    by_cases e3 : l' = l
    · subst e3
      rw [upd_at, hl.2]
      constructor
      · intro q; exact absurd (Option.some.inj q.2) hty
      · intro q; exact nomatch q.2
    · rw [upd_ne _ _ e3]
theorem Inv.cut {hs : List Addr} {τ : Addr → Int64} {N P : Addr → Value} {ls : List Addr} {tk : Addr → Option Int64} (I : Inv hs τ N P ls tk) {l u v : Addr} {t : Int64} (hl : l ∈ ls) (ht : tk l = some t) (hu : P l = .ref u) (hv : N l = .ref v) :
    u ≠ l ∧ v ≠ l ∧ (u ∈ hs ∨ u ∈ ls) ∧ (v ∈ hs ∨ v ∈ ls) ∧
    (u ≠ v → Inv hs τ (upd (upd N u (.ref v)) l .null) (upd (upd P v (.ref u)) l .null) ls (upd tk l none)) ∧
    (u = v → u ∈ hs ∧ τ u = t ∧ ∀ pre post, hs = pre ++ u :: post → Inv (pre ++ post) τ (upd (upd N u (.ref v)) l .null) (upd (upd P v (.ref u)) l .null) ls (upd tk l none)) := by
  obtain ⟨x, hx, et, m1, m2, nd, hxm, k, hm⟩ := I.filed hl ht
  subst et
  obtain ⟨⟨c1, e1⟩, ⟨c2, e2⟩⟩ := own_bounds k hu hv
  have hcut := own_cut k e1 e2 nd hxm
  have hrest := own_rest I hx hm e1 e2
  obtain ⟨i1, i2, i3, i4, i5⟩ := I
  have hin1 : u = x ∨ u ∈ m1 := by
    have : u ∈ x :: m1 := by rw [e1]; simp
    exact List.mem_cons.mp this
  have hin2 : v ∈ m2 ∨ v = x := by
    have : v ∈ m2 ++ [x] := by rw [e2]; simp
    exact (List.mem_append.mp this).imp id List.mem_singleton.mp
  have hxl : x ≠ l := fun q => i2 x hx (q ▸ hl)
  rw [List.nodup_append] at nd
  obtain ⟨n1, n2, n3⟩ := nd
  rw [List.nodup_cons] at n2
  have hl1 : l ∉ m1 := fun q => n3 l q l (by simp) rfl
  have hl2 : l ∉ m2 := n2.1
  have mem1 : ∀ a ∈ m1, a ∈ ls ∧ tk a = some (τ x) := fun a ha => (hm a).mp (List.mem_append_left _ ha)
  have mem2 : ∀ a ∈ m2, a ∈ ls ∧ tk a = some (τ x) := fun a ha => (hm a).mp (List.mem_append_right _ (List.mem_cons_of_mem _ ha))
  have hul : u ≠ l := fun q => by
    rcases hin1 with z | z
    · exact hxl (z.symm.trans q)
    · exact hl1 (q ▸ z)
  have hvl : v ≠ l := fun q => by
    rcases hin2 with z | z
    · exact hl2 (q ▸ z)
    · exact hxl (z.symm.trans q)
  have hmem' : ∀ l', l' ∈ m1 ++ m2 ↔ (l' ∈ ls ∧ upd tk l none l' = some (τ x)) := fun l' => by
    by_cases e3 : l' = l
    · subst e3
      rw [upd_at]
      constructor
      · intro q; rcases List.mem_append.mp q with z | z
        · exact absurd z hl1
        · exact absurd z hl2
      · intro q; exact nomatch q.2
    · rw [upd_ne _ _ e3, ← hm l']
      simp [e3]
  have hnone : ∀ l' ∈ ls, upd tk l none l' = none → upd (upd N u (.ref v)) l .null l' = .null := fun l' a1 a2 => by
    by_cases e3 : l' = l
    · rw [e3, upd_at]
    · rw [upd_ne _ _ e3] at a2
      have e4 : l' ≠ u := fun q => by
        rcases hin1 with z | z
        · exact i2 x hx (by rw [← z, ← q]; exact a1)
        · have := (mem1 u z).2; rw [← q, a2] at this; exact nomatch this
      rw [upd_ne _ _ e3, upd_ne _ _ e4]; exact i4 l' a1 a2
  refine ⟨hul, hvl, ?_, ?_, fun huv => ?_, fun huv => ?_⟩
  · rcases hin1 with z | z
    · exact Or.inl (z ▸ hx)
    · exact Or.inr (mem1 u z).1
  · rcases hin2 with z | z
    · exact Or.inr (mem2 v z).1
    · exact Or.inl (z ▸ hx)
  · have hne : m1 ++ m2 ≠ [] := fun q => by
      have q1 := List.append_eq_nil_iff.mp q
      have a1 : u = x := by rcases hin1 with z | z; exact z; rw [q1.1] at z; exact nomatch z
      have a2 : v = x := by rcases hin2 with z | z; rw [q1.2] at z; exact nomatch z; exact z
      exact huv (a1.trans a2.symm)
    refine ⟨i1, i2, fun y hy => ?_, hnone, fun l' a1 t' a2 => ?_⟩
    · by_cases e : y = x
      · subst e
        refine ⟨m1 ++ m2, hne, ?_, hcut, hmem'⟩
        rw [List.nodup_append]
        exact ⟨n1, n2.2, fun a ha b hb => n3 a ha b (List.mem_cons_of_mem _ hb)⟩
      · exact hrest y hy e
    · by_cases e3 : l' = l
      · rw [e3, upd_at] at a2; exact nomatch a2
      · rw [upd_ne _ _ e3] at a2; exact i5 l' a1 t' a2
  · have hux : u = x := by
      rcases hin1 with z | z
      · exact z
      · rcases hin2 with w | w
        · exact absurd rfl (n3 u z u (List.mem_cons_of_mem _ (huv ▸ w)))
        · exact absurd (mem1 u z).1 (by rw [huv, w]; exact i2 x hx)
    have hm1 : m1 = [] := by
      rcases m1 with _ | ⟨a, r⟩
      · rfl
      · exfalso
        have q : u ∈ a :: r := by
          have : (x :: a :: r).getLast (by simp) = u := by simp [e1]
          rw [List.getLast_cons (by simp)] at this
          exact this ▸ List.getLast_mem _
        exact i2 x hx (hux ▸ (mem1 u q).1)
    have hm2 : m2 = [] := by
      rcases m2 with _ | ⟨a, r⟩
      · rfl
      · exfalso
        have q : v = a := by simpa using (List.cons.inj e2).1.symm
        exact i2 x hx (by rw [← hux, huv, q]; exact (mem2 a (by simp)).1)
    subst hux
    refine ⟨hx, rfl, fun pre post eh => ?_⟩
    subst eh
    have hpw := i1
    rw [List.pairwise_append, List.pairwise_cons] at i1
    have hsub : ∀ y, y ∈ pre ++ post → y ∈ pre ++ u :: post := fun y q => by
      rcases List.mem_append.mp q with z | z
      · exact List.mem_append_left _ z
      · exact List.mem_append_right _ (List.mem_cons_of_mem _ z)
    have hnu : ∀ y ∈ pre ++ post, y ≠ u := fun y q e => by
      rcases List.mem_append.mp q with z | z
      · have := i1.2.2 y z u (by simp); rw [e] at this; exact absurd this Int64.lt_irrefl
      · have := i1.2.1.1 y z; rw [e] at this; exact absurd this Int64.lt_irrefl
    refine ⟨?_, fun y hy => i2 y (hsub y hy), fun y hy => hrest y (hsub y hy) (hnu y hy), hnone, fun l' a1 t' a2 => ?_⟩
    · rw [List.pairwise_append]
      exact ⟨i1.1, i1.2.1.2, fun a ha b hb => i1.2.2 a ha b (List.mem_cons_of_mem _ hb)⟩
    · by_cases e3 : l' = l
      · rw [e3, upd_at] at a2; exact nomatch a2
      · have a3 := a2
        rw [upd_ne _ _ e3] at a2
        obtain ⟨y, hy, ey⟩ := i5 l' a1 t' a2
        have hyu : y ≠ u := fun q => by
          have : l' ∈ m1 ++ m2 := (hmem' l').mpr ⟨a1, by rw [a3, ← ey, q]⟩
          rw [hm1, hm2] at this; exact nomatch this
        refine ⟨y, ?_, ey⟩
        rcases List.mem_append.mp hy with z | z
        · exact List.mem_append_left _ z
        · rcases List.mem_cons.mp z with z | z
          · exact absurd z hyu
          · exact List.mem_append_right _ z
/-- the first tick, the ticks -/
theorem Inv.first {hs : List Addr} {τ : Addr → Int64} {N P : Addr → Value} {ls : List Addr} {tk : Addr → Option Int64} (I : Inv hs τ N P ls tk) :
    (hs = [] → ∀ l ∈ ls, tk l = none) ∧ (∀ x r, hs = x :: r → (∃ l ∈ ls, tk l = some (τ x)) ∧ ∀ l ∈ ls, ∀ t, tk l = some t → ¬ t < τ x) := by
  obtain ⟨i1, i2, i3, i4, i5⟩ := I
  refine ⟨fun e l hl => ?_, fun x r e => ?_⟩
  · subst e
    cases h : tk l with
    | none => rfl
    | some t => obtain ⟨x, hx, -⟩ := i5 l hl t h; exact nomatch hx
  · subst e
    obtain ⟨ms, m0, mn, mk, mm⟩ := i3 x (by simp)
    refine ⟨?_, fun l hl t ht q => ?_⟩
    · rcases ms with _ | ⟨a, ms⟩
      · exact absurd rfl m0
      · have := (mm a).mp (by simp)
        exact ⟨a, this.1, this.2⟩
    · obtain ⟨y, hy, rfl⟩ := i5 l hl t ht
      rw [List.pairwise_cons] at i1
      rcases List.mem_cons.mp hy with z | z
      · rw [z] at q; exact Int64.lt_irrefl q
      · exact Int64.lt_asymm q (i1.1 y z)
theorem Inv.ticks {hs : List Addr} {τ : Addr → Int64} {N P : Addr → Value} {ls : List Addr} {tk : Addr → Option Int64} (I : Inv hs τ N P ls tk) : (hs.map τ).Nodup ∧ ∀ t, t ∈ hs.map τ ↔ ∃ l ∈ ls, tk l = some t := by
  obtain ⟨i1, i2, i3, i4, i5⟩ := I
  refine ⟨?_, fun t => ?_⟩
  · show (hs.map τ).Pairwise (· ≠ ·)
    rw [List.pairwise_map]
    exact i1.imp (fun {a b} q e => by rw [e] at q; exact Int64.lt_irrefl q)
  · rw [List.mem_map]
    constructor
    · intro ⟨x, hx, e⟩
      obtain ⟨ms, m0, mn, mk, mm⟩ := i3 x hx
      rcases ms with _ | ⟨a, ms⟩
      · exact absurd rfl m0
      · have := (mm a).mp (by simp)
        exact ⟨a, this.1, by rw [this.2, e]⟩
    · intro ⟨l, hl, ht⟩
      obtain ⟨x, hx, e⟩ := i5 l hl t ht
      exact ⟨x, hx, e⟩

theorem own_weak {l : Launch} {x : MethodName} {S : Spec} {P : Array Value → State → Prop} {K : Program → Env → List Frame → State → Array Value → Prop} {Q Q' : Array Value → State → Outcome → State → Prop} (h : MetFree l x S P K Q) (hq : ∀ a s o t, P a s → Q a s o t → Q' a s o t) : MetFree l x S P K Q' := by
  intro p e ha hc hk s m args below hf happ hP hK
  obtain ⟨n, o, h1, h2, h3, h4⟩ := h p e ha hc hk s m args below hf happ hP hK
  exact ⟨n, o, h1, h2, h3, hq _ _ _ _ hP h4⟩
/-- the order at D lies so in the heap: its array A, its heads hs with their ticks, the links ls -/
def Rep (Z : State) (h : Heap) (n0 : Nat) (D A : Addr) (kA : ClassId) (hs : List Addr) (τ : Addr → Int64) (N P : Addr → Value) (ls : List Addr) : Prop :=
  Exa Z h D cD ∧ Fld Z h D cD "heads" dA (.ref A) ∧ Fld Z h D cD "count" "I" (.int (Int32.ofNat hs.length)) ∧ Arv Z h A kA (.object cH) (4 : Int32) (hs.map Value.ref ++ List.replicate (4 - hs.length) .null) .null ∧ Ovr Z kA cH ∧ n0 ≤ D ∧ n0 ≤ A ∧
  (∀ x ∈ hs, n0 ≤ x ∧ Exa Z h x cH ∧ Fld Z h x cH "tick" "J" (.long (τ x)) ∧ Fld Z h x cL "next" dL (N x) ∧ Fld Z h x cL "prev" dL (P x)) ∧
  (∀ x ∈ ls, n0 ≤ x ∧ Exa Z h x cL ∧ Fld Z h x cL "next" dL (N x) ∧ Fld Z h x cL "prev" dL (P x))
def Apart (D A : Addr) (hs ls : List Addr) : Prop := D ≠ A ∧ (∀ x ∈ hs, x ≠ D ∧ x ≠ A) ∧ (∀ x ∈ ls, x ≠ D ∧ x ≠ A ∧ ∀ y ∈ hs, x ≠ y)
section RepLaws
variable {Z : State} {h0 h : Heap} {n0 : Nat} {D A : Addr} {kA : ClassId} {hs : List Addr} {τ : Addr → Int64} {N P : Addr → Value} {ls : List Addr} {tk : Addr → Option Int64}
theorem Rep.apart {az : Array Value} {k1 k2 k3 : Nat} (hR : Rep Z h n0 D A kA hs τ N P ls) (wD : (Jvm.Cond.instantiable cD k1).before az Z = true) (wH : (Jvm.Cond.instantiable cH k2).before az Z = true) (wL : (Jvm.Cond.instantiable cL k3).before az Z = true) : Apart D A hs ls := by
  obtain ⟨rE, rH, rC, rV, rO, gD, gA, rh, rl⟩ := hR
  obtain ⟨c, A', -⟩ := rV
  exact ⟨ne_arr rE wD A', fun x hx => ⟨ne_exa (rh x hx).2.1 rE (by decide), ne_arr (rh x hx).2.1 wH A'⟩, fun x hx => ⟨ne_exa (rl x hx).2.1 rE (by decide), ne_arr (rl x hx).2.1 wL A', fun y hy => ne_exa (rl x hx).2.1 (rh y hy).2.1 (by decide)⟩⟩
theorem Rep.old (hR : Rep Z h0 n0 D A kA hs τ N P ls) (ap : Apart D A hs ls) {l x z : Addr} (hl : l ∈ ls) (hx : x ∈ hs) (hz : z ∈ ls) (hzl : z ≠ l) (K : Keep h0 h [l, z, x])
    (F1 : Fld Z h l cL "next" dL (.ref x)) (F2 : Fld Z h l cL "prev" dL (.ref z)) (F3 : Fld Z h z cL "next" dL (.ref l)) (F4 : Fld Z h z cL "prev" dL (P z)) (F5 : Fld Z h x cL "next" dL (N x)) (F6 : Fld Z h x cL "prev" dL (.ref l)) (F7 : Fld Z h x cH "tick" "J" (.long (τ x))) :
    Rep Z h n0 D A kA hs τ (upd (upd N l (.ref x)) z (.ref l)) (upd (upd P l (.ref z)) x (.ref l)) ls := by
  obtain ⟨rE, rH, rC, rV, rO, gD, gA, rh, rl⟩ := hR
  obtain ⟨a1, a2, a3⟩ := ap
  have nD : D ∉ [l, z, x] := ninS (a3 l hl).1.symm (ninS (a3 z hz).1.symm (ninS (a2 x hx).1.symm nin0))
  have nA : A ∉ [l, z, x] := ninS (a3 l hl).2.1.symm (ninS (a3 z hz).2.1.symm (ninS (a2 x hx).2.symm nin0))
  refine ⟨rE.keep K, rH.keep K nD, rC.keep K nD, rV.keep K nA, rO, gD, gA, fun y hy => ?_, fun y hy => ?_⟩
  · obtain ⟨g, E, T, n, p⟩ := rh y hy
    have y1 : y ≠ l := ((a3 l hl).2.2 y hy).symm
    have y2 : y ≠ z := ((a3 z hz).2.2 y hy).symm
    by_cases e : y = x
    · subst e
      refine ⟨g, E.keep K, F7, ?_, ?_⟩
      · rw [upd_ne _ _ y2, upd_ne _ _ y1]; exact F5
      · rw [upd_at]; exact F6
    · have ni : y ∉ [l, z, x] := ninS y1 (ninS y2 (ninS e nin0))
      refine ⟨g, E.keep K, T.keep K ni, ?_, ?_⟩
      · rw [upd_ne _ _ y2, upd_ne _ _ y1]; exact n.keep K ni
      · rw [upd_ne _ _ e, upd_ne _ _ y1]; exact p.keep K ni
  · obtain ⟨g, E, n, p⟩ := rl y hy
    have y3 : y ≠ x := (a3 y hy).2.2 x hx
    by_cases e1 : y = l
    · subst e1
      refine ⟨g, E.keep K, ?_, ?_⟩
      · rw [upd_ne _ _ hzl.symm, upd_at]; exact F1
      · rw [upd_ne _ _ y3, upd_at]; exact F2
    · by_cases e2 : y = z
      · subst e2
        refine ⟨g, E.keep K, ?_, ?_⟩
        · rw [upd_at]; exact F3
        · rw [upd_ne _ _ y3, upd_ne _ _ e1]; exact F4
      · have ni : y ∉ [l, z, x] := ninS e1 (ninS e2 (ninS y3 nin0))
        refine ⟨g, E.keep K, ?_, ?_⟩
        · rw [upd_ne _ _ e2, upd_ne _ _ e1]; exact n.keep K ni
        · rw [upd_ne _ _ y3, upd_ne _ _ e1]; exact p.keep K ni
theorem Rep.fresh (hR : Rep Z h0 n0 D A kA hs τ N P ls) {b : Addr} (sz : h0.size ≤ b) : b ∉ hs ∧ b ∉ ls := by
  obtain ⟨rE, rH, rC, rV, rO, gD, gA, rh, rl⟩ := hR
  exact ⟨fun q => Nat.not_lt.mpr sz (rh b q).2.1.lt, fun q => Nat.not_lt.mpr sz (rl b q).2.1.lt⟩
theorem Rep.new {pre post : List Addr} (hR : Rep Z h0 n0 D A kA (pre ++ post) τ N P ls) (ap : Apart D A (pre ++ post) ls) {l b : Addr} {t : Int64} (hl : l ∈ ls) (K : Keep h0 h [A, D, l]) (sz : h0.size ≤ b) (gb : n0 ≤ b)
    (F1 : Fld Z h D cD "heads" dA (.ref A)) (F2 : Fld Z h D cD "count" "I" (.int (Int32.ofNat (pre ++ b :: post).length))) (F3 : Arv Z h A kA (.object cH) (4 : Int32) ((pre ++ b :: post).map Value.ref ++ List.replicate (4 - (pre ++ b :: post).length) .null) .null)
    (F4 : Exa Z h b cH) (F5 : Fld Z h b cH "tick" "J" (.long t)) (F6 : Fld Z h b cL "next" dL (.ref l)) (F7 : Fld Z h b cL "prev" dL (.ref l)) (F8 : Fld Z h l cL "next" dL (.ref b)) (F9 : Fld Z h l cL "prev" dL (.ref b)) :
    Rep Z h n0 D A kA (pre ++ b :: post) (upd τ b t) (upd (upd N l (.ref b)) b (.ref l)) (upd (upd P l (.ref b)) b (.ref l)) ls := by
  have fr := hR.fresh sz
  obtain ⟨rE, rH, rC, rV, rO, gD, gA, rh, rl⟩ := hR
  obtain ⟨a1, a2, a3⟩ := ap
  refine ⟨rE.keep K, F1, F2, F3, rO, gD, gA, fun y hy => ?_, fun y hy => ?_⟩
  · by_cases e : y = b
    · subst e
      refine ⟨gb, F4, ?_, ?_, ?_⟩
      · rw [upd_at]; exact F5
      · rw [upd_at]; exact F6
      · rw [upd_at]; exact F7
    · have hy' : y ∈ pre ++ post := by
        rcases List.mem_append.mp hy with q | q
        · exact List.mem_append_left _ q
        · rcases List.mem_cons.mp q with q | q
          · exact absurd q e
          · exact List.mem_append_right _ q
      obtain ⟨g, E, T, n, p⟩ := rh y hy'
      have y1 : y ≠ l := ((a3 l hl).2.2 y hy').symm
      have ni : y ∉ [A, D, l] := ninS (a2 y hy').2 (ninS (a2 y hy').1 (ninS y1 nin0))
      refine ⟨g, E.keep K, ?_, ?_, ?_⟩
      · rw [upd_ne _ _ e]; exact T.keep K ni
      · rw [upd_ne _ _ e, upd_ne _ _ y1]; exact n.keep K ni
      · rw [upd_ne _ _ e, upd_ne _ _ y1]; exact p.keep K ni
  · obtain ⟨g, E, n, p⟩ := rl y hy
    have yb : y ≠ b := fun q => fr.2 (q ▸ hy)
    by_cases e1 : y = l
    · subst e1
      refine ⟨g, E.keep K, ?_, ?_⟩
      · rw [upd_ne _ _ yb, upd_at]; exact F8
      · rw [upd_ne _ _ yb, upd_at]; exact F9
    · have ni : y ∉ [A, D, l] := ninS (a3 y hy).2.1 (ninS (a3 y hy).1 (ninS e1 nin0))
      refine ⟨g, E.keep K, ?_, ?_⟩
      · rw [upd_ne _ _ yb, upd_ne _ _ e1]; exact n.keep K ni
      · rw [upd_ne _ _ yb, upd_ne _ _ e1]; exact p.keep K ni
theorem Rep.cut (hR : Rep Z h0 n0 D A kA hs τ N P ls) (ap : Apart D A hs ls) {l u w : Addr} (hl : l ∈ ls) (hu : u ∈ hs ∨ u ∈ ls) (hw : w ∈ hs ∨ w ∈ ls) (hul : u ≠ l) (hwl : w ≠ l) (huw : u ≠ w) (K : Keep h0 h [u, w, l])
    (F1 : Fld Z h l cL "next" dL .null) (F2 : Fld Z h l cL "prev" dL .null) (F3 : Fld Z h u cL "next" dL (.ref w)) (F4 : Fld Z h u cL "prev" dL (P u)) (F5 : Fld Z h w cL "next" dL (N w)) (F6 : Fld Z h w cL "prev" dL (.ref u)) (F7 : u ∈ hs → Fld Z h u cH "tick" "J" (.long (τ u))) (F8 : w ∈ hs → Fld Z h w cH "tick" "J" (.long (τ w))) :
    Rep Z h n0 D A kA hs τ (upd (upd N u (.ref w)) l .null) (upd (upd P w (.ref u)) l .null) ls := by
  obtain ⟨rE, rH, rC, rV, rO, gD, gA, rh, rl⟩ := hR
  obtain ⟨a1, a2, a3⟩ := ap
  have node : ∀ y, (y ∈ hs ∨ y ∈ ls) → D ≠ y ∧ A ≠ y := fun y hy => by
    rcases hy with q | q
    · exact ⟨(a2 y q).1.symm, (a2 y q).2.symm⟩
    · exact ⟨(a3 y q).1.symm, (a3 y q).2.1.symm⟩
  have nD : D ∉ [u, w, l] := ninS (node u hu).1 (ninS (node w hw).1 (ninS (a3 l hl).1.symm nin0))
  have nA : A ∉ [u, w, l] := ninS (node u hu).2 (ninS (node w hw).2 (ninS (a3 l hl).2.1.symm nin0))
  have key : ∀ y, y ≠ l → ∀ (n : Fld Z h0 y cL "next" dL (N y)) (p : Fld Z h0 y cL "prev" dL (P y)), Fld Z h y cL "next" dL (upd (upd N u (.ref w)) l .null y) ∧ Fld Z h y cL "prev" dL (upd (upd P w (.ref u)) l .null y) := fun y yl n p => by
    rw [upd_ne _ _ yl, upd_ne _ _ yl]
    by_cases e1 : y = u
    · subst e1
      rw [upd_at, upd_ne _ _ huw]; exact ⟨F3, F4⟩
    · rw [upd_ne _ _ e1]
      by_cases e2 : y = w
      · subst e2
        rw [upd_at]; exact ⟨F5, F6⟩
      · rw [upd_ne _ _ e2]
        have ni : y ∉ [u, w, l] := ninS e1 (ninS e2 (ninS yl nin0))
        exact ⟨n.keep K ni, p.keep K ni⟩
  refine ⟨rE.keep K, rH.keep K nD, rC.keep K nD, rV.keep K nA, rO, gD, gA, fun y hy => ?_, fun y hy => ?_⟩
  · obtain ⟨g, E, T, n, p⟩ := rh y hy
    have yl : y ≠ l := ((a3 l hl).2.2 y hy).symm
    have q := key y yl n p
    refine ⟨g, E.keep K, ?_, q.1, q.2⟩
    by_cases e1 : y = u
    · subst e1; exact F7 hy
    · by_cases e2 : y = w
      · subst e2; exact F8 hy
      · exact T.keep K (ninS e1 (ninS e2 (ninS yl nin0)))
  · obtain ⟨g, E, n, p⟩ := rl y hy
    by_cases yl : y = l
    · subst yl
      refine ⟨g, E.keep K, ?_, ?_⟩
      · rw [upd_at]; exact F1
      · rw [upd_at]; exact F2
    · have q := key y yl n p
      exact ⟨g, E.keep K, q.1, q.2⟩
theorem Rep.drop {pre post : List Addr} {x : Addr} (hR : Rep Z h0 n0 D A kA (pre ++ x :: post) τ N P ls) (ap : Apart D A (pre ++ x :: post) ls) (hnu : ∀ y ∈ pre ++ post, y ≠ x) {l : Addr} (hl : l ∈ ls) (K : Keep h0 h [x, l, D, A])
    (F1 : Fld Z h D cD "heads" dA (.ref A)) (F2 : Fld Z h D cD "count" "I" (.int (Int32.ofNat (pre ++ post).length))) (F3 : Arv Z h A kA (.object cH) (4 : Int32) ((pre ++ post).map Value.ref ++ List.replicate (4 - (pre ++ post).length) .null) .null)
    (F4 : Fld Z h l cL "next" dL .null) (F5 : Fld Z h l cL "prev" dL .null) :
    Rep Z h n0 D A kA (pre ++ post) τ (upd (upd N x (.ref x)) l .null) (upd (upd P x (.ref x)) l .null) ls := by
  obtain ⟨rE, rH, rC, rV, rO, gD, gA, rh, rl⟩ := hR
  obtain ⟨a1, a2, a3⟩ := ap
  have hsub : ∀ y, y ∈ pre ++ post → y ∈ pre ++ x :: post := fun y q => by
    rcases List.mem_append.mp q with z | z
    · exact List.mem_append_left _ z
    · exact List.mem_append_right _ (List.mem_cons_of_mem _ z)
  have hx : x ∈ pre ++ x :: post := by simp
  refine ⟨rE.keep K, F1, F2, F3, rO, gD, gA, fun y hy => ?_, fun y hy => ?_⟩
  · have hy' := hsub y hy
    obtain ⟨g, E, T, n, p⟩ := rh y hy'
    have y1 : y ≠ l := ((a3 l hl).2.2 y hy').symm
    have y2 := hnu y hy
    have ni : y ∉ [x, l, D, A] := ninS y2 (ninS y1 (ninS (a2 y hy').1 (ninS (a2 y hy').2 nin0)))
    refine ⟨g, E.keep K, T.keep K ni, ?_, ?_⟩
    · rw [upd_ne _ _ y1, upd_ne _ _ y2]; exact n.keep K ni
    · rw [upd_ne _ _ y1, upd_ne _ _ y2]; exact p.keep K ni
  · obtain ⟨g, E, n, p⟩ := rl y hy
    have y3 : y ≠ x := (a3 y hy).2.2 x hx
    by_cases e1 : y = l
    · subst e1
      refine ⟨g, E.keep K, ?_, ?_⟩
      · rw [upd_at]; exact F4
      · rw [upd_at]; exact F5
    · have ni : y ∉ [x, l, D, A] := ninS y3 (ninS e1 (ninS (a3 y hy).1 (ninS (a3 y hy).2.1 nin0)))
      refine ⟨g, E.keep K, ?_, ?_⟩
      · rw [upd_ne _ _ e1, upd_ne _ _ y3]; exact n.keep K ni
      · rw [upd_ne _ _ e1, upd_ne _ _ y3]; exact p.keep K ni
end RepLaws
/-- the last of a ring -/
theorem Inv.last {hs : List Addr} {τ : Addr → Int64} {N P : Addr → Value} {ls : List Addr} {tk : Addr → Option Int64} (I : Inv hs τ N P ls tk) {l x : Addr} (hn : tk l = none) (hx : x ∈ hs) : ∃ z, P x = .ref z ∧ z ∈ ls ∧ z ≠ l := by
  obtain ⟨i1, i2, i3, i4, i5⟩ := I
  obtain ⟨ms, m0, mn, mk, mm⟩ := i3 x hx
  have mk' : Lk N P ((x :: ms) ++ [x]) := mk
  obtain ⟨r, z, er, n1, p1⟩ := own_lk_prev (x :: ms) (by simp) mk'
  have hzm : z ∈ ms := by
    have : (x :: ms).getLast (by simp) = z := by simp [er]
    rw [List.getLast_cons m0] at this
    exact this ▸ List.getLast_mem m0
  have zl := (mm z).mp hzm
  exact ⟨z, p1, zl.1, fun e => by rw [e, hn] at zl; exact nomatch zl.2⟩
/-- both neighbours of a filed link -/
theorem Inv.sides {hs : List Addr} {τ : Addr → Int64} {N P : Addr → Value} {ls : List Addr} {tk : Addr → Option Int64} (I : Inv hs τ N P ls tk) {l : Addr} (hl : l ∈ ls) {t : Int64} (ht : tk l = some t) : ∃ u w, P l = .ref u ∧ N l = .ref w := by
  obtain ⟨x, hx, et, m1, m2, nd, hxm, k, hm⟩ := I.filed hl ht
  have k1 := (Lk.split (N := N) (P := P) l (m2 ++ [x]) (x :: m1)).mp k
  obtain ⟨r, u, e1, -, p1⟩ := own_lk_prev (x :: m1) (by simp) k1.1
  obtain ⟨w, r', e2, n1, -⟩ := own_lk_next (m2 ++ [x]) (by simp) k1.2
  exact ⟨u, w, p1, n1⟩

theorem own_pos1_0 (q t1 : Int64)  (h : fDue1 q t1 = (0 : Int32))  : q < t1 := by

  unfold fDue1 at h
  simp only [Int64.lt_iff_toInt_lt] at h ⊢
  repeat' split at h
  all_goals first | exact absurd h (by decide) | omega
theorem own_pos1_1 (q t1 : Int64)  (h : fDue1 q t1 = (1 : Int32)) (ne : ¬ (t1 = q)) : t1 < q := by

  have ne' : t1.toInt ≠ q.toInt := fun z => ne (Int64.toInt_inj.mp z)
  unfold fDue1 at h
  simp only [Int64.lt_iff_toInt_lt] at h ⊢
  repeat' split at h
  all_goals first | exact absurd h (by decide) | omega
theorem own_hd1_1 (t1 : Int64)  : fDue1 t1 t1 = (1 : Int32) := by

  unfold fDue1
  simp only [Int64.lt_iff_toInt_lt]
  repeat' split
  all_goals first | rfl | (exfalso; omega)
theorem own_pos2_0 (q t1 t2 : Int64) (s1 : t1 < t2) (h : fDue2 q t1 t2 = (0 : Int32))  : q < t1 ∧ q < t2 := by
  rw [Int64.lt_iff_toInt_lt] at s1
  unfold fDue2 at h
  simp only [Int64.lt_iff_toInt_lt] at h ⊢
  repeat' split at h
  all_goals first | exact absurd h (by decide) | omega
theorem own_pos2_1 (q t1 t2 : Int64) (s1 : t1 < t2) (h : fDue2 q t1 t2 = (1 : Int32)) (ne : ¬ (t1 = q)) : t1 < q ∧ q < t2 := by
  rw [Int64.lt_iff_toInt_lt] at s1
  have ne' : t1.toInt ≠ q.toInt := fun z => ne (Int64.toInt_inj.mp z)
  unfold fDue2 at h
  simp only [Int64.lt_iff_toInt_lt] at h ⊢
  repeat' split at h
  all_goals first | exact absurd h (by decide) | omega
theorem own_pos2_2 (q t1 t2 : Int64) (s1 : t1 < t2) (h : fDue2 q t1 t2 = (2 : Int32)) (ne : ¬ (t2 = q)) : t1 < q ∧ t2 < q := by
  rw [Int64.lt_iff_toInt_lt] at s1
  have ne' : t2.toInt ≠ q.toInt := fun z => ne (Int64.toInt_inj.mp z)
  unfold fDue2 at h
  simp only [Int64.lt_iff_toInt_lt] at h ⊢
  repeat' split at h
  all_goals first | exact absurd h (by decide) | omega
theorem own_hd2_1 (t1 t2 : Int64) (s1 : t1 < t2) : fDue2 t1 t1 t2 = (1 : Int32) := by
  rw [Int64.lt_iff_toInt_lt] at s1
  unfold fDue2
  simp only [Int64.lt_iff_toInt_lt]
  repeat' split
  all_goals first | rfl | (exfalso; omega)
theorem own_hd2_2 (t1 t2 : Int64) (s1 : t1 < t2) : fDue2 t2 t1 t2 = (2 : Int32) := by
  rw [Int64.lt_iff_toInt_lt] at s1
  unfold fDue2
  simp only [Int64.lt_iff_toInt_lt]
  repeat' split
  all_goals first | rfl | (exfalso; omega)
theorem own_hne {τ : Addr → Int64} {a b : Addr} (h : τ a < τ b) : a ≠ b := fun e => by rw [e] at h; exact Int64.lt_irrefl h
theorem own_nu {τ : Addr → Int64} {pre post : List Addr} {x : Addr} (h : (pre ++ x :: post).Pairwise (fun a b => τ a < τ b)) : ∀ y ∈ pre ++ post, y ≠ x := fun y q e => by
  rw [List.pairwise_append, List.pairwise_cons] at h
  rcases List.mem_append.mp q with z | z
  · have := h.2.2 y z x (by simp)
    rw [e] at this; exact Int64.lt_irrefl this
  · have := h.2.1.1 y z
    rw [e] at this; exact Int64.lt_irrefl this
def QFileR (Z : State) (a0 a1 : Addr) (q2 : Int64) (ar : Addr) (kA : ClassId) (ls : List Addr) (tk : Addr → Option Int64) (k : Nat) (h0 : Heap) (n0 : Nat) (v : Option Value) (h : Heap) (L : List Loc) : Prop :=
  ∃ (hs : List Addr) (τ : Addr → Int64) (N P : Addr → Value), v = none ∧ Fr n0 L ∧ h0.size ≤ h.size ∧ Rep Z h n0 a0 ar kA hs τ N P ls ∧ Inv hs τ N P ls (upd tk a1 (some q2)) ∧ hs.length ≤ k + 1
set_option maxRecDepth 65536 in
set_option maxHeartbeats 40000000 in
theorem rmFileR (l : Launch) (Z : State) (az : Array Value) (hw : ∀ d ∈ tables_1, d.before az Z = true) (ws : List Jvm.Cond) (a0 a1 : Addr) (q2 : Int64) (ar : Addr) (kA : ClassId) (hs : List Addr) (τ : Addr → Int64) (N P : Addr → Value) (ls : List Addr) (tk : Addr → Option Int64) (h0 : Heap) (n0 : Nat) (Z0 : n0 ≤ h0.size) (hR : Rep Z h0 n0 a0 ar kA hs τ N P ls) (hI : Inv hs τ N P ls tk) (hl : a1 ∈ ls) (ht : tk a1 = none) (hn : hs.length ≤ 2) :
    MetFree l y3 (head1 (Jvm.Cond.code y3 prog_4_method_5_code 5 none :: ws) ({ frames := 4, cells := 1, slots := 3, locals := 55 } : Room)) (fun a U => a = #[(.ref a0), (.ref a1), (.long q2)] ∧ Z.Warmed39 U.vm ∧ U.heap = h0) (fun _ _ _ _ _ => True) (fun _ U o U' => ∃ v L, o = .returned v ∧ QFileR Z a0 a1 q2 ar kA ls tk hs.length h0 n0 v U'.heap L ∧ FrameEnd U o U' L ({ frames := 4, cells := 1, slots := 3, locals := 55 } : Room).cells ({ frames := 4, cells := 1, slots := 3, locals := 55 } : Room).slots) := by
  have ap := hR.apart (wq hw 1 rfl) (wq hw 44 rfl) (wq hw 14 rfl)
  have hR' := hR
  obtain ⟨rE, rH, rC, rV, rO, gD, gA, rh, rl⟩ := hR'
  have ap' := ap
  obtain ⟨p1, p2, p3⟩ := ap'
  obtain ⟨gl, El, Nl, Pl⟩ := rl a1 hl
  rcases hs with _ | ⟨x1, _ | ⟨x2, _ | ⟨x3, r⟩⟩⟩
  · refine own_weak (rmFile0 l Z az hw ws a0 a1 q2 ar kA (N a1) (P a1) h0 n0 Z0 rE rH rC rV rO El Nl Pl p1 (p3 a1 hl).1 (p3 a1 hl).2.1 gD gA gl) (fun _ _ _ _ _ hq => ?_)
    obtain ⟨v, L, ho, hQ, hF⟩ := hq
    refine ⟨v, L, ho, ?_, hF⟩
    rcases hQ with ⟨b, hv, hN, K, sz, F1, F2, F3, F4, F5, F6, F7, F8, F9⟩
    exact ⟨[] ++ b :: [], _, _, _, hv, hN, K.1, Rep.new (pre := []) (post := []) hR ap hl K sz (Nat.le_trans Z0 sz) F1 F2 F3 F4 F5 F6 F7 F8 F9, Inv.insert (pre := []) (post := []) hI hl ht all0 all0 (hR.fresh sz).1 (hR.fresh sz).2, Nat.le_refl _⟩
  · have m1 : x1 ∈ [x1] := by simp
    obtain ⟨g1, E1, T1, N1, P1⟩ := rh x1 m1
    obtain ⟨z1, ez1, hz1, nz1⟩ := hI.last ht m1
    rw [ez1] at P1
    obtain ⟨gz1, Ez1, Nz1, Pz1⟩ := rl z1 hz1
    refine own_weak (rmFile1 l Z az hw ws a0 a1 q2 ar kA x1 (τ x1) (N a1) (P a1) z1 (N z1) (N x1) (P z1) h0 n0 Z0 rE rH rC rV rO E1 T1 El Nl Pl P1 Ez1 Nz1 N1 Pz1 p1 (p2 x1 m1).1 (p2 x1 m1).2 (p3 a1 hl).1 (p3 a1 hl).2.1 ((p3 a1 hl).2.2 x1 m1) (Ne.symm nz1) (Ne.symm ((p3 z1 hz1).2.2 x1 m1)) gD gA gl g1 gz1) (fun _ _ _ _ _ hq => ?_)
    obtain ⟨v, L, ho, hQ, hF⟩ := hq
    refine ⟨v, L, ho, ?_, hF⟩
    rcases hQ with ⟨c0, hv, hN, K, F1, F2, F3, F4, F5, F6, F7⟩ | ⟨b, c0, c1, hv, hN, K, sz, F1, F2, F3, F4, F5, F6, F7, F8, F9⟩ | ⟨b, c0, c1, hv, hN, K, sz, F1, F2, F3, F4, F5, F6, F7, F8, F9⟩
    · exact ⟨[x1], τ, _, _, hv, hN, K.1, hR.old ap hl m1 hz1 nz1 K F1 F2 F3 F4 F5 F6 F7, (hI.append hl ht m1 c0 ez1).2.2, Nat.le_succ _⟩
    · have hp := own_pos1_0 q2 (τ x1)  c1 
      exact ⟨[] ++ b :: [x1], _, _, _, hv, hN, K.1, Rep.new (pre := []) (post := [x1]) hR ap hl K sz (Nat.le_trans Z0 sz) F1 F2 F3 F4 F5 F6 F7 F8 F9, Inv.insert (pre := []) (post := [x1]) hI hl ht all0 (allS (hp) all0) (hR.fresh sz).1 (hR.fresh sz).2, Nat.le_refl _⟩
    · have hp := own_pos1_1 q2 (τ x1)  c1 c0
      exact ⟨[x1] ++ b :: [], _, _, _, hv, hN, K.1, Rep.new (pre := [x1]) (post := []) hR ap hl K sz (Nat.le_trans Z0 sz) F1 F2 F3 F4 F5 F6 F7 F8 F9, Inv.insert (pre := [x1]) (post := []) hI hl ht (allS (hp) all0) all0 (hR.fresh sz).1 (hR.fresh sz).2, Nat.le_refl _⟩
  · have m1 : x1 ∈ [x1, x2] := by simp
    obtain ⟨g1, E1, T1, N1, P1⟩ := rh x1 m1
    have m2 : x2 ∈ [x1, x2] := by simp
    obtain ⟨g2, E2, T2, N2, P2⟩ := rh x2 m2
    have s1 : τ x1 < τ x2 := (List.pairwise_cons.mp hI.1).1 x2 (by simp)
    obtain ⟨z1, ez1, hz1, nz1⟩ := hI.last ht m1
    rw [ez1] at P1
    obtain ⟨gz1, Ez1, Nz1, Pz1⟩ := rl z1 hz1
    obtain ⟨z2, ez2, hz2, nz2⟩ := hI.last ht m2
    rw [ez2] at P2
    obtain ⟨gz2, Ez2, Nz2, Pz2⟩ := rl z2 hz2
    refine own_weak (rmFile2 l Z az hw ws a0 a1 q2 ar kA x1 x2 (τ x1) (τ x2) (N a1) (P a1) z1 z2 (N z1) (N z2) (N x1) (N x2) (P z1) (P z2) h0 n0 Z0 rE rH rC rV rO E1 T1 E2 T2 El Nl Pl P1 Ez1 Nz1 N1 Pz1 P2 Ez2 Nz2 N2 Pz2 p1 (p2 x1 m1).1 (p2 x2 m2).1 (p2 x1 m1).2 (p2 x2 m2).2 (p3 a1 hl).1 (p3 a1 hl).2.1 ((p3 a1 hl).2.2 x1 m1) (Ne.symm nz1) (Ne.symm ((p3 z1 hz1).2.2 x1 m1)) ((p3 a1 hl).2.2 x2 m2) (Ne.symm nz2) (Ne.symm ((p3 z2 hz2).2.2 x2 m2)) gD gA gl g1 g2 gz1 gz2) (fun _ _ _ _ _ hq => ?_)
    obtain ⟨v, L, ho, hQ, hF⟩ := hq
    refine ⟨v, L, ho, ?_, hF⟩
    rcases hQ with ⟨c0, hv, hN, K, F1, F2, F3, F4, F5, F6, F7⟩ | ⟨b, c0, c1, hv, hN, K, sz, F1, F2, F3, F4, F5, F6, F7, F8, F9⟩ | ⟨c0, c1, c2, hv, hN, K, F1, F2, F3, F4, F5, F6, F7⟩ | ⟨b, c0, c1, c2, hv, hN, K, sz, F1, F2, F3, F4, F5, F6, F7, F8, F9⟩ | ⟨b, c0, c1, hv, hN, K, sz, F1, F2, F3, F4, F5, F6, F7, F8, F9⟩
    · exact ⟨[x1, x2], τ, _, _, hv, hN, K.1, hR.old ap hl m2 hz2 nz2 K F1 F2 F3 F4 F5 F6 F7, (hI.append hl ht m2 c0 ez2).2.2, Nat.le_succ _⟩
    · have hp := own_pos2_0 q2 (τ x1) (τ x2) s1 c1 
      exact ⟨[] ++ b :: [x1, x2], _, _, _, hv, hN, K.1, Rep.new (pre := []) (post := [x1, x2]) hR ap hl K sz (Nat.le_trans Z0 sz) F1 F2 F3 F4 F5 F6 F7 F8 F9, Inv.insert (pre := []) (post := [x1, x2]) hI hl ht all0 (allS (hp.1) (allS (hp.2) all0)) (hR.fresh sz).1 (hR.fresh sz).2, Nat.le_refl _⟩
    · exact ⟨[x1, x2], τ, _, _, hv, hN, K.1, hR.old ap hl m1 hz1 nz1 K F1 F2 F3 F4 F5 F6 F7, (hI.append hl ht m1 c2 ez1).2.2, Nat.le_succ _⟩
    · have hp := own_pos2_1 q2 (τ x1) (τ x2) s1 c1 c2
      exact ⟨[x1] ++ b :: [x2], _, _, _, hv, hN, K.1, Rep.new (pre := [x1]) (post := [x2]) hR ap hl K sz (Nat.le_trans Z0 sz) F1 F2 F3 F4 F5 F6 F7 F8 F9, Inv.insert (pre := [x1]) (post := [x2]) hI hl ht (allS (hp.1) all0) (allS (hp.2) all0) (hR.fresh sz).1 (hR.fresh sz).2, Nat.le_refl _⟩
    · have hp := own_pos2_2 q2 (τ x1) (τ x2) s1 c1 c0
      exact ⟨[x1, x2] ++ b :: [], _, _, _, hv, hN, K.1, Rep.new (pre := [x1, x2]) (post := []) hR ap hl K sz (Nat.le_trans Z0 sz) F1 F2 F3 F4 F5 F6 F7 F8 F9, Inv.insert (pre := [x1, x2]) (post := []) hI hl ht (allS (hp.1) (allS (hp.2) all0)) all0 (hR.fresh sz).1 (hR.fresh sz).2, Nat.le_refl _⟩
  · exact absurd hn (by simp)
def QRemR (Z : State) (a0 a1 : Addr) (ar : Addr) (kA : ClassId) (ls : List Addr) (tk : Addr → Option Int64) (k : Nat) (h0 : Heap) (n0 : Nat) (v : Option Value) (h : Heap) (L : List Loc) : Prop :=
  ∃ (hs : List Addr) (τ : Addr → Int64) (N P : Addr → Value), v = none ∧ Fr n0 L ∧ h0.size ≤ h.size ∧ Rep Z h n0 a0 ar kA hs τ N P ls ∧ Inv hs τ N P ls (upd tk a1 none) ∧ hs.length ≤ k
set_option maxRecDepth 65536 in
set_option maxHeartbeats 40000000 in
theorem rmRemR (l : Launch) (Z : State) (az : Array Value) (hw : ∀ d ∈ tables_1, d.before az Z = true) (ws : List Jvm.Cond) (a0 a1 : Addr) (t : Int64) (ar : Addr) (kA : ClassId) (hs : List Addr) (τ : Addr → Int64) (N P : Addr → Value) (ls : List Addr) (tk : Addr → Option Int64) (h0 : Heap) (n0 : Nat) (Z0 : n0 ≤ h0.size) (hR : Rep Z h0 n0 a0 ar kA hs τ N P ls) (hI : Inv hs τ N P ls tk) (hl : a1 ∈ ls) (ht : tk a1 = some t) (hn : hs.length ≤ 2) :
    MetFree l y7 (head1 (Jvm.Cond.code y7 prog_4_method_6_code 3 none :: ws) ({ frames := 2, cells := 0, slots := 0, locals := 32 } : Room)) (fun a U => a = #[(.ref a0), (.ref a1)] ∧ Z.Warmed39 U.vm ∧ U.heap = h0) (fun _ _ _ _ _ => True) (fun _ U o U' => ∃ v L, o = .returned v ∧ QRemR Z a0 a1 ar kA ls tk hs.length h0 n0 v U'.heap L ∧ FrameEnd U o U' L ({ frames := 2, cells := 0, slots := 0, locals := 32 } : Room).cells ({ frames := 2, cells := 0, slots := 0, locals := 32 } : Room).slots) := by
  have ap := hR.apart (wq hw 1 rfl) (wq hw 44 rfl) (wq hw 14 rfl)
  have hR' := hR
  obtain ⟨rE, rH, rC, rV, rO, gD, gA, rh, rl⟩ := hR'
  have ap' := ap
  obtain ⟨p1, p2, p3⟩ := ap'
  obtain ⟨gl, El, Nl, Pl⟩ := rl a1 hl
  obtain ⟨u, w, eu, ew⟩ := hI.sides hl ht
  obtain ⟨c1, c2, c3, c4, c5, c6⟩ := hI.cut hl ht eu ew
  rw [eu] at Pl
  rw [ew] at Nl
  by_cases e : u = w
  · subst e
    obtain ⟨hu, etu, hdrop⟩ := c6 rfl
    rcases hs with _ | ⟨x1, _ | ⟨x2, _ | ⟨x3, r⟩⟩⟩
    · exact nomatch hu
    · have m1 : x1 ∈ [x1] := by simp
      obtain ⟨g1, E1, T1, N1, P1⟩ := rh x1 m1
      have hu' : u = x1 := by simpa using hu
      have e1 := hu'
      rw [e1] at Pl Nl hdrop
      refine own_weak (rmRemL1_1 l Z az hw ws a0 a1 ar kA x1 (τ x1) (N x1) (P x1) h0 n0 Z0 rE rH rC rV rO E1 T1 El Pl Nl N1 P1 p1 (p2 x1 m1).1 (p2 x1 m1).2 (p3 a1 hl).1 (p3 a1 hl).2.1 ((p3 a1 hl).2.2 x1 m1) gD gA gl g1 (own_hd1_1 (τ x1) )) (fun _ _ _ _ _ hq => ?_)
      obtain ⟨v, L, ho, hQ, hF⟩ := hq
      refine ⟨v, L, ho, ?_, hF⟩
      obtain ⟨hv, hN, K, F1, F2, F3, F4, F5⟩ := hQ
      exact ⟨[] ++ [], τ, _, _, hv, hN, K.1, Rep.drop (pre := []) (post := []) hR ap (own_nu (pre := []) (post := []) hI.1) hl K F1 F2 F3 F4 F5, hdrop [] [] rfl, Nat.le_succ _⟩
    · have m1 : x1 ∈ [x1, x2] := by simp
      obtain ⟨g1, E1, T1, N1, P1⟩ := rh x1 m1
      have m2 : x2 ∈ [x1, x2] := by simp
      obtain ⟨g2, E2, T2, N2, P2⟩ := rh x2 m2
      have s1 : τ x1 < τ x2 := (List.pairwise_cons.mp hI.1).1 x2 (by simp)
      have hu' : u = x1 ∨ u = x2 := by simpa using hu
      rcases hu' with e1 | e2
      · rw [e1] at Pl Nl hdrop
        refine own_weak (rmRemL2_1 l Z az hw ws a0 a1 ar kA x1 x2 (τ x1) (τ x2) (N x1) (P x1) h0 n0 Z0 rE rH rC rV rO E1 T1 E2 T2 El Pl Nl N1 P1 p1 (p2 x1 m1).1 (p2 x2 m2).1 (p2 x1 m1).2 (p2 x2 m2).2 (p3 a1 hl).1 (p3 a1 hl).2.1 ((p3 a1 hl).2.2 x1 m1) ((p3 a1 hl).2.2 x2 m2) (own_hne s1) gD gA gl g1 (own_hd2_1 (τ x1) (τ x2) s1)) (fun _ _ _ _ _ hq => ?_)
        obtain ⟨v, L, ho, hQ, hF⟩ := hq
        refine ⟨v, L, ho, ?_, hF⟩
        obtain ⟨hv, hN, K, F1, F2, F3, F4, F5⟩ := hQ
        exact ⟨[] ++ [x2], τ, _, _, hv, hN, K.1, Rep.drop (pre := []) (post := [x2]) hR ap (own_nu (pre := []) (post := [x2]) hI.1) hl K F1 F2 F3 F4 F5, hdrop [] [x2] rfl, Nat.le_succ _⟩
      · rw [e2] at Pl Nl hdrop
        refine own_weak (rmRemL2_2 l Z az hw ws a0 a1 ar kA x1 x2 (τ x1) (τ x2) (N x2) (P x2) h0 n0 Z0 rE rH rC rV rO E1 T1 E2 T2 El Pl Nl N2 P2 p1 (p2 x1 m1).1 (p2 x2 m2).1 (p2 x1 m1).2 (p2 x2 m2).2 (p3 a1 hl).1 (p3 a1 hl).2.1 ((p3 a1 hl).2.2 x1 m1) ((p3 a1 hl).2.2 x2 m2) (Ne.symm (own_hne s1)) gD gA gl g2 (own_hd2_2 (τ x1) (τ x2) s1)) (fun _ _ _ _ _ hq => ?_)
        obtain ⟨v, L, ho, hQ, hF⟩ := hq
        refine ⟨v, L, ho, ?_, hF⟩
        obtain ⟨hv, hN, K, F1, F2, F3, F4, F5⟩ := hQ
        exact ⟨[x1] ++ [], τ, _, _, hv, hN, K.1, Rep.drop (pre := [x1]) (post := []) hR ap (own_nu (pre := [x1]) (post := []) hI.1) hl K F1 F2 F3 F4 F5, hdrop [x1] [] rfl, Nat.le_succ _⟩
    · exact absurd hn (by simp)
  · rcases c3 with hu | hu <;> rcases c4 with hv | hv
    · obtain ⟨gu, Eu, Tu, Nu, Pu⟩ := rh u hu
      obtain ⟨gv, Ev, Tv, Nv, Pv⟩ := rh w hv
      refine own_weak (rmRemHH l Z az hw ws a0 a1 u w (N u) (P u) (N w) (P w) (τ u) (τ w)  h0 n0 Z0 El Pl Nl Eu Nu Pu Ev Nv Pv Tu Tv  (Ne.symm c1) (Ne.symm c2) e gl gu gv) (fun _ _ _ _ _ hq => ?_)
      obtain ⟨v, L, ho, hQ, hF⟩ := hq
      refine ⟨v, L, ho, ?_, hF⟩
      obtain ⟨hv', hN, K, F1, F2, F3, F4, F5, F6, Fu, Fv⟩ := hQ
      exact ⟨hs, τ, _, _, hv', hN, K.1, hR.cut ap hl (Or.inl hu) (Or.inl hv) c1 c2 e K F1 F2 F3 F4 F5 F6 (fun _ => Fu) (fun _ => Fv), c5 e, Nat.le_refl _⟩
    · obtain ⟨gu, Eu, Tu, Nu, Pu⟩ := rh u hu
      obtain ⟨gv, Ev, Nv, Pv⟩ := rl w hv
      refine own_weak (rmRemHL l Z az hw ws a0 a1 u w (N u) (P u) (N w) (P w) (τ u)  h0 n0 Z0 El Pl Nl Eu Nu Pu Ev Nv Pv Tu  (Ne.symm c1) (Ne.symm c2) e gl gu gv) (fun _ _ _ _ _ hq => ?_)
      obtain ⟨v, L, ho, hQ, hF⟩ := hq
      refine ⟨v, L, ho, ?_, hF⟩
      obtain ⟨hv', hN, K, F1, F2, F3, F4, F5, F6, Fu⟩ := hQ
      exact ⟨hs, τ, _, _, hv', hN, K.1, hR.cut ap hl (Or.inl hu) (Or.inr hv) c1 c2 e K F1 F2 F3 F4 F5 F6 (fun _ => Fu) (fun q => absurd rfl ((p3 w hv).2.2 w q)), c5 e, Nat.le_refl _⟩
    · obtain ⟨gu, Eu, Nu, Pu⟩ := rl u hu
      obtain ⟨gv, Ev, Tv, Nv, Pv⟩ := rh w hv
      refine own_weak (rmRemLH l Z az hw ws a0 a1 u w (N u) (P u) (N w) (P w) (τ w)  h0 n0 Z0 El Pl Nl Eu Nu Pu Ev Nv Pv Tv  (Ne.symm c1) (Ne.symm c2) e gl gu gv) (fun _ _ _ _ _ hq => ?_)
      obtain ⟨v, L, ho, hQ, hF⟩ := hq
      refine ⟨v, L, ho, ?_, hF⟩
      obtain ⟨hv', hN, K, F1, F2, F3, F4, F5, F6, Fv⟩ := hQ
      exact ⟨hs, τ, _, _, hv', hN, K.1, hR.cut ap hl (Or.inr hu) (Or.inl hv) c1 c2 e K F1 F2 F3 F4 F5 F6 (fun q => absurd rfl ((p3 u hu).2.2 u q)) (fun _ => Fv), c5 e, Nat.le_refl _⟩
    · obtain ⟨gu, Eu, Nu, Pu⟩ := rl u hu
      obtain ⟨gv, Ev, Nv, Pv⟩ := rl w hv
      refine own_weak (rmRemLL l Z az hw ws a0 a1 u w (N u) (P u) (N w) (P w)  h0 n0 Z0 El Pl Nl Eu Nu Pu Ev Nv Pv  (Ne.symm c1) (Ne.symm c2) e gl gu gv) (fun _ _ _ _ _ hq => ?_)
      obtain ⟨v, L, ho, hQ, hF⟩ := hq
      refine ⟨v, L, ho, ?_, hF⟩
      obtain ⟨hv', hN, K, F1, F2, F3, F4, F5, F6⟩ := hQ
      exact ⟨hs, τ, _, _, hv', hN, K.1, hR.cut ap hl (Or.inr hu) (Or.inr hv) c1 c2 e K F1 F2 F3 F4 F5 F6 (fun q => absurd rfl ((p3 u hu).2.2 u q)) (fun q => absurd rfl ((p3 w hv).2.2 w q)), c5 e, Nat.le_refl _⟩
theorem Inv.none {τ : Addr → Int64} {P : Addr → Value} (ls : List Addr) : Inv [] τ (fun _ => .null) P ls (fun _ => none) :=
  ⟨List.Pairwise.nil, (fun _ q => nomatch q), (fun _ q => nomatch q), (fun _ _ _ => rfl), (fun _ _ _ q => nomatch q)⟩
theorem Rep.nextN {Z : State} {h : Heap} {n0 : Nat} {D A : Addr} {kA : ClassId} {hs : List Addr} {τ : Addr → Int64} {N P : Addr → Value} {ls : List Addr} {tk : Addr → Option Int64} (hR : Rep Z h n0 D A kA hs τ N P ls) (hI : Inv hs τ N P ls tk) {l : Addr} (hl : l ∈ ls) (ht : tk l = none) : Fld Z h l cL "next" dL .null := by
  obtain ⟨-, -, -, -, -, -, -, -, rl⟩ := hR
  have q := (rl l hl).2.2.1
  rw [hI.2.2.2.1 l hl ht] at q
  exact q
theorem Rep.nextY {Z : State} {h : Heap} {n0 : Nat} {D A : Addr} {kA : ClassId} {hs : List Addr} {τ : Addr → Int64} {N P : Addr → Value} {ls : List Addr} {tk : Addr → Option Int64} (hR : Rep Z h n0 D A kA hs τ N P ls) (hI : Inv hs τ N P ls tk) {l : Addr} (hl : l ∈ ls) {t : Int64} (ht : tk l = some t) : ∃ w, Fld Z h l cL "next" dL (.ref w) := by
  obtain ⟨-, -, -, -, -, -, -, -, rl⟩ := hR
  obtain ⟨u, w, eu, ew⟩ := hI.sides hl ht
  have q := (rl l hl).2.2.1
  rw [ew] at q
  exact ⟨w, q⟩
def IsMin (ls : List Addr) (tk : Addr → Option Int64) (r : Int64) : Prop := ((∀ l ∈ ls, tk l = none) ∧ r = (9223372036854775807 : Int64)) ∨ ((∃ l ∈ ls, tk l = some r) ∧ ∀ l ∈ ls, ∀ t, tk l = some t → ¬ t < r)
theorem own_len4 {hs : List Addr} (h0 : hs ≠ []) (h4 : hs.length ≤ 4) : ¬ (Int32.ofNat hs.length = (0 : Int32)) := by
  have h1 : hs.length ≠ 0 := fun q => h0 (List.length_eq_zero_iff.mp q)
  have c : hs.length = 1 ∨ hs.length = 2 ∨ hs.length = 3 ∨ hs.length = 4 := by omega
  rcases c with c | c | c | c <;> rw [c] <;> decide

theorem own_pd5 : parseMethodDescriptor "(Lcom/example/admit_one/admitone/engine/DueOrder$Link;)Z" = some ⟨[(.object cL)], some .boolean⟩ := by decide +kernel
theorem own_pd6 : parseMethodDescriptor "(Lcom/example/admit_one/admitone/engine/DueOrder$Link;J)V" = some ⟨[(.object cL), .long], none⟩ := by decide +kernel
theorem own_pd7 : parseMethodDescriptor "(Lcom/example/admit_one/admitone/engine/DueOrder$Link;)V" = some ⟨[(.object cL)], none⟩ := by decide +kernel
def Q0 (Z : State) (q0 : Int64) (q1 : Int64) (p2 : Int32) (h0 : Heap) (n0 : Nat) (v : Option Value) (h : Heap) (L : List Loc) : Prop := v = some (.int 1) ∧ Fr n0 L
theorem own_pn_com_example_admit_one_admitone_engine_DueOrderIsFiledPinLaw : plainName "com/example/admit_one/admitone/engine/DueOrderIsFiledPinLaw" = true := by first | (simp [plainName, overriddenIn]; done) | decide +kernel
theorem ef0 (m : MethodId) (x0 : Int64) (x1 : Int64) (x2 : Int32) : entryFrame m #[(.long x0), (.long x1), (.int x2)] maxLocals = mkF m 0 #[.val (.long x0), .second, .val (.long x1), .second, .val (.int x2), .unset, .unset, .unset, .unset, .unset, .unset] [] := by first | (simp [entryFrame, mkF, argsToLocals, Value.category, maxLocals]; done) | rfl
set_option maxRecDepth 65536 in
set_option maxHeartbeats 40000000 in
theorem rm0 (l : Launch) (Z : State) (az : Array Value) (hw : ∀ d ∈ tables_1, d.before az Z = true) (ws : List Jvm.Cond) (q0 : Int64) (q1 : Int64) (p2 : Int32) (h0 : Heap) (n0 : Nat) (Z0 : n0 ≤ h0.size) :
    MetFree l x (head1 (Jvm.Cond.code x code maxLocals ret :: ws) room_1) (fun a U => a = #[(.long q0), (.long q1), (.int p2)] ∧ Z.Warmed39 U.vm ∧ U.heap = h0) (fun _ _ _ _ _ => True) (fun _ U o U' => ∃ v L, o = .returned v ∧ Q0 Z q0 q1 p2 h0 n0 v U'.heap L ∧ FrameEnd U o U' L 7 19) := by
  refine MetFree.of_bodySF (plainFor_of_name own_pn_com_example_admit_one_admitone_engine_DueOrderIsFiledPinLaw) hisR ?_
  intro p e s m args below meth c s₁ Bd hml0 hP hK
  obtain ⟨rfl, hZ, hh⟩ := hP
  have hx := Bd.exec
  have hby := Bd.bytes
  have hml : c.maxLocals = 11 := hml0
  have hown : s.vm.findClass "com/example/admit_one/admitone/engine/DueOrderIsFiledPinLaw" = some m.cls := findClass_of_methodNamed Bd.named
  have hnm := (name_of_methodNamed Bd.named Bd.method).1
  have X0 : Stand p l e room_1 s m #[(.long q0), (.long q1), (.int p2)] below meth c s₁ [] 0 0 := Stand.of_body Bd
  have e0 : s₁.heap = h0 := by rw [← hh, Bd.state]; rfl
  have N0 := Fr.nil n0
  have Kp0 : Keep h0 h0 [] := Keep.refl _ _
  refine Goes.start ?_
  refine Goes.by (B := s₁.setTop (mkF m 0 #[.val (.long q0), .second, .val (.long q1), .second, .val (.int p2), .unset, .unset, .unset, .unset, .unset, .unset] [])) (fun t k => castTop (ef0 m q0 q1 p2) k) ?_
  obtain ⟨T1, h1, X1, e1, E1, A1, D1, -, st1⟩ := newO X0 hx hZ hown (wq hw 0 rfl) (wq hw 1 rfl) (wq hw 2 rfl) e0 (g := (mkF m 0 #[.val (.long q0), .second, .val (.long q1), .second, .val (.int p2), .unset, .unset, .unset, .unset, .unset, .unset] [])) rfl (hb hby at_0) (by decide) (by decide)
  obtain ⟨b2, g1⟩ : ∃ z, z = h0.size := ⟨_, rfl⟩
  rw [← g1] at A1 D1 st1
  have ge3 : n0 ≤ b2 := Nat.le_trans Z0 (Nat.le_of_eq g1.symm)
  have sz4 : h0.size ≤ b2 := Nat.le_trans Kp0.1 (Nat.le_of_eq g1.symm)
  have f5 : Fld Z h1 b2 cD "heads" dA .null := D1 (Or.inl (wq hw 12 rfl)) (ty := (.array (.object cH))) (by decide)
  have f6 : Fld Z h1 b2 cD "count" "I" (.int (0 : Int32)) := D1 (Or.inl (wq hw 35 rfl)) (ty := .int) (by decide)
  have Kp1 : Keep h0 h1 [] := Kp0.ext E1
  have Z7 : n0 ≤ h1.size := Nat.le_trans Z0 E1.1
  refine Goes.by st1 ?_
  clear X0
  refine Goes.by (B := T1.setTop (mkF m 4 #[.val (.long q0), .second, .val (.long q1), .second, .val (.int p2), .unset, .unset, .unset, .unset, .unset, .unset] [(.ref b2), (.ref b2)])) (fun t k => ?_) ?_
  · refine XS.dup X1.here hx rfl (hb hby at_3) rfl rfl ?_
    exact k
  obtain ⟨_, _, ⟨T8, L8, k8, n8⟩, -, X8, ⟨Lc8, hQ8, l8, y8, z8⟩, st8⟩ := X1.specialBack hx (y := y0) rfl hown (mvT hZ (wq hw 3 rfl)) (mvT hZ (wq hw 4 rfl)) (mvT hZ (wq hw 5 rfl)) (by decide) (backOf (W := 1) (rmDueI l Z az hw [] b2 h1 n0 Z7 A1 f5 f6 ge3) hZ (wq hw 5 rfl) (wq hw 2 rfl) (by decide) (by decide)) (g := (mkF m 4 #[.val (.long q0), .second, .val (.long q1), .second, .val (.int p2), .unset, .unset, .unset, .unset, .unset, .unset] [(.ref b2), (.ref b2)])) rfl (by rw [hml]; rfl) (Steps.refl _) (a := b2) (argsL := []) (rest := [(.ref b2)]) (lenOf own_pd0 rfl) rfl (by show 2 * 0 + _ ≤ _; exact Nat.le_of_eq rfl) (hb hby at_4) (fun _ _ => ⟨rfl, e1, (by decide : 1 + 1 ≤ _), (by decide : 2 + 4 ≤ _)⟩)
  dsimp only [Pt.U, Pt.locs, Pt.cells, Pt.slots] at X8 l8 y8 z8 st8 hQ8
  subst l8 y8 z8
  replace X8 : Stand p l e room_1 s m #[(.long q0), (.long q1), (.int p2)] below meth c T8 _ 2 6 := X8
  obtain ⟨b9, c10, rfl, N8q, K8, sz16, f11, f12, f13, f14, f15⟩ := hQ8
  have ne17 : b2 ≠ b9 := Nat.ne_of_lt (Nat.lt_of_lt_of_le A1.lt sz16)
  have ge18 : n0 ≤ b9 := Nat.le_trans Z7 sz16
  have sz19 : h0.size ≤ b9 := Nat.le_trans Kp1.1 sz16
  have f20 : Exa Z T8.heap b2 cD := A1.keep K8
  have Kp8 : Keep h0 T8.heap [] := Kp1.trans K8 (allS (Or.inr sz4) all0)
  have Z21 : n0 ≤ T8.heap.size := Nat.le_trans Z7 K8.1
  have N22 := Fr.app N0 N8q
  refine Goes.by (fun _ k => st8.trans k) ?_
  clear f5 f6 X1 N0 Z7 Kp1 e1
  refine Goes.by (B := T8.setTop (mkF m 9 #[.val (.long q0), .second, .val (.long q1), .second, .val (.int p2), .val (.ref b2), .unset, .unset, .unset, .unset, .unset] [])) (fun t k => ?_) ?_
  · refine XS.astore X8.here hx rfl (hb hby at_7) rfl rfl (l' := #[.val (.long q0), .second, .val (.long q1), .second, .val (.int p2), .val (.ref b2), .unset, .unset, .unset, .unset, .unset]) rfl ?_
    exact k
  obtain ⟨T23, h23, X23, e23, E23, A23, D23, -, st23⟩ := newO X8 hx hZ hown (wq hw 13 rfl) (wq hw 14 rfl) (wq hw 15 rfl) rfl (g := (mkF m 9 #[.val (.long q0), .second, .val (.long q1), .second, .val (.int p2), .val (.ref b2), .unset, .unset, .unset, .unset, .unset] [])) rfl (hb hby at_9) (by decide) (by decide)
  obtain ⟨b24, g23⟩ : ∃ z, z = T8.heap.size := ⟨_, rfl⟩
  rw [← g23] at A23 D23 st23
  have ne25 : b2 ≠ b24 := Nat.ne_of_lt (Nat.lt_of_lt_of_le f11.lt (Nat.le_of_eq g23.symm))
  have ne26 : b9 ≠ b24 := Nat.ne_of_lt (Nat.lt_of_lt_of_le f14.lt (Nat.le_of_eq g23.symm))
  have ge27 : n0 ≤ b24 := Nat.le_trans Z21 (Nat.le_of_eq g23.symm)
  have sz28 : h0.size ≤ b24 := Nat.le_trans Kp8.1 (Nat.le_of_eq g23.symm)
  have f29 : Exa Z h23 b2 cD := f11.ext E23
  have f30 : Fld Z h23 b2 cD "heads" dA (.ref b9) := f12.ext E23
  have f31 : Fld Z h23 b2 cD "count" "I" (.int (0 : Int32)) := f13.ext E23
  have f32 : Arv Z h23 b9 c10 (.object cH) (4 : Int32) [.null, .null, .null, .null] .null := f14.ext E23
  have f33 : Fld Z h23 b24 cL "next" dL .null := D23 (Or.inl (wq hw 24 rfl)) (ty := (.object cL)) (by decide)
  have f34 : Fld Z h23 b24 cL "prev" dL .null := D23 (Or.inl (wq hw 59 rfl)) (ty := (.object cL)) (by decide)
  have Kp23 : Keep h0 h23 [] := Kp8.ext E23
  have Z35 : n0 ≤ h23.size := Nat.le_trans Z21 E23.1
  refine Goes.by st23 ?_
  clear f11 f12 f13 f14 X8 Z21 Kp8
  refine Goes.by (B := T23.setTop (mkF m 13 #[.val (.long q0), .second, .val (.long q1), .second, .val (.int p2), .val (.ref b2), .unset, .unset, .unset, .unset, .unset] [(.ref b24), (.ref b24)])) (fun t k => ?_) ?_
  · refine XS.dup X23.here hx rfl (hb hby at_12) rfl rfl ?_
    exact k
  obtain ⟨_, _, ⟨T36, L36, k36, n36⟩, -, X36, ⟨Lc36, hQ36, l36, y36, z36⟩, st36⟩ := X23.specialBack hx (y := y1) rfl hown (mvT hZ (wq hw 16 rfl)) (mvT hZ (wq hw 17 rfl)) (mvT hZ (wq hw 18 rfl)) (by decide) (backOf (W := 1) (rmLinkI l Z az hw [] b24 h23 n0 Z35 ) hZ (wq hw 18 rfl) (wq hw 15 rfl) (by decide) (by decide)) (g := (mkF m 13 #[.val (.long q0), .second, .val (.long q1), .second, .val (.int p2), .val (.ref b2), .unset, .unset, .unset, .unset, .unset] [(.ref b24), (.ref b24)])) rfl (by rw [hml]; rfl) (Steps.refl _) (a := b24) (argsL := []) (rest := [(.ref b24)]) (lenOf own_pd0 rfl) rfl (by show 2 * 0 + _ ≤ _; exact Nat.le_of_eq rfl) (hb hby at_13) (fun _ _ => ⟨rfl, e23, (by decide : 3 + 0 ≤ _), (by decide : 8 + 0 ≤ _)⟩)
  dsimp only [Pt.U, Pt.locs, Pt.cells, Pt.slots] at X36 l36 y36 z36 st36 hQ36
  subst l36 y36 z36
  replace X36 : Stand p l e room_1 s m #[(.long q0), (.long q1), (.int p2)] below meth c T36 _ 3 8 := X36
  obtain ⟨rfl, N36q, e36⟩ := hQ36
  have N37 := Fr.app N22 N36q
  refine Goes.by (fun _ k => st36.trans k) ?_
  clear X23 N22 e23
  refine Goes.by (B := T36.setTop (mkF m 18 #[.val (.long q0), .second, .val (.long q1), .second, .val (.int p2), .val (.ref b2), .val (.ref b24), .unset, .unset, .unset, .unset] [])) (fun t k => ?_) ?_
  · refine XS.astore X36.here hx rfl (hb hby at_16) rfl rfl (l' := #[.val (.long q0), .second, .val (.long q1), .second, .val (.int p2), .val (.ref b2), .val (.ref b24), .unset, .unset, .unset, .unset]) rfl ?_
    exact k
  obtain ⟨T38, h38, X38, e38, E38, A38, D38, -, st38⟩ := newO X36 hx hZ hown (wq hw 13 rfl) (wq hw 14 rfl) (wq hw 15 rfl) e36 (g := (mkF m 18 #[.val (.long q0), .second, .val (.long q1), .second, .val (.int p2), .val (.ref b2), .val (.ref b24), .unset, .unset, .unset, .unset] [])) rfl (hb hby at_18) (by decide) (by decide)
  obtain ⟨b39, g38⟩ : ∃ z, z = h23.size := ⟨_, rfl⟩
  rw [← g38] at A38 D38 st38
  have ne40 : b2 ≠ b39 := Nat.ne_of_lt (Nat.lt_of_lt_of_le f29.lt (Nat.le_of_eq g38.symm))
  have ne41 : b9 ≠ b39 := Nat.ne_of_lt (Nat.lt_of_lt_of_le f32.lt (Nat.le_of_eq g38.symm))
  have ne42 : b24 ≠ b39 := Nat.ne_of_lt (Nat.lt_of_lt_of_le A23.lt (Nat.le_of_eq g38.symm))
  have ge43 : n0 ≤ b39 := Nat.le_trans Z35 (Nat.le_of_eq g38.symm)
  have sz44 : h0.size ≤ b39 := Nat.le_trans Kp23.1 (Nat.le_of_eq g38.symm)
  have f45 : Exa Z h38 b2 cD := f29.ext E38
  have f46 : Fld Z h38 b2 cD "heads" dA (.ref b9) := f30.ext E38
  have f47 : Fld Z h38 b2 cD "count" "I" (.int (0 : Int32)) := f31.ext E38
  have f48 : Arv Z h38 b9 c10 (.object cH) (4 : Int32) [.null, .null, .null, .null] .null := f32.ext E38
  have f49 : Exa Z h38 b24 cL := A23.ext E38
  have f50 : Fld Z h38 b24 cL "next" dL .null := f33.ext E38
  have f51 : Fld Z h38 b24 cL "prev" dL .null := f34.ext E38
  have f52 : Fld Z h38 b39 cL "next" dL .null := D38 (Or.inl (wq hw 24 rfl)) (ty := (.object cL)) (by decide)
  have f53 : Fld Z h38 b39 cL "prev" dL .null := D38 (Or.inl (wq hw 59 rfl)) (ty := (.object cL)) (by decide)
  have Kp38 : Keep h0 h38 [] := Kp23.ext E38
  have Z54 : n0 ≤ h38.size := Nat.le_trans Z35 E38.1
  refine Goes.by st38 ?_
  clear f29 f30 f31 f32 f33 f34 X36 Z35 Kp23 e36
  refine Goes.by (B := T38.setTop (mkF m 22 #[.val (.long q0), .second, .val (.long q1), .second, .val (.int p2), .val (.ref b2), .val (.ref b24), .unset, .unset, .unset, .unset] [(.ref b39), (.ref b39)])) (fun t k => ?_) ?_
  · refine XS.dup X38.here hx rfl (hb hby at_21) rfl rfl ?_
    exact k
  obtain ⟨_, _, ⟨T55, L55, k55, n55⟩, -, X55, ⟨Lc55, hQ55, l55, y55, z55⟩, st55⟩ := X38.specialBack hx (y := y1) rfl hown (mvT hZ (wq hw 16 rfl)) (mvT hZ (wq hw 17 rfl)) (mvT hZ (wq hw 18 rfl)) (by decide) (backOf (W := 1) (rmLinkI l Z az hw [] b39 h38 n0 Z54 ) hZ (wq hw 18 rfl) (wq hw 15 rfl) (by decide) (by decide)) (g := (mkF m 22 #[.val (.long q0), .second, .val (.long q1), .second, .val (.int p2), .val (.ref b2), .val (.ref b24), .unset, .unset, .unset, .unset] [(.ref b39), (.ref b39)])) rfl (by rw [hml]; rfl) (Steps.refl _) (a := b39) (argsL := []) (rest := [(.ref b39)]) (lenOf own_pd0 rfl) rfl (by show 2 * 0 + _ ≤ _; exact Nat.le_of_eq rfl) (hb hby at_22) (fun _ _ => ⟨rfl, e38, (by decide : 4 + 0 ≤ _), (by decide : 10 + 0 ≤ _)⟩)
  dsimp only [Pt.U, Pt.locs, Pt.cells, Pt.slots] at X55 l55 y55 z55 st55 hQ55
  subst l55 y55 z55
  replace X55 : Stand p l e room_1 s m #[(.long q0), (.long q1), (.int p2)] below meth c T55 _ 4 10 := X55
  obtain ⟨rfl, N55q, e55⟩ := hQ55
  have N56 := Fr.app N37 N55q
  refine Goes.by (fun _ k => st55.trans k) ?_
  clear X38 N37 e38
  refine Goes.by (B := T55.setTop (mkF m 27 #[.val (.long q0), .second, .val (.long q1), .second, .val (.int p2), .val (.ref b2), .val (.ref b24), .val (.ref b39), .unset, .unset, .unset] [])) (fun t k => ?_) ?_
  · refine XS.astore X55.here hx rfl (hb hby at_25) rfl rfl (l' := #[.val (.long q0), .second, .val (.long q1), .second, .val (.int p2), .val (.ref b2), .val (.ref b24), .val (.ref b39), .unset, .unset, .unset]) rfl ?_
    exact k
  have R57 : Rep Z h38 n0 b2 b9 c10 [] (fun _ => 0) (fun _ => .null) (fun _ => .null) [b24, b39] := by
    refine ⟨f45, f46, f47, f48, f15, ge3, ge18, (fun _ q => nomatch q), (fun y hy => ?_)⟩
    simp only [List.mem_cons, List.not_mem_nil, or_false] at hy
    rcases hy with e | e
    · rw [e]; exact ⟨ge27, f49, f50, f51⟩
    · rw [e]; exact ⟨ge43, A38, f52, f53⟩
  have I58 : Inv [] (fun _ => 0) (fun _ => .null) (fun _ => .null) [b24, b39] (fun _ => none) := Inv.none _
  obtain ⟨tk59, etk59⟩ : ∃ z : Addr → Option Int64, z = (fun _ => none) := ⟨_, rfl⟩
  rw [← etk59] at I58
  have v60 : tk59 b24 = none := by rw [etk59]
  have v61 : tk59 b39 = none := by rw [etk59]
  have le62 : ([] : List Addr).length ≤ 0 := Nat.le_refl _
  refine Goes.by (B := T55.setTop (mkF m 31 #[.val (.long q0), .second, .val (.long q1), .second, .val (.int p2), .val (.ref b2), .val (.ref b24), .val (.ref b39), .unset, .unset, .unset] [(.int (p2 &&& (1 : Int32)))])) (fun t k => ?_) ?_
  · refine XS.iload X55.here hx rfl (hb hby at_27) rfl ?_
    refine XS.iconst X55.here hx rfl (hb hby at_29) ?_
    refine XS.iand X55.here hx rfl (hb hby at_30) rfl ?_
    exact k
  by_cases hc63 : (p2 &&& (1 : Int32)) = (0 : Int32)
  · refine Goes.by (B := T55.setTop (mkF m 45 #[.val (.long q0), .second, .val (.long q1), .second, .val (.int p2), .val (.ref b2), .val (.ref b24), .val (.ref b39), .val (.int (0 : Int32)), .unset, .unset] [(.int (p2 &&& (2 : Int32)))])) (fun t k => ?_) ?_
    · refine XS.ifYes X55.here hx rfl (pc0 := 31) (pc' := 38) rfl (hb hby at_31) rfl ((if0 _ _).trans (teq hc63).1) (by decide) (by decide) ?_
      refine XS.iconst X55.here hx rfl (hb hby at_38) ?_
      refine XS.istore X55.here hx rfl (hb hby at_39) rfl (l' := #[.val (.long q0), .second, .val (.long q1), .second, .val (.int p2), .val (.ref b2), .val (.ref b24), .val (.ref b39), .val (.int (0 : Int32)), .unset, .unset]) rfl ?_
      refine XS.iload X55.here hx rfl (hb hby at_41) rfl ?_
      refine XS.iconst X55.here hx rfl (hb hby at_43) ?_
      refine XS.iand X55.here hx rfl (hb hby at_44) rfl ?_
      exact k
    by_cases hc64 : (p2 &&& (2 : Int32)) = (0 : Int32)
    · refine Goes.by (B := T55.setTop (mkF m 57 #[.val (.long q0), .second, .val (.long q1), .second, .val (.int p2), .val (.ref b2), .val (.ref b24), .val (.ref b39), .val (.int (0 : Int32)), .val (.int (0 : Int32)), .unset] [(.ref b24)])) (fun t k => ?_) ?_
      · refine XS.ifYes X55.here hx rfl (pc0 := 45) (pc' := 52) rfl (hb hby at_45) rfl ((if0 _ _).trans (teq hc64).1) (by decide) (by decide) ?_
        refine XS.iconst X55.here hx rfl (hb hby at_52) ?_
        refine XS.istore X55.here hx rfl (hb hby at_53) rfl (l' := #[.val (.long q0), .second, .val (.long q1), .second, .val (.int p2), .val (.ref b2), .val (.ref b24), .val (.ref b39), .val (.int (0 : Int32)), .val (.int (0 : Int32)), .unset]) rfl ?_
        refine XS.aload X55.here hx rfl (hb hby at_55) rfl rfl ?_
        exact k
      have f65 : Fld Z h38 b24 cL "next" dL .null := Rep.nextN R57 I58 (by simp) v60
      obtain ⟨_, _, ⟨T66, L66, k66, n66⟩, -, X66, ⟨Lc66, hQ66, l66, y66, z66⟩, st66⟩ := Jvm.LawKit.callS X55 hx (y := y2) hown (mvT hZ (wq hw 20 rfl)) (mvT hZ (wq hw 21 rfl)) (mvT hZ (wq hw 2 rfl)) (mvT hZ (wq hw 22 rfl)) (by decide) (backOf (W := 0) (rmIsN l Z az hw [] b24 h38 n0 Z54 f65) hZ (wq hw 22 rfl) (wq hw 2 rfl) (by decide) (by decide)) (g := (mkF m 57 #[.val (.long q0), .second, .val (.long q1), .second, .val (.int p2), .val (.ref b2), .val (.ref b24), .val (.ref b39), .val (.int (0 : Int32)), .val (.int (0 : Int32)), .unset] [(.ref b24)])) rfl (by rw [hml]; rfl) (argsL := [(.ref b24)]) (rest := []) (lenOf own_pd5 rfl) rfl (by show 2 * 0 + _ ≤ _; exact Nat.le_of_eq rfl) (hb hby at_57) (fun _ _ => ⟨rfl, e55, (by decide : 4 + 0 ≤ _), (by decide : 10 + 0 ≤ _)⟩)
      dsimp only [Pt.U, Pt.locs, Pt.cells, Pt.slots] at X66 l66 y66 z66 st66 hQ66
      subst l66 y66 z66
      replace X66 : Stand p l e room_1 s m #[(.long q0), (.long q1), (.int p2)] below meth c T66 _ 4 10 := X66
      obtain ⟨rfl, N66q, e66⟩ := hQ66
      have N67 := Fr.app N56 N66q
      refine Goes.by st66 ?_
      clear X55 N56 e55
      refine Goes.by (B := T66.setTop (mkF m 75 #[.val (.long q0), .second, .val (.long q1), .second, .val (.int p2), .val (.ref b2), .val (.ref b24), .val (.ref b39), .val (.int (0 : Int32)), .val (.int (0 : Int32)), .val (.int (1 : Int32))] [(.long q0), (.ref b24), (.ref b2)])) (fun t k => ?_) ?_
      · refine XS.ifNo X66.here hx rfl (hb hby at_60) rfl ((if0 _ _).trans (teq (by decide : (0 : Int32) = (0 : Int32))).2) ?_
        refine XS.iconst X66.here hx rfl (hb hby at_63) ?_
        refine XS.goto X66.here hx rfl (pc0 := 64) (pc' := 68) rfl (hb hby at_64) (by decide) (by decide) ?_
        refine XS.istore X66.here hx rfl (hb hby at_68) rfl (l' := #[.val (.long q0), .second, .val (.long q1), .second, .val (.int p2), .val (.ref b2), .val (.ref b24), .val (.ref b39), .val (.int (0 : Int32)), .val (.int (0 : Int32)), .val (.int (1 : Int32))]) rfl ?_
        refine XS.aload X66.here hx rfl (hb hby at_70) rfl rfl ?_
        refine XS.aload X66.here hx rfl (hb hby at_72) rfl rfl ?_
        refine XS.lloadN X66.here hx rfl (hb hby at_74) rfl ?_
        exact k
      obtain ⟨cq68, kq68, q68a, q68b, q68c⟩ := isOf hZ e66 R57.1
      obtain ⟨_, _, ⟨T68, L68, k68, n68⟩, -, X68, ⟨Lc68, hQ68, l68, y68, z68⟩, st68⟩ := X66.virtualBack hx (y := y3) (z := y3) hown (mvT hZ (wq hw 25 rfl)) (mvT hZ (wq hw 26 rfl)) (notFace_of_selects (args := #[]) (mvT hZ (wq hw 28 rfl))) (mvT hZ (wq hw 28 rfl)) (mvT hZ (wq hw 27 rfl)) (by decide) (backOf (W := 0) (rmFileR l Z az hw [] b2 b24 q0 b9 c10 [] (fun _ => 0) (fun _ => .null) (fun _ => .null) [b24, b39] tk59 h38 n0 Z54 R57 I58 (by simp) v60 (Nat.le_trans le62 (by decide))) hZ (wq hw 29 rfl) (wq hw 2 rfl) (by decide) (by decide)) q68a q68c (g := (mkF m 75 #[.val (.long q0), .second, .val (.long q1), .second, .val (.int p2), .val (.ref b2), .val (.ref b24), .val (.ref b39), .val (.int (0 : Int32)), .val (.int (0 : Int32)), .val (.int (1 : Int32))] [(.long q0), (.ref b24), (.ref b2)])) rfl (by rw [hml]; rfl) (Steps.refl _) (argsL := [(.ref b24), (.long q0)]) (rest := []) (lenOf own_pd6 rfl) rfl (by show 2 * 0 + _ ≤ _; exact Nat.le_of_eq rfl) (hb hby at_75) (fun _ _ => ⟨rfl, e66, (by decide : 4 + 1 ≤ _), (by decide : 10 + 3 ≤ _)⟩)
      dsimp only [Pt.U, Pt.locs, Pt.cells, Pt.slots] at X68 l68 y68 z68 st68 hQ68
      subst l68 y68 z68
      replace X68 : Stand p l e room_1 s m #[(.long q0), (.long q1), (.int p2)] below meth c T68 _ 5 13 := X68
      obtain ⟨hs69, τ70, Nn71, Pp72, rfl, N68q, zq75, R73, I74, lq76⟩ := hQ68
      have Z77 : n0 ≤ T68.heap.size := Nat.le_trans Z54 zq75
      obtain ⟨tk78, etk78⟩ : ∃ z, z = upd tk59 b24 (some q0) := ⟨_, rfl⟩
      rw [← etk78] at I74
      have v79 : tk78 b24 = (some q0) := by rw [etk78]; exact upd_at _ _ _
      have v80 : tk78 b39 = none := by rw [etk78, upd_ne _ _ (Ne.symm ne42)]; exact v61
      have le81 : hs69.length ≤ 1 := Nat.le_trans lq76 (Nat.succ_le_succ le62)
      have N82 := Fr.app N67 N68q
      refine Goes.by (fun _ k => st68.trans k) ?_
      clear X66 N67 Z54 e66
      refine Goes.by (B := T68.setTop (mkF m 98 #[.val (.long q0), .second, .val (.long q1), .second, .val (.int p2), .val (.ref b2), .val (.ref b24), .val (.ref b39), .val (.int (0 : Int32)), .val (.int (0 : Int32)), .val (.int (1 : Int32))] [(.ref b24)])) (fun t k => ?_) ?_
      · refine XS.iload X68.here hx rfl (hb hby at_78) rfl ?_
        refine XS.ifYes X68.here hx rfl (pc0 := 80) (pc' := 91) rfl (hb hby at_80) rfl ((if0 _ _).trans (teq (by decide : (0 : Int32) = (0 : Int32))).1) (by decide) (by decide) ?_
        refine XS.iload X68.here hx rfl (hb hby at_91) rfl ?_
        refine XS.ifNo X68.here hx rfl (hb hby at_93) rfl ((if0 _ _).trans (feq (by decide : ¬ ((1 : Int32) = (0 : Int32)))).1) ?_
        refine XS.aload X68.here hx rfl (hb hby at_96) rfl rfl ?_
        exact k
      obtain ⟨b84, f83⟩ := Rep.nextY R73 I74 (by simp) v79
      obtain ⟨_, _, ⟨T85, L85, k85, n85⟩, -, X85, ⟨Lc85, hQ85, l85, y85, z85⟩, st85⟩ := Jvm.LawKit.callS X68 hx (y := y2) hown (mvT hZ (wq hw 20 rfl)) (mvT hZ (wq hw 21 rfl)) (mvT hZ (wq hw 2 rfl)) (mvT hZ (wq hw 22 rfl)) (by decide) (backOf (W := 0) (rmIsY l Z az hw [] b24 b84 T68.heap n0 Z77 f83) hZ (wq hw 22 rfl) (wq hw 2 rfl) (by decide) (by decide)) (g := (mkF m 98 #[.val (.long q0), .second, .val (.long q1), .second, .val (.int p2), .val (.ref b2), .val (.ref b24), .val (.ref b39), .val (.int (0 : Int32)), .val (.int (0 : Int32)), .val (.int (1 : Int32))] [(.ref b24)])) rfl (by rw [hml]; rfl) (argsL := [(.ref b24)]) (rest := []) (lenOf own_pd5 rfl) rfl (by show 2 * 0 + _ ≤ _; exact Nat.le_of_eq rfl) (hb hby at_98) (fun _ _ => ⟨rfl, rfl, (by decide : 5 + 0 ≤ _), (by decide : 13 + 0 ≤ _)⟩)
      dsimp only [Pt.U, Pt.locs, Pt.cells, Pt.slots] at X85 l85 y85 z85 st85 hQ85
      subst l85 y85 z85
      replace X85 : Stand p l e room_1 s m #[(.long q0), (.long q1), (.int p2)] below meth c T85 _ 5 13 := X85
      obtain ⟨rfl, N85q, e85⟩ := hQ85
      have N86 := Fr.app N82 N85q
      refine Goes.by st85 ?_
      clear X68 N82
      refine Goes.by (B := T85.setTop (mkF m 106 #[.val (.long q0), .second, .val (.long q1), .second, .val (.int p2), .val (.ref b2), .val (.ref b24), .val (.ref b39), .val (.int (0 : Int32)), .val (.int (0 : Int32)), .val (.int (1 : Int32))] [(.ref b39)])) (fun t k => ?_) ?_
      · refine XS.ifNo X85.here hx rfl (hb hby at_101) rfl ((if0 _ _).trans (feq (by decide : ¬ ((1 : Int32) = (0 : Int32)))).1) ?_
        refine XS.aload X85.here hx rfl (hb hby at_104) rfl rfl ?_
        exact k
      have f87 : Fld Z T68.heap b39 cL "next" dL .null := Rep.nextN R73 I74 (by simp) v80
      obtain ⟨_, _, ⟨T88, L88, k88, n88⟩, -, X88, ⟨Lc88, hQ88, l88, y88, z88⟩, st88⟩ := Jvm.LawKit.callS X85 hx (y := y2) hown (mvT hZ (wq hw 20 rfl)) (mvT hZ (wq hw 21 rfl)) (mvT hZ (wq hw 2 rfl)) (mvT hZ (wq hw 22 rfl)) (by decide) (backOf (W := 0) (rmIsN l Z az hw [] b39 T68.heap n0 Z77 f87) hZ (wq hw 22 rfl) (wq hw 2 rfl) (by decide) (by decide)) (g := (mkF m 106 #[.val (.long q0), .second, .val (.long q1), .second, .val (.int p2), .val (.ref b2), .val (.ref b24), .val (.ref b39), .val (.int (0 : Int32)), .val (.int (0 : Int32)), .val (.int (1 : Int32))] [(.ref b39)])) rfl (by rw [hml]; rfl) (argsL := [(.ref b39)]) (rest := []) (lenOf own_pd5 rfl) rfl (by show 2 * 0 + _ ≤ _; exact Nat.le_of_eq rfl) (hb hby at_106) (fun _ _ => ⟨rfl, e85, (by decide : 5 + 0 ≤ _), (by decide : 13 + 0 ≤ _)⟩)
      dsimp only [Pt.U, Pt.locs, Pt.cells, Pt.slots] at X88 l88 y88 z88 st88 hQ88
      subst l88 y88 z88
      replace X88 : Stand p l e room_1 s m #[(.long q0), (.long q1), (.int p2)] below meth c T88 _ 5 13 := X88
      obtain ⟨rfl, N88q, e88⟩ := hQ88
      have N89 := Fr.app N86 N88q
      refine Goes.by st88 ?_
      clear X85 N86 e85
      refine Goes.by (B := T88.setTop (mkF m 125 #[.val (.long q0), .second, .val (.long q1), .second, .val (.int p2), .val (.ref b2), .val (.ref b24), .val (.ref b39), .val (.int (0 : Int32)), .val (.int (0 : Int32)), .val (.int (1 : Int32))] [(.ref b24), (.ref b2)])) (fun t k => ?_) ?_
      · refine XS.iload X88.here hx rfl (hb hby at_109) rfl ?_
        refine XS.icmpNo X88.here hx rfl (hb hby at_111) rfl (teq (by decide : (0 : Int32) = (0 : Int32))).2 ?_
        refine XS.iconst X88.here hx rfl (hb hby at_114) ?_
        refine XS.goto X88.here hx rfl (pc0 := 115) (pc' := 119) rfl (hb hby at_115) (by decide) (by decide) ?_
        refine XS.istore X88.here hx rfl (hb hby at_119) rfl (l' := #[.val (.long q0), .second, .val (.long q1), .second, .val (.int p2), .val (.ref b2), .val (.ref b24), .val (.ref b39), .val (.int (0 : Int32)), .val (.int (0 : Int32)), .val (.int (1 : Int32))]) rfl ?_
        refine XS.aload X88.here hx rfl (hb hby at_121) rfl rfl ?_
        refine XS.aload X88.here hx rfl (hb hby at_123) rfl rfl ?_
        exact k
      obtain ⟨cq90, kq90, q90a, q90b, q90c⟩ := isOf hZ e88 R73.1
      obtain ⟨_, _, ⟨T90, L90, k90, n90⟩, -, X90, ⟨Lc90, hQ90, l90, y90, z90⟩, st90⟩ := X88.virtualBack hx (y := y7) (z := y7) hown (mvT hZ (wq hw 60 rfl)) (mvT hZ (wq hw 61 rfl)) (notFace_of_selects (args := #[]) (mvT hZ (wq hw 63 rfl))) (mvT hZ (wq hw 63 rfl)) (mvT hZ (wq hw 62 rfl)) (by decide) (backOf (W := 0) (rmRemR l Z az hw [] b2 b24 q0 b9 c10 hs69 τ70 Nn71 Pp72 [b24, b39] tk78 T68.heap n0 Z77 R73 I74 (by simp) v79 (Nat.le_trans le81 (by decide))) hZ (wq hw 64 rfl) (wq hw 2 rfl) (by decide) (by decide)) q90a q90c (g := (mkF m 125 #[.val (.long q0), .second, .val (.long q1), .second, .val (.int p2), .val (.ref b2), .val (.ref b24), .val (.ref b39), .val (.int (0 : Int32)), .val (.int (0 : Int32)), .val (.int (1 : Int32))] [(.ref b24), (.ref b2)])) rfl (by rw [hml]; rfl) (Steps.refl _) (argsL := [(.ref b24)]) (rest := []) (lenOf own_pd7 rfl) rfl (by show 2 * 0 + _ ≤ _; exact Nat.le_of_eq rfl) (hb hby at_125) (fun _ _ => ⟨rfl, e88, (by decide : 5 + 0 ≤ _), (by decide : 13 + 0 ≤ _)⟩)
      dsimp only [Pt.U, Pt.locs, Pt.cells, Pt.slots] at X90 l90 y90 z90 st90 hQ90
      subst l90 y90 z90
      replace X90 : Stand p l e room_1 s m #[(.long q0), (.long q1), (.int p2)] below meth c T90 _ 5 13 := X90
      obtain ⟨hs91, τ92, Nn93, Pp94, rfl, N90q, zq97, R95, I96, lq98⟩ := hQ90
      have Z99 : n0 ≤ T90.heap.size := Nat.le_trans Z77 zq97
      obtain ⟨tk100, etk100⟩ : ∃ z, z = upd tk78 b24 none := ⟨_, rfl⟩
      rw [← etk100] at I96
      have v101 : tk100 b24 = none := by rw [etk100]; exact upd_at _ _ _
      have v102 : tk100 b39 = none := by rw [etk100, upd_ne _ _ (Ne.symm ne42)]; exact v80
      have le103 : hs91.length ≤ 1 := Nat.le_trans lq98 le81
      have N104 := Fr.app N89 N90q
      refine Goes.by (fun _ k => st90.trans k) ?_
      clear X88 N89 Z77 e88
      refine Goes.by (B := T90.setTop (mkF m 135 #[.val (.long q0), .second, .val (.long q1), .second, .val (.int p2), .val (.ref b2), .val (.ref b24), .val (.ref b39), .val (.int (0 : Int32)), .val (.int (0 : Int32)), .val (.int (1 : Int32))] [(.ref b24)])) (fun t k => ?_) ?_
      · refine XS.iload X90.here hx rfl (hb hby at_128) rfl ?_
        refine XS.ifNo X90.here hx rfl (hb hby at_130) rfl ((if0 _ _).trans (feq (by decide : ¬ ((1 : Int32) = (0 : Int32)))).1) ?_
        refine XS.aload X90.here hx rfl (hb hby at_133) rfl rfl ?_
        exact k
      have f105 : Fld Z T90.heap b24 cL "next" dL .null := Rep.nextN R95 I96 (by simp) v101
      obtain ⟨_, _, ⟨T106, L106, k106, n106⟩, -, X106, ⟨Lc106, hQ106, l106, y106, z106⟩, st106⟩ := Jvm.LawKit.callS X90 hx (y := y2) hown (mvT hZ (wq hw 20 rfl)) (mvT hZ (wq hw 21 rfl)) (mvT hZ (wq hw 2 rfl)) (mvT hZ (wq hw 22 rfl)) (by decide) (backOf (W := 0) (rmIsN l Z az hw [] b24 T90.heap n0 Z99 f105) hZ (wq hw 22 rfl) (wq hw 2 rfl) (by decide) (by decide)) (g := (mkF m 135 #[.val (.long q0), .second, .val (.long q1), .second, .val (.int p2), .val (.ref b2), .val (.ref b24), .val (.ref b39), .val (.int (0 : Int32)), .val (.int (0 : Int32)), .val (.int (1 : Int32))] [(.ref b24)])) rfl (by rw [hml]; rfl) (argsL := [(.ref b24)]) (rest := []) (lenOf own_pd5 rfl) rfl (by show 2 * 0 + _ ≤ _; exact Nat.le_of_eq rfl) (hb hby at_135) (fun _ _ => ⟨rfl, rfl, (by decide : 5 + 0 ≤ _), (by decide : 13 + 0 ≤ _)⟩)
      dsimp only [Pt.U, Pt.locs, Pt.cells, Pt.slots] at X106 l106 y106 z106 st106 hQ106
      subst l106 y106 z106
      replace X106 : Stand p l e room_1 s m #[(.long q0), (.long q1), (.int p2)] below meth c T106 _ 5 13 := X106
      obtain ⟨rfl, N106q, e106⟩ := hQ106
      have N107 := Fr.app N104 N106q
      refine Goes.by st106 ?_
      clear X90 N104
      refine Goes.by (B := T106.setTop (mkF m 143 #[.val (.long q0), .second, .val (.long q1), .second, .val (.int p2), .val (.ref b2), .val (.ref b24), .val (.ref b39), .val (.int (0 : Int32)), .val (.int (0 : Int32)), .val (.int (1 : Int32))] [(.ref b39)])) (fun t k => ?_) ?_
      · refine XS.ifNo X106.here hx rfl (hb hby at_138) rfl ((if0 _ _).trans (teq (by decide : (0 : Int32) = (0 : Int32))).2) ?_
        refine XS.aload X106.here hx rfl (hb hby at_141) rfl rfl ?_
        exact k
      have f108 : Fld Z T90.heap b39 cL "next" dL .null := Rep.nextN R95 I96 (by simp) v102
      obtain ⟨_, _, ⟨T109, L109, k109, n109⟩, -, X109, ⟨Lc109, hQ109, l109, y109, z109⟩, st109⟩ := Jvm.LawKit.callS X106 hx (y := y2) hown (mvT hZ (wq hw 20 rfl)) (mvT hZ (wq hw 21 rfl)) (mvT hZ (wq hw 2 rfl)) (mvT hZ (wq hw 22 rfl)) (by decide) (backOf (W := 0) (rmIsN l Z az hw [] b39 T90.heap n0 Z99 f108) hZ (wq hw 22 rfl) (wq hw 2 rfl) (by decide) (by decide)) (g := (mkF m 143 #[.val (.long q0), .second, .val (.long q1), .second, .val (.int p2), .val (.ref b2), .val (.ref b24), .val (.ref b39), .val (.int (0 : Int32)), .val (.int (0 : Int32)), .val (.int (1 : Int32))] [(.ref b39)])) rfl (by rw [hml]; rfl) (argsL := [(.ref b39)]) (rest := []) (lenOf own_pd5 rfl) rfl (by show 2 * 0 + _ ≤ _; exact Nat.le_of_eq rfl) (hb hby at_143) (fun _ _ => ⟨rfl, e106, (by decide : 5 + 0 ≤ _), (by decide : 13 + 0 ≤ _)⟩)
      dsimp only [Pt.U, Pt.locs, Pt.cells, Pt.slots] at X109 l109 y109 z109 st109 hQ109
      subst l109 y109 z109
      replace X109 : Stand p l e room_1 s m #[(.long q0), (.long q1), (.int p2)] below meth c T109 _ 5 13 := X109
      obtain ⟨rfl, N109q, e109⟩ := hQ109
      have N110 := Fr.app N107 N109q
      refine Goes.by st109 ?_
      clear X106 N107 e106
      refine Goes.by (B := T109.setTop (mkF m 193 #[.val (.long q0), .second, .val (.long q1), .second, .val (.int p2), .val (.ref b2), .val (.ref b24), .val (.ref b39), .val (.int (0 : Int32)), .val (.int (0 : Int32)), .val (.int (1 : Int32))] [(.int (1 : Int32))])) (fun t k => ?_) ?_
      · refine XS.iload X109.here hx rfl (hb hby at_146) rfl ?_
        refine XS.icmpNo X109.here hx rfl (hb hby at_148) rfl (teq (by decide : (0 : Int32) = (0 : Int32))).2 ?_
        refine XS.iconst X109.here hx rfl (hb hby at_151) ?_
        refine XS.goto X109.here hx rfl (pc0 := 152) (pc' := 156) rfl (hb hby at_152) (by decide) (by decide) ?_
        refine XS.istore X109.here hx rfl (hb hby at_156) rfl (l' := #[.val (.long q0), .second, .val (.long q1), .second, .val (.int p2), .val (.ref b2), .val (.ref b24), .val (.ref b39), .val (.int (0 : Int32)), .val (.int (0 : Int32)), .val (.int (1 : Int32))]) rfl ?_
        refine XS.iload X109.here hx rfl (hb hby at_158) rfl ?_
        refine XS.ifYes X109.here hx rfl (pc0 := 160) (pc' := 191) rfl (hb hby at_160) rfl ((if0 _ _).trans (teq (by decide : (0 : Int32) = (0 : Int32))).1) (by decide) (by decide) ?_
        refine XS.iload X109.here hx rfl (hb hby at_191) rfl ?_
        exact k
      obtain ⟨fs, hr, hrun, hended, hW, hsame⟩ := X109.leave (v := some (.int (1 : Int32))) (fun h => by rw [Bd.returns] at h; cases h)
      refine Goes.mk _ _ ?_ ⟨hrun, hended, _, _, rfl, ?_, ⟨_, rfl⟩, hW, hsame.mono (by decide) (by decide)⟩
      · exact retN X109 hx (t := .boolean) Bd.returns (by simp) (hb hby at_193) hr
      · show Q0 Z q0 q1 p2 h0 n0 _ T109.heap _
        rw [e109]
        exact ⟨rfl, N110⟩
    · refine Goes.by (B := T55.setTop (mkF m 57 #[.val (.long q0), .second, .val (.long q1), .second, .val (.int p2), .val (.ref b2), .val (.ref b24), .val (.ref b39), .val (.int (0 : Int32)), .val (.int (1 : Int32)), .unset] [(.ref b24)])) (fun t k => ?_) ?_
      · refine XS.ifNo X55.here hx rfl (hb hby at_45) rfl ((if0 _ _).trans (feq hc64).1) ?_
        refine XS.iconst X55.here hx rfl (hb hby at_48) ?_
        refine XS.goto X55.here hx rfl (pc0 := 49) (pc' := 53) rfl (hb hby at_49) (by decide) (by decide) ?_
        refine XS.istore X55.here hx rfl (hb hby at_53) rfl (l' := #[.val (.long q0), .second, .val (.long q1), .second, .val (.int p2), .val (.ref b2), .val (.ref b24), .val (.ref b39), .val (.int (0 : Int32)), .val (.int (1 : Int32)), .unset]) rfl ?_
        refine XS.aload X55.here hx rfl (hb hby at_55) rfl rfl ?_
        exact k
      have f111 : Fld Z h38 b24 cL "next" dL .null := Rep.nextN R57 I58 (by simp) v60
      obtain ⟨_, _, ⟨T112, L112, k112, n112⟩, -, X112, ⟨Lc112, hQ112, l112, y112, z112⟩, st112⟩ := Jvm.LawKit.callS X55 hx (y := y2) hown (mvT hZ (wq hw 20 rfl)) (mvT hZ (wq hw 21 rfl)) (mvT hZ (wq hw 2 rfl)) (mvT hZ (wq hw 22 rfl)) (by decide) (backOf (W := 0) (rmIsN l Z az hw [] b24 h38 n0 Z54 f111) hZ (wq hw 22 rfl) (wq hw 2 rfl) (by decide) (by decide)) (g := (mkF m 57 #[.val (.long q0), .second, .val (.long q1), .second, .val (.int p2), .val (.ref b2), .val (.ref b24), .val (.ref b39), .val (.int (0 : Int32)), .val (.int (1 : Int32)), .unset] [(.ref b24)])) rfl (by rw [hml]; rfl) (argsL := [(.ref b24)]) (rest := []) (lenOf own_pd5 rfl) rfl (by show 2 * 0 + _ ≤ _; exact Nat.le_of_eq rfl) (hb hby at_57) (fun _ _ => ⟨rfl, e55, (by decide : 4 + 0 ≤ _), (by decide : 10 + 0 ≤ _)⟩)
      dsimp only [Pt.U, Pt.locs, Pt.cells, Pt.slots] at X112 l112 y112 z112 st112 hQ112
      subst l112 y112 z112
      replace X112 : Stand p l e room_1 s m #[(.long q0), (.long q1), (.int p2)] below meth c T112 _ 4 10 := X112
      obtain ⟨rfl, N112q, e112⟩ := hQ112
      have N113 := Fr.app N56 N112q
      refine Goes.by st112 ?_
      clear X55 N56 e55
      refine Goes.by (B := T112.setTop (mkF m 75 #[.val (.long q0), .second, .val (.long q1), .second, .val (.int p2), .val (.ref b2), .val (.ref b24), .val (.ref b39), .val (.int (0 : Int32)), .val (.int (1 : Int32)), .val (.int (1 : Int32))] [(.long q0), (.ref b24), (.ref b2)])) (fun t k => ?_) ?_
      · refine XS.ifNo X112.here hx rfl (hb hby at_60) rfl ((if0 _ _).trans (teq (by decide : (0 : Int32) = (0 : Int32))).2) ?_
        refine XS.iconst X112.here hx rfl (hb hby at_63) ?_
        refine XS.goto X112.here hx rfl (pc0 := 64) (pc' := 68) rfl (hb hby at_64) (by decide) (by decide) ?_
        refine XS.istore X112.here hx rfl (hb hby at_68) rfl (l' := #[.val (.long q0), .second, .val (.long q1), .second, .val (.int p2), .val (.ref b2), .val (.ref b24), .val (.ref b39), .val (.int (0 : Int32)), .val (.int (1 : Int32)), .val (.int (1 : Int32))]) rfl ?_
        refine XS.aload X112.here hx rfl (hb hby at_70) rfl rfl ?_
        refine XS.aload X112.here hx rfl (hb hby at_72) rfl rfl ?_
        refine XS.lloadN X112.here hx rfl (hb hby at_74) rfl ?_
        exact k
      obtain ⟨cq114, kq114, q114a, q114b, q114c⟩ := isOf hZ e112 R57.1
      obtain ⟨_, _, ⟨T114, L114, k114, n114⟩, -, X114, ⟨Lc114, hQ114, l114, y114, z114⟩, st114⟩ := X112.virtualBack hx (y := y3) (z := y3) hown (mvT hZ (wq hw 25 rfl)) (mvT hZ (wq hw 26 rfl)) (notFace_of_selects (args := #[]) (mvT hZ (wq hw 28 rfl))) (mvT hZ (wq hw 28 rfl)) (mvT hZ (wq hw 27 rfl)) (by decide) (backOf (W := 0) (rmFileR l Z az hw [] b2 b24 q0 b9 c10 [] (fun _ => 0) (fun _ => .null) (fun _ => .null) [b24, b39] tk59 h38 n0 Z54 R57 I58 (by simp) v60 (Nat.le_trans le62 (by decide))) hZ (wq hw 29 rfl) (wq hw 2 rfl) (by decide) (by decide)) q114a q114c (g := (mkF m 75 #[.val (.long q0), .second, .val (.long q1), .second, .val (.int p2), .val (.ref b2), .val (.ref b24), .val (.ref b39), .val (.int (0 : Int32)), .val (.int (1 : Int32)), .val (.int (1 : Int32))] [(.long q0), (.ref b24), (.ref b2)])) rfl (by rw [hml]; rfl) (Steps.refl _) (argsL := [(.ref b24), (.long q0)]) (rest := []) (lenOf own_pd6 rfl) rfl (by show 2 * 0 + _ ≤ _; exact Nat.le_of_eq rfl) (hb hby at_75) (fun _ _ => ⟨rfl, e112, (by decide : 4 + 1 ≤ _), (by decide : 10 + 3 ≤ _)⟩)
      dsimp only [Pt.U, Pt.locs, Pt.cells, Pt.slots] at X114 l114 y114 z114 st114 hQ114
      subst l114 y114 z114
      replace X114 : Stand p l e room_1 s m #[(.long q0), (.long q1), (.int p2)] below meth c T114 _ 5 13 := X114
      obtain ⟨hs115, τ116, Nn117, Pp118, rfl, N114q, zq121, R119, I120, lq122⟩ := hQ114
      have Z123 : n0 ≤ T114.heap.size := Nat.le_trans Z54 zq121
      obtain ⟨tk124, etk124⟩ : ∃ z, z = upd tk59 b24 (some q0) := ⟨_, rfl⟩
      rw [← etk124] at I120
      have v125 : tk124 b24 = (some q0) := by rw [etk124]; exact upd_at _ _ _
      have v126 : tk124 b39 = none := by rw [etk124, upd_ne _ _ (Ne.symm ne42)]; exact v61
      have le127 : hs115.length ≤ 1 := Nat.le_trans lq122 (Nat.succ_le_succ le62)
      have N128 := Fr.app N113 N114q
      refine Goes.by (fun _ k => st114.trans k) ?_
      clear X112 N113 Z54 e112
      refine Goes.by (B := T114.setTop (mkF m 98 #[.val (.long q0), .second, .val (.long q1), .second, .val (.int p2), .val (.ref b2), .val (.ref b24), .val (.ref b39), .val (.int (0 : Int32)), .val (.int (1 : Int32)), .val (.int (1 : Int32))] [(.ref b24)])) (fun t k => ?_) ?_
      · refine XS.iload X114.here hx rfl (hb hby at_78) rfl ?_
        refine XS.ifYes X114.here hx rfl (pc0 := 80) (pc' := 91) rfl (hb hby at_80) rfl ((if0 _ _).trans (teq (by decide : (0 : Int32) = (0 : Int32))).1) (by decide) (by decide) ?_
        refine XS.iload X114.here hx rfl (hb hby at_91) rfl ?_
        refine XS.ifNo X114.here hx rfl (hb hby at_93) rfl ((if0 _ _).trans (feq (by decide : ¬ ((1 : Int32) = (0 : Int32)))).1) ?_
        refine XS.aload X114.here hx rfl (hb hby at_96) rfl rfl ?_
        exact k
      obtain ⟨b130, f129⟩ := Rep.nextY R119 I120 (by simp) v125
      obtain ⟨_, _, ⟨T131, L131, k131, n131⟩, -, X131, ⟨Lc131, hQ131, l131, y131, z131⟩, st131⟩ := Jvm.LawKit.callS X114 hx (y := y2) hown (mvT hZ (wq hw 20 rfl)) (mvT hZ (wq hw 21 rfl)) (mvT hZ (wq hw 2 rfl)) (mvT hZ (wq hw 22 rfl)) (by decide) (backOf (W := 0) (rmIsY l Z az hw [] b24 b130 T114.heap n0 Z123 f129) hZ (wq hw 22 rfl) (wq hw 2 rfl) (by decide) (by decide)) (g := (mkF m 98 #[.val (.long q0), .second, .val (.long q1), .second, .val (.int p2), .val (.ref b2), .val (.ref b24), .val (.ref b39), .val (.int (0 : Int32)), .val (.int (1 : Int32)), .val (.int (1 : Int32))] [(.ref b24)])) rfl (by rw [hml]; rfl) (argsL := [(.ref b24)]) (rest := []) (lenOf own_pd5 rfl) rfl (by show 2 * 0 + _ ≤ _; exact Nat.le_of_eq rfl) (hb hby at_98) (fun _ _ => ⟨rfl, rfl, (by decide : 5 + 0 ≤ _), (by decide : 13 + 0 ≤ _)⟩)
      dsimp only [Pt.U, Pt.locs, Pt.cells, Pt.slots] at X131 l131 y131 z131 st131 hQ131
      subst l131 y131 z131
      replace X131 : Stand p l e room_1 s m #[(.long q0), (.long q1), (.int p2)] below meth c T131 _ 5 13 := X131
      obtain ⟨rfl, N131q, e131⟩ := hQ131
      have N132 := Fr.app N128 N131q
      refine Goes.by st131 ?_
      clear X114 N128
      refine Goes.by (B := T131.setTop (mkF m 106 #[.val (.long q0), .second, .val (.long q1), .second, .val (.int p2), .val (.ref b2), .val (.ref b24), .val (.ref b39), .val (.int (0 : Int32)), .val (.int (1 : Int32)), .val (.int (1 : Int32))] [(.ref b39)])) (fun t k => ?_) ?_
      · refine XS.ifNo X131.here hx rfl (hb hby at_101) rfl ((if0 _ _).trans (feq (by decide : ¬ ((1 : Int32) = (0 : Int32)))).1) ?_
        refine XS.aload X131.here hx rfl (hb hby at_104) rfl rfl ?_
        exact k
      have f133 : Fld Z T114.heap b39 cL "next" dL .null := Rep.nextN R119 I120 (by simp) v126
      obtain ⟨_, _, ⟨T134, L134, k134, n134⟩, -, X134, ⟨Lc134, hQ134, l134, y134, z134⟩, st134⟩ := Jvm.LawKit.callS X131 hx (y := y2) hown (mvT hZ (wq hw 20 rfl)) (mvT hZ (wq hw 21 rfl)) (mvT hZ (wq hw 2 rfl)) (mvT hZ (wq hw 22 rfl)) (by decide) (backOf (W := 0) (rmIsN l Z az hw [] b39 T114.heap n0 Z123 f133) hZ (wq hw 22 rfl) (wq hw 2 rfl) (by decide) (by decide)) (g := (mkF m 106 #[.val (.long q0), .second, .val (.long q1), .second, .val (.int p2), .val (.ref b2), .val (.ref b24), .val (.ref b39), .val (.int (0 : Int32)), .val (.int (1 : Int32)), .val (.int (1 : Int32))] [(.ref b39)])) rfl (by rw [hml]; rfl) (argsL := [(.ref b39)]) (rest := []) (lenOf own_pd5 rfl) rfl (by show 2 * 0 + _ ≤ _; exact Nat.le_of_eq rfl) (hb hby at_106) (fun _ _ => ⟨rfl, e131, (by decide : 5 + 0 ≤ _), (by decide : 13 + 0 ≤ _)⟩)
      dsimp only [Pt.U, Pt.locs, Pt.cells, Pt.slots] at X134 l134 y134 z134 st134 hQ134
      subst l134 y134 z134
      replace X134 : Stand p l e room_1 s m #[(.long q0), (.long q1), (.int p2)] below meth c T134 _ 5 13 := X134
      obtain ⟨rfl, N134q, e134⟩ := hQ134
      have N135 := Fr.app N132 N134q
      refine Goes.by st134 ?_
      clear X131 N132 e131
      refine Goes.by (B := T134.setTop (mkF m 125 #[.val (.long q0), .second, .val (.long q1), .second, .val (.int p2), .val (.ref b2), .val (.ref b24), .val (.ref b39), .val (.int (0 : Int32)), .val (.int (1 : Int32)), .val (.int (1 : Int32))] [(.ref b24), (.ref b2)])) (fun t k => ?_) ?_
      · refine XS.iload X134.here hx rfl (hb hby at_109) rfl ?_
        refine XS.icmpNo X134.here hx rfl (hb hby at_111) rfl (teq (by decide : (0 : Int32) = (0 : Int32))).2 ?_
        refine XS.iconst X134.here hx rfl (hb hby at_114) ?_
        refine XS.goto X134.here hx rfl (pc0 := 115) (pc' := 119) rfl (hb hby at_115) (by decide) (by decide) ?_
        refine XS.istore X134.here hx rfl (hb hby at_119) rfl (l' := #[.val (.long q0), .second, .val (.long q1), .second, .val (.int p2), .val (.ref b2), .val (.ref b24), .val (.ref b39), .val (.int (0 : Int32)), .val (.int (1 : Int32)), .val (.int (1 : Int32))]) rfl ?_
        refine XS.aload X134.here hx rfl (hb hby at_121) rfl rfl ?_
        refine XS.aload X134.here hx rfl (hb hby at_123) rfl rfl ?_
        exact k
      obtain ⟨cq136, kq136, q136a, q136b, q136c⟩ := isOf hZ e134 R119.1
      obtain ⟨_, _, ⟨T136, L136, k136, n136⟩, -, X136, ⟨Lc136, hQ136, l136, y136, z136⟩, st136⟩ := X134.virtualBack hx (y := y7) (z := y7) hown (mvT hZ (wq hw 60 rfl)) (mvT hZ (wq hw 61 rfl)) (notFace_of_selects (args := #[]) (mvT hZ (wq hw 63 rfl))) (mvT hZ (wq hw 63 rfl)) (mvT hZ (wq hw 62 rfl)) (by decide) (backOf (W := 0) (rmRemR l Z az hw [] b2 b24 q0 b9 c10 hs115 τ116 Nn117 Pp118 [b24, b39] tk124 T114.heap n0 Z123 R119 I120 (by simp) v125 (Nat.le_trans le127 (by decide))) hZ (wq hw 64 rfl) (wq hw 2 rfl) (by decide) (by decide)) q136a q136c (g := (mkF m 125 #[.val (.long q0), .second, .val (.long q1), .second, .val (.int p2), .val (.ref b2), .val (.ref b24), .val (.ref b39), .val (.int (0 : Int32)), .val (.int (1 : Int32)), .val (.int (1 : Int32))] [(.ref b24), (.ref b2)])) rfl (by rw [hml]; rfl) (Steps.refl _) (argsL := [(.ref b24)]) (rest := []) (lenOf own_pd7 rfl) rfl (by show 2 * 0 + _ ≤ _; exact Nat.le_of_eq rfl) (hb hby at_125) (fun _ _ => ⟨rfl, e134, (by decide : 5 + 0 ≤ _), (by decide : 13 + 0 ≤ _)⟩)
      dsimp only [Pt.U, Pt.locs, Pt.cells, Pt.slots] at X136 l136 y136 z136 st136 hQ136
      subst l136 y136 z136
      replace X136 : Stand p l e room_1 s m #[(.long q0), (.long q1), (.int p2)] below meth c T136 _ 5 13 := X136
      obtain ⟨hs137, τ138, Nn139, Pp140, rfl, N136q, zq143, R141, I142, lq144⟩ := hQ136
      have Z145 : n0 ≤ T136.heap.size := Nat.le_trans Z123 zq143
      obtain ⟨tk146, etk146⟩ : ∃ z, z = upd tk124 b24 none := ⟨_, rfl⟩
      rw [← etk146] at I142
      have v147 : tk146 b24 = none := by rw [etk146]; exact upd_at _ _ _
      have v148 : tk146 b39 = none := by rw [etk146, upd_ne _ _ (Ne.symm ne42)]; exact v126
      have le149 : hs137.length ≤ 1 := Nat.le_trans lq144 le127
      have N150 := Fr.app N135 N136q
      refine Goes.by (fun _ k => st136.trans k) ?_
      clear X134 N135 Z123 e134
      refine Goes.by (B := T136.setTop (mkF m 135 #[.val (.long q0), .second, .val (.long q1), .second, .val (.int p2), .val (.ref b2), .val (.ref b24), .val (.ref b39), .val (.int (0 : Int32)), .val (.int (1 : Int32)), .val (.int (1 : Int32))] [(.ref b24)])) (fun t k => ?_) ?_
      · refine XS.iload X136.here hx rfl (hb hby at_128) rfl ?_
        refine XS.ifNo X136.here hx rfl (hb hby at_130) rfl ((if0 _ _).trans (feq (by decide : ¬ ((1 : Int32) = (0 : Int32)))).1) ?_
        refine XS.aload X136.here hx rfl (hb hby at_133) rfl rfl ?_
        exact k
      have f151 : Fld Z T136.heap b24 cL "next" dL .null := Rep.nextN R141 I142 (by simp) v147
      obtain ⟨_, _, ⟨T152, L152, k152, n152⟩, -, X152, ⟨Lc152, hQ152, l152, y152, z152⟩, st152⟩ := Jvm.LawKit.callS X136 hx (y := y2) hown (mvT hZ (wq hw 20 rfl)) (mvT hZ (wq hw 21 rfl)) (mvT hZ (wq hw 2 rfl)) (mvT hZ (wq hw 22 rfl)) (by decide) (backOf (W := 0) (rmIsN l Z az hw [] b24 T136.heap n0 Z145 f151) hZ (wq hw 22 rfl) (wq hw 2 rfl) (by decide) (by decide)) (g := (mkF m 135 #[.val (.long q0), .second, .val (.long q1), .second, .val (.int p2), .val (.ref b2), .val (.ref b24), .val (.ref b39), .val (.int (0 : Int32)), .val (.int (1 : Int32)), .val (.int (1 : Int32))] [(.ref b24)])) rfl (by rw [hml]; rfl) (argsL := [(.ref b24)]) (rest := []) (lenOf own_pd5 rfl) rfl (by show 2 * 0 + _ ≤ _; exact Nat.le_of_eq rfl) (hb hby at_135) (fun _ _ => ⟨rfl, rfl, (by decide : 5 + 0 ≤ _), (by decide : 13 + 0 ≤ _)⟩)
      dsimp only [Pt.U, Pt.locs, Pt.cells, Pt.slots] at X152 l152 y152 z152 st152 hQ152
      subst l152 y152 z152
      replace X152 : Stand p l e room_1 s m #[(.long q0), (.long q1), (.int p2)] below meth c T152 _ 5 13 := X152
      obtain ⟨rfl, N152q, e152⟩ := hQ152
      have N153 := Fr.app N150 N152q
      refine Goes.by st152 ?_
      clear X136 N150
      refine Goes.by (B := T152.setTop (mkF m 143 #[.val (.long q0), .second, .val (.long q1), .second, .val (.int p2), .val (.ref b2), .val (.ref b24), .val (.ref b39), .val (.int (0 : Int32)), .val (.int (1 : Int32)), .val (.int (1 : Int32))] [(.ref b39)])) (fun t k => ?_) ?_
      · refine XS.ifNo X152.here hx rfl (hb hby at_138) rfl ((if0 _ _).trans (teq (by decide : (0 : Int32) = (0 : Int32))).2) ?_
        refine XS.aload X152.here hx rfl (hb hby at_141) rfl rfl ?_
        exact k
      have f154 : Fld Z T136.heap b39 cL "next" dL .null := Rep.nextN R141 I142 (by simp) v148
      obtain ⟨_, _, ⟨T155, L155, k155, n155⟩, -, X155, ⟨Lc155, hQ155, l155, y155, z155⟩, st155⟩ := Jvm.LawKit.callS X152 hx (y := y2) hown (mvT hZ (wq hw 20 rfl)) (mvT hZ (wq hw 21 rfl)) (mvT hZ (wq hw 2 rfl)) (mvT hZ (wq hw 22 rfl)) (by decide) (backOf (W := 0) (rmIsN l Z az hw [] b39 T136.heap n0 Z145 f154) hZ (wq hw 22 rfl) (wq hw 2 rfl) (by decide) (by decide)) (g := (mkF m 143 #[.val (.long q0), .second, .val (.long q1), .second, .val (.int p2), .val (.ref b2), .val (.ref b24), .val (.ref b39), .val (.int (0 : Int32)), .val (.int (1 : Int32)), .val (.int (1 : Int32))] [(.ref b39)])) rfl (by rw [hml]; rfl) (argsL := [(.ref b39)]) (rest := []) (lenOf own_pd5 rfl) rfl (by show 2 * 0 + _ ≤ _; exact Nat.le_of_eq rfl) (hb hby at_143) (fun _ _ => ⟨rfl, e152, (by decide : 5 + 0 ≤ _), (by decide : 13 + 0 ≤ _)⟩)
      dsimp only [Pt.U, Pt.locs, Pt.cells, Pt.slots] at X155 l155 y155 z155 st155 hQ155
      subst l155 y155 z155
      replace X155 : Stand p l e room_1 s m #[(.long q0), (.long q1), (.int p2)] below meth c T155 _ 5 13 := X155
      obtain ⟨rfl, N155q, e155⟩ := hQ155
      have N156 := Fr.app N153 N155q
      refine Goes.by st155 ?_
      clear X152 N153 e152
      refine Goes.by (B := T155.setTop (mkF m 168 #[.val (.long q0), .second, .val (.long q1), .second, .val (.int p2), .val (.ref b2), .val (.ref b24), .val (.ref b39), .val (.int (0 : Int32)), .val (.int (1 : Int32)), .val (.int (1 : Int32))] [(.long q1), (.ref b24), (.ref b2)])) (fun t k => ?_) ?_
      · refine XS.iload X155.here hx rfl (hb hby at_146) rfl ?_
        refine XS.icmpNo X155.here hx rfl (hb hby at_148) rfl (teq (by decide : (0 : Int32) = (0 : Int32))).2 ?_
        refine XS.iconst X155.here hx rfl (hb hby at_151) ?_
        refine XS.goto X155.here hx rfl (pc0 := 152) (pc' := 156) rfl (hb hby at_152) (by decide) (by decide) ?_
        refine XS.istore X155.here hx rfl (hb hby at_156) rfl (l' := #[.val (.long q0), .second, .val (.long q1), .second, .val (.int p2), .val (.ref b2), .val (.ref b24), .val (.ref b39), .val (.int (0 : Int32)), .val (.int (1 : Int32)), .val (.int (1 : Int32))]) rfl ?_
        refine XS.iload X155.here hx rfl (hb hby at_158) rfl ?_
        refine XS.ifNo X155.here hx rfl (hb hby at_160) rfl ((if0 _ _).trans (feq (by decide : ¬ ((1 : Int32) = (0 : Int32)))).1) ?_
        refine XS.aload X155.here hx rfl (hb hby at_163) rfl rfl ?_
        refine XS.aload X155.here hx rfl (hb hby at_165) rfl rfl ?_
        refine XS.lloadN X155.here hx rfl (hb hby at_167) rfl ?_
        exact k
      obtain ⟨cq157, kq157, q157a, q157b, q157c⟩ := isOf hZ e155 R141.1
      obtain ⟨_, _, ⟨T157, L157, k157, n157⟩, -, X157, ⟨Lc157, hQ157, l157, y157, z157⟩, st157⟩ := X155.virtualBack hx (y := y3) (z := y3) hown (mvT hZ (wq hw 25 rfl)) (mvT hZ (wq hw 26 rfl)) (notFace_of_selects (args := #[]) (mvT hZ (wq hw 28 rfl))) (mvT hZ (wq hw 28 rfl)) (mvT hZ (wq hw 27 rfl)) (by decide) (backOf (W := 0) (rmFileR l Z az hw [] b2 b24 q1 b9 c10 hs137 τ138 Nn139 Pp140 [b24, b39] tk146 T136.heap n0 Z145 R141 I142 (by simp) v147 (Nat.le_trans le149 (by decide))) hZ (wq hw 29 rfl) (wq hw 2 rfl) (by decide) (by decide)) q157a q157c (g := (mkF m 168 #[.val (.long q0), .second, .val (.long q1), .second, .val (.int p2), .val (.ref b2), .val (.ref b24), .val (.ref b39), .val (.int (0 : Int32)), .val (.int (1 : Int32)), .val (.int (1 : Int32))] [(.long q1), (.ref b24), (.ref b2)])) rfl (by rw [hml]; rfl) (Steps.refl _) (argsL := [(.ref b24), (.long q1)]) (rest := []) (lenOf own_pd6 rfl) rfl (by show 2 * 0 + _ ≤ _; exact Nat.le_of_eq rfl) (hb hby at_168) (fun _ _ => ⟨rfl, e155, (by decide : 5 + 1 ≤ _), (by decide : 13 + 3 ≤ _)⟩)
      dsimp only [Pt.U, Pt.locs, Pt.cells, Pt.slots] at X157 l157 y157 z157 st157 hQ157
      subst l157 y157 z157
      replace X157 : Stand p l e room_1 s m #[(.long q0), (.long q1), (.int p2)] below meth c T157 _ 6 16 := X157
      obtain ⟨hs158, τ159, Nn160, Pp161, rfl, N157q, zq164, R162, I163, lq165⟩ := hQ157
      have Z166 : n0 ≤ T157.heap.size := Nat.le_trans Z145 zq164
      obtain ⟨tk167, etk167⟩ : ∃ z, z = upd tk146 b24 (some q1) := ⟨_, rfl⟩
      rw [← etk167] at I163
      have v168 : tk167 b24 = (some q1) := by rw [etk167]; exact upd_at _ _ _
      have v169 : tk167 b39 = none := by rw [etk167, upd_ne _ _ (Ne.symm ne42)]; exact v148
      have le170 : hs158.length ≤ 2 := Nat.le_trans lq165 (Nat.succ_le_succ le149)
      have N171 := Fr.app N156 N157q
      refine Goes.by (fun _ k => st157.trans k) ?_
      clear X155 N156 Z145 e155
      refine Goes.by (B := T157.setTop (mkF m 178 #[.val (.long q0), .second, .val (.long q1), .second, .val (.int p2), .val (.ref b2), .val (.ref b24), .val (.ref b39), .val (.int (0 : Int32)), .val (.int (1 : Int32)), .val (.int (1 : Int32))] [(.ref b24)])) (fun t k => ?_) ?_
      · refine XS.iload X157.here hx rfl (hb hby at_171) rfl ?_
        refine XS.ifNo X157.here hx rfl (hb hby at_173) rfl ((if0 _ _).trans (feq (by decide : ¬ ((1 : Int32) = (0 : Int32)))).1) ?_
        refine XS.aload X157.here hx rfl (hb hby at_176) rfl rfl ?_
        exact k
      obtain ⟨b173, f172⟩ := Rep.nextY R162 I163 (by simp) v168
      obtain ⟨_, _, ⟨T174, L174, k174, n174⟩, -, X174, ⟨Lc174, hQ174, l174, y174, z174⟩, st174⟩ := Jvm.LawKit.callS X157 hx (y := y2) hown (mvT hZ (wq hw 20 rfl)) (mvT hZ (wq hw 21 rfl)) (mvT hZ (wq hw 2 rfl)) (mvT hZ (wq hw 22 rfl)) (by decide) (backOf (W := 0) (rmIsY l Z az hw [] b24 b173 T157.heap n0 Z166 f172) hZ (wq hw 22 rfl) (wq hw 2 rfl) (by decide) (by decide)) (g := (mkF m 178 #[.val (.long q0), .second, .val (.long q1), .second, .val (.int p2), .val (.ref b2), .val (.ref b24), .val (.ref b39), .val (.int (0 : Int32)), .val (.int (1 : Int32)), .val (.int (1 : Int32))] [(.ref b24)])) rfl (by rw [hml]; rfl) (argsL := [(.ref b24)]) (rest := []) (lenOf own_pd5 rfl) rfl (by show 2 * 0 + _ ≤ _; exact Nat.le_of_eq rfl) (hb hby at_178) (fun _ _ => ⟨rfl, rfl, (by decide : 6 + 0 ≤ _), (by decide : 16 + 0 ≤ _)⟩)
      dsimp only [Pt.U, Pt.locs, Pt.cells, Pt.slots] at X174 l174 y174 z174 st174 hQ174
      subst l174 y174 z174
      replace X174 : Stand p l e room_1 s m #[(.long q0), (.long q1), (.int p2)] below meth c T174 _ 6 16 := X174
      obtain ⟨rfl, N174q, e174⟩ := hQ174
      have N175 := Fr.app N171 N174q
      refine Goes.by st174 ?_
      clear X157 N171
      refine Goes.by (B := T174.setTop (mkF m 193 #[.val (.long q0), .second, .val (.long q1), .second, .val (.int p2), .val (.ref b2), .val (.ref b24), .val (.ref b39), .val (.int (0 : Int32)), .val (.int (1 : Int32)), .val (.int (1 : Int32))] [(.int (1 : Int32))])) (fun t k => ?_) ?_
      · refine XS.ifNo X174.here hx rfl (hb hby at_181) rfl ((if0 _ _).trans (feq (by decide : ¬ ((1 : Int32) = (0 : Int32)))).1) ?_
        refine XS.iconst X174.here hx rfl (hb hby at_184) ?_
        refine XS.goto X174.here hx rfl (pc0 := 185) (pc' := 189) rfl (hb hby at_185) (by decide) (by decide) ?_
        refine XS.istore X174.here hx rfl (hb hby at_189) rfl (l' := #[.val (.long q0), .second, .val (.long q1), .second, .val (.int p2), .val (.ref b2), .val (.ref b24), .val (.ref b39), .val (.int (0 : Int32)), .val (.int (1 : Int32)), .val (.int (1 : Int32))]) rfl ?_
        refine XS.iload X174.here hx rfl (hb hby at_191) rfl ?_
        exact k
      obtain ⟨fs, hr, hrun, hended, hW, hsame⟩ := X174.leave (v := some (.int (1 : Int32))) (fun h => by rw [Bd.returns] at h; cases h)
      refine Goes.mk _ _ ?_ ⟨hrun, hended, _, _, rfl, ?_, ⟨_, rfl⟩, hW, hsame.mono (by decide) (by decide)⟩
      · exact retN X174 hx (t := .boolean) Bd.returns (by simp) (hb hby at_193) hr
      · show Q0 Z q0 q1 p2 h0 n0 _ T174.heap _
        rw [e174]
        exact ⟨rfl, N175⟩
  · refine Goes.by (B := T55.setTop (mkF m 45 #[.val (.long q0), .second, .val (.long q1), .second, .val (.int p2), .val (.ref b2), .val (.ref b24), .val (.ref b39), .val (.int (1 : Int32)), .unset, .unset] [(.int (p2 &&& (2 : Int32)))])) (fun t k => ?_) ?_
    · refine XS.ifNo X55.here hx rfl (hb hby at_31) rfl ((if0 _ _).trans (feq hc63).1) ?_
      refine XS.iconst X55.here hx rfl (hb hby at_34) ?_
      refine XS.goto X55.here hx rfl (pc0 := 35) (pc' := 39) rfl (hb hby at_35) (by decide) (by decide) ?_
      refine XS.istore X55.here hx rfl (hb hby at_39) rfl (l' := #[.val (.long q0), .second, .val (.long q1), .second, .val (.int p2), .val (.ref b2), .val (.ref b24), .val (.ref b39), .val (.int (1 : Int32)), .unset, .unset]) rfl ?_
      refine XS.iload X55.here hx rfl (hb hby at_41) rfl ?_
      refine XS.iconst X55.here hx rfl (hb hby at_43) ?_
      refine XS.iand X55.here hx rfl (hb hby at_44) rfl ?_
      exact k
    by_cases hc176 : (p2 &&& (2 : Int32)) = (0 : Int32)
    · refine Goes.by (B := T55.setTop (mkF m 57 #[.val (.long q0), .second, .val (.long q1), .second, .val (.int p2), .val (.ref b2), .val (.ref b24), .val (.ref b39), .val (.int (1 : Int32)), .val (.int (0 : Int32)), .unset] [(.ref b24)])) (fun t k => ?_) ?_
      · refine XS.ifYes X55.here hx rfl (pc0 := 45) (pc' := 52) rfl (hb hby at_45) rfl ((if0 _ _).trans (teq hc176).1) (by decide) (by decide) ?_
        refine XS.iconst X55.here hx rfl (hb hby at_52) ?_
        refine XS.istore X55.here hx rfl (hb hby at_53) rfl (l' := #[.val (.long q0), .second, .val (.long q1), .second, .val (.int p2), .val (.ref b2), .val (.ref b24), .val (.ref b39), .val (.int (1 : Int32)), .val (.int (0 : Int32)), .unset]) rfl ?_
        refine XS.aload X55.here hx rfl (hb hby at_55) rfl rfl ?_
        exact k
      have f177 : Fld Z h38 b24 cL "next" dL .null := Rep.nextN R57 I58 (by simp) v60
      obtain ⟨_, _, ⟨T178, L178, k178, n178⟩, -, X178, ⟨Lc178, hQ178, l178, y178, z178⟩, st178⟩ := Jvm.LawKit.callS X55 hx (y := y2) hown (mvT hZ (wq hw 20 rfl)) (mvT hZ (wq hw 21 rfl)) (mvT hZ (wq hw 2 rfl)) (mvT hZ (wq hw 22 rfl)) (by decide) (backOf (W := 0) (rmIsN l Z az hw [] b24 h38 n0 Z54 f177) hZ (wq hw 22 rfl) (wq hw 2 rfl) (by decide) (by decide)) (g := (mkF m 57 #[.val (.long q0), .second, .val (.long q1), .second, .val (.int p2), .val (.ref b2), .val (.ref b24), .val (.ref b39), .val (.int (1 : Int32)), .val (.int (0 : Int32)), .unset] [(.ref b24)])) rfl (by rw [hml]; rfl) (argsL := [(.ref b24)]) (rest := []) (lenOf own_pd5 rfl) rfl (by show 2 * 0 + _ ≤ _; exact Nat.le_of_eq rfl) (hb hby at_57) (fun _ _ => ⟨rfl, e55, (by decide : 4 + 0 ≤ _), (by decide : 10 + 0 ≤ _)⟩)
      dsimp only [Pt.U, Pt.locs, Pt.cells, Pt.slots] at X178 l178 y178 z178 st178 hQ178
      subst l178 y178 z178
      replace X178 : Stand p l e room_1 s m #[(.long q0), (.long q1), (.int p2)] below meth c T178 _ 4 10 := X178
      obtain ⟨rfl, N178q, e178⟩ := hQ178
      have N179 := Fr.app N56 N178q
      refine Goes.by st178 ?_
      clear X55 N56 e55
      refine Goes.by (B := T178.setTop (mkF m 75 #[.val (.long q0), .second, .val (.long q1), .second, .val (.int p2), .val (.ref b2), .val (.ref b24), .val (.ref b39), .val (.int (1 : Int32)), .val (.int (0 : Int32)), .val (.int (1 : Int32))] [(.long q0), (.ref b24), (.ref b2)])) (fun t k => ?_) ?_
      · refine XS.ifNo X178.here hx rfl (hb hby at_60) rfl ((if0 _ _).trans (teq (by decide : (0 : Int32) = (0 : Int32))).2) ?_
        refine XS.iconst X178.here hx rfl (hb hby at_63) ?_
        refine XS.goto X178.here hx rfl (pc0 := 64) (pc' := 68) rfl (hb hby at_64) (by decide) (by decide) ?_
        refine XS.istore X178.here hx rfl (hb hby at_68) rfl (l' := #[.val (.long q0), .second, .val (.long q1), .second, .val (.int p2), .val (.ref b2), .val (.ref b24), .val (.ref b39), .val (.int (1 : Int32)), .val (.int (0 : Int32)), .val (.int (1 : Int32))]) rfl ?_
        refine XS.aload X178.here hx rfl (hb hby at_70) rfl rfl ?_
        refine XS.aload X178.here hx rfl (hb hby at_72) rfl rfl ?_
        refine XS.lloadN X178.here hx rfl (hb hby at_74) rfl ?_
        exact k
      obtain ⟨cq180, kq180, q180a, q180b, q180c⟩ := isOf hZ e178 R57.1
      obtain ⟨_, _, ⟨T180, L180, k180, n180⟩, -, X180, ⟨Lc180, hQ180, l180, y180, z180⟩, st180⟩ := X178.virtualBack hx (y := y3) (z := y3) hown (mvT hZ (wq hw 25 rfl)) (mvT hZ (wq hw 26 rfl)) (notFace_of_selects (args := #[]) (mvT hZ (wq hw 28 rfl))) (mvT hZ (wq hw 28 rfl)) (mvT hZ (wq hw 27 rfl)) (by decide) (backOf (W := 0) (rmFileR l Z az hw [] b2 b24 q0 b9 c10 [] (fun _ => 0) (fun _ => .null) (fun _ => .null) [b24, b39] tk59 h38 n0 Z54 R57 I58 (by simp) v60 (Nat.le_trans le62 (by decide))) hZ (wq hw 29 rfl) (wq hw 2 rfl) (by decide) (by decide)) q180a q180c (g := (mkF m 75 #[.val (.long q0), .second, .val (.long q1), .second, .val (.int p2), .val (.ref b2), .val (.ref b24), .val (.ref b39), .val (.int (1 : Int32)), .val (.int (0 : Int32)), .val (.int (1 : Int32))] [(.long q0), (.ref b24), (.ref b2)])) rfl (by rw [hml]; rfl) (Steps.refl _) (argsL := [(.ref b24), (.long q0)]) (rest := []) (lenOf own_pd6 rfl) rfl (by show 2 * 0 + _ ≤ _; exact Nat.le_of_eq rfl) (hb hby at_75) (fun _ _ => ⟨rfl, e178, (by decide : 4 + 1 ≤ _), (by decide : 10 + 3 ≤ _)⟩)
      dsimp only [Pt.U, Pt.locs, Pt.cells, Pt.slots] at X180 l180 y180 z180 st180 hQ180
      subst l180 y180 z180
      replace X180 : Stand p l e room_1 s m #[(.long q0), (.long q1), (.int p2)] below meth c T180 _ 5 13 := X180
      obtain ⟨hs181, τ182, Nn183, Pp184, rfl, N180q, zq187, R185, I186, lq188⟩ := hQ180
      have Z189 : n0 ≤ T180.heap.size := Nat.le_trans Z54 zq187
      obtain ⟨tk190, etk190⟩ : ∃ z, z = upd tk59 b24 (some q0) := ⟨_, rfl⟩
      rw [← etk190] at I186
      have v191 : tk190 b24 = (some q0) := by rw [etk190]; exact upd_at _ _ _
      have v192 : tk190 b39 = none := by rw [etk190, upd_ne _ _ (Ne.symm ne42)]; exact v61
      have le193 : hs181.length ≤ 1 := Nat.le_trans lq188 (Nat.succ_le_succ le62)
      have N194 := Fr.app N179 N180q
      refine Goes.by (fun _ k => st180.trans k) ?_
      clear X178 N179 Z54 e178
      refine Goes.by (B := T180.setTop (mkF m 88 #[.val (.long q0), .second, .val (.long q1), .second, .val (.int p2), .val (.ref b2), .val (.ref b24), .val (.ref b39), .val (.int (1 : Int32)), .val (.int (0 : Int32)), .val (.int (1 : Int32))] [(.long q1), (.ref b39), (.ref b2)])) (fun t k => ?_) ?_
      · refine XS.iload X180.here hx rfl (hb hby at_78) rfl ?_
        refine XS.ifNo X180.here hx rfl (hb hby at_80) rfl ((if0 _ _).trans (feq (by decide : ¬ ((1 : Int32) = (0 : Int32)))).1) ?_
        refine XS.aload X180.here hx rfl (hb hby at_83) rfl rfl ?_
        refine XS.aload X180.here hx rfl (hb hby at_85) rfl rfl ?_
        refine XS.lloadN X180.here hx rfl (hb hby at_87) rfl ?_
        exact k
      obtain ⟨cq195, kq195, q195a, q195b, q195c⟩ := isOf hZ rfl R185.1
      obtain ⟨_, _, ⟨T195, L195, k195, n195⟩, -, X195, ⟨Lc195, hQ195, l195, y195, z195⟩, st195⟩ := X180.virtualBack hx (y := y3) (z := y3) hown (mvT hZ (wq hw 25 rfl)) (mvT hZ (wq hw 26 rfl)) (notFace_of_selects (args := #[]) (mvT hZ (wq hw 28 rfl))) (mvT hZ (wq hw 28 rfl)) (mvT hZ (wq hw 27 rfl)) (by decide) (backOf (W := 0) (rmFileR l Z az hw [] b2 b39 q1 b9 c10 hs181 τ182 Nn183 Pp184 [b24, b39] tk190 T180.heap n0 Z189 R185 I186 (by simp) v192 (Nat.le_trans le193 (by decide))) hZ (wq hw 29 rfl) (wq hw 2 rfl) (by decide) (by decide)) q195a q195c (g := (mkF m 88 #[.val (.long q0), .second, .val (.long q1), .second, .val (.int p2), .val (.ref b2), .val (.ref b24), .val (.ref b39), .val (.int (1 : Int32)), .val (.int (0 : Int32)), .val (.int (1 : Int32))] [(.long q1), (.ref b39), (.ref b2)])) rfl (by rw [hml]; rfl) (Steps.refl _) (argsL := [(.ref b39), (.long q1)]) (rest := []) (lenOf own_pd6 rfl) rfl (by show 2 * 0 + _ ≤ _; exact Nat.le_of_eq rfl) (hb hby at_88) (fun _ _ => ⟨rfl, rfl, (by decide : 5 + 1 ≤ _), (by decide : 13 + 3 ≤ _)⟩)
      dsimp only [Pt.U, Pt.locs, Pt.cells, Pt.slots] at X195 l195 y195 z195 st195 hQ195
      subst l195 y195 z195
      replace X195 : Stand p l e room_1 s m #[(.long q0), (.long q1), (.int p2)] below meth c T195 _ 6 16 := X195
      obtain ⟨hs196, τ197, Nn198, Pp199, rfl, N195q, zq202, R200, I201, lq203⟩ := hQ195
      have Z204 : n0 ≤ T195.heap.size := Nat.le_trans Z189 zq202
      obtain ⟨tk205, etk205⟩ : ∃ z, z = upd tk190 b39 (some q1) := ⟨_, rfl⟩
      rw [← etk205] at I201
      have v206 : tk205 b24 = (some q0) := by rw [etk205, upd_ne _ _ ne42]; exact v191
      have v207 : tk205 b39 = (some q1) := by rw [etk205]; exact upd_at _ _ _
      have le208 : hs196.length ≤ 2 := Nat.le_trans lq203 (Nat.succ_le_succ le193)
      have N209 := Fr.app N194 N195q
      refine Goes.by (fun _ k => st195.trans k) ?_
      clear X180 N194 Z189
      refine Goes.by (B := T195.setTop (mkF m 98 #[.val (.long q0), .second, .val (.long q1), .second, .val (.int p2), .val (.ref b2), .val (.ref b24), .val (.ref b39), .val (.int (1 : Int32)), .val (.int (0 : Int32)), .val (.int (1 : Int32))] [(.ref b24)])) (fun t k => ?_) ?_
      · refine XS.iload X195.here hx rfl (hb hby at_91) rfl ?_
        refine XS.ifNo X195.here hx rfl (hb hby at_93) rfl ((if0 _ _).trans (feq (by decide : ¬ ((1 : Int32) = (0 : Int32)))).1) ?_
        refine XS.aload X195.here hx rfl (hb hby at_96) rfl rfl ?_
        exact k
      obtain ⟨b211, f210⟩ := Rep.nextY R200 I201 (by simp) v206
      obtain ⟨_, _, ⟨T212, L212, k212, n212⟩, -, X212, ⟨Lc212, hQ212, l212, y212, z212⟩, st212⟩ := Jvm.LawKit.callS X195 hx (y := y2) hown (mvT hZ (wq hw 20 rfl)) (mvT hZ (wq hw 21 rfl)) (mvT hZ (wq hw 2 rfl)) (mvT hZ (wq hw 22 rfl)) (by decide) (backOf (W := 0) (rmIsY l Z az hw [] b24 b211 T195.heap n0 Z204 f210) hZ (wq hw 22 rfl) (wq hw 2 rfl) (by decide) (by decide)) (g := (mkF m 98 #[.val (.long q0), .second, .val (.long q1), .second, .val (.int p2), .val (.ref b2), .val (.ref b24), .val (.ref b39), .val (.int (1 : Int32)), .val (.int (0 : Int32)), .val (.int (1 : Int32))] [(.ref b24)])) rfl (by rw [hml]; rfl) (argsL := [(.ref b24)]) (rest := []) (lenOf own_pd5 rfl) rfl (by show 2 * 0 + _ ≤ _; exact Nat.le_of_eq rfl) (hb hby at_98) (fun _ _ => ⟨rfl, rfl, (by decide : 6 + 0 ≤ _), (by decide : 16 + 0 ≤ _)⟩)
      dsimp only [Pt.U, Pt.locs, Pt.cells, Pt.slots] at X212 l212 y212 z212 st212 hQ212
      subst l212 y212 z212
      replace X212 : Stand p l e room_1 s m #[(.long q0), (.long q1), (.int p2)] below meth c T212 _ 6 16 := X212
      obtain ⟨rfl, N212q, e212⟩ := hQ212
      have N213 := Fr.app N209 N212q
      refine Goes.by st212 ?_
      clear X195 N209
      refine Goes.by (B := T212.setTop (mkF m 106 #[.val (.long q0), .second, .val (.long q1), .second, .val (.int p2), .val (.ref b2), .val (.ref b24), .val (.ref b39), .val (.int (1 : Int32)), .val (.int (0 : Int32)), .val (.int (1 : Int32))] [(.ref b39)])) (fun t k => ?_) ?_
      · refine XS.ifNo X212.here hx rfl (hb hby at_101) rfl ((if0 _ _).trans (feq (by decide : ¬ ((1 : Int32) = (0 : Int32)))).1) ?_
        refine XS.aload X212.here hx rfl (hb hby at_104) rfl rfl ?_
        exact k
      obtain ⟨b215, f214⟩ := Rep.nextY R200 I201 (by simp) v207
      obtain ⟨_, _, ⟨T216, L216, k216, n216⟩, -, X216, ⟨Lc216, hQ216, l216, y216, z216⟩, st216⟩ := Jvm.LawKit.callS X212 hx (y := y2) hown (mvT hZ (wq hw 20 rfl)) (mvT hZ (wq hw 21 rfl)) (mvT hZ (wq hw 2 rfl)) (mvT hZ (wq hw 22 rfl)) (by decide) (backOf (W := 0) (rmIsY l Z az hw [] b39 b215 T195.heap n0 Z204 f214) hZ (wq hw 22 rfl) (wq hw 2 rfl) (by decide) (by decide)) (g := (mkF m 106 #[.val (.long q0), .second, .val (.long q1), .second, .val (.int p2), .val (.ref b2), .val (.ref b24), .val (.ref b39), .val (.int (1 : Int32)), .val (.int (0 : Int32)), .val (.int (1 : Int32))] [(.ref b39)])) rfl (by rw [hml]; rfl) (argsL := [(.ref b39)]) (rest := []) (lenOf own_pd5 rfl) rfl (by show 2 * 0 + _ ≤ _; exact Nat.le_of_eq rfl) (hb hby at_106) (fun _ _ => ⟨rfl, e212, (by decide : 6 + 0 ≤ _), (by decide : 16 + 0 ≤ _)⟩)
      dsimp only [Pt.U, Pt.locs, Pt.cells, Pt.slots] at X216 l216 y216 z216 st216 hQ216
      subst l216 y216 z216
      replace X216 : Stand p l e room_1 s m #[(.long q0), (.long q1), (.int p2)] below meth c T216 _ 6 16 := X216
      obtain ⟨rfl, N216q, e216⟩ := hQ216
      have N217 := Fr.app N213 N216q
      refine Goes.by st216 ?_
      clear X212 N213 e212
      refine Goes.by (B := T216.setTop (mkF m 125 #[.val (.long q0), .second, .val (.long q1), .second, .val (.int p2), .val (.ref b2), .val (.ref b24), .val (.ref b39), .val (.int (1 : Int32)), .val (.int (0 : Int32)), .val (.int (1 : Int32))] [(.ref b24), (.ref b2)])) (fun t k => ?_) ?_
      · refine XS.iload X216.here hx rfl (hb hby at_109) rfl ?_
        refine XS.icmpNo X216.here hx rfl (hb hby at_111) rfl (teq (by decide : (1 : Int32) = (1 : Int32))).2 ?_
        refine XS.iconst X216.here hx rfl (hb hby at_114) ?_
        refine XS.goto X216.here hx rfl (pc0 := 115) (pc' := 119) rfl (hb hby at_115) (by decide) (by decide) ?_
        refine XS.istore X216.here hx rfl (hb hby at_119) rfl (l' := #[.val (.long q0), .second, .val (.long q1), .second, .val (.int p2), .val (.ref b2), .val (.ref b24), .val (.ref b39), .val (.int (1 : Int32)), .val (.int (0 : Int32)), .val (.int (1 : Int32))]) rfl ?_
        refine XS.aload X216.here hx rfl (hb hby at_121) rfl rfl ?_
        refine XS.aload X216.here hx rfl (hb hby at_123) rfl rfl ?_
        exact k
      obtain ⟨cq218, kq218, q218a, q218b, q218c⟩ := isOf hZ e216 R200.1
      obtain ⟨_, _, ⟨T218, L218, k218, n218⟩, -, X218, ⟨Lc218, hQ218, l218, y218, z218⟩, st218⟩ := X216.virtualBack hx (y := y7) (z := y7) hown (mvT hZ (wq hw 60 rfl)) (mvT hZ (wq hw 61 rfl)) (notFace_of_selects (args := #[]) (mvT hZ (wq hw 63 rfl))) (mvT hZ (wq hw 63 rfl)) (mvT hZ (wq hw 62 rfl)) (by decide) (backOf (W := 0) (rmRemR l Z az hw [] b2 b24 q0 b9 c10 hs196 τ197 Nn198 Pp199 [b24, b39] tk205 T195.heap n0 Z204 R200 I201 (by simp) v206 (Nat.le_trans le208 (by decide))) hZ (wq hw 64 rfl) (wq hw 2 rfl) (by decide) (by decide)) q218a q218c (g := (mkF m 125 #[.val (.long q0), .second, .val (.long q1), .second, .val (.int p2), .val (.ref b2), .val (.ref b24), .val (.ref b39), .val (.int (1 : Int32)), .val (.int (0 : Int32)), .val (.int (1 : Int32))] [(.ref b24), (.ref b2)])) rfl (by rw [hml]; rfl) (Steps.refl _) (argsL := [(.ref b24)]) (rest := []) (lenOf own_pd7 rfl) rfl (by show 2 * 0 + _ ≤ _; exact Nat.le_of_eq rfl) (hb hby at_125) (fun _ _ => ⟨rfl, e216, (by decide : 6 + 0 ≤ _), (by decide : 16 + 0 ≤ _)⟩)
      dsimp only [Pt.U, Pt.locs, Pt.cells, Pt.slots] at X218 l218 y218 z218 st218 hQ218
      subst l218 y218 z218
      replace X218 : Stand p l e room_1 s m #[(.long q0), (.long q1), (.int p2)] below meth c T218 _ 6 16 := X218
      obtain ⟨hs219, τ220, Nn221, Pp222, rfl, N218q, zq225, R223, I224, lq226⟩ := hQ218
      have Z227 : n0 ≤ T218.heap.size := Nat.le_trans Z204 zq225
      obtain ⟨tk228, etk228⟩ : ∃ z, z = upd tk205 b24 none := ⟨_, rfl⟩
      rw [← etk228] at I224
      have v229 : tk228 b24 = none := by rw [etk228]; exact upd_at _ _ _
      have v230 : tk228 b39 = (some q1) := by rw [etk228, upd_ne _ _ (Ne.symm ne42)]; exact v207
      have le231 : hs219.length ≤ 2 := Nat.le_trans lq226 le208
      have N232 := Fr.app N217 N218q
      refine Goes.by (fun _ k => st218.trans k) ?_
      clear X216 N217 Z204 e216
      refine Goes.by (B := T218.setTop (mkF m 135 #[.val (.long q0), .second, .val (.long q1), .second, .val (.int p2), .val (.ref b2), .val (.ref b24), .val (.ref b39), .val (.int (1 : Int32)), .val (.int (0 : Int32)), .val (.int (1 : Int32))] [(.ref b24)])) (fun t k => ?_) ?_
      · refine XS.iload X218.here hx rfl (hb hby at_128) rfl ?_
        refine XS.ifNo X218.here hx rfl (hb hby at_130) rfl ((if0 _ _).trans (feq (by decide : ¬ ((1 : Int32) = (0 : Int32)))).1) ?_
        refine XS.aload X218.here hx rfl (hb hby at_133) rfl rfl ?_
        exact k
      have f233 : Fld Z T218.heap b24 cL "next" dL .null := Rep.nextN R223 I224 (by simp) v229
      obtain ⟨_, _, ⟨T234, L234, k234, n234⟩, -, X234, ⟨Lc234, hQ234, l234, y234, z234⟩, st234⟩ := Jvm.LawKit.callS X218 hx (y := y2) hown (mvT hZ (wq hw 20 rfl)) (mvT hZ (wq hw 21 rfl)) (mvT hZ (wq hw 2 rfl)) (mvT hZ (wq hw 22 rfl)) (by decide) (backOf (W := 0) (rmIsN l Z az hw [] b24 T218.heap n0 Z227 f233) hZ (wq hw 22 rfl) (wq hw 2 rfl) (by decide) (by decide)) (g := (mkF m 135 #[.val (.long q0), .second, .val (.long q1), .second, .val (.int p2), .val (.ref b2), .val (.ref b24), .val (.ref b39), .val (.int (1 : Int32)), .val (.int (0 : Int32)), .val (.int (1 : Int32))] [(.ref b24)])) rfl (by rw [hml]; rfl) (argsL := [(.ref b24)]) (rest := []) (lenOf own_pd5 rfl) rfl (by show 2 * 0 + _ ≤ _; exact Nat.le_of_eq rfl) (hb hby at_135) (fun _ _ => ⟨rfl, rfl, (by decide : 6 + 0 ≤ _), (by decide : 16 + 0 ≤ _)⟩)
      dsimp only [Pt.U, Pt.locs, Pt.cells, Pt.slots] at X234 l234 y234 z234 st234 hQ234
      subst l234 y234 z234
      replace X234 : Stand p l e room_1 s m #[(.long q0), (.long q1), (.int p2)] below meth c T234 _ 6 16 := X234
      obtain ⟨rfl, N234q, e234⟩ := hQ234
      have N235 := Fr.app N232 N234q
      refine Goes.by st234 ?_
      clear X218 N232
      refine Goes.by (B := T234.setTop (mkF m 143 #[.val (.long q0), .second, .val (.long q1), .second, .val (.int p2), .val (.ref b2), .val (.ref b24), .val (.ref b39), .val (.int (1 : Int32)), .val (.int (0 : Int32)), .val (.int (1 : Int32))] [(.ref b39)])) (fun t k => ?_) ?_
      · refine XS.ifNo X234.here hx rfl (hb hby at_138) rfl ((if0 _ _).trans (teq (by decide : (0 : Int32) = (0 : Int32))).2) ?_
        refine XS.aload X234.here hx rfl (hb hby at_141) rfl rfl ?_
        exact k
      obtain ⟨b237, f236⟩ := Rep.nextY R223 I224 (by simp) v230
      obtain ⟨_, _, ⟨T238, L238, k238, n238⟩, -, X238, ⟨Lc238, hQ238, l238, y238, z238⟩, st238⟩ := Jvm.LawKit.callS X234 hx (y := y2) hown (mvT hZ (wq hw 20 rfl)) (mvT hZ (wq hw 21 rfl)) (mvT hZ (wq hw 2 rfl)) (mvT hZ (wq hw 22 rfl)) (by decide) (backOf (W := 0) (rmIsY l Z az hw [] b39 b237 T218.heap n0 Z227 f236) hZ (wq hw 22 rfl) (wq hw 2 rfl) (by decide) (by decide)) (g := (mkF m 143 #[.val (.long q0), .second, .val (.long q1), .second, .val (.int p2), .val (.ref b2), .val (.ref b24), .val (.ref b39), .val (.int (1 : Int32)), .val (.int (0 : Int32)), .val (.int (1 : Int32))] [(.ref b39)])) rfl (by rw [hml]; rfl) (argsL := [(.ref b39)]) (rest := []) (lenOf own_pd5 rfl) rfl (by show 2 * 0 + _ ≤ _; exact Nat.le_of_eq rfl) (hb hby at_143) (fun _ _ => ⟨rfl, e234, (by decide : 6 + 0 ≤ _), (by decide : 16 + 0 ≤ _)⟩)
      dsimp only [Pt.U, Pt.locs, Pt.cells, Pt.slots] at X238 l238 y238 z238 st238 hQ238
      subst l238 y238 z238
      replace X238 : Stand p l e room_1 s m #[(.long q0), (.long q1), (.int p2)] below meth c T238 _ 6 16 := X238
      obtain ⟨rfl, N238q, e238⟩ := hQ238
      have N239 := Fr.app N235 N238q
      refine Goes.by st238 ?_
      clear X234 N235 e234
      refine Goes.by (B := T238.setTop (mkF m 193 #[.val (.long q0), .second, .val (.long q1), .second, .val (.int p2), .val (.ref b2), .val (.ref b24), .val (.ref b39), .val (.int (1 : Int32)), .val (.int (0 : Int32)), .val (.int (1 : Int32))] [(.int (1 : Int32))])) (fun t k => ?_) ?_
      · refine XS.iload X238.here hx rfl (hb hby at_146) rfl ?_
        refine XS.icmpNo X238.here hx rfl (hb hby at_148) rfl (teq (by decide : (1 : Int32) = (1 : Int32))).2 ?_
        refine XS.iconst X238.here hx rfl (hb hby at_151) ?_
        refine XS.goto X238.here hx rfl (pc0 := 152) (pc' := 156) rfl (hb hby at_152) (by decide) (by decide) ?_
        refine XS.istore X238.here hx rfl (hb hby at_156) rfl (l' := #[.val (.long q0), .second, .val (.long q1), .second, .val (.int p2), .val (.ref b2), .val (.ref b24), .val (.ref b39), .val (.int (1 : Int32)), .val (.int (0 : Int32)), .val (.int (1 : Int32))]) rfl ?_
        refine XS.iload X238.here hx rfl (hb hby at_158) rfl ?_
        refine XS.ifYes X238.here hx rfl (pc0 := 160) (pc' := 191) rfl (hb hby at_160) rfl ((if0 _ _).trans (teq (by decide : (0 : Int32) = (0 : Int32))).1) (by decide) (by decide) ?_
        refine XS.iload X238.here hx rfl (hb hby at_191) rfl ?_
        exact k
      obtain ⟨fs, hr, hrun, hended, hW, hsame⟩ := X238.leave (v := some (.int (1 : Int32))) (fun h => by rw [Bd.returns] at h; cases h)
      refine Goes.mk _ _ ?_ ⟨hrun, hended, _, _, rfl, ?_, ⟨_, rfl⟩, hW, hsame.mono (by decide) (by decide)⟩
      · exact retN X238 hx (t := .boolean) Bd.returns (by simp) (hb hby at_193) hr
      · show Q0 Z q0 q1 p2 h0 n0 _ T238.heap _
        rw [e238]
        exact ⟨rfl, N239⟩
    · refine Goes.by (B := T55.setTop (mkF m 57 #[.val (.long q0), .second, .val (.long q1), .second, .val (.int p2), .val (.ref b2), .val (.ref b24), .val (.ref b39), .val (.int (1 : Int32)), .val (.int (1 : Int32)), .unset] [(.ref b24)])) (fun t k => ?_) ?_
      · refine XS.ifNo X55.here hx rfl (hb hby at_45) rfl ((if0 _ _).trans (feq hc176).1) ?_
        refine XS.iconst X55.here hx rfl (hb hby at_48) ?_
        refine XS.goto X55.here hx rfl (pc0 := 49) (pc' := 53) rfl (hb hby at_49) (by decide) (by decide) ?_
        refine XS.istore X55.here hx rfl (hb hby at_53) rfl (l' := #[.val (.long q0), .second, .val (.long q1), .second, .val (.int p2), .val (.ref b2), .val (.ref b24), .val (.ref b39), .val (.int (1 : Int32)), .val (.int (1 : Int32)), .unset]) rfl ?_
        refine XS.aload X55.here hx rfl (hb hby at_55) rfl rfl ?_
        exact k
      have f240 : Fld Z h38 b24 cL "next" dL .null := Rep.nextN R57 I58 (by simp) v60
      obtain ⟨_, _, ⟨T241, L241, k241, n241⟩, -, X241, ⟨Lc241, hQ241, l241, y241, z241⟩, st241⟩ := Jvm.LawKit.callS X55 hx (y := y2) hown (mvT hZ (wq hw 20 rfl)) (mvT hZ (wq hw 21 rfl)) (mvT hZ (wq hw 2 rfl)) (mvT hZ (wq hw 22 rfl)) (by decide) (backOf (W := 0) (rmIsN l Z az hw [] b24 h38 n0 Z54 f240) hZ (wq hw 22 rfl) (wq hw 2 rfl) (by decide) (by decide)) (g := (mkF m 57 #[.val (.long q0), .second, .val (.long q1), .second, .val (.int p2), .val (.ref b2), .val (.ref b24), .val (.ref b39), .val (.int (1 : Int32)), .val (.int (1 : Int32)), .unset] [(.ref b24)])) rfl (by rw [hml]; rfl) (argsL := [(.ref b24)]) (rest := []) (lenOf own_pd5 rfl) rfl (by show 2 * 0 + _ ≤ _; exact Nat.le_of_eq rfl) (hb hby at_57) (fun _ _ => ⟨rfl, e55, (by decide : 4 + 0 ≤ _), (by decide : 10 + 0 ≤ _)⟩)
      dsimp only [Pt.U, Pt.locs, Pt.cells, Pt.slots] at X241 l241 y241 z241 st241 hQ241
      subst l241 y241 z241
      replace X241 : Stand p l e room_1 s m #[(.long q0), (.long q1), (.int p2)] below meth c T241 _ 4 10 := X241
      obtain ⟨rfl, N241q, e241⟩ := hQ241
      have N242 := Fr.app N56 N241q
      refine Goes.by st241 ?_
      clear X55 N56 e55
      refine Goes.by (B := T241.setTop (mkF m 75 #[.val (.long q0), .second, .val (.long q1), .second, .val (.int p2), .val (.ref b2), .val (.ref b24), .val (.ref b39), .val (.int (1 : Int32)), .val (.int (1 : Int32)), .val (.int (1 : Int32))] [(.long q0), (.ref b24), (.ref b2)])) (fun t k => ?_) ?_
      · refine XS.ifNo X241.here hx rfl (hb hby at_60) rfl ((if0 _ _).trans (teq (by decide : (0 : Int32) = (0 : Int32))).2) ?_
        refine XS.iconst X241.here hx rfl (hb hby at_63) ?_
        refine XS.goto X241.here hx rfl (pc0 := 64) (pc' := 68) rfl (hb hby at_64) (by decide) (by decide) ?_
        refine XS.istore X241.here hx rfl (hb hby at_68) rfl (l' := #[.val (.long q0), .second, .val (.long q1), .second, .val (.int p2), .val (.ref b2), .val (.ref b24), .val (.ref b39), .val (.int (1 : Int32)), .val (.int (1 : Int32)), .val (.int (1 : Int32))]) rfl ?_
        refine XS.aload X241.here hx rfl (hb hby at_70) rfl rfl ?_
        refine XS.aload X241.here hx rfl (hb hby at_72) rfl rfl ?_
        refine XS.lloadN X241.here hx rfl (hb hby at_74) rfl ?_
        exact k
      obtain ⟨cq243, kq243, q243a, q243b, q243c⟩ := isOf hZ e241 R57.1
      obtain ⟨_, _, ⟨T243, L243, k243, n243⟩, -, X243, ⟨Lc243, hQ243, l243, y243, z243⟩, st243⟩ := X241.virtualBack hx (y := y3) (z := y3) hown (mvT hZ (wq hw 25 rfl)) (mvT hZ (wq hw 26 rfl)) (notFace_of_selects (args := #[]) (mvT hZ (wq hw 28 rfl))) (mvT hZ (wq hw 28 rfl)) (mvT hZ (wq hw 27 rfl)) (by decide) (backOf (W := 0) (rmFileR l Z az hw [] b2 b24 q0 b9 c10 [] (fun _ => 0) (fun _ => .null) (fun _ => .null) [b24, b39] tk59 h38 n0 Z54 R57 I58 (by simp) v60 (Nat.le_trans le62 (by decide))) hZ (wq hw 29 rfl) (wq hw 2 rfl) (by decide) (by decide)) q243a q243c (g := (mkF m 75 #[.val (.long q0), .second, .val (.long q1), .second, .val (.int p2), .val (.ref b2), .val (.ref b24), .val (.ref b39), .val (.int (1 : Int32)), .val (.int (1 : Int32)), .val (.int (1 : Int32))] [(.long q0), (.ref b24), (.ref b2)])) rfl (by rw [hml]; rfl) (Steps.refl _) (argsL := [(.ref b24), (.long q0)]) (rest := []) (lenOf own_pd6 rfl) rfl (by show 2 * 0 + _ ≤ _; exact Nat.le_of_eq rfl) (hb hby at_75) (fun _ _ => ⟨rfl, e241, (by decide : 4 + 1 ≤ _), (by decide : 10 + 3 ≤ _)⟩)
      dsimp only [Pt.U, Pt.locs, Pt.cells, Pt.slots] at X243 l243 y243 z243 st243 hQ243
      subst l243 y243 z243
      replace X243 : Stand p l e room_1 s m #[(.long q0), (.long q1), (.int p2)] below meth c T243 _ 5 13 := X243
      obtain ⟨hs244, τ245, Nn246, Pp247, rfl, N243q, zq250, R248, I249, lq251⟩ := hQ243
      have Z252 : n0 ≤ T243.heap.size := Nat.le_trans Z54 zq250
      obtain ⟨tk253, etk253⟩ : ∃ z, z = upd tk59 b24 (some q0) := ⟨_, rfl⟩
      rw [← etk253] at I249
      have v254 : tk253 b24 = (some q0) := by rw [etk253]; exact upd_at _ _ _
      have v255 : tk253 b39 = none := by rw [etk253, upd_ne _ _ (Ne.symm ne42)]; exact v61
      have le256 : hs244.length ≤ 1 := Nat.le_trans lq251 (Nat.succ_le_succ le62)
      have N257 := Fr.app N242 N243q
      refine Goes.by (fun _ k => st243.trans k) ?_
      clear X241 N242 Z54 e241
      refine Goes.by (B := T243.setTop (mkF m 88 #[.val (.long q0), .second, .val (.long q1), .second, .val (.int p2), .val (.ref b2), .val (.ref b24), .val (.ref b39), .val (.int (1 : Int32)), .val (.int (1 : Int32)), .val (.int (1 : Int32))] [(.long q1), (.ref b39), (.ref b2)])) (fun t k => ?_) ?_
      · refine XS.iload X243.here hx rfl (hb hby at_78) rfl ?_
        refine XS.ifNo X243.here hx rfl (hb hby at_80) rfl ((if0 _ _).trans (feq (by decide : ¬ ((1 : Int32) = (0 : Int32)))).1) ?_
        refine XS.aload X243.here hx rfl (hb hby at_83) rfl rfl ?_
        refine XS.aload X243.here hx rfl (hb hby at_85) rfl rfl ?_
        refine XS.lloadN X243.here hx rfl (hb hby at_87) rfl ?_
        exact k
      obtain ⟨cq258, kq258, q258a, q258b, q258c⟩ := isOf hZ rfl R248.1
      obtain ⟨_, _, ⟨T258, L258, k258, n258⟩, -, X258, ⟨Lc258, hQ258, l258, y258, z258⟩, st258⟩ := X243.virtualBack hx (y := y3) (z := y3) hown (mvT hZ (wq hw 25 rfl)) (mvT hZ (wq hw 26 rfl)) (notFace_of_selects (args := #[]) (mvT hZ (wq hw 28 rfl))) (mvT hZ (wq hw 28 rfl)) (mvT hZ (wq hw 27 rfl)) (by decide) (backOf (W := 0) (rmFileR l Z az hw [] b2 b39 q1 b9 c10 hs244 τ245 Nn246 Pp247 [b24, b39] tk253 T243.heap n0 Z252 R248 I249 (by simp) v255 (Nat.le_trans le256 (by decide))) hZ (wq hw 29 rfl) (wq hw 2 rfl) (by decide) (by decide)) q258a q258c (g := (mkF m 88 #[.val (.long q0), .second, .val (.long q1), .second, .val (.int p2), .val (.ref b2), .val (.ref b24), .val (.ref b39), .val (.int (1 : Int32)), .val (.int (1 : Int32)), .val (.int (1 : Int32))] [(.long q1), (.ref b39), (.ref b2)])) rfl (by rw [hml]; rfl) (Steps.refl _) (argsL := [(.ref b39), (.long q1)]) (rest := []) (lenOf own_pd6 rfl) rfl (by show 2 * 0 + _ ≤ _; exact Nat.le_of_eq rfl) (hb hby at_88) (fun _ _ => ⟨rfl, rfl, (by decide : 5 + 1 ≤ _), (by decide : 13 + 3 ≤ _)⟩)
      dsimp only [Pt.U, Pt.locs, Pt.cells, Pt.slots] at X258 l258 y258 z258 st258 hQ258
      subst l258 y258 z258
      replace X258 : Stand p l e room_1 s m #[(.long q0), (.long q1), (.int p2)] below meth c T258 _ 6 16 := X258
      obtain ⟨hs259, τ260, Nn261, Pp262, rfl, N258q, zq265, R263, I264, lq266⟩ := hQ258
      have Z267 : n0 ≤ T258.heap.size := Nat.le_trans Z252 zq265
      obtain ⟨tk268, etk268⟩ : ∃ z, z = upd tk253 b39 (some q1) := ⟨_, rfl⟩
      rw [← etk268] at I264
      have v269 : tk268 b24 = (some q0) := by rw [etk268, upd_ne _ _ ne42]; exact v254
      have v270 : tk268 b39 = (some q1) := by rw [etk268]; exact upd_at _ _ _
      have le271 : hs259.length ≤ 2 := Nat.le_trans lq266 (Nat.succ_le_succ le256)
      have N272 := Fr.app N257 N258q
      refine Goes.by (fun _ k => st258.trans k) ?_
      clear X243 N257 Z252
      refine Goes.by (B := T258.setTop (mkF m 98 #[.val (.long q0), .second, .val (.long q1), .second, .val (.int p2), .val (.ref b2), .val (.ref b24), .val (.ref b39), .val (.int (1 : Int32)), .val (.int (1 : Int32)), .val (.int (1 : Int32))] [(.ref b24)])) (fun t k => ?_) ?_
      · refine XS.iload X258.here hx rfl (hb hby at_91) rfl ?_
        refine XS.ifNo X258.here hx rfl (hb hby at_93) rfl ((if0 _ _).trans (feq (by decide : ¬ ((1 : Int32) = (0 : Int32)))).1) ?_
        refine XS.aload X258.here hx rfl (hb hby at_96) rfl rfl ?_
        exact k
      obtain ⟨b274, f273⟩ := Rep.nextY R263 I264 (by simp) v269
      obtain ⟨_, _, ⟨T275, L275, k275, n275⟩, -, X275, ⟨Lc275, hQ275, l275, y275, z275⟩, st275⟩ := Jvm.LawKit.callS X258 hx (y := y2) hown (mvT hZ (wq hw 20 rfl)) (mvT hZ (wq hw 21 rfl)) (mvT hZ (wq hw 2 rfl)) (mvT hZ (wq hw 22 rfl)) (by decide) (backOf (W := 0) (rmIsY l Z az hw [] b24 b274 T258.heap n0 Z267 f273) hZ (wq hw 22 rfl) (wq hw 2 rfl) (by decide) (by decide)) (g := (mkF m 98 #[.val (.long q0), .second, .val (.long q1), .second, .val (.int p2), .val (.ref b2), .val (.ref b24), .val (.ref b39), .val (.int (1 : Int32)), .val (.int (1 : Int32)), .val (.int (1 : Int32))] [(.ref b24)])) rfl (by rw [hml]; rfl) (argsL := [(.ref b24)]) (rest := []) (lenOf own_pd5 rfl) rfl (by show 2 * 0 + _ ≤ _; exact Nat.le_of_eq rfl) (hb hby at_98) (fun _ _ => ⟨rfl, rfl, (by decide : 6 + 0 ≤ _), (by decide : 16 + 0 ≤ _)⟩)
      dsimp only [Pt.U, Pt.locs, Pt.cells, Pt.slots] at X275 l275 y275 z275 st275 hQ275
      subst l275 y275 z275
      replace X275 : Stand p l e room_1 s m #[(.long q0), (.long q1), (.int p2)] below meth c T275 _ 6 16 := X275
      obtain ⟨rfl, N275q, e275⟩ := hQ275
      have N276 := Fr.app N272 N275q
      refine Goes.by st275 ?_
      clear X258 N272
      refine Goes.by (B := T275.setTop (mkF m 106 #[.val (.long q0), .second, .val (.long q1), .second, .val (.int p2), .val (.ref b2), .val (.ref b24), .val (.ref b39), .val (.int (1 : Int32)), .val (.int (1 : Int32)), .val (.int (1 : Int32))] [(.ref b39)])) (fun t k => ?_) ?_
      · refine XS.ifNo X275.here hx rfl (hb hby at_101) rfl ((if0 _ _).trans (feq (by decide : ¬ ((1 : Int32) = (0 : Int32)))).1) ?_
        refine XS.aload X275.here hx rfl (hb hby at_104) rfl rfl ?_
        exact k
      obtain ⟨b278, f277⟩ := Rep.nextY R263 I264 (by simp) v270
      obtain ⟨_, _, ⟨T279, L279, k279, n279⟩, -, X279, ⟨Lc279, hQ279, l279, y279, z279⟩, st279⟩ := Jvm.LawKit.callS X275 hx (y := y2) hown (mvT hZ (wq hw 20 rfl)) (mvT hZ (wq hw 21 rfl)) (mvT hZ (wq hw 2 rfl)) (mvT hZ (wq hw 22 rfl)) (by decide) (backOf (W := 0) (rmIsY l Z az hw [] b39 b278 T258.heap n0 Z267 f277) hZ (wq hw 22 rfl) (wq hw 2 rfl) (by decide) (by decide)) (g := (mkF m 106 #[.val (.long q0), .second, .val (.long q1), .second, .val (.int p2), .val (.ref b2), .val (.ref b24), .val (.ref b39), .val (.int (1 : Int32)), .val (.int (1 : Int32)), .val (.int (1 : Int32))] [(.ref b39)])) rfl (by rw [hml]; rfl) (argsL := [(.ref b39)]) (rest := []) (lenOf own_pd5 rfl) rfl (by show 2 * 0 + _ ≤ _; exact Nat.le_of_eq rfl) (hb hby at_106) (fun _ _ => ⟨rfl, e275, (by decide : 6 + 0 ≤ _), (by decide : 16 + 0 ≤ _)⟩)
      dsimp only [Pt.U, Pt.locs, Pt.cells, Pt.slots] at X279 l279 y279 z279 st279 hQ279
      subst l279 y279 z279
      replace X279 : Stand p l e room_1 s m #[(.long q0), (.long q1), (.int p2)] below meth c T279 _ 6 16 := X279
      obtain ⟨rfl, N279q, e279⟩ := hQ279
      have N280 := Fr.app N276 N279q
      refine Goes.by st279 ?_
      clear X275 N276 e275
      refine Goes.by (B := T279.setTop (mkF m 125 #[.val (.long q0), .second, .val (.long q1), .second, .val (.int p2), .val (.ref b2), .val (.ref b24), .val (.ref b39), .val (.int (1 : Int32)), .val (.int (1 : Int32)), .val (.int (1 : Int32))] [(.ref b24), (.ref b2)])) (fun t k => ?_) ?_
      · refine XS.iload X279.here hx rfl (hb hby at_109) rfl ?_
        refine XS.icmpNo X279.here hx rfl (hb hby at_111) rfl (teq (by decide : (1 : Int32) = (1 : Int32))).2 ?_
        refine XS.iconst X279.here hx rfl (hb hby at_114) ?_
        refine XS.goto X279.here hx rfl (pc0 := 115) (pc' := 119) rfl (hb hby at_115) (by decide) (by decide) ?_
        refine XS.istore X279.here hx rfl (hb hby at_119) rfl (l' := #[.val (.long q0), .second, .val (.long q1), .second, .val (.int p2), .val (.ref b2), .val (.ref b24), .val (.ref b39), .val (.int (1 : Int32)), .val (.int (1 : Int32)), .val (.int (1 : Int32))]) rfl ?_
        refine XS.aload X279.here hx rfl (hb hby at_121) rfl rfl ?_
        refine XS.aload X279.here hx rfl (hb hby at_123) rfl rfl ?_
        exact k
      obtain ⟨cq281, kq281, q281a, q281b, q281c⟩ := isOf hZ e279 R263.1
      obtain ⟨_, _, ⟨T281, L281, k281, n281⟩, -, X281, ⟨Lc281, hQ281, l281, y281, z281⟩, st281⟩ := X279.virtualBack hx (y := y7) (z := y7) hown (mvT hZ (wq hw 60 rfl)) (mvT hZ (wq hw 61 rfl)) (notFace_of_selects (args := #[]) (mvT hZ (wq hw 63 rfl))) (mvT hZ (wq hw 63 rfl)) (mvT hZ (wq hw 62 rfl)) (by decide) (backOf (W := 0) (rmRemR l Z az hw [] b2 b24 q0 b9 c10 hs259 τ260 Nn261 Pp262 [b24, b39] tk268 T258.heap n0 Z267 R263 I264 (by simp) v269 (Nat.le_trans le271 (by decide))) hZ (wq hw 64 rfl) (wq hw 2 rfl) (by decide) (by decide)) q281a q281c (g := (mkF m 125 #[.val (.long q0), .second, .val (.long q1), .second, .val (.int p2), .val (.ref b2), .val (.ref b24), .val (.ref b39), .val (.int (1 : Int32)), .val (.int (1 : Int32)), .val (.int (1 : Int32))] [(.ref b24), (.ref b2)])) rfl (by rw [hml]; rfl) (Steps.refl _) (argsL := [(.ref b24)]) (rest := []) (lenOf own_pd7 rfl) rfl (by show 2 * 0 + _ ≤ _; exact Nat.le_of_eq rfl) (hb hby at_125) (fun _ _ => ⟨rfl, e279, (by decide : 6 + 0 ≤ _), (by decide : 16 + 0 ≤ _)⟩)
      dsimp only [Pt.U, Pt.locs, Pt.cells, Pt.slots] at X281 l281 y281 z281 st281 hQ281
      subst l281 y281 z281
      replace X281 : Stand p l e room_1 s m #[(.long q0), (.long q1), (.int p2)] below meth c T281 _ 6 16 := X281
      obtain ⟨hs282, τ283, Nn284, Pp285, rfl, N281q, zq288, R286, I287, lq289⟩ := hQ281
      have Z290 : n0 ≤ T281.heap.size := Nat.le_trans Z267 zq288
      obtain ⟨tk291, etk291⟩ : ∃ z, z = upd tk268 b24 none := ⟨_, rfl⟩
      rw [← etk291] at I287
      have v292 : tk291 b24 = none := by rw [etk291]; exact upd_at _ _ _
      have v293 : tk291 b39 = (some q1) := by rw [etk291, upd_ne _ _ (Ne.symm ne42)]; exact v270
      have le294 : hs282.length ≤ 2 := Nat.le_trans lq289 le271
      have N295 := Fr.app N280 N281q
      refine Goes.by (fun _ k => st281.trans k) ?_
      clear X279 N280 Z267 e279
      refine Goes.by (B := T281.setTop (mkF m 135 #[.val (.long q0), .second, .val (.long q1), .second, .val (.int p2), .val (.ref b2), .val (.ref b24), .val (.ref b39), .val (.int (1 : Int32)), .val (.int (1 : Int32)), .val (.int (1 : Int32))] [(.ref b24)])) (fun t k => ?_) ?_
      · refine XS.iload X281.here hx rfl (hb hby at_128) rfl ?_
        refine XS.ifNo X281.here hx rfl (hb hby at_130) rfl ((if0 _ _).trans (feq (by decide : ¬ ((1 : Int32) = (0 : Int32)))).1) ?_
        refine XS.aload X281.here hx rfl (hb hby at_133) rfl rfl ?_
        exact k
      have f296 : Fld Z T281.heap b24 cL "next" dL .null := Rep.nextN R286 I287 (by simp) v292
      obtain ⟨_, _, ⟨T297, L297, k297, n297⟩, -, X297, ⟨Lc297, hQ297, l297, y297, z297⟩, st297⟩ := Jvm.LawKit.callS X281 hx (y := y2) hown (mvT hZ (wq hw 20 rfl)) (mvT hZ (wq hw 21 rfl)) (mvT hZ (wq hw 2 rfl)) (mvT hZ (wq hw 22 rfl)) (by decide) (backOf (W := 0) (rmIsN l Z az hw [] b24 T281.heap n0 Z290 f296) hZ (wq hw 22 rfl) (wq hw 2 rfl) (by decide) (by decide)) (g := (mkF m 135 #[.val (.long q0), .second, .val (.long q1), .second, .val (.int p2), .val (.ref b2), .val (.ref b24), .val (.ref b39), .val (.int (1 : Int32)), .val (.int (1 : Int32)), .val (.int (1 : Int32))] [(.ref b24)])) rfl (by rw [hml]; rfl) (argsL := [(.ref b24)]) (rest := []) (lenOf own_pd5 rfl) rfl (by show 2 * 0 + _ ≤ _; exact Nat.le_of_eq rfl) (hb hby at_135) (fun _ _ => ⟨rfl, rfl, (by decide : 6 + 0 ≤ _), (by decide : 16 + 0 ≤ _)⟩)
      dsimp only [Pt.U, Pt.locs, Pt.cells, Pt.slots] at X297 l297 y297 z297 st297 hQ297
      subst l297 y297 z297
      replace X297 : Stand p l e room_1 s m #[(.long q0), (.long q1), (.int p2)] below meth c T297 _ 6 16 := X297
      obtain ⟨rfl, N297q, e297⟩ := hQ297
      have N298 := Fr.app N295 N297q
      refine Goes.by st297 ?_
      clear X281 N295
      refine Goes.by (B := T297.setTop (mkF m 143 #[.val (.long q0), .second, .val (.long q1), .second, .val (.int p2), .val (.ref b2), .val (.ref b24), .val (.ref b39), .val (.int (1 : Int32)), .val (.int (1 : Int32)), .val (.int (1 : Int32))] [(.ref b39)])) (fun t k => ?_) ?_
      · refine XS.ifNo X297.here hx rfl (hb hby at_138) rfl ((if0 _ _).trans (teq (by decide : (0 : Int32) = (0 : Int32))).2) ?_
        refine XS.aload X297.here hx rfl (hb hby at_141) rfl rfl ?_
        exact k
      obtain ⟨b300, f299⟩ := Rep.nextY R286 I287 (by simp) v293
      obtain ⟨_, _, ⟨T301, L301, k301, n301⟩, -, X301, ⟨Lc301, hQ301, l301, y301, z301⟩, st301⟩ := Jvm.LawKit.callS X297 hx (y := y2) hown (mvT hZ (wq hw 20 rfl)) (mvT hZ (wq hw 21 rfl)) (mvT hZ (wq hw 2 rfl)) (mvT hZ (wq hw 22 rfl)) (by decide) (backOf (W := 0) (rmIsY l Z az hw [] b39 b300 T281.heap n0 Z290 f299) hZ (wq hw 22 rfl) (wq hw 2 rfl) (by decide) (by decide)) (g := (mkF m 143 #[.val (.long q0), .second, .val (.long q1), .second, .val (.int p2), .val (.ref b2), .val (.ref b24), .val (.ref b39), .val (.int (1 : Int32)), .val (.int (1 : Int32)), .val (.int (1 : Int32))] [(.ref b39)])) rfl (by rw [hml]; rfl) (argsL := [(.ref b39)]) (rest := []) (lenOf own_pd5 rfl) rfl (by show 2 * 0 + _ ≤ _; exact Nat.le_of_eq rfl) (hb hby at_143) (fun _ _ => ⟨rfl, e297, (by decide : 6 + 0 ≤ _), (by decide : 16 + 0 ≤ _)⟩)
      dsimp only [Pt.U, Pt.locs, Pt.cells, Pt.slots] at X301 l301 y301 z301 st301 hQ301
      subst l301 y301 z301
      replace X301 : Stand p l e room_1 s m #[(.long q0), (.long q1), (.int p2)] below meth c T301 _ 6 16 := X301
      obtain ⟨rfl, N301q, e301⟩ := hQ301
      have N302 := Fr.app N298 N301q
      refine Goes.by st301 ?_
      clear X297 N298 e297
      refine Goes.by (B := T301.setTop (mkF m 168 #[.val (.long q0), .second, .val (.long q1), .second, .val (.int p2), .val (.ref b2), .val (.ref b24), .val (.ref b39), .val (.int (1 : Int32)), .val (.int (1 : Int32)), .val (.int (1 : Int32))] [(.long q1), (.ref b24), (.ref b2)])) (fun t k => ?_) ?_
      · refine XS.iload X301.here hx rfl (hb hby at_146) rfl ?_
        refine XS.icmpNo X301.here hx rfl (hb hby at_148) rfl (teq (by decide : (1 : Int32) = (1 : Int32))).2 ?_
        refine XS.iconst X301.here hx rfl (hb hby at_151) ?_
        refine XS.goto X301.here hx rfl (pc0 := 152) (pc' := 156) rfl (hb hby at_152) (by decide) (by decide) ?_
        refine XS.istore X301.here hx rfl (hb hby at_156) rfl (l' := #[.val (.long q0), .second, .val (.long q1), .second, .val (.int p2), .val (.ref b2), .val (.ref b24), .val (.ref b39), .val (.int (1 : Int32)), .val (.int (1 : Int32)), .val (.int (1 : Int32))]) rfl ?_
        refine XS.iload X301.here hx rfl (hb hby at_158) rfl ?_
        refine XS.ifNo X301.here hx rfl (hb hby at_160) rfl ((if0 _ _).trans (feq (by decide : ¬ ((1 : Int32) = (0 : Int32)))).1) ?_
        refine XS.aload X301.here hx rfl (hb hby at_163) rfl rfl ?_
        refine XS.aload X301.here hx rfl (hb hby at_165) rfl rfl ?_
        refine XS.lloadN X301.here hx rfl (hb hby at_167) rfl ?_
        exact k
      obtain ⟨cq303, kq303, q303a, q303b, q303c⟩ := isOf hZ e301 R286.1
      obtain ⟨_, _, ⟨T303, L303, k303, n303⟩, -, X303, ⟨Lc303, hQ303, l303, y303, z303⟩, st303⟩ := X301.virtualBack hx (y := y3) (z := y3) hown (mvT hZ (wq hw 25 rfl)) (mvT hZ (wq hw 26 rfl)) (notFace_of_selects (args := #[]) (mvT hZ (wq hw 28 rfl))) (mvT hZ (wq hw 28 rfl)) (mvT hZ (wq hw 27 rfl)) (by decide) (backOf (W := 0) (rmFileR l Z az hw [] b2 b24 q1 b9 c10 hs282 τ283 Nn284 Pp285 [b24, b39] tk291 T281.heap n0 Z290 R286 I287 (by simp) v292 (Nat.le_trans le294 (by decide))) hZ (wq hw 29 rfl) (wq hw 2 rfl) (by decide) (by decide)) q303a q303c (g := (mkF m 168 #[.val (.long q0), .second, .val (.long q1), .second, .val (.int p2), .val (.ref b2), .val (.ref b24), .val (.ref b39), .val (.int (1 : Int32)), .val (.int (1 : Int32)), .val (.int (1 : Int32))] [(.long q1), (.ref b24), (.ref b2)])) rfl (by rw [hml]; rfl) (Steps.refl _) (argsL := [(.ref b24), (.long q1)]) (rest := []) (lenOf own_pd6 rfl) rfl (by show 2 * 0 + _ ≤ _; exact Nat.le_of_eq rfl) (hb hby at_168) (fun _ _ => ⟨rfl, e301, (by decide : 6 + 1 ≤ _), (by decide : 16 + 3 ≤ _)⟩)
      dsimp only [Pt.U, Pt.locs, Pt.cells, Pt.slots] at X303 l303 y303 z303 st303 hQ303
      subst l303 y303 z303
      replace X303 : Stand p l e room_1 s m #[(.long q0), (.long q1), (.int p2)] below meth c T303 _ 7 19 := X303
      obtain ⟨hs304, τ305, Nn306, Pp307, rfl, N303q, zq310, R308, I309, lq311⟩ := hQ303
      have Z312 : n0 ≤ T303.heap.size := Nat.le_trans Z290 zq310
      obtain ⟨tk313, etk313⟩ : ∃ z, z = upd tk291 b24 (some q1) := ⟨_, rfl⟩
      rw [← etk313] at I309
      have v314 : tk313 b24 = (some q1) := by rw [etk313]; exact upd_at _ _ _
      have v315 : tk313 b39 = (some q1) := by rw [etk313, upd_ne _ _ (Ne.symm ne42)]; exact v293
      have le316 : hs304.length ≤ 3 := Nat.le_trans lq311 (Nat.succ_le_succ le294)
      have N317 := Fr.app N302 N303q
      refine Goes.by (fun _ k => st303.trans k) ?_
      clear X301 N302 Z290 e301
      refine Goes.by (B := T303.setTop (mkF m 178 #[.val (.long q0), .second, .val (.long q1), .second, .val (.int p2), .val (.ref b2), .val (.ref b24), .val (.ref b39), .val (.int (1 : Int32)), .val (.int (1 : Int32)), .val (.int (1 : Int32))] [(.ref b24)])) (fun t k => ?_) ?_
      · refine XS.iload X303.here hx rfl (hb hby at_171) rfl ?_
        refine XS.ifNo X303.here hx rfl (hb hby at_173) rfl ((if0 _ _).trans (feq (by decide : ¬ ((1 : Int32) = (0 : Int32)))).1) ?_
        refine XS.aload X303.here hx rfl (hb hby at_176) rfl rfl ?_
        exact k
      obtain ⟨b319, f318⟩ := Rep.nextY R308 I309 (by simp) v314
      obtain ⟨_, _, ⟨T320, L320, k320, n320⟩, -, X320, ⟨Lc320, hQ320, l320, y320, z320⟩, st320⟩ := Jvm.LawKit.callS X303 hx (y := y2) hown (mvT hZ (wq hw 20 rfl)) (mvT hZ (wq hw 21 rfl)) (mvT hZ (wq hw 2 rfl)) (mvT hZ (wq hw 22 rfl)) (by decide) (backOf (W := 0) (rmIsY l Z az hw [] b24 b319 T303.heap n0 Z312 f318) hZ (wq hw 22 rfl) (wq hw 2 rfl) (by decide) (by decide)) (g := (mkF m 178 #[.val (.long q0), .second, .val (.long q1), .second, .val (.int p2), .val (.ref b2), .val (.ref b24), .val (.ref b39), .val (.int (1 : Int32)), .val (.int (1 : Int32)), .val (.int (1 : Int32))] [(.ref b24)])) rfl (by rw [hml]; rfl) (argsL := [(.ref b24)]) (rest := []) (lenOf own_pd5 rfl) rfl (by show 2 * 0 + _ ≤ _; exact Nat.le_of_eq rfl) (hb hby at_178) (fun _ _ => ⟨rfl, rfl, (by decide : 7 + 0 ≤ _), (by decide : 19 + 0 ≤ _)⟩)
      dsimp only [Pt.U, Pt.locs, Pt.cells, Pt.slots] at X320 l320 y320 z320 st320 hQ320
      subst l320 y320 z320
      replace X320 : Stand p l e room_1 s m #[(.long q0), (.long q1), (.int p2)] below meth c T320 _ 7 19 := X320
      obtain ⟨rfl, N320q, e320⟩ := hQ320
      have N321 := Fr.app N317 N320q
      refine Goes.by st320 ?_
      clear X303 N317
      refine Goes.by (B := T320.setTop (mkF m 193 #[.val (.long q0), .second, .val (.long q1), .second, .val (.int p2), .val (.ref b2), .val (.ref b24), .val (.ref b39), .val (.int (1 : Int32)), .val (.int (1 : Int32)), .val (.int (1 : Int32))] [(.int (1 : Int32))])) (fun t k => ?_) ?_
      · refine XS.ifNo X320.here hx rfl (hb hby at_181) rfl ((if0 _ _).trans (feq (by decide : ¬ ((1 : Int32) = (0 : Int32)))).1) ?_
        refine XS.iconst X320.here hx rfl (hb hby at_184) ?_
        refine XS.goto X320.here hx rfl (pc0 := 185) (pc' := 189) rfl (hb hby at_185) (by decide) (by decide) ?_
        refine XS.istore X320.here hx rfl (hb hby at_189) rfl (l' := #[.val (.long q0), .second, .val (.long q1), .second, .val (.int p2), .val (.ref b2), .val (.ref b24), .val (.ref b39), .val (.int (1 : Int32)), .val (.int (1 : Int32)), .val (.int (1 : Int32))]) rfl ?_
        refine XS.iload X320.here hx rfl (hb hby at_191) rfl ?_
        exact k
      obtain ⟨fs, hr, hrun, hended, hW, hsame⟩ := X320.leave (v := some (.int (1 : Int32))) (fun h => by rw [Bd.returns] at h; cases h)
      refine Goes.mk _ _ ?_ ⟨hrun, hended, _, _, rfl, ?_, ⟨_, rfl⟩, hW, hsame.mono (by decide) (by decide)⟩
      · exact retN X320 hx (t := .boolean) Bd.returns (by simp) (hb hby at_193) hr
      · show Q0 Z q0 q1 p2 h0 n0 _ T320.heap _
        rw [e320]
        exact ⟨rfl, N321⟩
set_option maxRecDepth 65536 in
set_option maxHeartbeats 40000000 in
theorem comes_1 {Post : Tables → Env → Array Value → State → Outcome → State → Prop} (hpost : ∀ tb e args s v u, (limb_1_1.after args s (.returned v) u = true ∧ limb_1_2.after args s (.returned v) u = true ∧ True) → FrameEnd s (.returned v) u (Jvm.fieldLocs frame_1_writes args s ++ Jvm.arrayLocs frame_1_arrays args s ++ Jvm.staticLocs frame_1_statics s) 24 128 → Post tb e args s (.returned v) u) :
    ArmFor flags0 classFile x code maxLocals ret World_1 tables_1 room_1 Calls_1 rest_1 Pre_1 Post := by
  intro l hfl _ _ p e ha hc hk s m args below hf hA hF happ hP
  obtain ⟨hcalls, hrest, hpre⟩ := hP
  obtain ⟨-, -, -, hnamed, -, -, -, hat⟩ := (Spec.applies_iff hf).mp happ
  obtain ⟨hg, hn⟩ := and_e (Cond.before_iff.mp (show (Jvm.Cond.and given_1 narrow_1).before args s = true from hpre))
  obtain ⟨gg1, gg2⟩ := and_e hg
  obtain ⟨gg3, gg4⟩ := and_e gg2
  obtain ⟨gg5, gg6⟩ := and_e gg4
  obtain ⟨w0, w1, w2, rfl⟩ : ∃ w0 w1 w2 : Value, args = #[w0, w1, w2] := by
    have hs : args.size = 3 := by simpa [Cond.value, given_1] using gg1
    obtain ⟨L⟩ := args
    match L, hs with
    | [w0, w1, w2], _ => exact ⟨w0, w1, w2, rfl⟩
  have hw := fun d (hd : d ∈ tables_1) => atoms_spec (ws := Jvm.Cond.code x code maxLocals ret :: tables_1) hat d (List.mem_cons_of_mem _ hd)
  have hfit : Fit s := fun {y c} hc i hi => by
    obtain ⟨ha, rfl⟩ := Array.getElem?_eq_some_iff.mp hc
    have q := List.all_eq_true.mp ((Array.all_eq_true_iff_forall_mem.mp hF) _ (Array.getElem_mem ha)) i (List.mem_range.mpr hi)
    simpa [Array.getElem?_eq_getElem hi] using q
  obtain ⟨i0, ei0⟩ := isL_v gg3
  obtain rfl : w0 = (.long i0) := Option.some.inj ei0
  obtain ⟨i1, ei1⟩ := isL_v gg5
  obtain rfl : w1 = (.long i1) := Option.some.inj ei1
  obtain ⟨i2, ei2⟩ := is_v gg6
  obtain rfl : w2 = (.int i2) := Option.some.inj ei2
  obtain ⟨n, o, h1, h2, h3, _, L, rfl, ⟨rfl, N⟩, hq⟩ := rm0 l s _ hw tables_1 i0 i1 i2 s.heap s.heap.size (Nat.le_refl _)  p e ha hc hk s m _ below hf ((Spec.applies_iff_loose hf).mp happ).1 ⟨rfl, State.Warmed39.refl s, rfl⟩ trivial
  refine ⟨n, _, h1, h2, h3, hpost _ _ _ _ _ _ ⟨Cond.after_iff.mpr rfl, Cond.after_iff.mpr (eq_i res_at (Term.int_eval (1)) rfl), trivial⟩ ⟨hq.1, hq.2.1, (hq.2.2.sift fun y hy => Or.inr (N y hy)).mono (by decide) (by decide)⟩⟩
theorem main_1_1 : Claimed_1_1 := comes_1 fun _ _ _ _ _ _ h hF => ⟨h.1, hF⟩
theorem main_1_2 : Claimed_1_2 := comes_1 fun _ _ _ _ _ _ h hF => ⟨h.2.1, hF⟩
end Jvm.Pilot.@@N@@
namespace Jvm.Pilot.@@N@@
open Jvm Jvm.ClassFile Sem Op Lib Jvm.Free Jvm.Stand Jvm.Pilot.@@N@@.Jvm.D
/-! MADE BY PROGRAM (witnessworld.py) out of the Statement's table words and the real class files: 13 classes; the members and pool entries that the words name. The judged class is class 1, her method 1. -/
namespace start1
open Jvm.ClassFile
def u (s : String) : CpInfo := .utf8 (stringToUtf16 s)
/-- a pool by its gaps: so many unusable entries, then the entry; so many at the end -/
def gap : Nat → List CpInfo → List CpInfo
  | 0, r => r
  | n + 1, r => .unusable :: gap n r
def poolList (es : List (Nat × CpInfo)) (last : Nat) : List CpInfo := es.foldr (fun e r => gap e.1 (e.2 :: r)) (gap last [])
def pool (es : List (Nat × CpInfo)) (last : Nat) : Array CpInfo := ⟨poolList es last⟩
def fileOf (pool : Array CpInfo) (this : Nat) (attrs : Array Attribute := #[]) (ms : Array MethodInfo := #[]) (fl : Nat := 33) (sup : Nat := 0) (ifs : Array Nat := #[]) (fds : Array FieldInfo := #[]) : ClassFile where
  minorVersion := 0
  majorVersion := 65
  constantPool := pool
  accessFlags := fl
  thisClass := this
  superClass := sup
  interfaces := ifs
  fields := fds
  methods := ms
  attributes := attrs
def plain (name : String) (sup : Option ClassId) : Class where
  name := name
  kind := .ordinary
  loader := none
  accessFlags := 33
  super := sup
  interfaces := #[]
  cf := none
  fields := #[]
  methods := #[]
  instanceTypes := #[]
  staticTypes := #[]
  resolved := #[]
  callSites := []
  init := .initialized
  statics := none
  mirror := none

def pool0 : Array CpInfo := pool [(5, u "<init>"), (0, u "()V"), (1, .class_ 10), (1, u "java/lang/Object")] 113

def k0c0 : Code := { maxStack := 0, maxLocals := 1, code := object_method_1_code, exceptionTable := #[], attributes := #[] }
def k0m0 : Method := { name := "<init>", desc := "()V", sig := { parameters := [], returnType := none }, accessFlags := 1, code := some k0c0 }
/-- java/lang/Object -/
def k0 : Class := { plain "java/lang/Object" none with
  accessFlags := 33
  interfaces := #[]
  cf := some (fileOf pool0 8 #[] #[{ accessFlags := 1, nameIndex := 5, descriptorIndex := 6, attributes := #[] }] 33 0 #[] #[])
  fields := #[]
  methods := #[k0m0]
  instanceTypes := #[]
  staticTypes := #[]
  resolved := Array.replicate 124 none
  statics := none }

def pool1 : Array CpInfo := pool [(2, .class_ 4), (0, .nameAndType 5 6), (0, u "java/lang/Object"), (0, u "<init>"), (0, u "()V"), (0, .class_ 8), (0, u "com/example/admit_one/admitone/engine/DueOrder"), (0, .methodref 7 3), (0, .class_ 11), (0, u "com/example/admit_one/admitone/engine/DueOrder$Link"), (0, .methodref 10 3), (0, .methodref 7 14), (0, .nameAndType 15 16), (0, u "isFiled"), (0, u "(Lcom/example/admit_one/admitone/engine/DueOrder$Link;)Z"), (0, .methodref 7 18), (0, .nameAndType 19 20), (0, u "file"), (0, u "(Lcom/example/admit_one/admitone/engine/DueOrder$Link;J)V"), (0, .methodref 7 22), (0, .nameAndType 23 24), (0, u "remove"), (0, u "(Lcom/example/admit_one/admitone/engine/DueOrder$Link;)V"), (0, .class_ 26), (0, u "com/example/admit_one/admitone/engine/DueOrderIsFiledPinLaw"), (2, u "law"), (0, u "(JJI)Z")] 5

def k1m0 : Method := { name := "<init>", desc := "()V", sig := { parameters := [], returnType := none }, accessFlags := 1, code := none }
def k1c1 : Code := { maxStack := 4, maxLocals := 11, code := code, exceptionTable := #[], attributes := #[] }
def k1m1 : Method := { name := "law", desc := "(JJI)Z", sig := { parameters := [.long, .long, .int], returnType := some .boolean }, accessFlags := 9, code := some k1c1 }
/-- com/example/admit_one/admitone/engine/DueOrderIsFiledPinLaw -/
def k1 : Class := { plain "com/example/admit_one/admitone/engine/DueOrderIsFiledPinLaw" (some 0) with
  accessFlags := 49
  interfaces := #[]
  cf := some (fileOf pool1 25 #[] #[{ accessFlags := 1, nameIndex := 5, descriptorIndex := 6, attributes := #[] }, { accessFlags := 9, nameIndex := 29, descriptorIndex := 30, attributes := #[] }] 49 2 #[] #[])
  fields := #[]
  methods := #[k1m0, k1m1]
  instanceTypes := #[]
  staticTypes := #[]
  resolved := Array.replicate 36 none
  statics := none }

def pool2 : Array CpInfo := pool [(1, .methodref 2 3), (0, .class_ 4), (0, .nameAndType 5 6), (0, u "java/lang/Object"), (0, u "<init>"), (0, u "()V"), (0, .class_ 8), (0, u "com/example/admit_one/admitone/engine/DueOrder"), (0, .class_ 10), (0, u "com/example/admit_one/admitone/engine/DueOrder$Head"), (0, .fieldref 7 12), (0, .nameAndType 13 14), (0, u "heads"), (0, u "[Lcom/example/admit_one/admitone/engine/DueOrder$Head;"), (0, .fieldref 7 16), (0, .nameAndType 17 18), (0, u "count"), (0, u "I"), (4, .fieldref 9 24), (0, .nameAndType 25 26), (0, u "tick"), (0, u "J"), (0, .fieldref 28 29), (0, .class_ 30), (0, .nameAndType 31 32), (0, u "com/example/admit_one/admitone/engine/DueOrder$Link"), (0, u "next"), (0, u "Lcom/example/admit_one/admitone/engine/DueOrder$Link;"), (0, .methodref 7 34), (0, .nameAndType 35 36), (0, u "headOf"), (0, u "(J)Lcom/example/admit_one/admitone/engine/DueOrder$Head;"), (0, .fieldref 28 38), (0, .nameAndType 39 32), (0, u "prev"), (0, .methodref 7 41), (0, .nameAndType 42 43), (0, u "drop"), (0, u "(Lcom/example/admit_one/admitone/engine/DueOrder$Head;)V"), (0, .methodref 7 45), (0, .nameAndType 46 47), (0, u "dueBy"), (0, u "(J)I"), (7, .methodref 56 57), (0, .class_ 58), (0, .nameAndType 59 60), (0, u "java/lang/System"), (0, u "arraycopy"), (0, u "(Ljava/lang/Object;ILjava/lang/Object;II)V"), (4, .methodref 7 66), (0, .nameAndType 67 6), (0, u "shrinkIfSparse"), (6, .methodref 9 75), (0, .nameAndType 5 76), (0, u "(J)V"), (0, u "MIN_CAPACITY"), (9, u "isFiled"), (0, u "(Lcom/example/admit_one/admitone/engine/DueOrder$Link;)Z"), (0, u "file"), (0, u "(Lcom/example/admit_one/admitone/engine/DueOrder$Link;J)V"), (0, u "remove"), (0, u "(Lcom/example/admit_one/admitone/engine/DueOrder$Link;)V")] 10

def k2c0 : Code := { maxStack := 2, maxLocals := 1, code := prog_4_method_1_code, exceptionTable := #[], attributes := #[] }
def k2m0 : Method := { name := "<init>", desc := "()V", sig := { parameters := [], returnType := none }, accessFlags := 0, code := some k2c0 }
def k2c1 : Code := { maxStack := 1, maxLocals := 1, code := prog_4_method_4_code, exceptionTable := #[], attributes := #[] }
def k2m1 : Method := { name := "isFiled", desc := "(Lcom/example/admit_one/admitone/engine/DueOrder$Link;)Z", sig := { parameters := [(.object "com/example/admit_one/admitone/engine/DueOrder$Link")], returnType := some .boolean }, accessFlags := 8, code := some k2c1 }
def k2c2 : Code := { maxStack := 3, maxLocals := 5, code := prog_4_method_5_code, exceptionTable := #[], attributes := #[] }
def k2m2 : Method := { name := "file", desc := "(Lcom/example/admit_one/admitone/engine/DueOrder$Link;J)V", sig := { parameters := [(.object "com/example/admit_one/admitone/engine/DueOrder$Link"), .long], returnType := none }, accessFlags := 0, code := some k2c2 }
def k2c3 : Code := { maxStack := 2, maxLocals := 3, code := prog_4_method_6_code, exceptionTable := #[], attributes := #[] }
def k2m3 : Method := { name := "remove", desc := "(Lcom/example/admit_one/admitone/engine/DueOrder$Link;)V", sig := { parameters := [(.object "com/example/admit_one/admitone/engine/DueOrder$Link")], returnType := none }, accessFlags := 0, code := some k2c3 }
def k2c4 : Code := { maxStack := 6, maxLocals := 5, code := prog_4_method_8_code, exceptionTable := #[], attributes := #[] }
def k2m4 : Method := { name := "headOf", desc := "(J)Lcom/example/admit_one/admitone/engine/DueOrder$Head;", sig := { parameters := [.long], returnType := some (.object "com/example/admit_one/admitone/engine/DueOrder$Head") }, accessFlags := 2, code := some k2c4 }
def k2c5 : Code := { maxStack := 6, maxLocals := 3, code := prog_4_method_9_code, exceptionTable := #[], attributes := #[] }
def k2m5 : Method := { name := "drop", desc := "(Lcom/example/admit_one/admitone/engine/DueOrder$Head;)V", sig := { parameters := [(.object "com/example/admit_one/admitone/engine/DueOrder$Head")], returnType := none }, accessFlags := 2, code := some k2c5 }
def k2c6 : Code := { maxStack := 4, maxLocals := 6, code := prog_4_method_10_code, exceptionTable := #[], attributes := #[] }
def k2m6 : Method := { name := "dueBy", desc := "(J)I", sig := { parameters := [.long], returnType := some .int }, accessFlags := 2, code := some k2c6 }
def k2c7 : Code := { maxStack := 3, maxLocals := 2, code := prog_4_method_11_code, exceptionTable := #[], attributes := #[] }
def k2m7 : Method := { name := "shrinkIfSparse", desc := "()V", sig := { parameters := [], returnType := none }, accessFlags := 2, code := some k2c7 }
/-- com/example/admit_one/admitone/engine/DueOrder -/
def k2 : Class := { plain "com/example/admit_one/admitone/engine/DueOrder" (some 0) with
  accessFlags := 32
  interfaces := #[]
  cf := some (fileOf pool2 7 #[.nestMembers #[9, 28]] #[{ accessFlags := 0, nameIndex := 5, descriptorIndex := 6, attributes := #[] }, { accessFlags := 8, nameIndex := 87, descriptorIndex := 88, attributes := #[] }, { accessFlags := 0, nameIndex := 89, descriptorIndex := 90, attributes := #[] }, { accessFlags := 0, nameIndex := 91, descriptorIndex := 92, attributes := #[] }, { accessFlags := 2, nameIndex := 35, descriptorIndex := 36, attributes := #[] }, { accessFlags := 2, nameIndex := 42, descriptorIndex := 43, attributes := #[] }, { accessFlags := 2, nameIndex := 46, descriptorIndex := 47, attributes := #[] }, { accessFlags := 2, nameIndex := 67, descriptorIndex := 6, attributes := #[] }] 32 2 #[] #[{ accessFlags := 26, nameIndex := 77, descriptorIndex := 18, attributes := #[] }, { accessFlags := 2, nameIndex := 13, descriptorIndex := 14, attributes := #[] }, { accessFlags := 2, nameIndex := 17, descriptorIndex := 18, attributes := #[] }])
  fields := #[{ name := "MIN_CAPACITY", type := .int, accessFlags := 26, slot := 0, constantValue := 0 }, { name := "heads", type := (.array (.object "com/example/admit_one/admitone/engine/DueOrder$Head")), accessFlags := 2, slot := 0, constantValue := 0 }, { name := "count", type := .int, accessFlags := 2, slot := 1, constantValue := 0 }]
  methods := #[k2m0, k2m1, k2m2, k2m3, k2m4, k2m5, k2m6, k2m7]
  instanceTypes := #[(.array (.object "com/example/admit_one/admitone/engine/DueOrder$Head")), .int]
  staticTypes := #[.int]
  resolved := #[none, none, none, none, none, none, none, none, none, none, none, none, none, none, none, none, none, none, none, none, none, none, none, some (.field 4 0), none, none, none, some (.field 3 0), none, none, none, none, none, none, none, none, none, some (.field 3 1), none, none, none, none, none, none, none, none, none, none, none, none, none, none, none, none, none, none, none, none, none, none, none, none, none, none, none, none, none, none, none, none, none, none, none, none, none, none, none, none, none, none, none, none, none, none, none, none, none, none, none, none, none, none, none, none, none, none, none, none, none, none, none, none, none]
  statics := none }

def pool3 : Array CpInfo := pool [(1, .methodref 2 3), (0, .class_ 4), (0, .nameAndType 5 6), (0, u "java/lang/Object"), (0, u "<init>"), (0, u "()V"), (0, .class_ 8), (0, u "com/example/admit_one/admitone/engine/DueOrder$Link"), (0, u "next"), (0, u "Lcom/example/admit_one/admitone/engine/DueOrder$Link;"), (0, u "prev"), (5, .class_ 18), (0, u "com/example/admit_one/admitone/engine/DueOrder")] 2

def k3c0 : Code := { maxStack := 1, maxLocals := 1, code := prog_6_method_1_code, exceptionTable := #[], attributes := #[] }
def k3m0 : Method := { name := "<init>", desc := "()V", sig := { parameters := [], returnType := none }, accessFlags := 0, code := some k3c0 }
/-- com/example/admit_one/admitone/engine/DueOrder$Link -/
def k3 : Class := { plain "com/example/admit_one/admitone/engine/DueOrder$Link" (some 0) with
  accessFlags := 32
  interfaces := #[]
  cf := some (fileOf pool3 7 #[.nestHost 17] #[{ accessFlags := 0, nameIndex := 5, descriptorIndex := 6, attributes := #[] }] 32 2 #[] #[{ accessFlags := 2, nameIndex := 9, descriptorIndex := 10, attributes := #[] }, { accessFlags := 2, nameIndex := 11, descriptorIndex := 10, attributes := #[] }])
  fields := #[{ name := "next", type := (.object "com/example/admit_one/admitone/engine/DueOrder$Link"), accessFlags := 2, slot := 0, constantValue := 0 }, { name := "prev", type := (.object "com/example/admit_one/admitone/engine/DueOrder$Link"), accessFlags := 2, slot := 1, constantValue := 0 }]
  methods := #[k3m0]
  instanceTypes := #[(.object "com/example/admit_one/admitone/engine/DueOrder$Link"), (.object "com/example/admit_one/admitone/engine/DueOrder$Link")]
  staticTypes := #[]
  resolved := Array.replicate 21 none
  statics := none }

def pool4 : Array CpInfo := pool [(1, .methodref 2 3), (0, .class_ 4), (0, .nameAndType 5 6), (0, u "com/example/admit_one/admitone/engine/DueOrder$Link"), (0, u "<init>"), (0, u "()V"), (0, .fieldref 8 9), (0, .class_ 10), (0, .nameAndType 11 12), (0, u "com/example/admit_one/admitone/engine/DueOrder$Head"), (0, u "tick"), (0, u "J"), (0, .fieldref 2 14), (0, .nameAndType 15 16), (0, u "next"), (0, u "Lcom/example/admit_one/admitone/engine/DueOrder$Link;"), (0, .fieldref 2 18), (0, .nameAndType 19 16), (0, u "prev"), (0, u "(J)V"), (5, .class_ 27), (0, u "com/example/admit_one/admitone/engine/DueOrder")] 3

def k4c0 : Code := { maxStack := 3, maxLocals := 3, code := prog_5_method_1_code, exceptionTable := #[], attributes := #[] }
def k4m0 : Method := { name := "<init>", desc := "(J)V", sig := { parameters := [.long], returnType := none }, accessFlags := 0, code := some k4c0 }
/-- com/example/admit_one/admitone/engine/DueOrder$Head -/
def k4 : Class := { plain "com/example/admit_one/admitone/engine/DueOrder$Head" (some 3) with
  accessFlags := 32
  interfaces := #[]
  cf := some (fileOf pool4 8 #[.nestHost 26] #[{ accessFlags := 0, nameIndex := 5, descriptorIndex := 20, attributes := #[] }] 32 2 #[] #[{ accessFlags := 18, nameIndex := 11, descriptorIndex := 12, attributes := #[] }])
  fields := #[{ name := "tick", type := .long, accessFlags := 18, slot := 2, constantValue := 0 }]
  methods := #[k4m0]
  instanceTypes := #[(.object "com/example/admit_one/admitone/engine/DueOrder$Link"), (.object "com/example/admit_one/admitone/engine/DueOrder$Link"), .long]
  staticTypes := #[]
  resolved := Array.replicate 31 none
  statics := none }

def pool5 : Array CpInfo := pool [(2, .class_ 4), (1, u "java/lang/Object"), (0, u "<init>"), (0, u "()V"), (1, .class_ 10), (1, u "java/lang/System"), (0, u "allowSecurityManager"), (0, u "I"), (16, u "cons"), (0, u "Ljava/io/Console;"), (77, .class_ 110), (1, u "java/lang/System$CallersHolder"), (43, u "initialErrStream"), (0, u "Ljava/io/PrintStream;"), (19, u "security"), (0, u "Ljava/lang/SecurityManager;"), (31, .class_ 209), (0, u "java/lang/System$1"), (7, u "props"), (0, u "Ljava/util/Properties;"), (2, u "lineSeparator"), (0, u "Ljava/lang/String;"), (96, .class_ 321), (1, u "java/lang/System$LoggerFinder"), (5, .class_ 328), (0, u "java/lang/System$Logger"), (67, u "err"), (2, u "out"), (91, u "notSupportedJnuEncoding"), (15, u "in"), (17, u "initialIn"), (0, u "Ljava/io/InputStream;"), (35, u "bootLayer"), (0, u "Ljava/lang/ModuleLayer;"), (99, .class_ 664), (0, u "java/lang/System$2"), (9, u "NEVER"), (2, u "MAYBE"), (49, u "arraycopy"), (0, u "(Ljava/lang/Object;ILjava/lang/Object;II)V"), (72, .class_ 802), (0, u "java/lang/System$Logger$Level")] 31

def k5m0 : Method := { name := "<init>", desc := "()V", sig := { parameters := [], returnType := none }, accessFlags := 2, code := none }
def k5m1 : Method := { name := "arraycopy", desc := "(Ljava/lang/Object;ILjava/lang/Object;II)V", sig := { parameters := [(.object "java/lang/Object"), .int, (.object "java/lang/Object"), .int, .int], returnType := none }, accessFlags := 265, code := none }
/-- java/lang/System -/
def k5 : Class := { plain "java/lang/System" (some 0) with
  accessFlags := 49
  interfaces := #[]
  cf := some (fileOf pool5 8 #[.nestMembers #[319, 327, 801, 108, 663, 208]] #[{ accessFlags := 2, nameIndex := 5, descriptorIndex := 6, attributes := #[] }, { accessFlags := 265, nameIndex := 727, descriptorIndex := 728, attributes := #[] }] 49 2 #[] #[{ accessFlags := 25, nameIndex := 507, descriptorIndex := 526, attributes := #[] }, { accessFlags := 25, nameIndex := 399, descriptorIndex := 155, attributes := #[] }, { accessFlags := 25, nameIndex := 396, descriptorIndex := 155, attributes := #[] }, { accessFlags := 10, nameIndex := 525, descriptorIndex := 526, attributes := #[] }, { accessFlags := 26, nameIndex := 674, descriptorIndex := 12, attributes := #[] }, { accessFlags := 26, nameIndex := 677, descriptorIndex := 12, attributes := #[] }, { accessFlags := 10, nameIndex := 11, descriptorIndex := 12, attributes := #[] }, { accessFlags := 74, nameIndex := 175, descriptorIndex := 176, attributes := #[] }, { accessFlags := 10, nameIndex := 491, descriptorIndex := 222, attributes := #[] }, { accessFlags := 74, nameIndex := 29, descriptorIndex := 30, attributes := #[] }, { accessFlags := 74, nameIndex := 154, descriptorIndex := 155, attributes := #[] }, { accessFlags := 10, nameIndex := 217, descriptorIndex := 218, attributes := #[] }, { accessFlags := 10, nameIndex := 221, descriptorIndex := 222, attributes := #[] }, { accessFlags := 8, nameIndex := 562, descriptorIndex := 563, attributes := #[] }])
  fields := #[{ name := "in", type := (.object "java/io/InputStream"), accessFlags := 25, slot := 0, constantValue := 0 }, { name := "out", type := (.object "java/io/PrintStream"), accessFlags := 25, slot := 1, constantValue := 0 }, { name := "err", type := (.object "java/io/PrintStream"), accessFlags := 25, slot := 2, constantValue := 0 }, { name := "initialIn", type := (.object "java/io/InputStream"), accessFlags := 10, slot := 3, constantValue := 0 }, { name := "NEVER", type := .int, accessFlags := 26, slot := 4, constantValue := 0 }, { name := "MAYBE", type := .int, accessFlags := 26, slot := 5, constantValue := 0 }, { name := "allowSecurityManager", type := .int, accessFlags := 10, slot := 6, constantValue := 0 }, { name := "security", type := (.object "java/lang/SecurityManager"), accessFlags := 74, slot := 7, constantValue := 0 }, { name := "notSupportedJnuEncoding", type := (.object "java/lang/String"), accessFlags := 10, slot := 8, constantValue := 0 }, { name := "cons", type := (.object "java/io/Console"), accessFlags := 74, slot := 9, constantValue := 0 }, { name := "initialErrStream", type := (.object "java/io/PrintStream"), accessFlags := 74, slot := 10, constantValue := 0 }, { name := "props", type := (.object "java/util/Properties"), accessFlags := 10, slot := 11, constantValue := 0 }, { name := "lineSeparator", type := (.object "java/lang/String"), accessFlags := 10, slot := 12, constantValue := 0 }, { name := "bootLayer", type := (.object "java/lang/ModuleLayer"), accessFlags := 8, slot := 13, constantValue := 0 }]
  methods := #[k5m0, k5m1]
  instanceTypes := #[]
  staticTypes := #[(.object "java/io/InputStream"), (.object "java/io/PrintStream"), (.object "java/io/PrintStream"), (.object "java/io/InputStream"), .int, .int, .int, (.object "java/lang/SecurityManager"), (.object "java/lang/String"), (.object "java/io/Console"), (.object "java/io/PrintStream"), (.object "java/util/Properties"), (.object "java/lang/String"), (.object "java/lang/ModuleLayer")]
  resolved := Array.replicate 834 none
  statics := none }

def pool6 : Array CpInfo := pool [(1, u "java/lang/Cloneable"), (0, .class_ 1), (0, u "java/lang/Object"), (0, .class_ 3)] 3

/-- java/lang/Cloneable -/
def k6 : Class := { plain "java/lang/Cloneable" (some 0) with
  accessFlags := 1537
  interfaces := #[]
  cf := some (fileOf pool6 2 #[] #[] 1537 4 #[] #[])
  fields := #[]
  methods := #[]
  instanceTypes := #[]
  staticTypes := #[]
  resolved := Array.replicate 8 none
  statics := none }

def pool7 : Array CpInfo := pool [(1, u "java/io/Serializable"), (0, .class_ 1), (0, u "java/lang/Object"), (0, .class_ 3)] 3

/-- java/io/Serializable -/
def k7 : Class := { plain "java/io/Serializable" (some 0) with
  accessFlags := 1537
  interfaces := #[]
  cf := some (fileOf pool7 2 #[] #[] 1537 4 #[] #[])
  fields := #[]
  methods := #[]
  instanceTypes := #[]
  staticTypes := #[]
  resolved := Array.replicate 8 none
  statics := none }

/-- the primitive byte -/
def k8 : Class := { plain "byte" none with kind := .primitive 'B', accessFlags := 0x411 }
/-- [B -/
def k9 : Class := { plain "[B" (some 0) with kind := .array 8 .byte, interfaces := #[6, 7], accessFlags := 1041 }

/-- the primitive int -/
def k10 : Class := { plain "int" none with kind := .primitive 'I', accessFlags := 0x411 }
/-- [I -/
def k11 : Class := { plain "[I" (some 0) with kind := .array 10 .int, interfaces := #[6, 7], accessFlags := 1041 }

/-- [Lcom/example/admit_one/admitone/engine/DueOrder$Head; -/
def k12 : Class := { plain "[Lcom/example/admit_one/admitone/engine/DueOrder$Head;" (some 0) with kind := .array 4 (.object "com/example/admit_one/admitone/engine/DueOrder$Head"), interfaces := #[6, 7], accessFlags := 1041 }

def heap : Heap := #[]
def classes : Array Class := #[k0, k1, k2, k3, k4, k5, k6, k7, k8, k9, k10, k11, k12]
def interned : List (Array UInt16 × Addr) := []
def slotsUsed : Nat := 0
def theMethod : MethodId := ⟨1, 1⟩
def args0 : Array Value := #[.long 5, .long 7, .int 3]
def aboutOver (below : List Frame) : State where
  vm := { classes := classes, interned := interned.toArray }
  heap := heap
  slotsUsed := slotsUsed
  threads := #[{ frames := .invoking theMethod args0 :: below }]
def below0 : List Frame := [.native { method := ⟨0, 0⟩, args := #[] }]
def about1 : State := aboutOver below0
def p0 : Program := .bare "" "" ""
def e0 : Env := launch0.env 0 0 0
theorem w_frames : about1.frames = Frame.invoking theMethod args0 :: below0 := rfl
set_option maxRecDepth 65536 in
theorem w_args : argsFit about1.vm theMethod args0 = true := by decide +kernel
set_option maxRecDepth 65536 in
theorem w_heap : heapFits about1 = true := by decide +kernel
set_option maxRecDepth 65536 in
theorem w_runnable : about1.curStatus? = some .runnable := by decide +kernel
set_option maxRecDepth 65536 in
theorem w_alone : about1.alone = true := by decide +kernel
set_option maxRecDepth 65536 in
theorem w_named : about1.methodNamed? x = some theMethod := by decide +kernel
set_option maxRecDepth 65536 in
theorem w_hears : about1.hears theMethod below0 = true := by decide +kernel
set_option maxRecDepth 65536 in
theorem w_ripe : about1.ripe theMethod args0 below0 = true := by decide +kernel
theorem w_running : about1.status = .running := rfl
set_option maxRecDepth 65536 in
theorem w_room : about1.hasRoom e0.platform room_1 = true :=
  launch0.hasRoom_least _ room_1 (by decide +kernel) (by decide +kernel) (by decide +kernel) (by decide +kernel) (by decide +kernel) (by decide +kernel)
theorem allAtoms_all (ts : List Jvm.Cond) (a : Array Jvm.Value) (st : Jvm.State) : (allAtoms ts).before a st = ts.all (fun c => c.before a st) := by
  induction ts with
  | nil => rfl
  | cons c t ih =>
    show (Jvm.Cond.and c (allAtoms t)).before a st = _
    rw [Jvm.Cond.before_and, ih, List.all_cons]
def words1 : List Jvm.Cond := Jvm.Cond.code x code maxLocals ret :: tables_1
/-- a 'code' word, met by the world's own term for the bytes: nothing is compared byte by byte -/
theorem code_word {y : MethodName} {bytes : ByteArray} {mx : Nat} {rt : Option FieldType} {a : Array Value} {s : State} {m : MethodId} {meth : Method} {c : Code} (h1 : s.methodNamed? y = some m) (h2 : s.vm.method? m = some meth) (h3 : meth.code = some c) (h4 : c.code = bytes)
    (h5 : (c.maxLocals == mx && c.exceptionTable.isEmpty && decide (c.maxStack ≤ mostOperands) && decide (meth.sig.returnType = rt) && !meth.locks && decide (parseMethodDescriptor y.desc = some meth.sig)) = true) : (Jvm.Cond.code y bytes mx rt).before a s = true := by
  simp only [Bool.and_eq_true, beq_iff_eq, Bool.not_eq_true', decide_eq_true_eq] at h5
  obtain ⟨⟨⟨⟨⟨g1, g2⟩, g3⟩, g4⟩, g5⟩, g6⟩ := h5
  simp [Cond.before, Cond.holds, Cond.value, h1, h2, h3, h4, g1, g2, g3, g4, g5, g6]
def isCode : Jvm.Cond → Bool
  | .code _ _ _ _ => true
  | _ => false
theorem all_split {L : List Jvm.Cond} {P : Jvm.Cond → Bool} (h1 : L.all (fun c => isCode c || P c) = true) (h2 : ∀ c ∈ L.filter isCode, P c = true) : L.all P = true := by
  refine List.all_eq_true.mpr fun c hc => ?_
  have h := List.all_eq_true.mp h1 c hc
  rcases Bool.eq_false_or_eq_true (isCode c) with hi | hi
  · exact h2 c (List.mem_filter.mpr ⟨hc, hi⟩)
  · simpa [hi] using h
set_option maxRecDepth 65536 in
theorem w_c0 : (Jvm.Cond.code x code maxLocals ret).before args0 about1 = true := code_word (m := ⟨1, 1⟩) (meth := k1m1) (c := k1c1) (by decide +kernel) rfl rfl rfl (by decide +kernel)
set_option maxRecDepth 65536 in
theorem w_c1 : (Jvm.Cond.code ({ cls := "com/example/admit_one/admitone/engine/DueOrder", name := "<init>", desc := "()V" } : Jvm.MethodName) prog_4_method_1_code (1 : Nat) (Option.none : Option Jvm.ClassFile.FieldType)).before args0 about1 = true := code_word (m := ⟨2, 0⟩) (meth := k2m0) (c := k2c0) (by decide +kernel) rfl rfl rfl (by decide +kernel)
set_option maxRecDepth 65536 in
theorem w_c2 : (Jvm.Cond.code ({ cls := "java/lang/Object", name := "<init>", desc := "()V" } : Jvm.MethodName) object_method_1_code (1 : Nat) (Option.none : Option Jvm.ClassFile.FieldType)).before args0 about1 = true := code_word (m := ⟨0, 0⟩) (meth := k0m0) (c := k0c0) (by decide +kernel) rfl rfl rfl (by decide +kernel)
set_option maxRecDepth 65536 in
theorem w_c3 : (Jvm.Cond.code ({ cls := "com/example/admit_one/admitone/engine/DueOrder$Link", name := "<init>", desc := "()V" } : Jvm.MethodName) prog_6_method_1_code (1 : Nat) (Option.none : Option Jvm.ClassFile.FieldType)).before args0 about1 = true := code_word (m := ⟨3, 0⟩) (meth := k3m0) (c := k3c0) (by decide +kernel) rfl rfl rfl (by decide +kernel)
set_option maxRecDepth 65536 in
theorem w_c4 : (Jvm.Cond.code ({ cls := "com/example/admit_one/admitone/engine/DueOrder", name := "isFiled", desc := "(Lcom/example/admit_one/admitone/engine/DueOrder$Link;)Z" } : Jvm.MethodName) prog_4_method_4_code (1 : Nat) (Option.some Jvm.ClassFile.FieldType.boolean)).before args0 about1 = true := code_word (m := ⟨2, 1⟩) (meth := k2m1) (c := k2c1) (by decide +kernel) rfl rfl rfl (by decide +kernel)
set_option maxRecDepth 65536 in
theorem w_c5 : (Jvm.Cond.code ({ cls := "com/example/admit_one/admitone/engine/DueOrder", name := "file", desc := "(Lcom/example/admit_one/admitone/engine/DueOrder$Link;J)V" } : Jvm.MethodName) prog_4_method_5_code (5 : Nat) (Option.none : Option Jvm.ClassFile.FieldType)).before args0 about1 = true := code_word (m := ⟨2, 2⟩) (meth := k2m2) (c := k2c2) (by decide +kernel) rfl rfl rfl (by decide +kernel)
set_option maxRecDepth 65536 in
theorem w_c6 : (Jvm.Cond.code ({ cls := "com/example/admit_one/admitone/engine/DueOrder", name := "headOf", desc := "(J)Lcom/example/admit_one/admitone/engine/DueOrder$Head;" } : Jvm.MethodName) prog_4_method_8_code (5 : Nat) (Option.some (Jvm.ClassFile.FieldType.object "com/example/admit_one/admitone/engine/DueOrder$Head"))).before args0 about1 = true := code_word (m := ⟨2, 4⟩) (meth := k2m4) (c := k2c4) (by decide +kernel) rfl rfl rfl (by decide +kernel)
set_option maxRecDepth 65536 in
theorem w_c7 : (Jvm.Cond.code ({ cls := "com/example/admit_one/admitone/engine/DueOrder", name := "dueBy", desc := "(J)I" } : Jvm.MethodName) prog_4_method_10_code (6 : Nat) (Option.some Jvm.ClassFile.FieldType.int)).before args0 about1 = true := code_word (m := ⟨2, 6⟩) (meth := k2m6) (c := k2c6) (by decide +kernel) rfl rfl rfl (by decide +kernel)
set_option maxRecDepth 65536 in
theorem w_c8 : (Jvm.Cond.code ({ cls := "com/example/admit_one/admitone/engine/DueOrder$Head", name := "<init>", desc := "(J)V" } : Jvm.MethodName) prog_5_method_1_code (3 : Nat) (Option.none : Option Jvm.ClassFile.FieldType)).before args0 about1 = true := code_word (m := ⟨4, 0⟩) (meth := k4m0) (c := k4c0) (by decide +kernel) rfl rfl rfl (by decide +kernel)
set_option maxRecDepth 65536 in
theorem w_c9 : (Jvm.Cond.code ({ cls := "com/example/admit_one/admitone/engine/DueOrder", name := "remove", desc := "(Lcom/example/admit_one/admitone/engine/DueOrder$Link;)V" } : Jvm.MethodName) prog_4_method_6_code (3 : Nat) (Option.none : Option Jvm.ClassFile.FieldType)).before args0 about1 = true := code_word (m := ⟨2, 3⟩) (meth := k2m3) (c := k2c3) (by decide +kernel) rfl rfl rfl (by decide +kernel)
set_option maxRecDepth 65536 in
theorem w_c10 : (Jvm.Cond.code ({ cls := "com/example/admit_one/admitone/engine/DueOrder", name := "drop", desc := "(Lcom/example/admit_one/admitone/engine/DueOrder$Head;)V" } : Jvm.MethodName) prog_4_method_9_code (3 : Nat) (Option.none : Option Jvm.ClassFile.FieldType)).before args0 about1 = true := code_word (m := ⟨2, 5⟩) (meth := k2m5) (c := k2c5) (by decide +kernel) rfl rfl rfl (by decide +kernel)
set_option maxRecDepth 65536 in
theorem w_c11 : (Jvm.Cond.code ({ cls := "com/example/admit_one/admitone/engine/DueOrder", name := "shrinkIfSparse", desc := "()V" } : Jvm.MethodName) prog_4_method_11_code (2 : Nat) (Option.none : Option Jvm.ClassFile.FieldType)).before args0 about1 = true := code_word (m := ⟨2, 7⟩) (meth := k2m7) (c := k2c7) (by decide +kernel) rfl rfl rfl (by decide +kernel)
def codes1 : List Jvm.Cond := [Jvm.Cond.code x code maxLocals ret, Jvm.Cond.code ({ cls := "com/example/admit_one/admitone/engine/DueOrder", name := "<init>", desc := "()V" } : Jvm.MethodName) prog_4_method_1_code (1 : Nat) (Option.none : Option Jvm.ClassFile.FieldType), Jvm.Cond.code ({ cls := "java/lang/Object", name := "<init>", desc := "()V" } : Jvm.MethodName) object_method_1_code (1 : Nat) (Option.none : Option Jvm.ClassFile.FieldType), Jvm.Cond.code ({ cls := "com/example/admit_one/admitone/engine/DueOrder$Link", name := "<init>", desc := "()V" } : Jvm.MethodName) prog_6_method_1_code (1 : Nat) (Option.none : Option Jvm.ClassFile.FieldType), Jvm.Cond.code ({ cls := "com/example/admit_one/admitone/engine/DueOrder", name := "isFiled", desc := "(Lcom/example/admit_one/admitone/engine/DueOrder$Link;)Z" } : Jvm.MethodName) prog_4_method_4_code (1 : Nat) (Option.some Jvm.ClassFile.FieldType.boolean), Jvm.Cond.code ({ cls := "com/example/admit_one/admitone/engine/DueOrder", name := "file", desc := "(Lcom/example/admit_one/admitone/engine/DueOrder$Link;J)V" } : Jvm.MethodName) prog_4_method_5_code (5 : Nat) (Option.none : Option Jvm.ClassFile.FieldType), Jvm.Cond.code ({ cls := "com/example/admit_one/admitone/engine/DueOrder", name := "headOf", desc := "(J)Lcom/example/admit_one/admitone/engine/DueOrder$Head;" } : Jvm.MethodName) prog_4_method_8_code (5 : Nat) (Option.some (Jvm.ClassFile.FieldType.object "com/example/admit_one/admitone/engine/DueOrder$Head")), Jvm.Cond.code ({ cls := "com/example/admit_one/admitone/engine/DueOrder", name := "dueBy", desc := "(J)I" } : Jvm.MethodName) prog_4_method_10_code (6 : Nat) (Option.some Jvm.ClassFile.FieldType.int), Jvm.Cond.code ({ cls := "com/example/admit_one/admitone/engine/DueOrder$Head", name := "<init>", desc := "(J)V" } : Jvm.MethodName) prog_5_method_1_code (3 : Nat) (Option.none : Option Jvm.ClassFile.FieldType), Jvm.Cond.code ({ cls := "com/example/admit_one/admitone/engine/DueOrder", name := "remove", desc := "(Lcom/example/admit_one/admitone/engine/DueOrder$Link;)V" } : Jvm.MethodName) prog_4_method_6_code (3 : Nat) (Option.none : Option Jvm.ClassFile.FieldType), Jvm.Cond.code ({ cls := "com/example/admit_one/admitone/engine/DueOrder", name := "drop", desc := "(Lcom/example/admit_one/admitone/engine/DueOrder$Head;)V" } : Jvm.MethodName) prog_4_method_9_code (3 : Nat) (Option.none : Option Jvm.ClassFile.FieldType), Jvm.Cond.code ({ cls := "com/example/admit_one/admitone/engine/DueOrder", name := "shrinkIfSparse", desc := "()V" } : Jvm.MethodName) prog_4_method_11_code (2 : Nat) (Option.none : Option Jvm.ClassFile.FieldType)]
set_option maxRecDepth 65536 in
theorem codes_eq : words1.filter isCode = codes1 := rfl
theorem w_codes : ∀ c ∈ words1.filter isCode, c.before args0 about1 = true := by
  rw [codes_eq]
  intro c hc
  simp only [codes1, List.mem_cons, List.not_mem_nil, or_false] at hc
  rcases hc with rfl | rfl | rfl | rfl | rfl | rfl | rfl | rfl | rfl | rfl | rfl | rfl
  · exact w_c0
  · exact w_c1
  · exact w_c2
  · exact w_c3
  · exact w_c4
  · exact w_c5
  · exact w_c6
  · exact w_c7
  · exact w_c8
  · exact w_c9
  · exact w_c10
  · exact w_c11
set_option maxRecDepth 65536 in
theorem w_t1 : (words1.take 24).all (fun c => isCode c || c.before args0 about1) = true := by decide +kernel
set_option maxRecDepth 65536 in
theorem w_t2 : ((words1.drop 24).take 24).all (fun c => isCode c || c.before args0 about1) = true := by decide +kernel
set_option maxRecDepth 65536 in
theorem w_t3 : (((words1.drop 24).drop 24).take 24).all (fun c => isCode c || c.before args0 about1) = true := by decide +kernel
set_option maxRecDepth 65536 in
theorem w_t4 : (((words1.drop 24).drop 24).drop 24).all (fun c => isCode c || c.before args0 about1) = true := by decide +kernel
theorem w_tables : (allAtoms (Jvm.Cond.code x code maxLocals ret :: tables_1)).before args0 about1 = true := by
  rw [allAtoms_all]
  show words1.all (fun c => c.before args0 about1) = true
  refine all_split ?_ w_codes
  rw [← List.take_append_drop 24 words1, List.all_append, w_t1, ← List.take_append_drop 24 (words1.drop 24), List.all_append, w_t2, ← List.take_append_drop 24 ((words1.drop 24).drop 24), List.all_append, w_t3, w_t4]
  rfl
set_option maxRecDepth 65536 in
theorem w_case : (Jvm.Cond.and given_1 narrow_1).before args0 about1 = true := by decide +kernel
theorem w_applies : (headSpec (Jvm.Cond.code x code maxLocals ret :: tables_1) room_1).applies x e0.platform about1 = true :=
  (Spec.applies_iff w_frames).mpr ⟨w_running, w_runnable, w_alone, w_named, w_hears, w_ripe, w_room, w_tables⟩
theorem atStart : AtStart classFile x code maxLocals ret World_1 tables_1 room_1 Calls_1 rest_1 Pre_1 launch0 p0 e0 about1 theMethod args0 below0 :=
  ⟨lists_1, trivial, launch0.admits_env _ _ _, launch0.least_env, fairChoices_fair.cas, fairChoices_fair.clock, w_frames, w_args, w_heap, w_applies, trivial, trivial, w_case⟩
end start1
theorem witness_1 : WitnessClaimed_1 := ⟨start1.p0, start1.e0, start1.about1, start1.theMethod, start1.args0, start1.below0, start1.atStart⟩
end Jvm.Pilot.@@N@@
