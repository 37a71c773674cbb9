import JvmDerived
import JvmDerived.Pilot.@@N@@Statement
import JvmDerived.Pilot.@@N@@Code
set_option linter.unusedVariables false
set_option linter.unusedSimpArgs false
namespace Jvm.RoadKit
open Sem ClassFile Op Lib Jvm.Stand Jvm.Free Jvm.LawKit
section New
variable {p : Program} {l : Launch} {e : Env} {R : Room} {s : State} {m : MethodId} {args : Array Value} {below : List Frame} {meth : Method} {c : Code} {T : State} {locs : List Loc} {cells slots : Nat}
theorem retI (X : Stand p l e R s m args below meth c T locs cells slots) (hx : p.tables.exec = Jvm.exec) {pc : Nat} {Ls : Array Slot} {z : Int32} {rest : List Value} (hret : meth.sig.returnType = some .int) (hd : decode c.code pc = .ok (.ireturn, 1)) {fs : List Frame}
    (hl : ∀ (f : JFrame) (acts : List Action), f.method = m → f.locked = none → f.entered = [] → (doReturn e (T.setTop f) acts (some (.int z))).1 = T.setFrames fs) : Steps p.tables e below (T.setTop (mkF m pc Ls (.int z :: rest))) (T.setFrames fs) :=
  retOut X hx hret rfl (Or.inl ⟨rfl, Or.inl rfl, _, rfl⟩) hd hl
def Elt (Z : State) (h : Heap) (a : Addr) (ty : FieldType) (j : Int32) (v : Value) : Prop := ∃ cl : Cell, Arr Z h a cl ty ∧ ¬ (j < 0 ∨ cl.slots.size ≤ j.toNatClampNeg) ∧ cl.slots[j.toNatClampNeg]? = some v
theorem Elt.of {Z : State} {h : Heap} {a : Addr} {k : ClassId} {ty : FieldType} {n j : Int32} {vs : List Value} {d v : Value} (F : Arv Z h a k ty n vs d) (q : ¬ j < 0 ∧ j < n) (u : vs.getD j.toNatClampNeg d = v) : Elt Z h a ty j v := by
  obtain ⟨c, A, _, S, _, H, _⟩ := F
  exact ⟨c, A, inb_of S q, H.at (inb_of S q) u⟩
def Goes (tb : Tables) (e : Env) (below : List Frame) (P : State → Outcome → Prop) (A : State) : Prop := ∃ s₂ o, Steps tb e below A s₂ ∧ P s₂ o
theorem Goes.start {tb : Tables} {e : Env} {below : List Frame} {P : State → Outcome → Prop} {A : State} (h : Goes tb e below P A) : ∃ s₂ o, Steps tb e below A s₂ ∧ P s₂ o := h
theorem Goes.by {tb : Tables} {e : Env} {below : List Frame} {P : State → Outcome → Prop} {A B : State} (h : ∀ t, Steps tb e below B t → Steps tb e below A t) (g : Goes tb e below P B) : Goes tb e below P A := by
  obtain ⟨s₂, o, h1, h2⟩ := g
  exact ⟨s₂, o, h _ h1, h2⟩
theorem Goes.mk {tb : Tables} {e : Env} {below : List Frame} {P : State → Outcome → Prop} {A : State} (s₂ : State) (o : Outcome) (h : Steps tb e below A s₂) (hp : P s₂ o) : Goes tb e below P A := ⟨s₂, o, h, hp⟩
end New
end Jvm.RoadKit
namespace Jvm.Pilot.@@N@@
open Jvm Jvm.ClassFile Sem Op Lib Jvm.Free Jvm.Stand Jvm.LawKit Jvm.RoadKit Bundle Jvm.Pilot.@@N@@.Jvm.D
theorem d2_0 : decode jdk_30_method_1_code 0 = .ok (.aload_n 0, 1) := by decide +kernel
theorem d2_1 : decode jdk_30_method_1_code 1 = .ok (.invokespecial 1, 3) := by decide +kernel
theorem d2_4 : decode jdk_30_method_1_code 4 = .ok (.return_, 1) := by decide +kernel
def Q2 (Z : State) (a0 : Addr) (h0 : Heap) (n0 : Nat) (v : Option Value) (h : Heap) (L : List Loc) : Prop := v = none ∧ Fr n0 L ∧ h = h0
theorem own_pn_java_lang_Record : plainName "java/lang/Record" = true := by first | (simp [plainName, overriddenIn]; done) | decide +kernel
theorem ef2 (m : MethodId) (x0 : Addr) : entryFrame m #[(.ref x0)] 1 = mkF m 0 #[.val (.ref x0)] [] := by first | (simp [entryFrame, mkF, argsToLocals, Value.category]; done) | rfl
set_option maxRecDepth 65536 in
set_option maxHeartbeats 40000000 in
theorem rm2 (l : Launch) (Z : State) (az : Array Value) (hw : ∀ d ∈ tables_1, d.before az Z = true) (ws : List Jvm.Cond) (a0 : Addr) (h0 : Heap) (n0 : Nat) (Z0 : n0 ≤ h0.size) :
    MetFree l (⟨"java/lang/Record", "<init>", "()V"⟩ : MethodName) (head1 (Jvm.Cond.code (⟨"java/lang/Record", "<init>", "()V"⟩ : MethodName) jdk_30_method_1_code 1 none :: ws) ({ frames := 1, cells := 0, slots := 0, locals := 12 } : Room)) (fun a U => a = #[(.ref a0)] ∧ Z.Warmed39 U.vm ∧ U.heap = h0) (fun _ _ _ _ _ => True) (fun _ U o U' => ∃ v L, o = .returned v ∧ Q2 Z a0 h0 n0 v U'.heap L ∧ FrameEnd U o U' L ({ frames := 1, cells := 0, slots := 0, locals := 12 } : Room).cells ({ frames := 1, cells := 0, slots := 0, locals := 12 } : Room).slots) := by
  refine MetFree.of_bodySF (plainFor_of_name own_pn_java_lang_Record) hisR ?_
  intro p e s m args below meth c s₁ Bd hml0 hP hK
  obtain ⟨rfl, hZ, hh⟩ := hP
  have hx := Bd.exec
  have hby := Bd.bytes
  have hml : c.maxLocals = 1 := hml0
  have hown : s.vm.findClass "java/lang/Record" = some m.cls := findClass_of_methodNamed Bd.named
  have hnm := (name_of_methodNamed Bd.named Bd.method).1
  have X0 : Stand p l e ({ frames := 1, cells := 0, slots := 0, locals := 12 } : Room) s m #[(.ref a0)] below meth c s₁ [] 0 0 := Stand.of_body Bd
  have e0 : s₁.heap = h0 := by rw [← hh, Bd.state]; rfl
  have N0 := Fr.nil n0
  have Kp0 : Keep h0 h0 [] := Keep.refl _ _
  refine Goes.start ?_
  refine Goes.by (B := s₁.setTop (mkF m 0 #[.val (.ref a0)] [])) (fun t k => castTop (ef2 m a0) k) ?_
  refine Goes.by (B := s₁.setTop (mkF m 1 #[.val (.ref a0)] [(.ref a0)])) (fun t k => ?_) ?_
  · show Steps p.tables e below (s₁.setTop (mkF m 0 #[.val (.ref a0)] [])) t
    refine XS.aloadN X0.here hx rfl (hb hby d2_0) rfl rfl ?_
    exact k
  obtain ⟨T1, X1, e1, st1⟩ := initO X0 hx hZ hown (hw _ (List.mem_of_getElem? (i := 15) rfl)) (hw _ (List.mem_of_getElem? (i := 16) rfl)) (hw _ (List.mem_of_getElem? (i := 17) rfl)) e0 (g := (mkF m 1 #[.val (.ref a0)] [(.ref a0)])) rfl (by rw [hml]; rfl) rfl (hb hby d2_1) (by decide) (W := 0) (by show 2 * 0 + _ ≤ _; exact Nat.le_of_eq rfl) (by decide)
  refine Goes.by st1 ?_
  show Goes p.tables e below _ (T1.setTop (mkF m 4 #[.val (.ref a0)] []))
  obtain ⟨fs, hr, hrun, hended, hW, hsame⟩ := X1.leave (v := none) (fun _ => rfl)
  refine Goes.mk _ _ ?_ ⟨hrun, hended, _, _, rfl, ?_, ⟨_, rfl⟩, hW, hsame.mono (by decide) (by decide)⟩
  · exact X1.returnOut hx Bd.returns (hb hby d2_4) hr
  · show Q2 Z a0 h0 n0 _ T1.heap _
    rw [e1]
    exact ⟨rfl, N0, rfl⟩
theorem d1_0 : decode prog_60_method_1_code 0 = .ok (.aload_n 0, 1) := by decide +kernel
theorem d1_1 : decode prog_60_method_1_code 1 = .ok (.invokespecial 1, 3) := by decide +kernel
theorem own_pd0 : parseMethodDescriptor "()V" = some ⟨[], none⟩ := by decide +kernel
theorem d1_4 : decode prog_60_method_1_code 4 = .ok (.aload_n 0, 1) := by decide +kernel
theorem d1_5 : decode prog_60_method_1_code 5 = .ok (.lload_n 1, 1) := by decide +kernel
theorem d1_6 : decode prog_60_method_1_code 6 = .ok (.putfield 7, 3) := by decide +kernel
theorem d1_9 : decode prog_60_method_1_code 9 = .ok (.aload_n 0, 1) := by decide +kernel
theorem d1_10 : decode prog_60_method_1_code 10 = .ok (.lload_n 3, 1) := by decide +kernel
theorem d1_11 : decode prog_60_method_1_code 11 = .ok (.putfield 13, 3) := by decide +kernel
theorem d1_14 : decode prog_60_method_1_code 14 = .ok (.return_, 1) := by decide +kernel
def QPos (Z : State) (a0 : Addr) (q1 : Int64) (q2 : Int64) (h0 : Heap) (n0 : Nat) (v : Option Value) (h : Heap) (L : List Loc) : Prop := v = none ∧ Fr n0 L ∧ Keep h0 h [a0] ∧ Exa Z h a0 "com/example/moraine/moraine/Position" ∧ Fld Z h a0 "com/example/moraine/moraine/Position" "increments" "J" (.long q1) ∧ Fld Z h a0 "com/example/moraine/moraine/Position" "records" "J" (.long q2)
theorem own_pn_com_example_moraine_moraine_Position : plainName "com/example/moraine/moraine/Position" = true := by first | (simp [plainName, overriddenIn]; done) | decide +kernel
theorem efPos (m : MethodId) (x0 : Addr) (x1 : Int64) (x2 : Int64) : entryFrame m #[(.ref x0), (.long x1), (.long x2)] 5 = mkF m 0 #[.val (.ref x0), .val (.long x1), .second, .val (.long x2), .second] [] := by first | (simp [entryFrame, mkF, argsToLocals, Value.category]; done) | rfl
set_option maxRecDepth 65536 in
set_option maxHeartbeats 40000000 in
theorem rmPos (l : Launch) (Z : State) (az : Array Value) (hw : ∀ d ∈ tables_1, d.before az Z = true) (ws : List Jvm.Cond) (a0 : Addr) (q1 : Int64) (q2 : Int64) (h0 : Heap) (n0 : Nat) (Z0 : n0 ≤ h0.size) (F0 : Exa Z h0 a0 "com/example/moraine/moraine/Position") (F1 : Fld Z h0 a0 "com/example/moraine/moraine/Position" "increments" "J" (.long (0 : Int64))) (F2 : Fld Z h0 a0 "com/example/moraine/moraine/Position" "records" "J" (.long (0 : Int64))) (Ge0 : n0 ≤ a0) :
    MetFree l (⟨"com/example/moraine/moraine/Position", "<init>", "(JJ)V"⟩ : MethodName) (head1 (Jvm.Cond.code (⟨"com/example/moraine/moraine/Position", "<init>", "(JJ)V"⟩ : MethodName) prog_60_method_1_code 5 none :: ws) ({ frames := 2, cells := 0, slots := 0, locals := 24 } : Room)) (fun a U => a = #[(.ref a0), (.long q1), (.long q2)] ∧ Z.Warmed39 U.vm ∧ U.heap = h0) (fun _ _ _ _ _ => True) (fun _ U o U' => ∃ v L, o = .returned v ∧ QPos Z a0 q1 q2 h0 n0 v U'.heap L ∧ FrameEnd U o U' L ({ frames := 2, cells := 0, slots := 0, locals := 24 } : Room).cells ({ frames := 2, cells := 0, slots := 0, locals := 24 } : Room).slots) := by
  refine MetFree.of_bodySF (plainFor_of_name own_pn_com_example_moraine_moraine_Position) hisR ?_
  intro p e s m args below meth c s₁ Bd hml0 hP hK
  obtain ⟨rfl, hZ, hh⟩ := hP
  have hx := Bd.exec
  have hby := Bd.bytes
  have hml : c.maxLocals = 5 := hml0
  have hown : s.vm.findClass "com/example/moraine/moraine/Position" = some m.cls := findClass_of_methodNamed Bd.named
  have hnm := (name_of_methodNamed Bd.named Bd.method).1
  have X0 : Stand p l e ({ frames := 2, cells := 0, slots := 0, locals := 24 } : Room) s m #[(.ref a0), (.long q1), (.long q2)] below meth c s₁ [] 0 0 := Stand.of_body Bd
  have e0 : s₁.heap = h0 := by rw [← hh, Bd.state]; rfl
  have N0 := Fr.nil n0
  have Kp0 : Keep h0 h0 [a0] := Keep.refl _ _
  refine Goes.start ?_
  refine Goes.by (B := s₁.setTop (mkF m 0 #[.val (.ref a0), .val (.long q1), .second, .val (.long q2), .second] [])) (fun t k => castTop (efPos m a0 q1 q2) k) ?_
  refine Goes.by (B := s₁.setTop (mkF m 1 #[.val (.ref a0), .val (.long q1), .second, .val (.long q2), .second] [(.ref a0)])) (fun t k => ?_) ?_
  · show Steps p.tables e below (s₁.setTop (mkF m 0 #[.val (.ref a0), .val (.long q1), .second, .val (.long q2), .second] [])) t
    refine XS.aloadN X0.here hx rfl (hb hby d1_0) rfl rfl ?_
    exact k
  obtain ⟨_, _, ⟨T1, L1, k1, n1⟩, -, X1, ⟨Lc1, hQ1, l1, y1, z1⟩, st1⟩ := X0.specialBack hx (y := (⟨"java/lang/Record", "<init>", "()V"⟩ : MethodName)) rfl hown (mvT hZ (hw _ (List.mem_of_getElem? (i := 10) rfl))) (mvT hZ (hw _ (List.mem_of_getElem? (i := 11) rfl))) (mvT hZ (hw _ (List.mem_of_getElem? (i := 14) rfl))) (by decide) (backOf (W := 0) (rm2 l Z az hw [] a0 h0 n0 Z0 ) hZ (hw _ (List.mem_of_getElem? (i := 14) rfl)) (hw _ (List.mem_of_getElem? (i := 13) rfl)) (by decide) (by decide)) (g := (mkF m 1 #[.val (.ref a0), .val (.long q1), .second, .val (.long q2), .second] [(.ref a0)])) rfl (by rw [hml]; rfl) (Steps.refl _) (a := a0) (argsL := []) (rest := []) (lenOf own_pd0 rfl) rfl (by show 2 * 0 + _ ≤ _; exact Nat.le_of_eq rfl) (hb hby d1_1) (fun _ _ => ⟨rfl, e0, (by decide : 0 + 0 ≤ _), (by decide : 0 + 0 ≤ _)⟩)
  dsimp only [Pt.U, Pt.locs, Pt.cells, Pt.slots] at X1 l1 y1 z1 st1 hQ1
  subst l1 y1 z1
  obtain ⟨rfl, N1q, e1⟩ := hQ1
  have N2 := Fr.app N0 N1q
  refine Goes.by (fun _ k => st1.trans k) ?_
  show Goes p.tables e below _ (T1.setTop (mkF m 4 #[.val (.ref a0), .val (.long q1), .second, .val (.long q2), .second] []))
  refine Goes.by (B := T1.setTop (mkF m 6 #[.val (.ref a0), .val (.long q1), .second, .val (.long q2), .second] [(.long q1), (.ref a0)])) (fun t k => ?_) ?_
  · show Steps p.tables e below (T1.setTop (mkF m 4 #[.val (.ref a0), .val (.long q1), .second, .val (.long q2), .second] [])) t
    refine XS.aloadN X1.here hx rfl (hb hby d1_4) rfl rfl ?_
    show Steps p.tables e below (T1.setTop (mkF m 5 #[.val (.ref a0), .val (.long q1), .second, .val (.long q2), .second] [(.ref a0)])) t
    refine XS.lloadN X1.here hx rfl (hb hby d1_5) rfl ?_
    exact k
  obtain ⟨T3, h3, X3, e3, W3, st3⟩ := putF X1 hx hZ hown (host := "") (Or.inl (hw _ (List.mem_of_getElem? (i := 18) rfl))) Via.refl e1 F1 F0 (Or.inr ⟨(hw _ (List.mem_of_getElem? (i := 19) rfl)), rfl, hnm⟩) (hw _ (List.mem_of_getElem? (i := 5) rfl)) (ty := .long) (by decide) rfl rfl (g := (mkF m 6 #[.val (.ref a0), .val (.long q1), .second, .val (.long q2), .second] [(.long q1), (.ref a0)])) rfl rfl (hb hby d1_6)
  have f4 : Exa Z h3 a0 "com/example/moraine/moraine/Position" := F0.wr W3
  have f5 : Fld Z h3 a0 "com/example/moraine/moraine/Position" "records" "J" (.long (0 : Int64)) := F2.other W3 (Or.inr (slot_ne (Or.inr (hw _ (List.mem_of_getElem? (i := 21) rfl))) (Or.inr (hw _ (List.mem_of_getElem? (i := 19) rfl))) (by decide) (t := .long) (t' := .long) (by decide) (by decide)))
  have f6 : Fld Z h3 a0 "com/example/moraine/moraine/Position" "increments" "J" (.long q1) := F1.same W3
  have Kp3 : Keep h0 h3 [a0] := Kp0.wr W3 (Or.inl (List.mem_of_getElem? (i := 0) rfl))
  have Z7 : n0 ≤ h3.size := Nat.le_trans Z0 (Nat.le_of_eq W3.size.symm)
  have N8 := Fr.snoc X3 N2 Ge0
  refine Goes.by st3 ?_
  show Goes p.tables e below _ (T3.setTop (mkF m 9 #[.val (.ref a0), .val (.long q1), .second, .val (.long q2), .second] []))
  refine Goes.by (B := T3.setTop (mkF m 11 #[.val (.ref a0), .val (.long q1), .second, .val (.long q2), .second] [(.long q2), (.ref a0)])) (fun t k => ?_) ?_
  · show Steps p.tables e below (T3.setTop (mkF m 9 #[.val (.ref a0), .val (.long q1), .second, .val (.long q2), .second] [])) t
    refine XS.aloadN X3.here hx rfl (hb hby d1_9) rfl rfl ?_
    show Steps p.tables e below (T3.setTop (mkF m 10 #[.val (.ref a0), .val (.long q1), .second, .val (.long q2), .second] [(.ref a0)])) t
    refine XS.lloadN X3.here hx rfl (hb hby d1_10) rfl ?_
    exact k
  obtain ⟨T9, h9, X9, e9, W9, st9⟩ := putF X3 hx hZ hown (host := "") (Or.inl (hw _ (List.mem_of_getElem? (i := 20) rfl))) Via.refl e3 f5 f4 (Or.inr ⟨(hw _ (List.mem_of_getElem? (i := 21) rfl)), rfl, hnm⟩) (hw _ (List.mem_of_getElem? (i := 5) rfl)) (ty := .long) (by decide) rfl rfl (g := (mkF m 11 #[.val (.ref a0), .val (.long q1), .second, .val (.long q2), .second] [(.long q2), (.ref a0)])) rfl rfl (hb hby d1_11)
  have f10 : Exa Z h9 a0 "com/example/moraine/moraine/Position" := f4.wr W9
  have f11 : Fld Z h9 a0 "com/example/moraine/moraine/Position" "increments" "J" (.long q1) := f6.other W9 (Or.inr (slot_ne (Or.inr (hw _ (List.mem_of_getElem? (i := 19) rfl))) (Or.inr (hw _ (List.mem_of_getElem? (i := 21) rfl))) (by decide) (t := .long) (t' := .long) (by decide) (by decide)))
  have f12 : Fld Z h9 a0 "com/example/moraine/moraine/Position" "records" "J" (.long q2) := f5.same W9
  have Kp9 : Keep h0 h9 [a0] := Kp3.wr W9 (Or.inl (List.mem_of_getElem? (i := 0) rfl))
  have Z13 : n0 ≤ h9.size := Nat.le_trans Z7 (Nat.le_of_eq W9.size.symm)
  have N14 := Fr.snoc X9 N8 Ge0
  refine Goes.by st9 ?_
  show Goes p.tables e below _ (T9.setTop (mkF m 14 #[.val (.ref a0), .val (.long q1), .second, .val (.long q2), .second] []))
  obtain ⟨fs, hr, hrun, hended, hW, hsame⟩ := X9.leave (v := none) (fun _ => rfl)
  refine Goes.mk _ _ ?_ ⟨hrun, hended, _, _, rfl, ?_, ⟨_, rfl⟩, hW, hsame.mono (by decide) (by decide)⟩
  · exact X9.returnOut hx Bd.returns (hb hby d1_14) hr
  · show QPos Z a0 q1 q2 h0 n0 _ T9.heap _
    rw [e9]
    exact ⟨rfl, N14, Kp9, f10, f11, f12⟩
theorem d4_0 : decode prog_25_method_1_code 0 = .ok (.aload_n 0, 1) := by decide +kernel
theorem d4_1 : decode prog_25_method_1_code 1 = .ok (.invokespecial 1, 3) := by decide +kernel
theorem d4_4 : decode prog_25_method_1_code 4 = .ok (.aload_n 0, 1) := by decide +kernel
theorem d4_5 : decode prog_25_method_1_code 5 = .ok (.aload_n 1, 1) := by decide +kernel
theorem d4_6 : decode prog_25_method_1_code 6 = .ok (.putfield 7, 3) := by decide +kernel
theorem d4_9 : decode prog_25_method_1_code 9 = .ok (.aload_n 0, 1) := by decide +kernel
theorem d4_10 : decode prog_25_method_1_code 10 = .ok (.aload_n 2, 1) := by decide +kernel
theorem d4_11 : decode prog_25_method_1_code 11 = .ok (.putfield 13, 3) := by decide +kernel
theorem d4_14 : decode prog_25_method_1_code 14 = .ok (.return_, 1) := by decide +kernel
def QCut (Z : State) (a0 : Addr) (a1 : Addr) (a2 : Addr) (h0 : Heap) (n0 : Nat) (v : Option Value) (h : Heap) (L : List Loc) : Prop := v = none ∧ Fr n0 L ∧ Keep h0 h [a0] ∧ Exa Z h a0 "com/example/moraine/moraine/Frames$Cut" ∧ Fld Z h a0 "com/example/moraine/moraine/Frames$Cut" "position" "Lcom/example/moraine/moraine/Position;" (.ref a1) ∧ Fld Z h a0 "com/example/moraine/moraine/Frames$Cut" "inParts" "[J" (.ref a2)
theorem own_pn_com_example_moraine_moraine_Frames_Cut : plainName "com/example/moraine/moraine/Frames$Cut" = true := by first | (simp [plainName, overriddenIn]; done) | decide +kernel
theorem efCut (m : MethodId) (x0 : Addr) (x1 : Addr) (x2 : Addr) : entryFrame m #[(.ref x0), (.ref x1), (.ref x2)] 3 = mkF m 0 #[.val (.ref x0), .val (.ref x1), .val (.ref x2)] [] := by first | (simp [entryFrame, mkF, argsToLocals, Value.category]; done) | rfl
set_option maxRecDepth 65536 in
set_option maxHeartbeats 40000000 in
theorem rmCut (l : Launch) (Z : State) (az : Array Value) (hw : ∀ d ∈ tables_1, d.before az Z = true) (ws : List Jvm.Cond) (a0 : Addr) (a1 : Addr) (a2 : Addr) (h0 : Heap) (n0 : Nat) (Z0 : n0 ≤ h0.size) (F0 : Exa Z h0 a0 "com/example/moraine/moraine/Frames$Cut") (F1 : Fld Z h0 a0 "com/example/moraine/moraine/Frames$Cut" "position" "Lcom/example/moraine/moraine/Position;" .null) (F2 : Fld Z h0 a0 "com/example/moraine/moraine/Frames$Cut" "inParts" "[J" .null) (Ge0 : n0 ≤ a0) :
    MetFree l (⟨"com/example/moraine/moraine/Frames$Cut", "<init>", "(Lcom/example/moraine/moraine/Position;[J)V"⟩ : MethodName) (head1 (Jvm.Cond.code (⟨"com/example/moraine/moraine/Frames$Cut", "<init>", "(Lcom/example/moraine/moraine/Position;[J)V"⟩ : MethodName) prog_25_method_1_code 3 none :: ws) ({ frames := 2, cells := 0, slots := 0, locals := 24 } : Room)) (fun a U => a = #[(.ref a0), (.ref a1), (.ref a2)] ∧ Z.Warmed39 U.vm ∧ U.heap = h0) (fun _ _ _ _ _ => True) (fun _ U o U' => ∃ v L, o = .returned v ∧ QCut Z a0 a1 a2 h0 n0 v U'.heap L ∧ FrameEnd U o U' L ({ frames := 2, cells := 0, slots := 0, locals := 24 } : Room).cells ({ frames := 2, cells := 0, slots := 0, locals := 24 } : Room).slots) := by
  refine MetFree.of_bodySF (plainFor_of_name own_pn_com_example_moraine_moraine_Frames_Cut) hisR ?_
  intro p e s m args below meth c s₁ Bd hml0 hP hK
  obtain ⟨rfl, hZ, hh⟩ := hP
  have hx := Bd.exec
  have hby := Bd.bytes
  have hml : c.maxLocals = 3 := hml0
  have hown : s.vm.findClass "com/example/moraine/moraine/Frames$Cut" = some m.cls := findClass_of_methodNamed Bd.named
  have hnm := (name_of_methodNamed Bd.named Bd.method).1
  have X0 : Stand p l e ({ frames := 2, cells := 0, slots := 0, locals := 24 } : Room) s m #[(.ref a0), (.ref a1), (.ref a2)] below meth c s₁ [] 0 0 := Stand.of_body Bd
  have e0 : s₁.heap = h0 := by rw [← hh, Bd.state]; rfl
  have N0 := Fr.nil n0
  have Kp0 : Keep h0 h0 [a0] := Keep.refl _ _
  refine Goes.start ?_
  refine Goes.by (B := s₁.setTop (mkF m 0 #[.val (.ref a0), .val (.ref a1), .val (.ref a2)] [])) (fun t k => castTop (efCut m a0 a1 a2) k) ?_
  refine Goes.by (B := s₁.setTop (mkF m 1 #[.val (.ref a0), .val (.ref a1), .val (.ref a2)] [(.ref a0)])) (fun t k => ?_) ?_
  · show Steps p.tables e below (s₁.setTop (mkF m 0 #[.val (.ref a0), .val (.ref a1), .val (.ref a2)] [])) t
    refine XS.aloadN X0.here hx rfl (hb hby d4_0) rfl rfl ?_
    exact k
  obtain ⟨_, _, ⟨T1, L1, k1, n1⟩, -, X1, ⟨Lc1, hQ1, l1, y1, z1⟩, st1⟩ := X0.specialBack hx (y := (⟨"java/lang/Record", "<init>", "()V"⟩ : MethodName)) rfl hown (mvT hZ (hw _ (List.mem_of_getElem? (i := 25) rfl))) (mvT hZ (hw _ (List.mem_of_getElem? (i := 11) rfl))) (mvT hZ (hw _ (List.mem_of_getElem? (i := 14) rfl))) (by decide) (backOf (W := 0) (rm2 l Z az hw [] a0 h0 n0 Z0 ) hZ (hw _ (List.mem_of_getElem? (i := 14) rfl)) (hw _ (List.mem_of_getElem? (i := 13) rfl)) (by decide) (by decide)) (g := (mkF m 1 #[.val (.ref a0), .val (.ref a1), .val (.ref a2)] [(.ref a0)])) rfl (by rw [hml]; rfl) (Steps.refl _) (a := a0) (argsL := []) (rest := []) (lenOf own_pd0 rfl) rfl (by show 2 * 0 + _ ≤ _; exact Nat.le_of_eq rfl) (hb hby d4_1) (fun _ _ => ⟨rfl, e0, (by decide : 0 + 0 ≤ _), (by decide : 0 + 0 ≤ _)⟩)
  dsimp only [Pt.U, Pt.locs, Pt.cells, Pt.slots] at X1 l1 y1 z1 st1 hQ1
  subst l1 y1 z1
  obtain ⟨rfl, N1q, e1⟩ := hQ1
  have N2 := Fr.app N0 N1q
  refine Goes.by (fun _ k => st1.trans k) ?_
  show Goes p.tables e below _ (T1.setTop (mkF m 4 #[.val (.ref a0), .val (.ref a1), .val (.ref a2)] []))
  refine Goes.by (B := T1.setTop (mkF m 6 #[.val (.ref a0), .val (.ref a1), .val (.ref a2)] [(.ref a1), (.ref a0)])) (fun t k => ?_) ?_
  · show Steps p.tables e below (T1.setTop (mkF m 4 #[.val (.ref a0), .val (.ref a1), .val (.ref a2)] [])) t
    refine XS.aloadN X1.here hx rfl (hb hby d4_4) rfl rfl ?_
    show Steps p.tables e below (T1.setTop (mkF m 5 #[.val (.ref a0), .val (.ref a1), .val (.ref a2)] [(.ref a0)])) t
    refine XS.aloadN X1.here hx rfl (hb hby d4_5) rfl rfl ?_
    exact k
  obtain ⟨T3, h3, X3, e3, W3, st3⟩ := putF X1 hx hZ hown (host := "") (Or.inl (hw _ (List.mem_of_getElem? (i := 26) rfl))) Via.refl e1 F1 F0 (Or.inr ⟨(hw _ (List.mem_of_getElem? (i := 27) rfl)), rfl, hnm⟩) (hw _ (List.mem_of_getElem? (i := 2) rfl)) (ty := (.object "com/example/moraine/moraine/Position")) (by decide) rfl rfl (g := (mkF m 6 #[.val (.ref a0), .val (.ref a1), .val (.ref a2)] [(.ref a1), (.ref a0)])) rfl rfl (hb hby d4_6)
  have f4 : Exa Z h3 a0 "com/example/moraine/moraine/Frames$Cut" := F0.wr W3
  have f5 : Fld Z h3 a0 "com/example/moraine/moraine/Frames$Cut" "inParts" "[J" .null := F2.other W3 (Or.inr (slot_ne (Or.inr (hw _ (List.mem_of_getElem? (i := 29) rfl))) (Or.inr (hw _ (List.mem_of_getElem? (i := 27) rfl))) (by decide) (t := (.array .long)) (t' := (.object "com/example/moraine/moraine/Position")) (by decide) (by decide)))
  have f6 : Fld Z h3 a0 "com/example/moraine/moraine/Frames$Cut" "position" "Lcom/example/moraine/moraine/Position;" (.ref a1) := F1.same W3
  have Kp3 : Keep h0 h3 [a0] := Kp0.wr W3 (Or.inl (List.mem_of_getElem? (i := 0) rfl))
  have Z7 : n0 ≤ h3.size := Nat.le_trans Z0 (Nat.le_of_eq W3.size.symm)
  have N8 := Fr.snoc X3 N2 Ge0
  refine Goes.by st3 ?_
  show Goes p.tables e below _ (T3.setTop (mkF m 9 #[.val (.ref a0), .val (.ref a1), .val (.ref a2)] []))
  refine Goes.by (B := T3.setTop (mkF m 11 #[.val (.ref a0), .val (.ref a1), .val (.ref a2)] [(.ref a2), (.ref a0)])) (fun t k => ?_) ?_
  · show Steps p.tables e below (T3.setTop (mkF m 9 #[.val (.ref a0), .val (.ref a1), .val (.ref a2)] [])) t
    refine XS.aloadN X3.here hx rfl (hb hby d4_9) rfl rfl ?_
    show Steps p.tables e below (T3.setTop (mkF m 10 #[.val (.ref a0), .val (.ref a1), .val (.ref a2)] [(.ref a0)])) t
    refine XS.aloadN X3.here hx rfl (hb hby d4_10) rfl rfl ?_
    exact k
  obtain ⟨T9, h9, X9, e9, W9, st9⟩ := putF X3 hx hZ hown (host := "") (Or.inl (hw _ (List.mem_of_getElem? (i := 28) rfl))) Via.refl e3 f5 f4 (Or.inr ⟨(hw _ (List.mem_of_getElem? (i := 29) rfl)), rfl, hnm⟩) (hw _ (List.mem_of_getElem? (i := 2) rfl)) (ty := (.array .long)) (by decide) rfl rfl (g := (mkF m 11 #[.val (.ref a0), .val (.ref a1), .val (.ref a2)] [(.ref a2), (.ref a0)])) rfl rfl (hb hby d4_11)
  have f10 : Exa Z h9 a0 "com/example/moraine/moraine/Frames$Cut" := f4.wr W9
  have f11 : Fld Z h9 a0 "com/example/moraine/moraine/Frames$Cut" "position" "Lcom/example/moraine/moraine/Position;" (.ref a1) := f6.other W9 (Or.inr (slot_ne (Or.inr (hw _ (List.mem_of_getElem? (i := 27) rfl))) (Or.inr (hw _ (List.mem_of_getElem? (i := 29) rfl))) (by decide) (t := (.object "com/example/moraine/moraine/Position")) (t' := (.array .long)) (by decide) (by decide)))
  have f12 : Fld Z h9 a0 "com/example/moraine/moraine/Frames$Cut" "inParts" "[J" (.ref a2) := f5.same W9
  have Kp9 : Keep h0 h9 [a0] := Kp3.wr W9 (Or.inl (List.mem_of_getElem? (i := 0) rfl))
  have Z13 : n0 ≤ h9.size := Nat.le_trans Z7 (Nat.le_of_eq W9.size.symm)
  have N14 := Fr.snoc X9 N8 Ge0
  refine Goes.by st9 ?_
  show Goes p.tables e below _ (T9.setTop (mkF m 14 #[.val (.ref a0), .val (.ref a1), .val (.ref a2)] []))
  obtain ⟨fs, hr, hrun, hended, hW, hsame⟩ := X9.leave (v := none) (fun _ => rfl)
  refine Goes.mk _ _ ?_ ⟨hrun, hended, _, _, rfl, ?_, ⟨_, rfl⟩, hW, hsame.mono (by decide) (by decide)⟩
  · exact X9.returnOut hx Bd.returns (hb hby d4_14) hr
  · show QCut Z a0 a1 a2 h0 n0 _ T9.heap _
    rw [e9]
    exact ⟨rfl, N14, Kp9, f10, f11, f12⟩
theorem own_n (p n : Int32) (h : (p &&& (3 : Int32)) = n) : n = 0 ∨ n = 1 ∨ n = 2 ∨ n = 3 := by
  have m := c_mask p (3 : Int32) 2 (by decide) (by decide)
  have e : ((2 ^ 2 : Nat) : Int) = 4 := rfl
  rw [e, h] at m
  have c : n.toInt = 0 ∨ n.toInt = 1 ∨ n.toInt = 2 ∨ n.toInt = 3 := by omega
  rcases c with c | c | c | c
  · exact Or.inl (Int32.toInt_inj.mp c)
  · exact Or.inr (Or.inl (Int32.toInt_inj.mp c))
  · exact Or.inr (Or.inr (Or.inl (Int32.toInt_inj.mp c)))
  · exact Or.inr (Or.inr (Or.inr (Int32.toInt_inj.mp c)))
theorem own_pt (p pt : Int32) (h : (if (p &&& (1 : Int32)) = (0 : Int32) then ((p.toUInt32 >>> ((1 : Int32) &&& 31).toUInt32).toInt32) else (((p.toUInt32 >>> ((1 : Int32) &&& 31).toUInt32).toInt32) &&& (3 : Int32))) = pt) : ¬ (pt < (0 : Int32)) := by
  have s := c_iushr p (1 : Int32) 1 (by decide) (by decide)
  have e : ((2 ^ 1 : Nat) : Int) = 2 := rfl
  rw [e] at s
  have l0 : (0 : Int32).toInt = 0 := by decide
  have m := c_mask ((p.toUInt32 >>> ((1 : Int32) &&& 31).toUInt32).toInt32) (3 : Int32) 2 (by decide) (by decide)
  have e4 : ((2 ^ 2 : Nat) : Int) = 4 := rfl
  rw [e4] at m
  rw [Int32.lt_iff_toInt_lt, l0, ← h]
  split <;> omega
theorem own_last1 (p : Int32) (h0 : ¬ (p < (0 : Int32))) (h1 : p < (1 : Int32)) : p = 0 := by
  have l0 : (0 : Int32).toInt = 0 := by decide
  have l1 : (1 : Int32).toInt = 1 := by decide
  rw [Int32.lt_iff_toInt_lt] at h0 h1
  exact Int32.toInt_inj.mp (by omega)
theorem own_last2 (p : Int32) (h0 : ¬ (p < (0 : Int32))) (h1 : p < (2 : Int32)) (h2 : ¬ p = (0 : Int32)) : p = 1 := by
  have l0 : (0 : Int32).toInt = 0 := by decide
  have l1 : (1 : Int32).toInt = 1 := by decide
  have l2 : (2 : Int32).toInt = 2 := by decide
  have q2 : ¬ p.toInt = (0 : Int32).toInt := fun q => h2 (Int32.toInt_inj.mp q)
  rw [Int32.lt_iff_toInt_lt] at h0 h1
  exact Int32.toInt_inj.mp (by omega)
theorem own_last3 (p : Int32) (h0 : ¬ (p < (0 : Int32))) (h1 : p < (3 : Int32)) (h2 : ¬ p = (0 : Int32)) (h3 : ¬ p = (1 : Int32)) : p = 2 := by
  have l0 : (0 : Int32).toInt = 0 := by decide
  have l1 : (1 : Int32).toInt = 1 := by decide
  have l2 : (2 : Int32).toInt = 2 := by decide
  have l3 : (3 : Int32).toInt = 3 := by decide
  have q2 : ¬ p.toInt = (0 : Int32).toInt := fun q => h2 (Int32.toInt_inj.mp q)
  have q3 : ¬ p.toInt = (1 : Int32).toInt := fun q => h3 (Int32.toInt_inj.mp q)
  rw [Int32.lt_iff_toInt_lt] at h0 h1
  exact Int32.toInt_inj.mp (by omega)
theorem d5_0 : decode prog_25_method_2_code 0 = .ok (.iload_n 1, 1) := by decide +kernel
theorem d5_1 : decode prog_25_method_2_code 1 = .ok (.aload_n 0, 1) := by decide +kernel
theorem d5_2 : decode prog_25_method_2_code 2 = .ok (.getfield 13, 3) := by decide +kernel
theorem d5_5 : decode prog_25_method_2_code 5 = .ok (.arraylength, 1) := by decide +kernel
theorem d5_6 : decode prog_25_method_2_code 6 = .ok (.if_icmp .ge 12, 3) := by decide +kernel
theorem d5_18 : decode prog_25_method_2_code 18 = .ok (.lconst 0, 1) := by decide +kernel
theorem d5_19 : decode prog_25_method_2_code 19 = .ok (.lreturn, 1) := by decide +kernel
def QIn0 (Z : State) (a0 : Addr) (p1 : Int32) (z : Addr) (kk : ClassId) (h0 : Heap) (n0 : Nat) (v : Option Value) (h : Heap) (L : List Loc) : Prop := v = some (.long (0 : Int64)) ∧ Fr n0 L ∧ h = h0
theorem efIn0 (m : MethodId) (x0 : Addr) (x1 : Int32) : entryFrame m #[(.ref x0), (.int x1)] 2 = mkF m 0 #[.val (.ref x0), .val (.int x1)] [] := by first | (simp [entryFrame, mkF, argsToLocals, Value.category]; done) | rfl
set_option maxRecDepth 65536 in
set_option maxHeartbeats 40000000 in
theorem rmIn0 (l : Launch) (Z : State) (az : Array Value) (hw : ∀ d ∈ tables_1, d.before az Z = true) (ws : List Jvm.Cond) (a0 : Addr) (p1 : Int32) (z : Addr) (kk : ClassId) (h0 : Heap) (n0 : Nat) (Z0 : n0 ≤ h0.size) (F0 : Fld Z h0 a0 "com/example/moraine/moraine/Frames$Cut" "inParts" "[J" (.ref z)) (F1 : Arv Z h0 z kk .long (0 : Int32) [] (.long (0 : Int64))) (Hp : ¬ (p1 < (0 : Int32))) :
    MetFree l (⟨"com/example/moraine/moraine/Frames$Cut", "inPart", "(I)J"⟩ : MethodName) (head1 (Jvm.Cond.code (⟨"com/example/moraine/moraine/Frames$Cut", "inPart", "(I)J"⟩ : MethodName) prog_25_method_2_code 2 (some .long) :: ws) ({ frames := 0, cells := 0, slots := 0, locals := 0 } : Room)) (fun a U => a = #[(.ref a0), (.int p1)] ∧ Z.Warmed39 U.vm ∧ U.heap = h0) (fun _ _ _ _ _ => True) (fun _ U o U' => ∃ v L, o = .returned v ∧ QIn0 Z a0 p1 z kk h0 n0 v U'.heap L ∧ FrameEnd U o U' L ({ frames := 0, cells := 0, slots := 0, locals := 0 } : Room).cells ({ frames := 0, cells := 0, slots := 0, locals := 0 } : Room).slots) := by
  refine MetFree.of_bodySF (plainFor_of_name own_pn_com_example_moraine_moraine_Frames_Cut) hisR ?_
  intro p e s m args below meth c s₁ Bd hml0 hP hK
  obtain ⟨rfl, hZ, hh⟩ := hP
  have hx := Bd.exec
  have hby := Bd.bytes
  have hml : c.maxLocals = 2 := hml0
  have hown : s.vm.findClass "com/example/moraine/moraine/Frames$Cut" = some m.cls := findClass_of_methodNamed Bd.named
  have hnm := (name_of_methodNamed Bd.named Bd.method).1
  have X0 : Stand p l e ({ frames := 0, cells := 0, slots := 0, locals := 0 } : Room) s m #[(.ref a0), (.int p1)] below meth c s₁ [] 0 0 := Stand.of_body Bd
  have e0 : s₁.heap = h0 := by rw [← hh, Bd.state]; rfl
  have N0 := Fr.nil n0
  have Kp0 : Keep h0 h0 [] := Keep.refl _ _
  refine Goes.start ?_
  refine Goes.by (B := s₁.setTop (mkF m 0 #[.val (.ref a0), .val (.int p1)] [])) (fun t k => castTop (efIn0 m a0 p1) k) ?_
  refine Goes.by (B := s₁.setTop (mkF m 2 #[.val (.ref a0), .val (.int p1)] [(.ref a0), (.int p1)])) (fun t k => ?_) ?_
  · show Steps p.tables e below (s₁.setTop (mkF m 0 #[.val (.ref a0), .val (.int p1)] [])) t
    refine XS.iloadN X0.here hx rfl (hb hby d5_0) rfl ?_
    show Steps p.tables e below (s₁.setTop (mkF m 1 #[.val (.ref a0), .val (.int p1)] [(.int p1)])) t
    refine XS.aloadN X0.here hx rfl (hb hby d5_1) rfl rfl ?_
    exact k
  obtain ⟨T1, X1, e1, st1⟩ := getF X0 hx hZ hown (host := "") (Or.inl (hw _ (List.mem_of_getElem? (i := 28) rfl))) Via.refl e0 F0 (g := (mkF m 2 #[.val (.ref a0), .val (.int p1)] [(.ref a0), (.int p1)])) rfl rfl (hb hby d5_2)
  refine Goes.by st1 ?_
  show Goes p.tables e below _ (T1.setTop (mkF m 5 #[.val (.ref a0), .val (.int p1)] [(.ref z), (.int p1)]))
  obtain ⟨cl2, cl2A, -, cl2S, cl2N, -, -⟩ := id F1
  refine Goes.by (B := T1.setTop (mkF m 19 #[.val (.ref a0), .val (.int p1)] [(.long (0 : Int64))])) (fun t k => ?_) ?_
  · show Steps p.tables e below (T1.setTop (mkF m 5 #[.val (.ref a0), .val (.int p1)] [(.ref z), (.int p1)])) t
    refine X1.arraylength hx (by rw [e1]; exact cl2A.1) (State.isArrayOf_alike hZ.alike cl2A.2.1) (g := (mkF m 5 #[.val (.ref a0), .val (.int p1)] [(.ref z), (.int p1)])) rfl rfl (hb hby d5_5) _ ?_
    rw [len_of cl2S cl2N]
    show Steps p.tables e below (T1.setTop (mkF m 6 #[.val (.ref a0), .val (.int p1)] [(.int (0 : Int32)), (.int p1)])) t
    refine XS.icmpYes X1.here hx rfl (pc0 := 6) (pc' := 18) rfl (hb hby d5_6) rfl (flt Hp).2.1 (by decide) (by decide) ?_
    show Steps p.tables e below (T1.setTop (mkF m 18 #[.val (.ref a0), .val (.int p1)] [])) t
    refine XS.lconst X1.here hx rfl (hb hby d5_18) ?_
    exact k
  obtain ⟨fs, hr, hrun, hended, hW, hsame⟩ := X1.leave (v := some (.long (0 : Int64))) (fun h => by rw [Bd.returns] at h; cases h)
  refine Goes.mk _ _ ?_ ⟨hrun, hended, _, _, rfl, ?_, ⟨_, rfl⟩, hW, hsame.mono (by decide) (by decide)⟩
  · exact retOut X1 hx Bd.returns rfl (Or.inr (Or.inl ⟨rfl, rfl, _, rfl⟩)) (hb hby d5_19) hr
  · show QIn0 Z a0 p1 z kk h0 n0 _ T1.heap _
    rw [e1]
    exact ⟨rfl, N0, rfl⟩
theorem d5_9 : decode prog_25_method_2_code 9 = .ok (.aload_n 0, 1) := by decide +kernel
theorem d5_10 : decode prog_25_method_2_code 10 = .ok (.getfield 13, 3) := by decide +kernel
theorem d5_13 : decode prog_25_method_2_code 13 = .ok (.iload_n 1, 1) := by decide +kernel
theorem d5_14 : decode prog_25_method_2_code 14 = .ok (.laload, 1) := by decide +kernel
theorem d5_15 : decode prog_25_method_2_code 15 = .ok (.goto 4, 3) := by decide +kernel
def fIn1 (p1 : Int32) (v0 : Int64) : Int64 := (if p1 < (1 : Int32) then v0 else (0 : Int64))
def QIn1 (Z : State) (a0 : Addr) (p1 : Int32) (z : Addr) (kk : ClassId) (v0 : Int64) (h0 : Heap) (n0 : Nat) (v : Option Value) (h : Heap) (L : List Loc) : Prop := v = some (.long (fIn1 p1 v0)) ∧ Fr n0 L ∧ h = h0
theorem efIn1 (m : MethodId) (x0 : Addr) (x1 : Int32) : entryFrame m #[(.ref x0), (.int x1)] 2 = mkF m 0 #[.val (.ref x0), .val (.int x1)] [] := by first | (simp [entryFrame, mkF, argsToLocals, Value.category]; done) | rfl
set_option maxRecDepth 65536 in
set_option maxHeartbeats 40000000 in
theorem rmIn1 (l : Launch) (Z : State) (az : Array Value) (hw : ∀ d ∈ tables_1, d.before az Z = true) (ws : List Jvm.Cond) (a0 : Addr) (p1 : Int32) (z : Addr) (kk : ClassId) (v0 : Int64) (h0 : Heap) (n0 : Nat) (Z0 : n0 ≤ h0.size) (F0 : Fld Z h0 a0 "com/example/moraine/moraine/Frames$Cut" "inParts" "[J" (.ref z)) (F1 : Arv Z h0 z kk .long (1 : Int32) [(.long v0)] (.long (0 : Int64))) (Hp : ¬ (p1 < (0 : Int32))) :
    MetFree l (⟨"com/example/moraine/moraine/Frames$Cut", "inPart", "(I)J"⟩ : MethodName) (head1 (Jvm.Cond.code (⟨"com/example/moraine/moraine/Frames$Cut", "inPart", "(I)J"⟩ : MethodName) prog_25_method_2_code 2 (some .long) :: ws) ({ frames := 0, cells := 0, slots := 0, locals := 0 } : Room)) (fun a U => a = #[(.ref a0), (.int p1)] ∧ Z.Warmed39 U.vm ∧ U.heap = h0) (fun _ _ _ _ _ => True) (fun _ U o U' => ∃ v L, o = .returned v ∧ QIn1 Z a0 p1 z kk v0 h0 n0 v U'.heap L ∧ FrameEnd U o U' L ({ frames := 0, cells := 0, slots := 0, locals := 0 } : Room).cells ({ frames := 0, cells := 0, slots := 0, locals := 0 } : Room).slots) := by
  refine MetFree.of_bodySF (plainFor_of_name own_pn_com_example_moraine_moraine_Frames_Cut) hisR ?_
  intro p e s m args below meth c s₁ Bd hml0 hP hK
  obtain ⟨rfl, hZ, hh⟩ := hP
  have hx := Bd.exec
  have hby := Bd.bytes
  have hml : c.maxLocals = 2 := hml0
  have hown : s.vm.findClass "com/example/moraine/moraine/Frames$Cut" = some m.cls := findClass_of_methodNamed Bd.named
  have hnm := (name_of_methodNamed Bd.named Bd.method).1
  have X0 : Stand p l e ({ frames := 0, cells := 0, slots := 0, locals := 0 } : Room) s m #[(.ref a0), (.int p1)] below meth c s₁ [] 0 0 := Stand.of_body Bd
  have e0 : s₁.heap = h0 := by rw [← hh, Bd.state]; rfl
  have N0 := Fr.nil n0
  have Kp0 : Keep h0 h0 [] := Keep.refl _ _
  refine Goes.start ?_
  refine Goes.by (B := s₁.setTop (mkF m 0 #[.val (.ref a0), .val (.int p1)] [])) (fun t k => castTop (efIn1 m a0 p1) k) ?_
  refine Goes.by (B := s₁.setTop (mkF m 2 #[.val (.ref a0), .val (.int p1)] [(.ref a0), (.int p1)])) (fun t k => ?_) ?_
  · show Steps p.tables e below (s₁.setTop (mkF m 0 #[.val (.ref a0), .val (.int p1)] [])) t
    refine XS.iloadN X0.here hx rfl (hb hby d5_0) rfl ?_
    show Steps p.tables e below (s₁.setTop (mkF m 1 #[.val (.ref a0), .val (.int p1)] [(.int p1)])) t
    refine XS.aloadN X0.here hx rfl (hb hby d5_1) rfl rfl ?_
    exact k
  obtain ⟨T1, X1, e1, st1⟩ := getF X0 hx hZ hown (host := "") (Or.inl (hw _ (List.mem_of_getElem? (i := 28) rfl))) Via.refl e0 F0 (g := (mkF m 2 #[.val (.ref a0), .val (.int p1)] [(.ref a0), (.int p1)])) rfl rfl (hb hby d5_2)
  refine Goes.by st1 ?_
  show Goes p.tables e below _ (T1.setTop (mkF m 5 #[.val (.ref a0), .val (.int p1)] [(.ref z), (.int p1)]))
  obtain ⟨cl2, cl2A, -, cl2S, cl2N, -, -⟩ := id F1
  refine Goes.by (B := T1.setTop (mkF m 6 #[.val (.ref a0), .val (.int p1)] [(.int (1 : Int32)), (.int p1)])) (fun t k => ?_) ?_
  · show Steps p.tables e below (T1.setTop (mkF m 5 #[.val (.ref a0), .val (.int p1)] [(.ref z), (.int p1)])) t
    refine X1.arraylength hx (by rw [e1]; exact cl2A.1) (State.isArrayOf_alike hZ.alike cl2A.2.1) (g := (mkF m 5 #[.val (.ref a0), .val (.int p1)] [(.ref z), (.int p1)])) rfl rfl (hb hby d5_5) _ ?_
    rw [len_of cl2S cl2N]
    exact k
  by_cases hc3 : p1 < (1 : Int32)
  · refine Goes.by (B := T1.setTop (mkF m 10 #[.val (.ref a0), .val (.int p1)] [(.ref a0)])) (fun t k => ?_) ?_
    · show Steps p.tables e below (T1.setTop (mkF m 6 #[.val (.ref a0), .val (.int p1)] [(.int (1 : Int32)), (.int p1)])) t
      refine XS.icmpNo X1.here hx rfl (hb hby d5_6) rfl (tlt hc3).2.1 ?_
      show Steps p.tables e below (T1.setTop (mkF m 9 #[.val (.ref a0), .val (.int p1)] [])) t
      refine XS.aloadN X1.here hx rfl (hb hby d5_9) rfl rfl ?_
      exact k
    obtain ⟨T4, X4, e4, st4⟩ := getF X1 hx hZ hown (host := "") (Or.inl (hw _ (List.mem_of_getElem? (i := 28) rfl))) Via.refl e1 F0 (g := (mkF m 10 #[.val (.ref a0), .val (.int p1)] [(.ref a0)])) rfl rfl (hb hby d5_10)
    refine Goes.by st4 ?_
    show Goes p.tables e below _ (T4.setTop (mkF m 13 #[.val (.ref a0), .val (.int p1)] [(.ref z)]))
    refine Goes.by (B := T4.setTop (mkF m 14 #[.val (.ref a0), .val (.int p1)] [(.int p1), (.ref z)])) (fun t k => ?_) ?_
    · show Steps p.tables e below (T4.setTop (mkF m 13 #[.val (.ref a0), .val (.int p1)] [(.ref z)])) t
      refine XS.iloadN X4.here hx rfl (hb hby d5_13) rfl ?_
      exact k
    have hk5 : p1 = (0 : Int32) := own_last1 p1 Hp hc3 
    have el6 : Elt Z h0 z .long p1 (.long v0) := by rw [hk5]; exact Elt.of F1 ⟨by decide, by decide⟩ rfl
    obtain ⟨cl7, cl7A, cl7I, cl7T⟩ := id el6
    refine Goes.by (B := T4.setTop (mkF m 19 #[.val (.ref a0), .val (.int p1)] [(.long v0)])) (fun t k => ?_) ?_
    · show Steps p.tables e below (T4.setTop (mkF m 14 #[.val (.ref a0), .val (.int p1)] [(.int p1), (.ref z)])) t
      refine X4.laload hx (j := p1) (v := (.long v0)) (by rw [e4]; exact cl7A.1) (State.isArrayOf_alike hZ.alike cl7A.2.1) cl7A.2.2 cl7I cl7T (g := (mkF m 14 #[.val (.ref a0), .val (.int p1)] [(.int p1), (.ref z)])) rfl rfl (hb hby d5_14) _ ?_
      show Steps p.tables e below (T4.setTop (mkF m 15 #[.val (.ref a0), .val (.int p1)] [(.long v0)])) t
      refine XS.goto X4.here hx rfl (pc0 := 15) (pc' := 19) rfl (hb hby d5_15) (by decide) (by decide) ?_
      exact k
    obtain ⟨fs, hr, hrun, hended, hW, hsame⟩ := X4.leave (v := some (.long v0)) (fun h => by rw [Bd.returns] at h; cases h)
    refine Goes.mk _ _ ?_ ⟨hrun, hended, _, _, rfl, ?_, ⟨_, rfl⟩, hW, hsame.mono (by decide) (by decide)⟩
    · exact retOut X4 hx Bd.returns rfl (Or.inr (Or.inl ⟨rfl, rfl, _, rfl⟩)) (hb hby d5_19) hr
    · show QIn1 Z a0 p1 z kk v0 h0 n0 _ T4.heap _
      rw [e4]
      exact ⟨(by simp only [fIn1, if_pos hc3]), N0, rfl⟩
  · refine Goes.by (B := T1.setTop (mkF m 19 #[.val (.ref a0), .val (.int p1)] [(.long (0 : Int64))])) (fun t k => ?_) ?_
    · show Steps p.tables e below (T1.setTop (mkF m 6 #[.val (.ref a0), .val (.int p1)] [(.int (1 : Int32)), (.int p1)])) t
      refine XS.icmpYes X1.here hx rfl (pc0 := 6) (pc' := 18) rfl (hb hby d5_6) rfl (flt hc3).2.1 (by decide) (by decide) ?_
      show Steps p.tables e below (T1.setTop (mkF m 18 #[.val (.ref a0), .val (.int p1)] [])) t
      refine XS.lconst X1.here hx rfl (hb hby d5_18) ?_
      exact k
    obtain ⟨fs, hr, hrun, hended, hW, hsame⟩ := X1.leave (v := some (.long (0 : Int64))) (fun h => by rw [Bd.returns] at h; cases h)
    refine Goes.mk _ _ ?_ ⟨hrun, hended, _, _, rfl, ?_, ⟨_, rfl⟩, hW, hsame.mono (by decide) (by decide)⟩
    · exact retOut X1 hx Bd.returns rfl (Or.inr (Or.inl ⟨rfl, rfl, _, rfl⟩)) (hb hby d5_19) hr
    · show QIn1 Z a0 p1 z kk v0 h0 n0 _ T1.heap _
      rw [e1]
      exact ⟨(by simp only [fIn1, if_neg hc3]), N0, rfl⟩
def fIn2 (p1 : Int32) (v0 : Int64) (v1 : Int64) : Int64 := (if p1 < (2 : Int32) then (if p1 = (0 : Int32) then v0 else v1) else (0 : Int64))
def QIn2 (Z : State) (a0 : Addr) (p1 : Int32) (z : Addr) (kk : ClassId) (v0 : Int64) (v1 : Int64) (h0 : Heap) (n0 : Nat) (v : Option Value) (h : Heap) (L : List Loc) : Prop := v = some (.long (fIn2 p1 v0 v1)) ∧ Fr n0 L ∧ h = h0
theorem efIn2 (m : MethodId) (x0 : Addr) (x1 : Int32) : entryFrame m #[(.ref x0), (.int x1)] 2 = mkF m 0 #[.val (.ref x0), .val (.int x1)] [] := by first | (simp [entryFrame, mkF, argsToLocals, Value.category]; done) | rfl
set_option maxRecDepth 65536 in
set_option maxHeartbeats 40000000 in
theorem rmIn2 (l : Launch) (Z : State) (az : Array Value) (hw : ∀ d ∈ tables_1, d.before az Z = true) (ws : List Jvm.Cond) (a0 : Addr) (p1 : Int32) (z : Addr) (kk : ClassId) (v0 : Int64) (v1 : Int64) (h0 : Heap) (n0 : Nat) (Z0 : n0 ≤ h0.size) (F0 : Fld Z h0 a0 "com/example/moraine/moraine/Frames$Cut" "inParts" "[J" (.ref z)) (F1 : Arv Z h0 z kk .long (2 : Int32) [(.long v0), (.long v1)] (.long (0 : Int64))) (Hp : ¬ (p1 < (0 : Int32))) :
    MetFree l (⟨"com/example/moraine/moraine/Frames$Cut", "inPart", "(I)J"⟩ : MethodName) (head1 (Jvm.Cond.code (⟨"com/example/moraine/moraine/Frames$Cut", "inPart", "(I)J"⟩ : MethodName) prog_25_method_2_code 2 (some .long) :: ws) ({ frames := 0, cells := 0, slots := 0, locals := 0 } : Room)) (fun a U => a = #[(.ref a0), (.int p1)] ∧ Z.Warmed39 U.vm ∧ U.heap = h0) (fun _ _ _ _ _ => True) (fun _ U o U' => ∃ v L, o = .returned v ∧ QIn2 Z a0 p1 z kk v0 v1 h0 n0 v U'.heap L ∧ FrameEnd U o U' L ({ frames := 0, cells := 0, slots := 0, locals := 0 } : Room).cells ({ frames := 0, cells := 0, slots := 0, locals := 0 } : Room).slots) := by
  refine MetFree.of_bodySF (plainFor_of_name own_pn_com_example_moraine_moraine_Frames_Cut) hisR ?_
  intro p e s m args below meth c s₁ Bd hml0 hP hK
  obtain ⟨rfl, hZ, hh⟩ := hP
  have hx := Bd.exec
  have hby := Bd.bytes
  have hml : c.maxLocals = 2 := hml0
  have hown : s.vm.findClass "com/example/moraine/moraine/Frames$Cut" = some m.cls := findClass_of_methodNamed Bd.named
  have hnm := (name_of_methodNamed Bd.named Bd.method).1
  have X0 : Stand p l e ({ frames := 0, cells := 0, slots := 0, locals := 0 } : Room) s m #[(.ref a0), (.int p1)] below meth c s₁ [] 0 0 := Stand.of_body Bd
  have e0 : s₁.heap = h0 := by rw [← hh, Bd.state]; rfl
  have N0 := Fr.nil n0
  have Kp0 : Keep h0 h0 [] := Keep.refl _ _
  refine Goes.start ?_
  refine Goes.by (B := s₁.setTop (mkF m 0 #[.val (.ref a0), .val (.int p1)] [])) (fun t k => castTop (efIn2 m a0 p1) k) ?_
  refine Goes.by (B := s₁.setTop (mkF m 2 #[.val (.ref a0), .val (.int p1)] [(.ref a0), (.int p1)])) (fun t k => ?_) ?_
  · show Steps p.tables e below (s₁.setTop (mkF m 0 #[.val (.ref a0), .val (.int p1)] [])) t
    refine XS.iloadN X0.here hx rfl (hb hby d5_0) rfl ?_
    show Steps p.tables e below (s₁.setTop (mkF m 1 #[.val (.ref a0), .val (.int p1)] [(.int p1)])) t
    refine XS.aloadN X0.here hx rfl (hb hby d5_1) rfl rfl ?_
    exact k
  obtain ⟨T1, X1, e1, st1⟩ := getF X0 hx hZ hown (host := "") (Or.inl (hw _ (List.mem_of_getElem? (i := 28) rfl))) Via.refl e0 F0 (g := (mkF m 2 #[.val (.ref a0), .val (.int p1)] [(.ref a0), (.int p1)])) rfl rfl (hb hby d5_2)
  refine Goes.by st1 ?_
  show Goes p.tables e below _ (T1.setTop (mkF m 5 #[.val (.ref a0), .val (.int p1)] [(.ref z), (.int p1)]))
  obtain ⟨cl2, cl2A, -, cl2S, cl2N, -, -⟩ := id F1
  refine Goes.by (B := T1.setTop (mkF m 6 #[.val (.ref a0), .val (.int p1)] [(.int (2 : Int32)), (.int p1)])) (fun t k => ?_) ?_
  · show Steps p.tables e below (T1.setTop (mkF m 5 #[.val (.ref a0), .val (.int p1)] [(.ref z), (.int p1)])) t
    refine X1.arraylength hx (by rw [e1]; exact cl2A.1) (State.isArrayOf_alike hZ.alike cl2A.2.1) (g := (mkF m 5 #[.val (.ref a0), .val (.int p1)] [(.ref z), (.int p1)])) rfl rfl (hb hby d5_5) _ ?_
    rw [len_of cl2S cl2N]
    exact k
  by_cases hc3 : p1 < (2 : Int32)
  · refine Goes.by (B := T1.setTop (mkF m 10 #[.val (.ref a0), .val (.int p1)] [(.ref a0)])) (fun t k => ?_) ?_
    · show Steps p.tables e below (T1.setTop (mkF m 6 #[.val (.ref a0), .val (.int p1)] [(.int (2 : Int32)), (.int p1)])) t
      refine XS.icmpNo X1.here hx rfl (hb hby d5_6) rfl (tlt hc3).2.1 ?_
      show Steps p.tables e below (T1.setTop (mkF m 9 #[.val (.ref a0), .val (.int p1)] [])) t
      refine XS.aloadN X1.here hx rfl (hb hby d5_9) rfl rfl ?_
      exact k
    obtain ⟨T4, X4, e4, st4⟩ := getF X1 hx hZ hown (host := "") (Or.inl (hw _ (List.mem_of_getElem? (i := 28) rfl))) Via.refl e1 F0 (g := (mkF m 10 #[.val (.ref a0), .val (.int p1)] [(.ref a0)])) rfl rfl (hb hby d5_10)
    refine Goes.by st4 ?_
    show Goes p.tables e below _ (T4.setTop (mkF m 13 #[.val (.ref a0), .val (.int p1)] [(.ref z)]))
    refine Goes.by (B := T4.setTop (mkF m 14 #[.val (.ref a0), .val (.int p1)] [(.int p1), (.ref z)])) (fun t k => ?_) ?_
    · show Steps p.tables e below (T4.setTop (mkF m 13 #[.val (.ref a0), .val (.int p1)] [(.ref z)])) t
      refine XS.iloadN X4.here hx rfl (hb hby d5_13) rfl ?_
      exact k
    by_cases hk5 : p1 = (0 : Int32)
    · have el6 : Elt Z h0 z .long p1 (.long v0) := by rw [hk5]; exact Elt.of F1 ⟨by decide, by decide⟩ rfl
      obtain ⟨cl7, cl7A, cl7I, cl7T⟩ := id el6
      refine Goes.by (B := T4.setTop (mkF m 19 #[.val (.ref a0), .val (.int p1)] [(.long v0)])) (fun t k => ?_) ?_
      · show Steps p.tables e below (T4.setTop (mkF m 14 #[.val (.ref a0), .val (.int p1)] [(.int p1), (.ref z)])) t
        refine X4.laload hx (j := p1) (v := (.long v0)) (by rw [e4]; exact cl7A.1) (State.isArrayOf_alike hZ.alike cl7A.2.1) cl7A.2.2 cl7I cl7T (g := (mkF m 14 #[.val (.ref a0), .val (.int p1)] [(.int p1), (.ref z)])) rfl rfl (hb hby d5_14) _ ?_
        show Steps p.tables e below (T4.setTop (mkF m 15 #[.val (.ref a0), .val (.int p1)] [(.long v0)])) t
        refine XS.goto X4.here hx rfl (pc0 := 15) (pc' := 19) rfl (hb hby d5_15) (by decide) (by decide) ?_
        exact k
      obtain ⟨fs, hr, hrun, hended, hW, hsame⟩ := X4.leave (v := some (.long v0)) (fun h => by rw [Bd.returns] at h; cases h)
      refine Goes.mk _ _ ?_ ⟨hrun, hended, _, _, rfl, ?_, ⟨_, rfl⟩, hW, hsame.mono (by decide) (by decide)⟩
      · exact retOut X4 hx Bd.returns rfl (Or.inr (Or.inl ⟨rfl, rfl, _, rfl⟩)) (hb hby d5_19) hr
      · show QIn2 Z a0 p1 z kk v0 v1 h0 n0 _ T4.heap _
        rw [e4]
        exact ⟨(by simp only [fIn2, if_pos hc3, if_pos hk5]), N0, rfl⟩
    have hk8 : p1 = (1 : Int32) := own_last2 p1 Hp hc3 hk5
    have el9 : Elt Z h0 z .long p1 (.long v1) := by rw [hk8]; exact Elt.of F1 ⟨by decide, by decide⟩ rfl
    obtain ⟨cl10, cl10A, cl10I, cl10T⟩ := id el9
    refine Goes.by (B := T4.setTop (mkF m 19 #[.val (.ref a0), .val (.int p1)] [(.long v1)])) (fun t k => ?_) ?_
    · show Steps p.tables e below (T4.setTop (mkF m 14 #[.val (.ref a0), .val (.int p1)] [(.int p1), (.ref z)])) t
      refine X4.laload hx (j := p1) (v := (.long v1)) (by rw [e4]; exact cl10A.1) (State.isArrayOf_alike hZ.alike cl10A.2.1) cl10A.2.2 cl10I cl10T (g := (mkF m 14 #[.val (.ref a0), .val (.int p1)] [(.int p1), (.ref z)])) rfl rfl (hb hby d5_14) _ ?_
      show Steps p.tables e below (T4.setTop (mkF m 15 #[.val (.ref a0), .val (.int p1)] [(.long v1)])) t
      refine XS.goto X4.here hx rfl (pc0 := 15) (pc' := 19) rfl (hb hby d5_15) (by decide) (by decide) ?_
      exact k
    obtain ⟨fs, hr, hrun, hended, hW, hsame⟩ := X4.leave (v := some (.long v1)) (fun h => by rw [Bd.returns] at h; cases h)
    refine Goes.mk _ _ ?_ ⟨hrun, hended, _, _, rfl, ?_, ⟨_, rfl⟩, hW, hsame.mono (by decide) (by decide)⟩
    · exact retOut X4 hx Bd.returns rfl (Or.inr (Or.inl ⟨rfl, rfl, _, rfl⟩)) (hb hby d5_19) hr
    · show QIn2 Z a0 p1 z kk v0 v1 h0 n0 _ T4.heap _
      rw [e4]
      exact ⟨(by simp only [fIn2, if_pos hc3, if_neg hk5]), N0, rfl⟩
  · refine Goes.by (B := T1.setTop (mkF m 19 #[.val (.ref a0), .val (.int p1)] [(.long (0 : Int64))])) (fun t k => ?_) ?_
    · show Steps p.tables e below (T1.setTop (mkF m 6 #[.val (.ref a0), .val (.int p1)] [(.int (2 : Int32)), (.int p1)])) t
      refine XS.icmpYes X1.here hx rfl (pc0 := 6) (pc' := 18) rfl (hb hby d5_6) rfl (flt hc3).2.1 (by decide) (by decide) ?_
      show Steps p.tables e below (T1.setTop (mkF m 18 #[.val (.ref a0), .val (.int p1)] [])) t
      refine XS.lconst X1.here hx rfl (hb hby d5_18) ?_
      exact k
    obtain ⟨fs, hr, hrun, hended, hW, hsame⟩ := X1.leave (v := some (.long (0 : Int64))) (fun h => by rw [Bd.returns] at h; cases h)
    refine Goes.mk _ _ ?_ ⟨hrun, hended, _, _, rfl, ?_, ⟨_, rfl⟩, hW, hsame.mono (by decide) (by decide)⟩
    · exact retOut X1 hx Bd.returns rfl (Or.inr (Or.inl ⟨rfl, rfl, _, rfl⟩)) (hb hby d5_19) hr
    · show QIn2 Z a0 p1 z kk v0 v1 h0 n0 _ T1.heap _
      rw [e1]
      exact ⟨(by simp only [fIn2, if_neg hc3]), N0, rfl⟩
def fIn3 (p1 : Int32) (v0 : Int64) (v1 : Int64) (v2 : Int64) : Int64 := (if p1 < (3 : Int32) then (if p1 = (0 : Int32) then v0 else (if p1 = (1 : Int32) then v1 else v2)) else (0 : Int64))
def QIn3 (Z : State) (a0 : Addr) (p1 : Int32) (z : Addr) (kk : ClassId) (v0 : Int64) (v1 : Int64) (v2 : Int64) (h0 : Heap) (n0 : Nat) (v : Option Value) (h : Heap) (L : List Loc) : Prop := v = some (.long (fIn3 p1 v0 v1 v2)) ∧ Fr n0 L ∧ h = h0
theorem efIn3 (m : MethodId) (x0 : Addr) (x1 : Int32) : entryFrame m #[(.ref x0), (.int x1)] 2 = mkF m 0 #[.val (.ref x0), .val (.int x1)] [] := by first | (simp [entryFrame, mkF, argsToLocals, Value.category]; done) | rfl
set_option maxRecDepth 65536 in
set_option maxHeartbeats 40000000 in
theorem rmIn3 (l : Launch) (Z : State) (az : Array Value) (hw : ∀ d ∈ tables_1, d.before az Z = true) (ws : List Jvm.Cond) (a0 : Addr) (p1 : Int32) (z : Addr) (kk : ClassId) (v0 : Int64) (v1 : Int64) (v2 : Int64) (h0 : Heap) (n0 : Nat) (Z0 : n0 ≤ h0.size) (F0 : Fld Z h0 a0 "com/example/moraine/moraine/Frames$Cut" "inParts" "[J" (.ref z)) (F1 : Arv Z h0 z kk .long (3 : Int32) [(.long v0), (.long v1), (.long v2)] (.long (0 : Int64))) (Hp : ¬ (p1 < (0 : Int32))) :
    MetFree l (⟨"com/example/moraine/moraine/Frames$Cut", "inPart", "(I)J"⟩ : MethodName) (head1 (Jvm.Cond.code (⟨"com/example/moraine/moraine/Frames$Cut", "inPart", "(I)J"⟩ : MethodName) prog_25_method_2_code 2 (some .long) :: ws) ({ frames := 0, cells := 0, slots := 0, locals := 0 } : Room)) (fun a U => a = #[(.ref a0), (.int p1)] ∧ Z.Warmed39 U.vm ∧ U.heap = h0) (fun _ _ _ _ _ => True) (fun _ U o U' => ∃ v L, o = .returned v ∧ QIn3 Z a0 p1 z kk v0 v1 v2 h0 n0 v U'.heap L ∧ FrameEnd U o U' L ({ frames := 0, cells := 0, slots := 0, locals := 0 } : Room).cells ({ frames := 0, cells := 0, slots := 0, locals := 0 } : Room).slots) := by
  refine MetFree.of_bodySF (plainFor_of_name own_pn_com_example_moraine_moraine_Frames_Cut) hisR ?_
  intro p e s m args below meth c s₁ Bd hml0 hP hK
  obtain ⟨rfl, hZ, hh⟩ := hP
  have hx := Bd.exec
  have hby := Bd.bytes
  have hml : c.maxLocals = 2 := hml0
  have hown : s.vm.findClass "com/example/moraine/moraine/Frames$Cut" = some m.cls := findClass_of_methodNamed Bd.named
  have hnm := (name_of_methodNamed Bd.named Bd.method).1
  have X0 : Stand p l e ({ frames := 0, cells := 0, slots := 0, locals := 0 } : Room) s m #[(.ref a0), (.int p1)] below meth c s₁ [] 0 0 := Stand.of_body Bd
  have e0 : s₁.heap = h0 := by rw [← hh, Bd.state]; rfl
  have N0 := Fr.nil n0
  have Kp0 : Keep h0 h0 [] := Keep.refl _ _
  refine Goes.start ?_
  refine Goes.by (B := s₁.setTop (mkF m 0 #[.val (.ref a0), .val (.int p1)] [])) (fun t k => castTop (efIn3 m a0 p1) k) ?_
  refine Goes.by (B := s₁.setTop (mkF m 2 #[.val (.ref a0), .val (.int p1)] [(.ref a0), (.int p1)])) (fun t k => ?_) ?_
  · show Steps p.tables e below (s₁.setTop (mkF m 0 #[.val (.ref a0), .val (.int p1)] [])) t
    refine XS.iloadN X0.here hx rfl (hb hby d5_0) rfl ?_
    show Steps p.tables e below (s₁.setTop (mkF m 1 #[.val (.ref a0), .val (.int p1)] [(.int p1)])) t
    refine XS.aloadN X0.here hx rfl (hb hby d5_1) rfl rfl ?_
    exact k
  obtain ⟨T1, X1, e1, st1⟩ := getF X0 hx hZ hown (host := "") (Or.inl (hw _ (List.mem_of_getElem? (i := 28) rfl))) Via.refl e0 F0 (g := (mkF m 2 #[.val (.ref a0), .val (.int p1)] [(.ref a0), (.int p1)])) rfl rfl (hb hby d5_2)
  refine Goes.by st1 ?_
  show Goes p.tables e below _ (T1.setTop (mkF m 5 #[.val (.ref a0), .val (.int p1)] [(.ref z), (.int p1)]))
  obtain ⟨cl2, cl2A, -, cl2S, cl2N, -, -⟩ := id F1
  refine Goes.by (B := T1.setTop (mkF m 6 #[.val (.ref a0), .val (.int p1)] [(.int (3 : Int32)), (.int p1)])) (fun t k => ?_) ?_
  · show Steps p.tables e below (T1.setTop (mkF m 5 #[.val (.ref a0), .val (.int p1)] [(.ref z), (.int p1)])) t
    refine X1.arraylength hx (by rw [e1]; exact cl2A.1) (State.isArrayOf_alike hZ.alike cl2A.2.1) (g := (mkF m 5 #[.val (.ref a0), .val (.int p1)] [(.ref z), (.int p1)])) rfl rfl (hb hby d5_5) _ ?_
    rw [len_of cl2S cl2N]
    exact k
  by_cases hc3 : p1 < (3 : Int32)
  · refine Goes.by (B := T1.setTop (mkF m 10 #[.val (.ref a0), .val (.int p1)] [(.ref a0)])) (fun t k => ?_) ?_
    · show Steps p.tables e below (T1.setTop (mkF m 6 #[.val (.ref a0), .val (.int p1)] [(.int (3 : Int32)), (.int p1)])) t
      refine XS.icmpNo X1.here hx rfl (hb hby d5_6) rfl (tlt hc3).2.1 ?_
      show Steps p.tables e below (T1.setTop (mkF m 9 #[.val (.ref a0), .val (.int p1)] [])) t
      refine XS.aloadN X1.here hx rfl (hb hby d5_9) rfl rfl ?_
      exact k
    obtain ⟨T4, X4, e4, st4⟩ := getF X1 hx hZ hown (host := "") (Or.inl (hw _ (List.mem_of_getElem? (i := 28) rfl))) Via.refl e1 F0 (g := (mkF m 10 #[.val (.ref a0), .val (.int p1)] [(.ref a0)])) rfl rfl (hb hby d5_10)
    refine Goes.by st4 ?_
    show Goes p.tables e below _ (T4.setTop (mkF m 13 #[.val (.ref a0), .val (.int p1)] [(.ref z)]))
    refine Goes.by (B := T4.setTop (mkF m 14 #[.val (.ref a0), .val (.int p1)] [(.int p1), (.ref z)])) (fun t k => ?_) ?_
    · show Steps p.tables e below (T4.setTop (mkF m 13 #[.val (.ref a0), .val (.int p1)] [(.ref z)])) t
      refine XS.iloadN X4.here hx rfl (hb hby d5_13) rfl ?_
      exact k
    by_cases hk5 : p1 = (0 : Int32)
    · have el6 : Elt Z h0 z .long p1 (.long v0) := by rw [hk5]; exact Elt.of F1 ⟨by decide, by decide⟩ rfl
      obtain ⟨cl7, cl7A, cl7I, cl7T⟩ := id el6
      refine Goes.by (B := T4.setTop (mkF m 19 #[.val (.ref a0), .val (.int p1)] [(.long v0)])) (fun t k => ?_) ?_
      · show Steps p.tables e below (T4.setTop (mkF m 14 #[.val (.ref a0), .val (.int p1)] [(.int p1), (.ref z)])) t
        refine X4.laload hx (j := p1) (v := (.long v0)) (by rw [e4]; exact cl7A.1) (State.isArrayOf_alike hZ.alike cl7A.2.1) cl7A.2.2 cl7I cl7T (g := (mkF m 14 #[.val (.ref a0), .val (.int p1)] [(.int p1), (.ref z)])) rfl rfl (hb hby d5_14) _ ?_
        show Steps p.tables e below (T4.setTop (mkF m 15 #[.val (.ref a0), .val (.int p1)] [(.long v0)])) t
        refine XS.goto X4.here hx rfl (pc0 := 15) (pc' := 19) rfl (hb hby d5_15) (by decide) (by decide) ?_
        exact k
      obtain ⟨fs, hr, hrun, hended, hW, hsame⟩ := X4.leave (v := some (.long v0)) (fun h => by rw [Bd.returns] at h; cases h)
      refine Goes.mk _ _ ?_ ⟨hrun, hended, _, _, rfl, ?_, ⟨_, rfl⟩, hW, hsame.mono (by decide) (by decide)⟩
      · exact retOut X4 hx Bd.returns rfl (Or.inr (Or.inl ⟨rfl, rfl, _, rfl⟩)) (hb hby d5_19) hr
      · show QIn3 Z a0 p1 z kk v0 v1 v2 h0 n0 _ T4.heap _
        rw [e4]
        exact ⟨(by simp only [fIn3, if_pos hc3, if_pos hk5]), N0, rfl⟩
    by_cases hk8 : p1 = (1 : Int32)
    · have el9 : Elt Z h0 z .long p1 (.long v1) := by rw [hk8]; exact Elt.of F1 ⟨by decide, by decide⟩ rfl
      obtain ⟨cl10, cl10A, cl10I, cl10T⟩ := id el9
      refine Goes.by (B := T4.setTop (mkF m 19 #[.val (.ref a0), .val (.int p1)] [(.long v1)])) (fun t k => ?_) ?_
      · show Steps p.tables e below (T4.setTop (mkF m 14 #[.val (.ref a0), .val (.int p1)] [(.int p1), (.ref z)])) t
        refine X4.laload hx (j := p1) (v := (.long v1)) (by rw [e4]; exact cl10A.1) (State.isArrayOf_alike hZ.alike cl10A.2.1) cl10A.2.2 cl10I cl10T (g := (mkF m 14 #[.val (.ref a0), .val (.int p1)] [(.int p1), (.ref z)])) rfl rfl (hb hby d5_14) _ ?_
        show Steps p.tables e below (T4.setTop (mkF m 15 #[.val (.ref a0), .val (.int p1)] [(.long v1)])) t
        refine XS.goto X4.here hx rfl (pc0 := 15) (pc' := 19) rfl (hb hby d5_15) (by decide) (by decide) ?_
        exact k
      obtain ⟨fs, hr, hrun, hended, hW, hsame⟩ := X4.leave (v := some (.long v1)) (fun h => by rw [Bd.returns] at h; cases h)
      refine Goes.mk _ _ ?_ ⟨hrun, hended, _, _, rfl, ?_, ⟨_, rfl⟩, hW, hsame.mono (by decide) (by decide)⟩
      · exact retOut X4 hx Bd.returns rfl (Or.inr (Or.inl ⟨rfl, rfl, _, rfl⟩)) (hb hby d5_19) hr
      · show QIn3 Z a0 p1 z kk v0 v1 v2 h0 n0 _ T4.heap _
        rw [e4]
        exact ⟨(by simp only [fIn3, if_pos hc3, if_neg hk5, if_pos hk8]), N0, rfl⟩
    have hk11 : p1 = (2 : Int32) := own_last3 p1 Hp hc3 hk5 hk8
    have el12 : Elt Z h0 z .long p1 (.long v2) := by rw [hk11]; exact Elt.of F1 ⟨by decide, by decide⟩ rfl
    obtain ⟨cl13, cl13A, cl13I, cl13T⟩ := id el12
    refine Goes.by (B := T4.setTop (mkF m 19 #[.val (.ref a0), .val (.int p1)] [(.long v2)])) (fun t k => ?_) ?_
    · show Steps p.tables e below (T4.setTop (mkF m 14 #[.val (.ref a0), .val (.int p1)] [(.int p1), (.ref z)])) t
      refine X4.laload hx (j := p1) (v := (.long v2)) (by rw [e4]; exact cl13A.1) (State.isArrayOf_alike hZ.alike cl13A.2.1) cl13A.2.2 cl13I cl13T (g := (mkF m 14 #[.val (.ref a0), .val (.int p1)] [(.int p1), (.ref z)])) rfl rfl (hb hby d5_14) _ ?_
      show Steps p.tables e below (T4.setTop (mkF m 15 #[.val (.ref a0), .val (.int p1)] [(.long v2)])) t
      refine XS.goto X4.here hx rfl (pc0 := 15) (pc' := 19) rfl (hb hby d5_15) (by decide) (by decide) ?_
      exact k
    obtain ⟨fs, hr, hrun, hended, hW, hsame⟩ := X4.leave (v := some (.long v2)) (fun h => by rw [Bd.returns] at h; cases h)
    refine Goes.mk _ _ ?_ ⟨hrun, hended, _, _, rfl, ?_, ⟨_, rfl⟩, hW, hsame.mono (by decide) (by decide)⟩
    · exact retOut X4 hx Bd.returns rfl (Or.inr (Or.inl ⟨rfl, rfl, _, rfl⟩)) (hb hby d5_19) hr
    · show QIn3 Z a0 p1 z kk v0 v1 v2 h0 n0 _ T4.heap _
      rw [e4]
      exact ⟨(by simp only [fIn3, if_pos hc3, if_neg hk5, if_neg hk8]), N0, rfl⟩
  · refine Goes.by (B := T1.setTop (mkF m 19 #[.val (.ref a0), .val (.int p1)] [(.long (0 : Int64))])) (fun t k => ?_) ?_
    · show Steps p.tables e below (T1.setTop (mkF m 6 #[.val (.ref a0), .val (.int p1)] [(.int (3 : Int32)), (.int p1)])) t
      refine XS.icmpYes X1.here hx rfl (pc0 := 6) (pc' := 18) rfl (hb hby d5_6) rfl (flt hc3).2.1 (by decide) (by decide) ?_
      show Steps p.tables e below (T1.setTop (mkF m 18 #[.val (.ref a0), .val (.int p1)] [])) t
      refine XS.lconst X1.here hx rfl (hb hby d5_18) ?_
      exact k
    obtain ⟨fs, hr, hrun, hended, hW, hsame⟩ := X1.leave (v := some (.long (0 : Int64))) (fun h => by rw [Bd.returns] at h; cases h)
    refine Goes.mk _ _ ?_ ⟨hrun, hended, _, _, rfl, ?_, ⟨_, rfl⟩, hW, hsame.mono (by decide) (by decide)⟩
    · exact retOut X1 hx Bd.returns rfl (Or.inr (Or.inl ⟨rfl, rfl, _, rfl⟩)) (hb hby d5_19) hr
    · show QIn3 Z a0 p1 z kk v0 v1 v2 h0 n0 _ T1.heap _
      rw [e1]
      exact ⟨(by simp only [fIn3, if_neg hc3]), N0, rfl⟩
theorem own_in1 (p : Int32) (a : Int64) (hp : ¬ (p < (0 : Int32))) : fIn1 p a = if p = 0 then a else 0 := by
  unfold fIn1
  by_cases h : p < (1 : Int32)
  · have e := own_last1 p hp h
    rw [if_pos h, if_pos e]
  · have e : ¬ p = (0 : Int32) := fun q => h (by rw [q]; decide)
    rw [if_neg h, if_neg e]
theorem own_in2 (p : Int32) (a b : Int64) (hp : ¬ (p < (0 : Int32))) : fIn2 p a b = if p = 0 then a else if p = 1 then b else 0 := by
  unfold fIn2
  by_cases h : p < (2 : Int32)
  · by_cases h0 : p = (0 : Int32)
    · rw [if_pos h, if_pos h0, if_pos h0]
    · rw [if_pos h, if_neg h0, if_neg h0, if_pos (own_last2 p hp h h0)]
  · have e0 : ¬ p = (0 : Int32) := fun q => h (by rw [q]; decide)
    have e1 : ¬ p = (1 : Int32) := fun q => h (by rw [q]; decide)
    rw [if_neg h, if_neg e0, if_neg e1]
theorem own_in3 (p : Int32) (a b c : Int64) (hp : ¬ (p < (0 : Int32))) : fIn3 p a b c = if p = 0 then a else if p = 1 then b else if p = 2 then c else 0 := by
  unfold fIn3
  by_cases h : p < (3 : Int32)
  · by_cases h0 : p = (0 : Int32)
    · rw [if_pos h, if_pos h0, if_pos h0]
    · by_cases h1 : p = (1 : Int32)
      · rw [if_pos h, if_neg h0, if_pos h1, if_neg h0, if_pos h1]
      · rw [if_pos h, if_neg h0, if_neg h1, if_neg h0, if_neg h1, if_pos (own_last3 p hp h h0 h1)]
  · have e0 : ¬ p = (0 : Int32) := fun q => h (by rw [q]; decide)
    have e1 : ¬ p = (1 : Int32) := fun q => h (by rw [q]; decide)
    have e2 : ¬ p = (2 : Int32) := fun q => h (by rw [q]; decide)
    rw [if_neg h, if_neg e0, if_neg e1, if_neg e2]
theorem own_pd1 : parseMethodDescriptor "(JJ)V" = some ⟨[.long, .long], none⟩ := by decide +kernel
theorem own_pd2 : parseMethodDescriptor "(Lcom/example/moraine/moraine/Position;[J)V" = some ⟨[(.object "com/example/moraine/moraine/Position"), (.array .long)], none⟩ := by decide +kernel
theorem own_pd3 : parseMethodDescriptor "(I)J" = some ⟨[.int], some .long⟩ := by decide +kernel
def Q0 (Z : State) (p0 : Int32) (p1 : Int32) (q2 : Int64) (q3 : Int64) (q4 : Int64) (h0 : Heap) (n0 : Nat) (v : Option Value) (h : Heap) (L : List Loc) : Prop := v = some (.int 1) ∧ Fr n0 L
theorem own_pn_com_example_moraine_moraine_CutInPartPinLaw : plainName "com/example/moraine/moraine/CutInPartPinLaw" = true := by first | (simp [plainName, overriddenIn]; done) | decide +kernel
theorem ef0 (m : MethodId) (x0 : Int32) (x1 : Int32) (x2 : Int64) (x3 : Int64) (x4 : Int64) : entryFrame m #[(.int x0), (.int x1), (.long x2), (.long x3), (.long x4)] maxLocals = mkF m 0 #[.val (.int x0), .val (.int x1), .val (.long x2), .second, .val (.long x3), .second, .val (.long x4), .second, .unset, .unset, .unset, .unset, .unset, .unset, .unset, .unset, .unset, .unset, .unset, .unset] [] := by first | (simp [entryFrame, mkF, argsToLocals, Value.category, maxLocals]; done) | rfl
set_option maxRecDepth 65536 in
set_option maxHeartbeats 40000000 in
theorem rm0 (l : Launch) (Z : State) (az : Array Value) (hw : ∀ d ∈ tables_1, d.before az Z = true) (ws : List Jvm.Cond) (p0 : Int32) (p1 : Int32) (q2 : Int64) (q3 : Int64) (q4 : Int64) (h0 : Heap) (n0 : Nat) (Z0 : n0 ≤ h0.size) :
    MetFree l x (head1 (Jvm.Cond.code x code maxLocals ret :: ws) room_1) (fun a U => a = #[(.int p0), (.int p1), (.long q2), (.long q3), (.long q4)] ∧ Z.Warmed39 U.vm ∧ U.heap = h0) (fun _ _ _ _ _ => True) (fun _ U o U' => ∃ v L, o = .returned v ∧ Q0 Z p0 p1 q2 q3 q4 h0 n0 v U'.heap L ∧ FrameEnd U o U' L 6 10) := by
  refine MetFree.of_bodySF (plainFor_of_name own_pn_com_example_moraine_moraine_CutInPartPinLaw) hisR ?_
  intro p e s m args below meth c s₁ Bd hml0 hP hK
  obtain ⟨rfl, hZ, hh⟩ := hP
  have hx := Bd.exec
  have hby := Bd.bytes
  have hml : c.maxLocals = 20 := hml0
  have hown : s.vm.findClass "com/example/moraine/moraine/CutInPartPinLaw" = some m.cls := findClass_of_methodNamed Bd.named
  have hnm := (name_of_methodNamed Bd.named Bd.method).1
  have X0 : Stand p l e room_1 s m #[(.int p0), (.int p1), (.long q2), (.long q3), (.long q4)] below meth c s₁ [] 0 0 := Stand.of_body Bd
  have e0 : s₁.heap = h0 := by rw [← hh, Bd.state]; rfl
  have N0 := Fr.nil n0
  have Kp0 : Keep h0 h0 [] := Keep.refl _ _
  refine Goes.start ?_
  refine Goes.by (B := s₁.setTop (mkF m 0 #[.val (.int p0), .val (.int p1), .val (.long q2), .second, .val (.long q3), .second, .val (.long q4), .second, .unset, .unset, .unset, .unset, .unset, .unset, .unset, .unset, .unset, .unset, .unset, .unset] [])) (fun t k => castTop (ef0 m p0 p1 q2 q3 q4) k) ?_
  refine Goes.by (B := s₁.setTop (mkF m 5 #[.val (.int p0), .val (.int p1), .val (.long q2), .second, .val (.long q3), .second, .val (.long q4), .second, .val (.int (p0 &&& (3 : Int32))), .unset, .unset, .unset, .unset, .unset, .unset, .unset, .unset, .unset, .unset, .unset] [])) (fun t k => ?_) ?_
  · show Steps p.tables e below (s₁.setTop (mkF m 0 #[.val (.int p0), .val (.int p1), .val (.long q2), .second, .val (.long q3), .second, .val (.long q4), .second, .unset, .unset, .unset, .unset, .unset, .unset, .unset, .unset, .unset, .unset, .unset, .unset] [])) t
    refine XS.iloadN X0.here hx rfl (hb hby at_0) rfl ?_
    show Steps p.tables e below (s₁.setTop (mkF m 1 #[.val (.int p0), .val (.int p1), .val (.long q2), .second, .val (.long q3), .second, .val (.long q4), .second, .unset, .unset, .unset, .unset, .unset, .unset, .unset, .unset, .unset, .unset, .unset, .unset] [(.int p0)])) t
    refine XS.iconst X0.here hx rfl (hb hby at_1) ?_
    show Steps p.tables e below (s₁.setTop (mkF m 2 #[.val (.int p0), .val (.int p1), .val (.long q2), .second, .val (.long q3), .second, .val (.long q4), .second, .unset, .unset, .unset, .unset, .unset, .unset, .unset, .unset, .unset, .unset, .unset, .unset] [(.int (3 : Int32)), (.int p0)])) t
    refine XS.iand X0.here hx rfl (hb hby at_2) rfl ?_
    show Steps p.tables e below (s₁.setTop (mkF m 3 #[.val (.int p0), .val (.int p1), .val (.long q2), .second, .val (.long q3), .second, .val (.long q4), .second, .unset, .unset, .unset, .unset, .unset, .unset, .unset, .unset, .unset, .unset, .unset, .unset] [(.int (p0 &&& (3 : Int32)))])) t
    refine XS.istore X0.here hx rfl (hb hby at_3) rfl (l' := #[.val (.int p0), .val (.int p1), .val (.long q2), .second, .val (.long q3), .second, .val (.long q4), .second, .val (.int (p0 &&& (3 : Int32))), .unset, .unset, .unset, .unset, .unset, .unset, .unset, .unset, .unset, .unset, .unset]) rfl ?_
    exact k
  generalize hg_n : (p0 &&& (3 : Int32)) = n
  refine Goes.by (B := s₁.setTop (mkF m 6 #[.val (.int p0), .val (.int p1), .val (.long q2), .second, .val (.long q3), .second, .val (.long q4), .second, .val (.int n), .unset, .unset, .unset, .unset, .unset, .unset, .unset, .unset, .unset, .unset, .unset] [(.int (0 : Int32))])) (fun t k => ?_) ?_
  · show Steps p.tables e below (s₁.setTop (mkF m 5 #[.val (.int p0), .val (.int p1), .val (.long q2), .second, .val (.long q3), .second, .val (.long q4), .second, .val (.int n), .unset, .unset, .unset, .unset, .unset, .unset, .unset, .unset, .unset, .unset, .unset] [])) t
    refine XS.iconst X0.here hx rfl (hb hby at_5) ?_
    exact k
  obtain ⟨T1, h1, k1, X1, e1, E1, A1, st1⟩ := newP X0 hx hZ (hw _ (List.mem_of_getElem? (i := 0) rfl)) e0 (g := (mkF m 6 #[.val (.int p0), .val (.int p1), .val (.long q2), .second, .val (.long q3), .second, .val (.long q4), .second, .val (.int n), .unset, .unset, .unset, .unset, .unset, .unset, .unset, .unset, .unset, .unset, .unset] [(.int (0 : Int32))])) rfl (hb hby at_6) rfl (by decide) (cap := 0) (by decide) (by decide) (by decide) (by decide)
  obtain ⟨b2, g1⟩ : ∃ z, z = h0.size := ⟨_, rfl⟩
  rw [← g1] at A1 st1
  have ge3 : n0 ≤ b2 := Nat.le_trans Z0 (Nat.le_of_eq g1.symm)
  have sz4 : h0.size ≤ b2 := Nat.le_trans Kp0.1 (Nat.le_of_eq g1.symm)
  have f5 : Arv Z h1 b2 k1 .long (0 : Int32) [] (.long (0 : Int64)) := (Arv.new A1 (by decide)).pad (pad_rep [] (.long (0 : Int64)) 0)
  have Kp1 : Keep h0 h1 [] := Kp0.ext E1
  have Z6 : n0 ≤ h1.size := Nat.le_trans Z0 E1.1
  refine Goes.by st1 ?_
  show Goes p.tables e below _ (T1.setTop (mkF m 8 #[.val (.int p0), .val (.int p1), .val (.long q2), .second, .val (.long q3), .second, .val (.long q4), .second, .val (.int n), .unset, .unset, .unset, .unset, .unset, .unset, .unset, .unset, .unset, .unset, .unset] [(.ref b2)]))
  refine Goes.by (B := T1.setTop (mkF m 11 #[.val (.int p0), .val (.int p1), .val (.long q2), .second, .val (.long q3), .second, .val (.long q4), .second, .val (.int n), .val (.ref b2), .unset, .unset, .unset, .unset, .unset, .unset, .unset, .unset, .unset, .unset] [(.int (1 : Int32))])) (fun t k => ?_) ?_
  · show Steps p.tables e below (T1.setTop (mkF m 8 #[.val (.int p0), .val (.int p1), .val (.long q2), .second, .val (.long q3), .second, .val (.long q4), .second, .val (.int n), .unset, .unset, .unset, .unset, .unset, .unset, .unset, .unset, .unset, .unset, .unset] [(.ref b2)])) t
    refine XS.astore X1.here hx rfl (hb hby at_8) rfl rfl (l' := #[.val (.int p0), .val (.int p1), .val (.long q2), .second, .val (.long q3), .second, .val (.long q4), .second, .val (.int n), .val (.ref b2), .unset, .unset, .unset, .unset, .unset, .unset, .unset, .unset, .unset, .unset]) rfl ?_
    show Steps p.tables e below (T1.setTop (mkF m 10 #[.val (.int p0), .val (.int p1), .val (.long q2), .second, .val (.long q3), .second, .val (.long q4), .second, .val (.int n), .val (.ref b2), .unset, .unset, .unset, .unset, .unset, .unset, .unset, .unset, .unset, .unset] [])) t
    refine XS.iconst X1.here hx rfl (hb hby at_10) ?_
    exact k
  obtain ⟨T7, h7, k7, X7, e7, E7, A7, st7⟩ := newP X1 hx hZ (hw _ (List.mem_of_getElem? (i := 0) rfl)) e1 (g := (mkF m 11 #[.val (.int p0), .val (.int p1), .val (.long q2), .second, .val (.long q3), .second, .val (.long q4), .second, .val (.int n), .val (.ref b2), .unset, .unset, .unset, .unset, .unset, .unset, .unset, .unset, .unset, .unset] [(.int (1 : Int32))])) rfl (hb hby at_11) rfl (by decide) (cap := 1) (by decide) (by decide) (by decide) (by decide)
  obtain ⟨b8, g7⟩ : ∃ z, z = h1.size := ⟨_, rfl⟩
  rw [← g7] at A7 st7
  have ne9 : b2 ≠ b8 := Nat.ne_of_lt (Nat.lt_of_lt_of_le f5.lt (Nat.le_of_eq g7.symm))
  have ge10 : n0 ≤ b8 := Nat.le_trans Z6 (Nat.le_of_eq g7.symm)
  have sz11 : h0.size ≤ b8 := Nat.le_trans Kp1.1 (Nat.le_of_eq g7.symm)
  have f12 : Arv Z h7 b2 k1 .long (0 : Int32) [] (.long (0 : Int64)) := f5.ext E7
  have f13 : Arv Z h7 b8 k7 .long (1 : Int32) [(.long (0 : Int64))] (.long (0 : Int64)) := (Arv.new A7 (by decide)).pad (pad_rep [] (.long (0 : Int64)) 1)
  have Kp7 : Keep h0 h7 [] := Kp1.ext E7
  have Z14 : n0 ≤ h7.size := Nat.le_trans Z6 E7.1
  refine Goes.by st7 ?_
  show Goes p.tables e below _ (T7.setTop (mkF m 13 #[.val (.int p0), .val (.int p1), .val (.long q2), .second, .val (.long q3), .second, .val (.long q4), .second, .val (.int n), .val (.ref b2), .unset, .unset, .unset, .unset, .unset, .unset, .unset, .unset, .unset, .unset] [(.ref b8)]))
  refine Goes.by (B := T7.setTop (mkF m 16 #[.val (.int p0), .val (.int p1), .val (.long q2), .second, .val (.long q3), .second, .val (.long q4), .second, .val (.int n), .val (.ref b2), .unset, .unset, .unset, .unset, .unset, .unset, .unset, .unset, .unset, .unset] [(.long q2), (.int (0 : Int32)), (.ref b8), (.ref b8)])) (fun t k => ?_) ?_
  · show Steps p.tables e below (T7.setTop (mkF m 13 #[.val (.int p0), .val (.int p1), .val (.long q2), .second, .val (.long q3), .second, .val (.long q4), .second, .val (.int n), .val (.ref b2), .unset, .unset, .unset, .unset, .unset, .unset, .unset, .unset, .unset, .unset] [(.ref b8)])) t
    refine XS.dup X7.here hx rfl (hb hby at_13) rfl rfl ?_
    show Steps p.tables e below (T7.setTop (mkF m 14 #[.val (.int p0), .val (.int p1), .val (.long q2), .second, .val (.long q3), .second, .val (.long q4), .second, .val (.int n), .val (.ref b2), .unset, .unset, .unset, .unset, .unset, .unset, .unset, .unset, .unset, .unset] [(.ref b8), (.ref b8)])) t
    refine XS.iconst X7.here hx rfl (hb hby at_14) ?_
    show Steps p.tables e below (T7.setTop (mkF m 15 #[.val (.int p0), .val (.int p1), .val (.long q2), .second, .val (.long q3), .second, .val (.long q4), .second, .val (.int n), .val (.ref b2), .unset, .unset, .unset, .unset, .unset, .unset, .unset, .unset, .unset, .unset] [(.int (0 : Int32)), (.ref b8), (.ref b8)])) t
    refine XS.lloadN X7.here hx rfl (hb hby at_15) rfl ?_
    exact k
  obtain ⟨cl15, cl15A, cl15q, cl15S, cl15N, cl15H, cl15G⟩ := id f13
  have cl15I : ¬ ((0 : Int32) < 0 ∨ cl15.slots.size ≤ ((0 : Int32)).toNatClampNeg) := inb_of cl15S ⟨by decide, by decide⟩
  obtain ⟨T15, h15, X15, e15, W15, st15⟩ := stJ X7 hx hZ e7 cl15A (j := (0 : Int32)) cl15I (g := (mkF m 16 #[.val (.int p0), .val (.int p1), .val (.long q2), .second, .val (.long q3), .second, .val (.long q4), .second, .val (.int n), .val (.ref b2), .unset, .unset, .unset, .unset, .unset, .unset, .unset, .unset, .unset, .unset] [(.long q2), (.int (0 : Int32)), (.ref b8), (.ref b8)])) rfl rfl (hb hby at_16)
  have f16 : Arv Z h15 b2 k1 .long (0 : Int32) [] (.long (0 : Int64)) := f12.other W15 ne9
  have f17 : Arv Z h15 b8 k7 .long (1 : Int32) [(.long q2)] (.long (0 : Int64)) := Arv.set cl15A cl15q cl15S cl15N cl15H cl15G rfl W15 0 rfl (Nat.le_of_ble_eq_true rfl)
  have Kp15 : Keep h0 h15 [] := Kp7.wr W15 (Or.inr sz11)
  have Z18 : n0 ≤ h15.size := Nat.le_trans Z14 (Nat.le_of_eq W15.size.symm)
  have N19 := Fr.snoc X15 N0 ge10
  refine Goes.by st15 ?_
  show Goes p.tables e below _ (T15.setTop (mkF m 17 #[.val (.int p0), .val (.int p1), .val (.long q2), .second, .val (.long q3), .second, .val (.long q4), .second, .val (.int n), .val (.ref b2), .unset, .unset, .unset, .unset, .unset, .unset, .unset, .unset, .unset, .unset] [(.ref b8)]))
  refine Goes.by (B := T15.setTop (mkF m 20 #[.val (.int p0), .val (.int p1), .val (.long q2), .second, .val (.long q3), .second, .val (.long q4), .second, .val (.int n), .val (.ref b2), .val (.ref b8), .unset, .unset, .unset, .unset, .unset, .unset, .unset, .unset, .unset] [(.int (2 : Int32))])) (fun t k => ?_) ?_
  · show Steps p.tables e below (T15.setTop (mkF m 17 #[.val (.int p0), .val (.int p1), .val (.long q2), .second, .val (.long q3), .second, .val (.long q4), .second, .val (.int n), .val (.ref b2), .unset, .unset, .unset, .unset, .unset, .unset, .unset, .unset, .unset, .unset] [(.ref b8)])) t
    refine XS.astore X15.here hx rfl (hb hby at_17) rfl rfl (l' := #[.val (.int p0), .val (.int p1), .val (.long q2), .second, .val (.long q3), .second, .val (.long q4), .second, .val (.int n), .val (.ref b2), .val (.ref b8), .unset, .unset, .unset, .unset, .unset, .unset, .unset, .unset, .unset]) rfl ?_
    show Steps p.tables e below (T15.setTop (mkF m 19 #[.val (.int p0), .val (.int p1), .val (.long q2), .second, .val (.long q3), .second, .val (.long q4), .second, .val (.int n), .val (.ref b2), .val (.ref b8), .unset, .unset, .unset, .unset, .unset, .unset, .unset, .unset, .unset] [])) t
    refine XS.iconst X15.here hx rfl (hb hby at_19) ?_
    exact k
  obtain ⟨T20, h20, k20, X20, e20, E20, A20, st20⟩ := newP X15 hx hZ (hw _ (List.mem_of_getElem? (i := 0) rfl)) e15 (g := (mkF m 20 #[.val (.int p0), .val (.int p1), .val (.long q2), .second, .val (.long q3), .second, .val (.long q4), .second, .val (.int n), .val (.ref b2), .val (.ref b8), .unset, .unset, .unset, .unset, .unset, .unset, .unset, .unset, .unset] [(.int (2 : Int32))])) rfl (hb hby at_20) rfl (by decide) (cap := 2) (by decide) (by decide) (by decide) (by decide)
  obtain ⟨b21, g20⟩ : ∃ z, z = h15.size := ⟨_, rfl⟩
  rw [← g20] at A20 st20
  have ne22 : b2 ≠ b21 := Nat.ne_of_lt (Nat.lt_of_lt_of_le f16.lt (Nat.le_of_eq g20.symm))
  have ne23 : b8 ≠ b21 := Nat.ne_of_lt (Nat.lt_of_lt_of_le f17.lt (Nat.le_of_eq g20.symm))
  have ge24 : n0 ≤ b21 := Nat.le_trans Z18 (Nat.le_of_eq g20.symm)
  have sz25 : h0.size ≤ b21 := Nat.le_trans Kp15.1 (Nat.le_of_eq g20.symm)
  have f26 : Arv Z h20 b2 k1 .long (0 : Int32) [] (.long (0 : Int64)) := f16.ext E20
  have f27 : Arv Z h20 b8 k7 .long (1 : Int32) [(.long q2)] (.long (0 : Int64)) := f17.ext E20
  have f28 : Arv Z h20 b21 k20 .long (2 : Int32) [(.long (0 : Int64)), (.long (0 : Int64))] (.long (0 : Int64)) := (Arv.new A20 (by decide)).pad (pad_rep [] (.long (0 : Int64)) 2)
  have Kp20 : Keep h0 h20 [] := Kp15.ext E20
  have Z29 : n0 ≤ h20.size := Nat.le_trans Z18 E20.1
  refine Goes.by st20 ?_
  show Goes p.tables e below _ (T20.setTop (mkF m 22 #[.val (.int p0), .val (.int p1), .val (.long q2), .second, .val (.long q3), .second, .val (.long q4), .second, .val (.int n), .val (.ref b2), .val (.ref b8), .unset, .unset, .unset, .unset, .unset, .unset, .unset, .unset, .unset] [(.ref b21)]))
  refine Goes.by (B := T20.setTop (mkF m 25 #[.val (.int p0), .val (.int p1), .val (.long q2), .second, .val (.long q3), .second, .val (.long q4), .second, .val (.int n), .val (.ref b2), .val (.ref b8), .unset, .unset, .unset, .unset, .unset, .unset, .unset, .unset, .unset] [(.long q2), (.int (0 : Int32)), (.ref b21), (.ref b21)])) (fun t k => ?_) ?_
  · show Steps p.tables e below (T20.setTop (mkF m 22 #[.val (.int p0), .val (.int p1), .val (.long q2), .second, .val (.long q3), .second, .val (.long q4), .second, .val (.int n), .val (.ref b2), .val (.ref b8), .unset, .unset, .unset, .unset, .unset, .unset, .unset, .unset, .unset] [(.ref b21)])) t
    refine XS.dup X20.here hx rfl (hb hby at_22) rfl rfl ?_
    show Steps p.tables e below (T20.setTop (mkF m 23 #[.val (.int p0), .val (.int p1), .val (.long q2), .second, .val (.long q3), .second, .val (.long q4), .second, .val (.int n), .val (.ref b2), .val (.ref b8), .unset, .unset, .unset, .unset, .unset, .unset, .unset, .unset, .unset] [(.ref b21), (.ref b21)])) t
    refine XS.iconst X20.here hx rfl (hb hby at_23) ?_
    show Steps p.tables e below (T20.setTop (mkF m 24 #[.val (.int p0), .val (.int p1), .val (.long q2), .second, .val (.long q3), .second, .val (.long q4), .second, .val (.int n), .val (.ref b2), .val (.ref b8), .unset, .unset, .unset, .unset, .unset, .unset, .unset, .unset, .unset] [(.int (0 : Int32)), (.ref b21), (.ref b21)])) t
    refine XS.lloadN X20.here hx rfl (hb hby at_24) rfl ?_
    exact k
  obtain ⟨cl30, cl30A, cl30q, cl30S, cl30N, cl30H, cl30G⟩ := id f28
  have cl30I : ¬ ((0 : Int32) < 0 ∨ cl30.slots.size ≤ ((0 : Int32)).toNatClampNeg) := inb_of cl30S ⟨by decide, by decide⟩
  obtain ⟨T30, h30, X30, e30, W30, st30⟩ := stJ X20 hx hZ e20 cl30A (j := (0 : Int32)) cl30I (g := (mkF m 25 #[.val (.int p0), .val (.int p1), .val (.long q2), .second, .val (.long q3), .second, .val (.long q4), .second, .val (.int n), .val (.ref b2), .val (.ref b8), .unset, .unset, .unset, .unset, .unset, .unset, .unset, .unset, .unset] [(.long q2), (.int (0 : Int32)), (.ref b21), (.ref b21)])) rfl rfl (hb hby at_25)
  have f31 : Arv Z h30 b2 k1 .long (0 : Int32) [] (.long (0 : Int64)) := f26.other W30 ne22
  have f32 : Arv Z h30 b8 k7 .long (1 : Int32) [(.long q2)] (.long (0 : Int64)) := f27.other W30 ne23
  have f33 : Arv Z h30 b21 k20 .long (2 : Int32) [(.long q2), (.long (0 : Int64))] (.long (0 : Int64)) := Arv.set cl30A cl30q cl30S cl30N cl30H cl30G rfl W30 0 rfl (Nat.le_of_ble_eq_true rfl)
  have Kp30 : Keep h0 h30 [] := Kp20.wr W30 (Or.inr sz25)
  have Z34 : n0 ≤ h30.size := Nat.le_trans Z29 (Nat.le_of_eq W30.size.symm)
  have N35 := Fr.snoc X30 N19 ge24
  refine Goes.by st30 ?_
  show Goes p.tables e below _ (T30.setTop (mkF m 26 #[.val (.int p0), .val (.int p1), .val (.long q2), .second, .val (.long q3), .second, .val (.long q4), .second, .val (.int n), .val (.ref b2), .val (.ref b8), .unset, .unset, .unset, .unset, .unset, .unset, .unset, .unset, .unset] [(.ref b21)]))
  refine Goes.by (B := T30.setTop (mkF m 30 #[.val (.int p0), .val (.int p1), .val (.long q2), .second, .val (.long q3), .second, .val (.long q4), .second, .val (.int n), .val (.ref b2), .val (.ref b8), .unset, .unset, .unset, .unset, .unset, .unset, .unset, .unset, .unset] [(.long q3), (.int (1 : Int32)), (.ref b21), (.ref b21)])) (fun t k => ?_) ?_
  · show Steps p.tables e below (T30.setTop (mkF m 26 #[.val (.int p0), .val (.int p1), .val (.long q2), .second, .val (.long q3), .second, .val (.long q4), .second, .val (.int n), .val (.ref b2), .val (.ref b8), .unset, .unset, .unset, .unset, .unset, .unset, .unset, .unset, .unset] [(.ref b21)])) t
    refine XS.dup X30.here hx rfl (hb hby at_26) rfl rfl ?_
    show Steps p.tables e below (T30.setTop (mkF m 27 #[.val (.int p0), .val (.int p1), .val (.long q2), .second, .val (.long q3), .second, .val (.long q4), .second, .val (.int n), .val (.ref b2), .val (.ref b8), .unset, .unset, .unset, .unset, .unset, .unset, .unset, .unset, .unset] [(.ref b21), (.ref b21)])) t
    refine XS.iconst X30.here hx rfl (hb hby at_27) ?_
    show Steps p.tables e below (T30.setTop (mkF m 28 #[.val (.int p0), .val (.int p1), .val (.long q2), .second, .val (.long q3), .second, .val (.long q4), .second, .val (.int n), .val (.ref b2), .val (.ref b8), .unset, .unset, .unset, .unset, .unset, .unset, .unset, .unset, .unset] [(.int (1 : Int32)), (.ref b21), (.ref b21)])) t
    refine XS.lload X30.here hx rfl (hb hby at_28) rfl ?_
    exact k
  obtain ⟨cl36, cl36A, cl36q, cl36S, cl36N, cl36H, cl36G⟩ := id f33
  have cl36I : ¬ ((1 : Int32) < 0 ∨ cl36.slots.size ≤ ((1 : Int32)).toNatClampNeg) := inb_of cl36S ⟨by decide, by decide⟩
  obtain ⟨T36, h36, X36, e36, W36, st36⟩ := stJ X30 hx hZ e30 cl36A (j := (1 : Int32)) cl36I (g := (mkF m 30 #[.val (.int p0), .val (.int p1), .val (.long q2), .second, .val (.long q3), .second, .val (.long q4), .second, .val (.int n), .val (.ref b2), .val (.ref b8), .unset, .unset, .unset, .unset, .unset, .unset, .unset, .unset, .unset] [(.long q3), (.int (1 : Int32)), (.ref b21), (.ref b21)])) rfl rfl (hb hby at_30)
  have f37 : Arv Z h36 b2 k1 .long (0 : Int32) [] (.long (0 : Int64)) := f31.other W36 ne22
  have f38 : Arv Z h36 b8 k7 .long (1 : Int32) [(.long q2)] (.long (0 : Int64)) := f32.other W36 ne23
  have f39 : Arv Z h36 b21 k20 .long (2 : Int32) [(.long q2), (.long q3)] (.long (0 : Int64)) := Arv.set cl36A cl36q cl36S cl36N cl36H cl36G rfl W36 1 rfl (Nat.le_of_ble_eq_true rfl)
  have Kp36 : Keep h0 h36 [] := Kp30.wr W36 (Or.inr sz25)
  have Z40 : n0 ≤ h36.size := Nat.le_trans Z34 (Nat.le_of_eq W36.size.symm)
  have N41 := Fr.snoc X36 N35 ge24
  refine Goes.by st36 ?_
  show Goes p.tables e below _ (T36.setTop (mkF m 31 #[.val (.int p0), .val (.int p1), .val (.long q2), .second, .val (.long q3), .second, .val (.long q4), .second, .val (.int n), .val (.ref b2), .val (.ref b8), .unset, .unset, .unset, .unset, .unset, .unset, .unset, .unset, .unset] [(.ref b21)]))
  refine Goes.by (B := T36.setTop (mkF m 34 #[.val (.int p0), .val (.int p1), .val (.long q2), .second, .val (.long q3), .second, .val (.long q4), .second, .val (.int n), .val (.ref b2), .val (.ref b8), .val (.ref b21), .unset, .unset, .unset, .unset, .unset, .unset, .unset, .unset] [(.int (3 : Int32))])) (fun t k => ?_) ?_
  · show Steps p.tables e below (T36.setTop (mkF m 31 #[.val (.int p0), .val (.int p1), .val (.long q2), .second, .val (.long q3), .second, .val (.long q4), .second, .val (.int n), .val (.ref b2), .val (.ref b8), .unset, .unset, .unset, .unset, .unset, .unset, .unset, .unset, .unset] [(.ref b21)])) t
    refine XS.astore X36.here hx rfl (hb hby at_31) rfl rfl (l' := #[.val (.int p0), .val (.int p1), .val (.long q2), .second, .val (.long q3), .second, .val (.long q4), .second, .val (.int n), .val (.ref b2), .val (.ref b8), .val (.ref b21), .unset, .unset, .unset, .unset, .unset, .unset, .unset, .unset]) rfl ?_
    show Steps p.tables e below (T36.setTop (mkF m 33 #[.val (.int p0), .val (.int p1), .val (.long q2), .second, .val (.long q3), .second, .val (.long q4), .second, .val (.int n), .val (.ref b2), .val (.ref b8), .val (.ref b21), .unset, .unset, .unset, .unset, .unset, .unset, .unset, .unset] [])) t
    refine XS.iconst X36.here hx rfl (hb hby at_33) ?_
    exact k
  obtain ⟨T42, h42, k42, X42, e42, E42, A42, st42⟩ := newP X36 hx hZ (hw _ (List.mem_of_getElem? (i := 0) rfl)) e36 (g := (mkF m 34 #[.val (.int p0), .val (.int p1), .val (.long q2), .second, .val (.long q3), .second, .val (.long q4), .second, .val (.int n), .val (.ref b2), .val (.ref b8), .val (.ref b21), .unset, .unset, .unset, .unset, .unset, .unset, .unset, .unset] [(.int (3 : Int32))])) rfl (hb hby at_34) rfl (by decide) (cap := 3) (by decide) (by decide) (by decide) (by decide)
  obtain ⟨b43, g42⟩ : ∃ z, z = h36.size := ⟨_, rfl⟩
  rw [← g42] at A42 st42
  have ne44 : b2 ≠ b43 := Nat.ne_of_lt (Nat.lt_of_lt_of_le f37.lt (Nat.le_of_eq g42.symm))
  have ne45 : b8 ≠ b43 := Nat.ne_of_lt (Nat.lt_of_lt_of_le f38.lt (Nat.le_of_eq g42.symm))
  have ne46 : b21 ≠ b43 := Nat.ne_of_lt (Nat.lt_of_lt_of_le f39.lt (Nat.le_of_eq g42.symm))
  have ge47 : n0 ≤ b43 := Nat.le_trans Z40 (Nat.le_of_eq g42.symm)
  have sz48 : h0.size ≤ b43 := Nat.le_trans Kp36.1 (Nat.le_of_eq g42.symm)
  have f49 : Arv Z h42 b2 k1 .long (0 : Int32) [] (.long (0 : Int64)) := f37.ext E42
  have f50 : Arv Z h42 b8 k7 .long (1 : Int32) [(.long q2)] (.long (0 : Int64)) := f38.ext E42
  have f51 : Arv Z h42 b21 k20 .long (2 : Int32) [(.long q2), (.long q3)] (.long (0 : Int64)) := f39.ext E42
  have f52 : Arv Z h42 b43 k42 .long (3 : Int32) [(.long (0 : Int64)), (.long (0 : Int64)), (.long (0 : Int64))] (.long (0 : Int64)) := (Arv.new A42 (by decide)).pad (pad_rep [] (.long (0 : Int64)) 3)
  have Kp42 : Keep h0 h42 [] := Kp36.ext E42
  have Z53 : n0 ≤ h42.size := Nat.le_trans Z40 E42.1
  refine Goes.by st42 ?_
  show Goes p.tables e below _ (T42.setTop (mkF m 36 #[.val (.int p0), .val (.int p1), .val (.long q2), .second, .val (.long q3), .second, .val (.long q4), .second, .val (.int n), .val (.ref b2), .val (.ref b8), .val (.ref b21), .unset, .unset, .unset, .unset, .unset, .unset, .unset, .unset] [(.ref b43)]))
  refine Goes.by (B := T42.setTop (mkF m 39 #[.val (.int p0), .val (.int p1), .val (.long q2), .second, .val (.long q3), .second, .val (.long q4), .second, .val (.int n), .val (.ref b2), .val (.ref b8), .val (.ref b21), .unset, .unset, .unset, .unset, .unset, .unset, .unset, .unset] [(.long q2), (.int (0 : Int32)), (.ref b43), (.ref b43)])) (fun t k => ?_) ?_
  · show Steps p.tables e below (T42.setTop (mkF m 36 #[.val (.int p0), .val (.int p1), .val (.long q2), .second, .val (.long q3), .second, .val (.long q4), .second, .val (.int n), .val (.ref b2), .val (.ref b8), .val (.ref b21), .unset, .unset, .unset, .unset, .unset, .unset, .unset, .unset] [(.ref b43)])) t
    refine XS.dup X42.here hx rfl (hb hby at_36) rfl rfl ?_
    show Steps p.tables e below (T42.setTop (mkF m 37 #[.val (.int p0), .val (.int p1), .val (.long q2), .second, .val (.long q3), .second, .val (.long q4), .second, .val (.int n), .val (.ref b2), .val (.ref b8), .val (.ref b21), .unset, .unset, .unset, .unset, .unset, .unset, .unset, .unset] [(.ref b43), (.ref b43)])) t
    refine XS.iconst X42.here hx rfl (hb hby at_37) ?_
    show Steps p.tables e below (T42.setTop (mkF m 38 #[.val (.int p0), .val (.int p1), .val (.long q2), .second, .val (.long q3), .second, .val (.long q4), .second, .val (.int n), .val (.ref b2), .val (.ref b8), .val (.ref b21), .unset, .unset, .unset, .unset, .unset, .unset, .unset, .unset] [(.int (0 : Int32)), (.ref b43), (.ref b43)])) t
    refine XS.lloadN X42.here hx rfl (hb hby at_38) rfl ?_
    exact k
  obtain ⟨cl54, cl54A, cl54q, cl54S, cl54N, cl54H, cl54G⟩ := id f52
  have cl54I : ¬ ((0 : Int32) < 0 ∨ cl54.slots.size ≤ ((0 : Int32)).toNatClampNeg) := inb_of cl54S ⟨by decide, by decide⟩
  obtain ⟨T54, h54, X54, e54, W54, st54⟩ := stJ X42 hx hZ e42 cl54A (j := (0 : Int32)) cl54I (g := (mkF m 39 #[.val (.int p0), .val (.int p1), .val (.long q2), .second, .val (.long q3), .second, .val (.long q4), .second, .val (.int n), .val (.ref b2), .val (.ref b8), .val (.ref b21), .unset, .unset, .unset, .unset, .unset, .unset, .unset, .unset] [(.long q2), (.int (0 : Int32)), (.ref b43), (.ref b43)])) rfl rfl (hb hby at_39)
  have f55 : Arv Z h54 b2 k1 .long (0 : Int32) [] (.long (0 : Int64)) := f49.other W54 ne44
  have f56 : Arv Z h54 b8 k7 .long (1 : Int32) [(.long q2)] (.long (0 : Int64)) := f50.other W54 ne45
  have f57 : Arv Z h54 b21 k20 .long (2 : Int32) [(.long q2), (.long q3)] (.long (0 : Int64)) := f51.other W54 ne46
  have f58 : Arv Z h54 b43 k42 .long (3 : Int32) [(.long q2), (.long (0 : Int64)), (.long (0 : Int64))] (.long (0 : Int64)) := Arv.set cl54A cl54q cl54S cl54N cl54H cl54G rfl W54 0 rfl (Nat.le_of_ble_eq_true rfl)
  have Kp54 : Keep h0 h54 [] := Kp42.wr W54 (Or.inr sz48)
  have Z59 : n0 ≤ h54.size := Nat.le_trans Z53 (Nat.le_of_eq W54.size.symm)
  have N60 := Fr.snoc X54 N41 ge47
  refine Goes.by st54 ?_
  show Goes p.tables e below _ (T54.setTop (mkF m 40 #[.val (.int p0), .val (.int p1), .val (.long q2), .second, .val (.long q3), .second, .val (.long q4), .second, .val (.int n), .val (.ref b2), .val (.ref b8), .val (.ref b21), .unset, .unset, .unset, .unset, .unset, .unset, .unset, .unset] [(.ref b43)]))
  refine Goes.by (B := T54.setTop (mkF m 44 #[.val (.int p0), .val (.int p1), .val (.long q2), .second, .val (.long q3), .second, .val (.long q4), .second, .val (.int n), .val (.ref b2), .val (.ref b8), .val (.ref b21), .unset, .unset, .unset, .unset, .unset, .unset, .unset, .unset] [(.long q3), (.int (1 : Int32)), (.ref b43), (.ref b43)])) (fun t k => ?_) ?_
  · show Steps p.tables e below (T54.setTop (mkF m 40 #[.val (.int p0), .val (.int p1), .val (.long q2), .second, .val (.long q3), .second, .val (.long q4), .second, .val (.int n), .val (.ref b2), .val (.ref b8), .val (.ref b21), .unset, .unset, .unset, .unset, .unset, .unset, .unset, .unset] [(.ref b43)])) t
    refine XS.dup X54.here hx rfl (hb hby at_40) rfl rfl ?_
    show Steps p.tables e below (T54.setTop (mkF m 41 #[.val (.int p0), .val (.int p1), .val (.long q2), .second, .val (.long q3), .second, .val (.long q4), .second, .val (.int n), .val (.ref b2), .val (.ref b8), .val (.ref b21), .unset, .unset, .unset, .unset, .unset, .unset, .unset, .unset] [(.ref b43), (.ref b43)])) t
    refine XS.iconst X54.here hx rfl (hb hby at_41) ?_
    show Steps p.tables e below (T54.setTop (mkF m 42 #[.val (.int p0), .val (.int p1), .val (.long q2), .second, .val (.long q3), .second, .val (.long q4), .second, .val (.int n), .val (.ref b2), .val (.ref b8), .val (.ref b21), .unset, .unset, .unset, .unset, .unset, .unset, .unset, .unset] [(.int (1 : Int32)), (.ref b43), (.ref b43)])) t
    refine XS.lload X54.here hx rfl (hb hby at_42) rfl ?_
    exact k
  obtain ⟨cl61, cl61A, cl61q, cl61S, cl61N, cl61H, cl61G⟩ := id f58
  have cl61I : ¬ ((1 : Int32) < 0 ∨ cl61.slots.size ≤ ((1 : Int32)).toNatClampNeg) := inb_of cl61S ⟨by decide, by decide⟩
  obtain ⟨T61, h61, X61, e61, W61, st61⟩ := stJ X54 hx hZ e54 cl61A (j := (1 : Int32)) cl61I (g := (mkF m 44 #[.val (.int p0), .val (.int p1), .val (.long q2), .second, .val (.long q3), .second, .val (.long q4), .second, .val (.int n), .val (.ref b2), .val (.ref b8), .val (.ref b21), .unset, .unset, .unset, .unset, .unset, .unset, .unset, .unset] [(.long q3), (.int (1 : Int32)), (.ref b43), (.ref b43)])) rfl rfl (hb hby at_44)
  have f62 : Arv Z h61 b2 k1 .long (0 : Int32) [] (.long (0 : Int64)) := f55.other W61 ne44
  have f63 : Arv Z h61 b8 k7 .long (1 : Int32) [(.long q2)] (.long (0 : Int64)) := f56.other W61 ne45
  have f64 : Arv Z h61 b21 k20 .long (2 : Int32) [(.long q2), (.long q3)] (.long (0 : Int64)) := f57.other W61 ne46
  have f65 : Arv Z h61 b43 k42 .long (3 : Int32) [(.long q2), (.long q3), (.long (0 : Int64))] (.long (0 : Int64)) := Arv.set cl61A cl61q cl61S cl61N cl61H cl61G rfl W61 1 rfl (Nat.le_of_ble_eq_true rfl)
  have Kp61 : Keep h0 h61 [] := Kp54.wr W61 (Or.inr sz48)
  have Z66 : n0 ≤ h61.size := Nat.le_trans Z59 (Nat.le_of_eq W61.size.symm)
  have N67 := Fr.snoc X61 N60 ge47
  refine Goes.by st61 ?_
  show Goes p.tables e below _ (T61.setTop (mkF m 45 #[.val (.int p0), .val (.int p1), .val (.long q2), .second, .val (.long q3), .second, .val (.long q4), .second, .val (.int n), .val (.ref b2), .val (.ref b8), .val (.ref b21), .unset, .unset, .unset, .unset, .unset, .unset, .unset, .unset] [(.ref b43)]))
  refine Goes.by (B := T61.setTop (mkF m 49 #[.val (.int p0), .val (.int p1), .val (.long q2), .second, .val (.long q3), .second, .val (.long q4), .second, .val (.int n), .val (.ref b2), .val (.ref b8), .val (.ref b21), .unset, .unset, .unset, .unset, .unset, .unset, .unset, .unset] [(.long q4), (.int (2 : Int32)), (.ref b43), (.ref b43)])) (fun t k => ?_) ?_
  · show Steps p.tables e below (T61.setTop (mkF m 45 #[.val (.int p0), .val (.int p1), .val (.long q2), .second, .val (.long q3), .second, .val (.long q4), .second, .val (.int n), .val (.ref b2), .val (.ref b8), .val (.ref b21), .unset, .unset, .unset, .unset, .unset, .unset, .unset, .unset] [(.ref b43)])) t
    refine XS.dup X61.here hx rfl (hb hby at_45) rfl rfl ?_
    show Steps p.tables e below (T61.setTop (mkF m 46 #[.val (.int p0), .val (.int p1), .val (.long q2), .second, .val (.long q3), .second, .val (.long q4), .second, .val (.int n), .val (.ref b2), .val (.ref b8), .val (.ref b21), .unset, .unset, .unset, .unset, .unset, .unset, .unset, .unset] [(.ref b43), (.ref b43)])) t
    refine XS.iconst X61.here hx rfl (hb hby at_46) ?_
    show Steps p.tables e below (T61.setTop (mkF m 47 #[.val (.int p0), .val (.int p1), .val (.long q2), .second, .val (.long q3), .second, .val (.long q4), .second, .val (.int n), .val (.ref b2), .val (.ref b8), .val (.ref b21), .unset, .unset, .unset, .unset, .unset, .unset, .unset, .unset] [(.int (2 : Int32)), (.ref b43), (.ref b43)])) t
    refine XS.lload X61.here hx rfl (hb hby at_47) rfl ?_
    exact k
  obtain ⟨cl68, cl68A, cl68q, cl68S, cl68N, cl68H, cl68G⟩ := id f65
  have cl68I : ¬ ((2 : Int32) < 0 ∨ cl68.slots.size ≤ ((2 : Int32)).toNatClampNeg) := inb_of cl68S ⟨by decide, by decide⟩
  obtain ⟨T68, h68, X68, e68, W68, st68⟩ := stJ X61 hx hZ e61 cl68A (j := (2 : Int32)) cl68I (g := (mkF m 49 #[.val (.int p0), .val (.int p1), .val (.long q2), .second, .val (.long q3), .second, .val (.long q4), .second, .val (.int n), .val (.ref b2), .val (.ref b8), .val (.ref b21), .unset, .unset, .unset, .unset, .unset, .unset, .unset, .unset] [(.long q4), (.int (2 : Int32)), (.ref b43), (.ref b43)])) rfl rfl (hb hby at_49)
  have f69 : Arv Z h68 b2 k1 .long (0 : Int32) [] (.long (0 : Int64)) := f62.other W68 ne44
  have f70 : Arv Z h68 b8 k7 .long (1 : Int32) [(.long q2)] (.long (0 : Int64)) := f63.other W68 ne45
  have f71 : Arv Z h68 b21 k20 .long (2 : Int32) [(.long q2), (.long q3)] (.long (0 : Int64)) := f64.other W68 ne46
  have f72 : Arv Z h68 b43 k42 .long (3 : Int32) [(.long q2), (.long q3), (.long q4)] (.long (0 : Int64)) := Arv.set cl68A cl68q cl68S cl68N cl68H cl68G rfl W68 2 rfl (Nat.le_of_ble_eq_true rfl)
  have Kp68 : Keep h0 h68 [] := Kp61.wr W68 (Or.inr sz48)
  have Z73 : n0 ≤ h68.size := Nat.le_trans Z66 (Nat.le_of_eq W68.size.symm)
  have N74 := Fr.snoc X68 N67 ge47
  refine Goes.by st68 ?_
  show Goes p.tables e below _ (T68.setTop (mkF m 50 #[.val (.int p0), .val (.int p1), .val (.long q2), .second, .val (.long q3), .second, .val (.long q4), .second, .val (.int n), .val (.ref b2), .val (.ref b8), .val (.ref b21), .unset, .unset, .unset, .unset, .unset, .unset, .unset, .unset] [(.ref b43)]))
  refine Goes.by (B := T68.setTop (mkF m 52 #[.val (.int p0), .val (.int p1), .val (.long q2), .second, .val (.long q3), .second, .val (.long q4), .second, .val (.int n), .val (.ref b2), .val (.ref b8), .val (.ref b21), .val (.ref b43), .unset, .unset, .unset, .unset, .unset, .unset, .unset] [])) (fun t k => ?_) ?_
  · show Steps p.tables e below (T68.setTop (mkF m 50 #[.val (.int p0), .val (.int p1), .val (.long q2), .second, .val (.long q3), .second, .val (.long q4), .second, .val (.int n), .val (.ref b2), .val (.ref b8), .val (.ref b21), .unset, .unset, .unset, .unset, .unset, .unset, .unset, .unset] [(.ref b43)])) t
    refine XS.astore X68.here hx rfl (hb hby at_50) rfl rfl (l' := #[.val (.int p0), .val (.int p1), .val (.long q2), .second, .val (.long q3), .second, .val (.long q4), .second, .val (.int n), .val (.ref b2), .val (.ref b8), .val (.ref b21), .val (.ref b43), .unset, .unset, .unset, .unset, .unset, .unset, .unset]) rfl ?_
    exact k
  rcases own_n p0 n hg_n with rfl | rfl | rfl | rfl
  · refine Goes.by (B := T68.setTop (mkF m 91 #[.val (.int p0), .val (.int p1), .val (.long q2), .second, .val (.long q3), .second, .val (.long q4), .second, .val (.int (0 : Int32)), .val (.ref b2), .val (.ref b8), .val (.ref b21), .val (.ref b43), .val (.ref b2), .unset, .unset, .unset, .unset, .unset, .unset] [(.int (p1 &&& (1 : Int32)))])) (fun t k => ?_) ?_
    · show Steps p.tables e below (T68.setTop (mkF m 52 #[.val (.int p0), .val (.int p1), .val (.long q2), .second, .val (.long q3), .second, .val (.long q4), .second, .val (.int (0 : Int32)), .val (.ref b2), .val (.ref b8), .val (.ref b21), .val (.ref b43), .unset, .unset, .unset, .unset, .unset, .unset, .unset] [])) t
      refine XS.iload X68.here hx rfl (hb hby at_52) rfl ?_
      show Steps p.tables e below (T68.setTop (mkF m 54 #[.val (.int p0), .val (.int p1), .val (.long q2), .second, .val (.long q3), .second, .val (.long q4), .second, .val (.int (0 : Int32)), .val (.ref b2), .val (.ref b8), .val (.ref b21), .val (.ref b43), .unset, .unset, .unset, .unset, .unset, .unset, .unset] [(.int (0 : Int32))])) t
      refine XS.ifNo X68.here hx rfl (hb hby at_54) rfl ((if0 _ _).trans (teq (by decide : (0 : Int32) = (0 : Int32))).2) ?_
      show Steps p.tables e below (T68.setTop (mkF m 57 #[.val (.int p0), .val (.int p1), .val (.long q2), .second, .val (.long q3), .second, .val (.long q4), .second, .val (.int (0 : Int32)), .val (.ref b2), .val (.ref b8), .val (.ref b21), .val (.ref b43), .unset, .unset, .unset, .unset, .unset, .unset, .unset] [])) t
      refine XS.aload X68.here hx rfl (hb hby at_57) rfl rfl ?_
      show Steps p.tables e below (T68.setTop (mkF m 59 #[.val (.int p0), .val (.int p1), .val (.long q2), .second, .val (.long q3), .second, .val (.long q4), .second, .val (.int (0 : Int32)), .val (.ref b2), .val (.ref b8), .val (.ref b21), .val (.ref b43), .unset, .unset, .unset, .unset, .unset, .unset, .unset] [(.ref b2)])) t
      refine XS.goto X68.here hx rfl (pc0 := 59) (pc' := 86) rfl (hb hby at_59) (by decide) (by decide) ?_
      show Steps p.tables e below (T68.setTop (mkF m 86 #[.val (.int p0), .val (.int p1), .val (.long q2), .second, .val (.long q3), .second, .val (.long q4), .second, .val (.int (0 : Int32)), .val (.ref b2), .val (.ref b8), .val (.ref b21), .val (.ref b43), .unset, .unset, .unset, .unset, .unset, .unset, .unset] [(.ref b2)])) t
      refine XS.astore X68.here hx rfl (hb hby at_86) rfl rfl (l' := #[.val (.int p0), .val (.int p1), .val (.long q2), .second, .val (.long q3), .second, .val (.long q4), .second, .val (.int (0 : Int32)), .val (.ref b2), .val (.ref b8), .val (.ref b21), .val (.ref b43), .val (.ref b2), .unset, .unset, .unset, .unset, .unset, .unset]) rfl ?_
      show Steps p.tables e below (T68.setTop (mkF m 88 #[.val (.int p0), .val (.int p1), .val (.long q2), .second, .val (.long q3), .second, .val (.long q4), .second, .val (.int (0 : Int32)), .val (.ref b2), .val (.ref b8), .val (.ref b21), .val (.ref b43), .val (.ref b2), .unset, .unset, .unset, .unset, .unset, .unset] [])) t
      refine XS.iloadN X68.here hx rfl (hb hby at_88) rfl ?_
      show Steps p.tables e below (T68.setTop (mkF m 89 #[.val (.int p0), .val (.int p1), .val (.long q2), .second, .val (.long q3), .second, .val (.long q4), .second, .val (.int (0 : Int32)), .val (.ref b2), .val (.ref b8), .val (.ref b21), .val (.ref b43), .val (.ref b2), .unset, .unset, .unset, .unset, .unset, .unset] [(.int p1)])) t
      refine XS.iconst X68.here hx rfl (hb hby at_89) ?_
      show Steps p.tables e below (T68.setTop (mkF m 90 #[.val (.int p0), .val (.int p1), .val (.long q2), .second, .val (.long q3), .second, .val (.long q4), .second, .val (.int (0 : Int32)), .val (.ref b2), .val (.ref b8), .val (.ref b21), .val (.ref b43), .val (.ref b2), .unset, .unset, .unset, .unset, .unset, .unset] [(.int (1 : Int32)), (.int p1)])) t
      refine XS.iand X68.here hx rfl (hb hby at_90) rfl ?_
      exact k
    refine Goes.by (B := T68.setTop (mkF m 105 #[.val (.int p0), .val (.int p1), .val (.long q2), .second, .val (.long q3), .second, .val (.long q4), .second, .val (.int (0 : Int32)), .val (.ref b2), .val (.ref b8), .val (.ref b21), .val (.ref b43), .val (.ref b2), .unset, .unset, .unset, .unset, .unset, .unset] [(.int (if (p1 &&& (1 : Int32)) = (0 : Int32) then ((p1.toUInt32 >>> ((1 : Int32) &&& 31).toUInt32).toInt32) else (((p1.toUInt32 >>> ((1 : Int32) &&& 31).toUInt32).toInt32) &&& (3 : Int32))))])) (fun t k => ?_) ?_
    · by_cases hm75 : (p1 &&& (1 : Int32)) = (0 : Int32)
      · simp only [if_pos hm75] at k
        show Steps p.tables e below (T68.setTop (mkF m 91 #[.val (.int p0), .val (.int p1), .val (.long q2), .second, .val (.long q3), .second, .val (.long q4), .second, .val (.int (0 : Int32)), .val (.ref b2), .val (.ref b8), .val (.ref b21), .val (.ref b43), .val (.ref b2), .unset, .unset, .unset, .unset, .unset, .unset] [(.int (p1 &&& (1 : Int32)))])) t
        refine XS.ifYes X68.here hx rfl (pc0 := 91) (pc' := 102) rfl (hb hby at_91) rfl ((if0 _ _).trans (teq hm75).1) (by decide) (by decide) ?_
        show Steps p.tables e below (T68.setTop (mkF m 102 #[.val (.int p0), .val (.int p1), .val (.long q2), .second, .val (.long q3), .second, .val (.long q4), .second, .val (.int (0 : Int32)), .val (.ref b2), .val (.ref b8), .val (.ref b21), .val (.ref b43), .val (.ref b2), .unset, .unset, .unset, .unset, .unset, .unset] [])) t
        refine XS.iloadN X68.here hx rfl (hb hby at_102) rfl ?_
        show Steps p.tables e below (T68.setTop (mkF m 103 #[.val (.int p0), .val (.int p1), .val (.long q2), .second, .val (.long q3), .second, .val (.long q4), .second, .val (.int (0 : Int32)), .val (.ref b2), .val (.ref b8), .val (.ref b21), .val (.ref b43), .val (.ref b2), .unset, .unset, .unset, .unset, .unset, .unset] [(.int p1)])) t
        refine XS.iconst X68.here hx rfl (hb hby at_103) ?_
        show Steps p.tables e below (T68.setTop (mkF m 104 #[.val (.int p0), .val (.int p1), .val (.long q2), .second, .val (.long q3), .second, .val (.long q4), .second, .val (.int (0 : Int32)), .val (.ref b2), .val (.ref b8), .val (.ref b21), .val (.ref b43), .val (.ref b2), .unset, .unset, .unset, .unset, .unset, .unset] [(.int (1 : Int32)), (.int p1)])) t
        refine XS.iushr X68.here hx rfl (hb hby at_104) rfl ?_
        exact k
      · simp only [if_neg hm75] at k
        show Steps p.tables e below (T68.setTop (mkF m 91 #[.val (.int p0), .val (.int p1), .val (.long q2), .second, .val (.long q3), .second, .val (.long q4), .second, .val (.int (0 : Int32)), .val (.ref b2), .val (.ref b8), .val (.ref b21), .val (.ref b43), .val (.ref b2), .unset, .unset, .unset, .unset, .unset, .unset] [(.int (p1 &&& (1 : Int32)))])) t
        refine XS.ifNo X68.here hx rfl (hb hby at_91) rfl ((if0 _ _).trans (feq hm75).1) ?_
        show Steps p.tables e below (T68.setTop (mkF m 94 #[.val (.int p0), .val (.int p1), .val (.long q2), .second, .val (.long q3), .second, .val (.long q4), .second, .val (.int (0 : Int32)), .val (.ref b2), .val (.ref b8), .val (.ref b21), .val (.ref b43), .val (.ref b2), .unset, .unset, .unset, .unset, .unset, .unset] [])) t
        refine XS.iloadN X68.here hx rfl (hb hby at_94) rfl ?_
        show Steps p.tables e below (T68.setTop (mkF m 95 #[.val (.int p0), .val (.int p1), .val (.long q2), .second, .val (.long q3), .second, .val (.long q4), .second, .val (.int (0 : Int32)), .val (.ref b2), .val (.ref b8), .val (.ref b21), .val (.ref b43), .val (.ref b2), .unset, .unset, .unset, .unset, .unset, .unset] [(.int p1)])) t
        refine XS.iconst X68.here hx rfl (hb hby at_95) ?_
        show Steps p.tables e below (T68.setTop (mkF m 96 #[.val (.int p0), .val (.int p1), .val (.long q2), .second, .val (.long q3), .second, .val (.long q4), .second, .val (.int (0 : Int32)), .val (.ref b2), .val (.ref b8), .val (.ref b21), .val (.ref b43), .val (.ref b2), .unset, .unset, .unset, .unset, .unset, .unset] [(.int (1 : Int32)), (.int p1)])) t
        refine XS.iushr X68.here hx rfl (hb hby at_96) rfl ?_
        show Steps p.tables e below (T68.setTop (mkF m 97 #[.val (.int p0), .val (.int p1), .val (.long q2), .second, .val (.long q3), .second, .val (.long q4), .second, .val (.int (0 : Int32)), .val (.ref b2), .val (.ref b8), .val (.ref b21), .val (.ref b43), .val (.ref b2), .unset, .unset, .unset, .unset, .unset, .unset] [(.int ((p1.toUInt32 >>> ((1 : Int32) &&& 31).toUInt32).toInt32))])) t
        refine XS.iconst X68.here hx rfl (hb hby at_97) ?_
        show Steps p.tables e below (T68.setTop (mkF m 98 #[.val (.int p0), .val (.int p1), .val (.long q2), .second, .val (.long q3), .second, .val (.long q4), .second, .val (.int (0 : Int32)), .val (.ref b2), .val (.ref b8), .val (.ref b21), .val (.ref b43), .val (.ref b2), .unset, .unset, .unset, .unset, .unset, .unset] [(.int (3 : Int32)), (.int ((p1.toUInt32 >>> ((1 : Int32) &&& 31).toUInt32).toInt32))])) t
        refine XS.iand X68.here hx rfl (hb hby at_98) rfl ?_
        show Steps p.tables e below (T68.setTop (mkF m 99 #[.val (.int p0), .val (.int p1), .val (.long q2), .second, .val (.long q3), .second, .val (.long q4), .second, .val (.int (0 : Int32)), .val (.ref b2), .val (.ref b8), .val (.ref b21), .val (.ref b43), .val (.ref b2), .unset, .unset, .unset, .unset, .unset, .unset] [(.int (((p1.toUInt32 >>> ((1 : Int32) &&& 31).toUInt32).toInt32) &&& (3 : Int32)))])) t
        refine XS.goto X68.here hx rfl (pc0 := 99) (pc' := 105) rfl (hb hby at_99) (by decide) (by decide) ?_
        exact k
    refine Goes.by (B := T68.setTop (mkF m 107 #[.val (.int p0), .val (.int p1), .val (.long q2), .second, .val (.long q3), .second, .val (.long q4), .second, .val (.int (0 : Int32)), .val (.ref b2), .val (.ref b8), .val (.ref b21), .val (.ref b43), .val (.ref b2), .val (.int (if (p1 &&& (1 : Int32)) = (0 : Int32) then ((p1.toUInt32 >>> ((1 : Int32) &&& 31).toUInt32).toInt32) else (((p1.toUInt32 >>> ((1 : Int32) &&& 31).toUInt32).toInt32) &&& (3 : Int32)))), .unset, .unset, .unset, .unset, .unset] [])) (fun t k => ?_) ?_
    · show Steps p.tables e below (T68.setTop (mkF m 105 #[.val (.int p0), .val (.int p1), .val (.long q2), .second, .val (.long q3), .second, .val (.long q4), .second, .val (.int (0 : Int32)), .val (.ref b2), .val (.ref b8), .val (.ref b21), .val (.ref b43), .val (.ref b2), .unset, .unset, .unset, .unset, .unset, .unset] [(.int (if (p1 &&& (1 : Int32)) = (0 : Int32) then ((p1.toUInt32 >>> ((1 : Int32) &&& 31).toUInt32).toInt32) else (((p1.toUInt32 >>> ((1 : Int32) &&& 31).toUInt32).toInt32) &&& (3 : Int32))))])) t
      refine XS.istore X68.here hx rfl (hb hby at_105) rfl (l' := #[.val (.int p0), .val (.int p1), .val (.long q2), .second, .val (.long q3), .second, .val (.long q4), .second, .val (.int (0 : Int32)), .val (.ref b2), .val (.ref b8), .val (.ref b21), .val (.ref b43), .val (.ref b2), .val (.int (if (p1 &&& (1 : Int32)) = (0 : Int32) then ((p1.toUInt32 >>> ((1 : Int32) &&& 31).toUInt32).toInt32) else (((p1.toUInt32 >>> ((1 : Int32) &&& 31).toUInt32).toInt32) &&& (3 : Int32)))), .unset, .unset, .unset, .unset, .unset]) rfl ?_
      exact k
    generalize hg_pt : (if (p1 &&& (1 : Int32)) = (0 : Int32) then ((p1.toUInt32 >>> ((1 : Int32) &&& 31).toUInt32).toInt32) else (((p1.toUInt32 >>> ((1 : Int32) &&& 31).toUInt32).toInt32) &&& (3 : Int32))) = pt
    have Hp := own_pt p1 pt hg_pt
    obtain ⟨T76, h76, X76, e76, E76, A76, D76, -, st76⟩ := newO X68 hx hZ hown (hw _ (List.mem_of_getElem? (i := 1) rfl)) (hw _ (List.mem_of_getElem? (i := 2) rfl)) (hw _ (List.mem_of_getElem? (i := 3) rfl)) e68 (g := (mkF m 107 #[.val (.int p0), .val (.int p1), .val (.long q2), .second, .val (.long q3), .second, .val (.long q4), .second, .val (.int (0 : Int32)), .val (.ref b2), .val (.ref b8), .val (.ref b21), .val (.ref b43), .val (.ref b2), .val (.int pt), .unset, .unset, .unset, .unset, .unset] [])) rfl (hb hby at_107) (by decide) (by decide)
    obtain ⟨b77, g76⟩ : ∃ z, z = h68.size := ⟨_, rfl⟩
    rw [← g76] at A76 D76 st76
    have ne78 : b2 ≠ b77 := Nat.ne_of_lt (Nat.lt_of_lt_of_le f69.lt (Nat.le_of_eq g76.symm))
    have ne79 : b8 ≠ b77 := Nat.ne_of_lt (Nat.lt_of_lt_of_le f70.lt (Nat.le_of_eq g76.symm))
    have ne80 : b21 ≠ b77 := Nat.ne_of_lt (Nat.lt_of_lt_of_le f71.lt (Nat.le_of_eq g76.symm))
    have ne81 : b43 ≠ b77 := Nat.ne_of_lt (Nat.lt_of_lt_of_le f72.lt (Nat.le_of_eq g76.symm))
    have ge82 : n0 ≤ b77 := Nat.le_trans Z73 (Nat.le_of_eq g76.symm)
    have sz83 : h0.size ≤ b77 := Nat.le_trans Kp68.1 (Nat.le_of_eq g76.symm)
    have f84 : Arv Z h76 b2 k1 .long (0 : Int32) [] (.long (0 : Int64)) := f69.ext E76
    have f85 : Arv Z h76 b8 k7 .long (1 : Int32) [(.long q2)] (.long (0 : Int64)) := f70.ext E76
    have f86 : Arv Z h76 b21 k20 .long (2 : Int32) [(.long q2), (.long q3)] (.long (0 : Int64)) := f71.ext E76
    have f87 : Arv Z h76 b43 k42 .long (3 : Int32) [(.long q2), (.long q3), (.long q4)] (.long (0 : Int64)) := f72.ext E76
    have f88 : Fld Z h76 b77 "com/example/moraine/moraine/Frames$Cut" "position" "Lcom/example/moraine/moraine/Position;" .null := D76 (Or.inr (hw _ (List.mem_of_getElem? (i := 27) rfl))) (ty := (.object "com/example/moraine/moraine/Position")) (by decide)
    have f89 : Fld Z h76 b77 "com/example/moraine/moraine/Frames$Cut" "inParts" "[J" .null := D76 (Or.inr (hw _ (List.mem_of_getElem? (i := 29) rfl))) (ty := (.array .long)) (by decide)
    have Kp76 : Keep h0 h76 [] := Kp68.ext E76
    have Z90 : n0 ≤ h76.size := Nat.le_trans Z73 E76.1
    refine Goes.by st76 ?_
    show Goes p.tables e below _ (T76.setTop (mkF m 110 #[.val (.int p0), .val (.int p1), .val (.long q2), .second, .val (.long q3), .second, .val (.long q4), .second, .val (.int (0 : Int32)), .val (.ref b2), .val (.ref b8), .val (.ref b21), .val (.ref b43), .val (.ref b2), .val (.int pt), .unset, .unset, .unset, .unset, .unset] [(.ref b77)]))
    refine Goes.by (B := T76.setTop (mkF m 111 #[.val (.int p0), .val (.int p1), .val (.long q2), .second, .val (.long q3), .second, .val (.long q4), .second, .val (.int (0 : Int32)), .val (.ref b2), .val (.ref b8), .val (.ref b21), .val (.ref b43), .val (.ref b2), .val (.int pt), .unset, .unset, .unset, .unset, .unset] [(.ref b77), (.ref b77)])) (fun t k => ?_) ?_
    · show Steps p.tables e below (T76.setTop (mkF m 110 #[.val (.int p0), .val (.int p1), .val (.long q2), .second, .val (.long q3), .second, .val (.long q4), .second, .val (.int (0 : Int32)), .val (.ref b2), .val (.ref b8), .val (.ref b21), .val (.ref b43), .val (.ref b2), .val (.int pt), .unset, .unset, .unset, .unset, .unset] [(.ref b77)])) t
      refine XS.dup X76.here hx rfl (hb hby at_110) rfl rfl ?_
      exact k
    obtain ⟨T91, h91, X91, e91, E91, A91, D91, -, st91⟩ := newO X76 hx hZ hown (hw _ (List.mem_of_getElem? (i := 4) rfl)) (hw _ (List.mem_of_getElem? (i := 5) rfl)) (hw _ (List.mem_of_getElem? (i := 6) rfl)) e76 (g := (mkF m 111 #[.val (.int p0), .val (.int p1), .val (.long q2), .second, .val (.long q3), .second, .val (.long q4), .second, .val (.int (0 : Int32)), .val (.ref b2), .val (.ref b8), .val (.ref b21), .val (.ref b43), .val (.ref b2), .val (.int pt), .unset, .unset, .unset, .unset, .unset] [(.ref b77), (.ref b77)])) rfl (hb hby at_111) (by decide) (by decide)
    obtain ⟨b92, g91⟩ : ∃ z, z = h76.size := ⟨_, rfl⟩
    rw [← g91] at A91 D91 st91
    have ne93 : b2 ≠ b92 := Nat.ne_of_lt (Nat.lt_of_lt_of_le f84.lt (Nat.le_of_eq g91.symm))
    have ne94 : b8 ≠ b92 := Nat.ne_of_lt (Nat.lt_of_lt_of_le f85.lt (Nat.le_of_eq g91.symm))
    have ne95 : b21 ≠ b92 := Nat.ne_of_lt (Nat.lt_of_lt_of_le f86.lt (Nat.le_of_eq g91.symm))
    have ne96 : b43 ≠ b92 := Nat.ne_of_lt (Nat.lt_of_lt_of_le f87.lt (Nat.le_of_eq g91.symm))
    have ne97 : b77 ≠ b92 := Nat.ne_of_lt (Nat.lt_of_lt_of_le A76.lt (Nat.le_of_eq g91.symm))
    have ge98 : n0 ≤ b92 := Nat.le_trans Z90 (Nat.le_of_eq g91.symm)
    have sz99 : h0.size ≤ b92 := Nat.le_trans Kp76.1 (Nat.le_of_eq g91.symm)
    have f100 : Arv Z h91 b2 k1 .long (0 : Int32) [] (.long (0 : Int64)) := f84.ext E91
    have f101 : Arv Z h91 b8 k7 .long (1 : Int32) [(.long q2)] (.long (0 : Int64)) := f85.ext E91
    have f102 : Arv Z h91 b21 k20 .long (2 : Int32) [(.long q2), (.long q3)] (.long (0 : Int64)) := f86.ext E91
    have f103 : Arv Z h91 b43 k42 .long (3 : Int32) [(.long q2), (.long q3), (.long q4)] (.long (0 : Int64)) := f87.ext E91
    have f104 : Exa Z h91 b77 "com/example/moraine/moraine/Frames$Cut" := A76.ext E91
    have f105 : Fld Z h91 b77 "com/example/moraine/moraine/Frames$Cut" "position" "Lcom/example/moraine/moraine/Position;" .null := f88.ext E91
    have f106 : Fld Z h91 b77 "com/example/moraine/moraine/Frames$Cut" "inParts" "[J" .null := f89.ext E91
    have f107 : Fld Z h91 b92 "com/example/moraine/moraine/Position" "increments" "J" (.long (0 : Int64)) := D91 (Or.inr (hw _ (List.mem_of_getElem? (i := 19) rfl))) (ty := .long) (by decide)
    have f108 : Fld Z h91 b92 "com/example/moraine/moraine/Position" "records" "J" (.long (0 : Int64)) := D91 (Or.inr (hw _ (List.mem_of_getElem? (i := 21) rfl))) (ty := .long) (by decide)
    have Kp91 : Keep h0 h91 [] := Kp76.ext E91
    have Z109 : n0 ≤ h91.size := Nat.le_trans Z90 E91.1
    refine Goes.by st91 ?_
    show Goes p.tables e below _ (T91.setTop (mkF m 114 #[.val (.int p0), .val (.int p1), .val (.long q2), .second, .val (.long q3), .second, .val (.long q4), .second, .val (.int (0 : Int32)), .val (.ref b2), .val (.ref b8), .val (.ref b21), .val (.ref b43), .val (.ref b2), .val (.int pt), .unset, .unset, .unset, .unset, .unset] [(.ref b92), (.ref b77), (.ref b77)]))
    refine Goes.by (B := T91.setTop (mkF m 118 #[.val (.int p0), .val (.int p1), .val (.long q2), .second, .val (.long q3), .second, .val (.long q4), .second, .val (.int (0 : Int32)), .val (.ref b2), .val (.ref b8), .val (.ref b21), .val (.ref b43), .val (.ref b2), .val (.int pt), .unset, .unset, .unset, .unset, .unset] [(.long q4), (.long q2), (.ref b92), (.ref b92), (.ref b77), (.ref b77)])) (fun t k => ?_) ?_
    · show Steps p.tables e below (T91.setTop (mkF m 114 #[.val (.int p0), .val (.int p1), .val (.long q2), .second, .val (.long q3), .second, .val (.long q4), .second, .val (.int (0 : Int32)), .val (.ref b2), .val (.ref b8), .val (.ref b21), .val (.ref b43), .val (.ref b2), .val (.int pt), .unset, .unset, .unset, .unset, .unset] [(.ref b92), (.ref b77), (.ref b77)])) t
      refine XS.dup X91.here hx rfl (hb hby at_114) rfl rfl ?_
      show Steps p.tables e below (T91.setTop (mkF m 115 #[.val (.int p0), .val (.int p1), .val (.long q2), .second, .val (.long q3), .second, .val (.long q4), .second, .val (.int (0 : Int32)), .val (.ref b2), .val (.ref b8), .val (.ref b21), .val (.ref b43), .val (.ref b2), .val (.int pt), .unset, .unset, .unset, .unset, .unset] [(.ref b92), (.ref b92), (.ref b77), (.ref b77)])) t
      refine XS.lloadN X91.here hx rfl (hb hby at_115) rfl ?_
      show Steps p.tables e below (T91.setTop (mkF m 116 #[.val (.int p0), .val (.int p1), .val (.long q2), .second, .val (.long q3), .second, .val (.long q4), .second, .val (.int (0 : Int32)), .val (.ref b2), .val (.ref b8), .val (.ref b21), .val (.ref b43), .val (.ref b2), .val (.int pt), .unset, .unset, .unset, .unset, .unset] [(.long q2), (.ref b92), (.ref b92), (.ref b77), (.ref b77)])) t
      refine XS.lload X91.here hx rfl (hb hby at_116) rfl ?_
      exact k
    obtain ⟨_, _, ⟨T110, L110, k110, n110⟩, -, X110, ⟨Lc110, hQ110, l110, y110, z110⟩, st110⟩ := X91.specialBack hx (y := (⟨"com/example/moraine/moraine/Position", "<init>", "(JJ)V"⟩ : MethodName)) rfl hown (mvT hZ (hw _ (List.mem_of_getElem? (i := 7) rfl))) (mvT hZ (hw _ (List.mem_of_getElem? (i := 8) rfl))) (mvT hZ (hw _ (List.mem_of_getElem? (i := 9) rfl))) (by decide) (backOf (W := 3) (rmPos l Z az hw [] b92 q2 q4 h91 n0 Z109 A91 f107 f108 ge98) hZ (hw _ (List.mem_of_getElem? (i := 9) rfl)) (hw _ (List.mem_of_getElem? (i := 6) rfl)) (by decide) (by decide)) (g := (mkF m 118 #[.val (.int p0), .val (.int p1), .val (.long q2), .second, .val (.long q3), .second, .val (.long q4), .second, .val (.int (0 : Int32)), .val (.ref b2), .val (.ref b8), .val (.ref b21), .val (.ref b43), .val (.ref b2), .val (.int pt), .unset, .unset, .unset, .unset, .unset] [(.long q4), (.long q2), (.ref b92), (.ref b92), (.ref b77), (.ref b77)])) rfl (by rw [hml]; rfl) (Steps.refl _) (a := b92) (argsL := [(.long q2), (.long q4)]) (rest := [(.ref b92), (.ref b77), (.ref b77)]) (lenOf own_pd1 rfl) rfl (by show 2 * 0 + _ ≤ _; exact Nat.le_of_eq rfl) (hb hby at_118) (fun _ _ => ⟨rfl, e91, (by decide : 6 + 0 ≤ _), (by decide : 10 + 0 ≤ _)⟩)
    dsimp only [Pt.U, Pt.locs, Pt.cells, Pt.slots] at X110 l110 y110 z110 st110 hQ110
    subst l110 y110 z110
    obtain ⟨rfl, N110q, K110, f111, f112, f113⟩ := hQ110
    have f114 : Arv Z T110.heap b2 k1 .long (0 : Int32) [] (.long (0 : Int64)) := f100.keep K110 (ninS ne93 nin0)
    have f115 : Arv Z T110.heap b8 k7 .long (1 : Int32) [(.long q2)] (.long (0 : Int64)) := f101.keep K110 (ninS ne94 nin0)
    have f116 : Arv Z T110.heap b21 k20 .long (2 : Int32) [(.long q2), (.long q3)] (.long (0 : Int64)) := f102.keep K110 (ninS ne95 nin0)
    have f117 : Arv Z T110.heap b43 k42 .long (3 : Int32) [(.long q2), (.long q3), (.long q4)] (.long (0 : Int64)) := f103.keep K110 (ninS ne96 nin0)
    have f118 : Exa Z T110.heap b77 "com/example/moraine/moraine/Frames$Cut" := f104.keep K110
    have f119 : Fld Z T110.heap b77 "com/example/moraine/moraine/Frames$Cut" "position" "Lcom/example/moraine/moraine/Position;" .null := f105.keep K110 (ninS ne97 nin0)
    have f120 : Fld Z T110.heap b77 "com/example/moraine/moraine/Frames$Cut" "inParts" "[J" .null := f106.keep K110 (ninS ne97 nin0)
    have f121 : Exa Z T110.heap b92 "com/example/moraine/moraine/Position" := A91.keep K110
    have Kp110 : Keep h0 T110.heap [] := Kp91.trans K110 (allS (Or.inr sz99) all0)
    have Z122 : n0 ≤ T110.heap.size := Nat.le_trans Z109 K110.1
    have N123 := Fr.app N74 N110q
    refine Goes.by (fun _ k => st110.trans k) ?_
    show Goes p.tables e below _ (T110.setTop (mkF m 121 #[.val (.int p0), .val (.int p1), .val (.long q2), .second, .val (.long q3), .second, .val (.long q4), .second, .val (.int (0 : Int32)), .val (.ref b2), .val (.ref b8), .val (.ref b21), .val (.ref b43), .val (.ref b2), .val (.int pt), .unset, .unset, .unset, .unset, .unset] [(.ref b92), (.ref b77), (.ref b77)]))
    refine Goes.by (B := T110.setTop (mkF m 123 #[.val (.int p0), .val (.int p1), .val (.long q2), .second, .val (.long q3), .second, .val (.long q4), .second, .val (.int (0 : Int32)), .val (.ref b2), .val (.ref b8), .val (.ref b21), .val (.ref b43), .val (.ref b2), .val (.int pt), .unset, .unset, .unset, .unset, .unset] [(.ref b2), (.ref b92), (.ref b77), (.ref b77)])) (fun t k => ?_) ?_
    · show Steps p.tables e below (T110.setTop (mkF m 121 #[.val (.int p0), .val (.int p1), .val (.long q2), .second, .val (.long q3), .second, .val (.long q4), .second, .val (.int (0 : Int32)), .val (.ref b2), .val (.ref b8), .val (.ref b21), .val (.ref b43), .val (.ref b2), .val (.int pt), .unset, .unset, .unset, .unset, .unset] [(.ref b92), (.ref b77), (.ref b77)])) t
      refine XS.aload X110.here hx rfl (hb hby at_121) rfl rfl ?_
      exact k
    obtain ⟨_, _, ⟨T124, L124, k124, n124⟩, -, X124, ⟨Lc124, hQ124, l124, y124, z124⟩, st124⟩ := X110.specialBack hx (y := (⟨"com/example/moraine/moraine/Frames$Cut", "<init>", "(Lcom/example/moraine/moraine/Position;[J)V"⟩ : MethodName)) rfl hown (mvT hZ (hw _ (List.mem_of_getElem? (i := 22) rfl))) (mvT hZ (hw _ (List.mem_of_getElem? (i := 23) rfl))) (mvT hZ (hw _ (List.mem_of_getElem? (i := 24) rfl))) (by decide) (backOf (W := 1) (rmCut l Z az hw [] b77 b92 b2 T110.heap n0 Z122 f118 f119 f120 ge82) hZ (hw _ (List.mem_of_getElem? (i := 24) rfl)) (hw _ (List.mem_of_getElem? (i := 3) rfl)) (by decide) (by decide)) (g := (mkF m 123 #[.val (.int p0), .val (.int p1), .val (.long q2), .second, .val (.long q3), .second, .val (.long q4), .second, .val (.int (0 : Int32)), .val (.ref b2), .val (.ref b8), .val (.ref b21), .val (.ref b43), .val (.ref b2), .val (.int pt), .unset, .unset, .unset, .unset, .unset] [(.ref b2), (.ref b92), (.ref b77), (.ref b77)])) rfl (by rw [hml]; rfl) (Steps.refl _) (a := b77) (argsL := [(.ref b92), (.ref b2)]) (rest := [(.ref b77)]) (lenOf own_pd2 rfl) rfl (by show 2 * 0 + _ ≤ _; exact Nat.le_of_eq rfl) (hb hby at_123) (fun _ _ => ⟨rfl, rfl, (by decide : 6 + 0 ≤ _), (by decide : 10 + 0 ≤ _)⟩)
    dsimp only [Pt.U, Pt.locs, Pt.cells, Pt.slots] at X124 l124 y124 z124 st124 hQ124
    subst l124 y124 z124
    obtain ⟨rfl, N124q, K124, f125, f126, f127⟩ := hQ124
    have f128 : Arv Z T124.heap b2 k1 .long (0 : Int32) [] (.long (0 : Int64)) := f114.keep K124 (ninS ne78 nin0)
    have f129 : Arv Z T124.heap b8 k7 .long (1 : Int32) [(.long q2)] (.long (0 : Int64)) := f115.keep K124 (ninS ne79 nin0)
    have f130 : Arv Z T124.heap b21 k20 .long (2 : Int32) [(.long q2), (.long q3)] (.long (0 : Int64)) := f116.keep K124 (ninS ne80 nin0)
    have f131 : Arv Z T124.heap b43 k42 .long (3 : Int32) [(.long q2), (.long q3), (.long q4)] (.long (0 : Int64)) := f117.keep K124 (ninS ne81 nin0)
    have f132 : Exa Z T124.heap b77 "com/example/moraine/moraine/Frames$Cut" := f118.keep K124
    have f133 : Exa Z T124.heap b92 "com/example/moraine/moraine/Position" := f111.keep K124
    have f134 : Fld Z T124.heap b92 "com/example/moraine/moraine/Position" "increments" "J" (.long q2) := f112.keep K124 (ninS (Ne.symm ne97) nin0)
    have f135 : Fld Z T124.heap b92 "com/example/moraine/moraine/Position" "records" "J" (.long q4) := f113.keep K124 (ninS (Ne.symm ne97) nin0)
    have Kp124 : Keep h0 T124.heap [] := Kp110.trans K124 (allS (Or.inr sz83) all0)
    have Z136 : n0 ≤ T124.heap.size := Nat.le_trans Z122 K124.1
    have N137 := Fr.app N123 N124q
    refine Goes.by (fun _ k => st124.trans k) ?_
    show Goes p.tables e below _ (T124.setTop (mkF m 126 #[.val (.int p0), .val (.int p1), .val (.long q2), .second, .val (.long q3), .second, .val (.long q4), .second, .val (.int (0 : Int32)), .val (.ref b2), .val (.ref b8), .val (.ref b21), .val (.ref b43), .val (.ref b2), .val (.int pt), .unset, .unset, .unset, .unset, .unset] [(.ref b77)]))
    refine Goes.by (B := T124.setTop (mkF m 132 #[.val (.int p0), .val (.int p1), .val (.long q2), .second, .val (.long q3), .second, .val (.long q4), .second, .val (.int (0 : Int32)), .val (.ref b2), .val (.ref b8), .val (.ref b21), .val (.ref b43), .val (.ref b2), .val (.int pt), .val (.ref b77), .unset, .unset, .unset, .unset] [(.int pt), (.ref b77)])) (fun t k => ?_) ?_
    · show Steps p.tables e below (T124.setTop (mkF m 126 #[.val (.int p0), .val (.int p1), .val (.long q2), .second, .val (.long q3), .second, .val (.long q4), .second, .val (.int (0 : Int32)), .val (.ref b2), .val (.ref b8), .val (.ref b21), .val (.ref b43), .val (.ref b2), .val (.int pt), .unset, .unset, .unset, .unset, .unset] [(.ref b77)])) t
      refine XS.astore X124.here hx rfl (hb hby at_126) rfl rfl (l' := #[.val (.int p0), .val (.int p1), .val (.long q2), .second, .val (.long q3), .second, .val (.long q4), .second, .val (.int (0 : Int32)), .val (.ref b2), .val (.ref b8), .val (.ref b21), .val (.ref b43), .val (.ref b2), .val (.int pt), .val (.ref b77), .unset, .unset, .unset, .unset]) rfl ?_
      show Steps p.tables e below (T124.setTop (mkF m 128 #[.val (.int p0), .val (.int p1), .val (.long q2), .second, .val (.long q3), .second, .val (.long q4), .second, .val (.int (0 : Int32)), .val (.ref b2), .val (.ref b8), .val (.ref b21), .val (.ref b43), .val (.ref b2), .val (.int pt), .val (.ref b77), .unset, .unset, .unset, .unset] [])) t
      refine XS.aload X124.here hx rfl (hb hby at_128) rfl rfl ?_
      show Steps p.tables e below (T124.setTop (mkF m 130 #[.val (.int p0), .val (.int p1), .val (.long q2), .second, .val (.long q3), .second, .val (.long q4), .second, .val (.int (0 : Int32)), .val (.ref b2), .val (.ref b8), .val (.ref b21), .val (.ref b43), .val (.ref b2), .val (.int pt), .val (.ref b77), .unset, .unset, .unset, .unset] [(.ref b77)])) t
      refine XS.iload X124.here hx rfl (hb hby at_130) rfl ?_
      exact k
    obtain ⟨cq138, kq138, q138a, q138b, q138c⟩ := isOf hZ rfl f125
    obtain ⟨_, _, ⟨T138, L138, k138, n138⟩, -, X138, ⟨Lc138, hQ138, l138, y138, z138⟩, st138⟩ := X124.virtualBack hx (y := (⟨"com/example/moraine/moraine/Frames$Cut", "inPart", "(I)J"⟩ : MethodName)) (z := (⟨"com/example/moraine/moraine/Frames$Cut", "inPart", "(I)J"⟩ : MethodName)) hown (mvT hZ (hw _ (List.mem_of_getElem? (i := 30) rfl))) (mvT hZ (hw _ (List.mem_of_getElem? (i := 31) rfl))) (notFace_of_selects (args := #[]) (mvT hZ (hw _ (List.mem_of_getElem? (i := 33) rfl)))) (mvT hZ (hw _ (List.mem_of_getElem? (i := 33) rfl))) (mvT hZ (hw _ (List.mem_of_getElem? (i := 32) rfl))) (by decide) (backOf (W := 0) (rmIn0 l Z az hw [] b77 pt b2 k1 T124.heap n0 Z136 f127 f128 Hp) hZ (hw _ (List.mem_of_getElem? (i := 34) rfl)) (hw _ (List.mem_of_getElem? (i := 3) rfl)) (by decide) (by decide)) q138a q138c (g := (mkF m 132 #[.val (.int p0), .val (.int p1), .val (.long q2), .second, .val (.long q3), .second, .val (.long q4), .second, .val (.int (0 : Int32)), .val (.ref b2), .val (.ref b8), .val (.ref b21), .val (.ref b43), .val (.ref b2), .val (.int pt), .val (.ref b77), .unset, .unset, .unset, .unset] [(.int pt), (.ref b77)])) rfl (by rw [hml]; rfl) (Steps.refl _) (argsL := [(.int pt)]) (rest := []) (lenOf own_pd3 rfl) rfl (by show 2 * 0 + _ ≤ _; exact Nat.le_of_eq rfl) (hb hby at_132) (fun _ _ => ⟨rfl, rfl, (by decide : 6 + 0 ≤ _), (by decide : 10 + 0 ≤ _)⟩)
    dsimp only [Pt.U, Pt.locs, Pt.cells, Pt.slots] at X138 l138 y138 z138 st138 hQ138
    subst l138 y138 z138
    obtain ⟨rfl, N138q, e138⟩ := hQ138
    have N139 := Fr.app N137 N138q
    refine Goes.by (fun _ k => st138.trans k) ?_
    show Goes p.tables e below _ (T138.setTop (mkF m 135 #[.val (.int p0), .val (.int p1), .val (.long q2), .second, .val (.long q3), .second, .val (.long q4), .second, .val (.int (0 : Int32)), .val (.ref b2), .val (.ref b8), .val (.ref b21), .val (.ref b43), .val (.ref b2), .val (.int pt), .val (.ref b77), .unset, .unset, .unset, .unset] [(.long (0 : Int64))]))
    refine Goes.by (B := T138.setTop (mkF m 142 #[.val (.int p0), .val (.int p1), .val (.long q2), .second, .val (.long q3), .second, .val (.long q4), .second, .val (.int (0 : Int32)), .val (.ref b2), .val (.ref b8), .val (.ref b21), .val (.ref b43), .val (.ref b2), .val (.int pt), .val (.ref b77), .val (.long (0 : Int64)), .second, .val (.long (0 : Int64)), .second] [(.int pt)])) (fun t k => ?_) ?_
    · show Steps p.tables e below (T138.setTop (mkF m 135 #[.val (.int p0), .val (.int p1), .val (.long q2), .second, .val (.long q3), .second, .val (.long q4), .second, .val (.int (0 : Int32)), .val (.ref b2), .val (.ref b8), .val (.ref b21), .val (.ref b43), .val (.ref b2), .val (.int pt), .val (.ref b77), .unset, .unset, .unset, .unset] [(.long (0 : Int64))])) t
      refine XS.lstore X138.here hx rfl (hb hby at_135) rfl (l' := #[.val (.int p0), .val (.int p1), .val (.long q2), .second, .val (.long q3), .second, .val (.long q4), .second, .val (.int (0 : Int32)), .val (.ref b2), .val (.ref b8), .val (.ref b21), .val (.ref b43), .val (.ref b2), .val (.int pt), .val (.ref b77), .val (.long (0 : Int64)), .second, .unset, .unset]) rfl ?_
      show Steps p.tables e below (T138.setTop (mkF m 137 #[.val (.int p0), .val (.int p1), .val (.long q2), .second, .val (.long q3), .second, .val (.long q4), .second, .val (.int (0 : Int32)), .val (.ref b2), .val (.ref b8), .val (.ref b21), .val (.ref b43), .val (.ref b2), .val (.int pt), .val (.ref b77), .val (.long (0 : Int64)), .second, .unset, .unset] [])) t
      refine XS.lconst X138.here hx rfl (hb hby at_137) ?_
      show Steps p.tables e below (T138.setTop (mkF m 138 #[.val (.int p0), .val (.int p1), .val (.long q2), .second, .val (.long q3), .second, .val (.long q4), .second, .val (.int (0 : Int32)), .val (.ref b2), .val (.ref b8), .val (.ref b21), .val (.ref b43), .val (.ref b2), .val (.int pt), .val (.ref b77), .val (.long (0 : Int64)), .second, .unset, .unset] [(.long (0 : Int64))])) t
      refine XS.lstore X138.here hx rfl (hb hby at_138) rfl (l' := #[.val (.int p0), .val (.int p1), .val (.long q2), .second, .val (.long q3), .second, .val (.long q4), .second, .val (.int (0 : Int32)), .val (.ref b2), .val (.ref b8), .val (.ref b21), .val (.ref b43), .val (.ref b2), .val (.int pt), .val (.ref b77), .val (.long (0 : Int64)), .second, .val (.long (0 : Int64)), .second]) rfl ?_
      show Steps p.tables e below (T138.setTop (mkF m 140 #[.val (.int p0), .val (.int p1), .val (.long q2), .second, .val (.long q3), .second, .val (.long q4), .second, .val (.int (0 : Int32)), .val (.ref b2), .val (.ref b8), .val (.ref b21), .val (.ref b43), .val (.ref b2), .val (.int pt), .val (.ref b77), .val (.long (0 : Int64)), .second, .val (.long (0 : Int64)), .second] [])) t
      refine XS.iload X138.here hx rfl (hb hby at_140) rfl ?_
      exact k
    by_cases hc140 : pt = (0 : Int32)
    · refine Goes.by (B := T138.setTop (mkF m 159 #[.val (.int p0), .val (.int p1), .val (.long q2), .second, .val (.long q3), .second, .val (.long q4), .second, .val (.int (0 : Int32)), .val (.ref b2), .val (.ref b8), .val (.ref b21), .val (.ref b43), .val (.ref b2), .val (.int pt), .val (.ref b77), .val (.long (0 : Int64)), .second, .val (.long (0 : Int64)), .second] [(.int (1 : Int32)), (.int pt)])) (fun t k => ?_) ?_
      · show Steps p.tables e below (T138.setTop (mkF m 142 #[.val (.int p0), .val (.int p1), .val (.long q2), .second, .val (.long q3), .second, .val (.long q4), .second, .val (.int (0 : Int32)), .val (.ref b2), .val (.ref b8), .val (.ref b21), .val (.ref b43), .val (.ref b2), .val (.int pt), .val (.ref b77), .val (.long (0 : Int64)), .second, .val (.long (0 : Int64)), .second] [(.int pt)])) t
        refine XS.ifNo X138.here hx rfl (hb hby at_142) rfl ((if0 _ _).trans (teq hc140).2) ?_
        show Steps p.tables e below (T138.setTop (mkF m 145 #[.val (.int p0), .val (.int p1), .val (.long q2), .second, .val (.long q3), .second, .val (.long q4), .second, .val (.int (0 : Int32)), .val (.ref b2), .val (.ref b8), .val (.ref b21), .val (.ref b43), .val (.ref b2), .val (.int pt), .val (.ref b77), .val (.long (0 : Int64)), .second, .val (.long (0 : Int64)), .second] [])) t
        refine XS.iload X138.here hx rfl (hb hby at_145) rfl ?_
        show Steps p.tables e below (T138.setTop (mkF m 147 #[.val (.int p0), .val (.int p1), .val (.long q2), .second, .val (.long q3), .second, .val (.long q4), .second, .val (.int (0 : Int32)), .val (.ref b2), .val (.ref b8), .val (.ref b21), .val (.ref b43), .val (.ref b2), .val (.int pt), .val (.ref b77), .val (.long (0 : Int64)), .second, .val (.long (0 : Int64)), .second] [(.int (0 : Int32))])) t
        refine XS.ifYes X138.here hx rfl (pc0 := 147) (pc' := 156) rfl (hb hby at_147) rfl ((if0 _ _).trans (flt (by decide : ¬ ((0 : Int32) < (0 : Int32)))).2.2.2) (by decide) (by decide) ?_
        show Steps p.tables e below (T138.setTop (mkF m 156 #[.val (.int p0), .val (.int p1), .val (.long q2), .second, .val (.long q3), .second, .val (.long q4), .second, .val (.int (0 : Int32)), .val (.ref b2), .val (.ref b8), .val (.ref b21), .val (.ref b43), .val (.ref b2), .val (.int pt), .val (.ref b77), .val (.long (0 : Int64)), .second, .val (.long (0 : Int64)), .second] [])) t
        refine XS.iload X138.here hx rfl (hb hby at_156) rfl ?_
        show Steps p.tables e below (T138.setTop (mkF m 158 #[.val (.int p0), .val (.int p1), .val (.long q2), .second, .val (.long q3), .second, .val (.long q4), .second, .val (.int (0 : Int32)), .val (.ref b2), .val (.ref b8), .val (.ref b21), .val (.ref b43), .val (.ref b2), .val (.int pt), .val (.ref b77), .val (.long (0 : Int64)), .second, .val (.long (0 : Int64)), .second] [(.int pt)])) t
        refine XS.iconst X138.here hx rfl (hb hby at_158) ?_
        exact k
      by_cases hc141 : pt = (1 : Int32)
      · refine Goes.by (B := T138.setTop (mkF m 178 #[.val (.int p0), .val (.int p1), .val (.long q2), .second, .val (.long q3), .second, .val (.long q4), .second, .val (.int (0 : Int32)), .val (.ref b2), .val (.ref b8), .val (.ref b21), .val (.ref b43), .val (.ref b2), .val (.int pt), .val (.ref b77), .val (.long (0 : Int64)), .second, .val (.long (0 : Int64)), .second] [(.int (2 : Int32)), (.int pt)])) (fun t k => ?_) ?_
        · show Steps p.tables e below (T138.setTop (mkF m 159 #[.val (.int p0), .val (.int p1), .val (.long q2), .second, .val (.long q3), .second, .val (.long q4), .second, .val (.int (0 : Int32)), .val (.ref b2), .val (.ref b8), .val (.ref b21), .val (.ref b43), .val (.ref b2), .val (.int pt), .val (.ref b77), .val (.long (0 : Int64)), .second, .val (.long (0 : Int64)), .second] [(.int (1 : Int32)), (.int pt)])) t
          refine XS.icmpNo X138.here hx rfl (hb hby at_159) rfl (teq hc141).2 ?_
          show Steps p.tables e below (T138.setTop (mkF m 162 #[.val (.int p0), .val (.int p1), .val (.long q2), .second, .val (.long q3), .second, .val (.long q4), .second, .val (.int (0 : Int32)), .val (.ref b2), .val (.ref b8), .val (.ref b21), .val (.ref b43), .val (.ref b2), .val (.int pt), .val (.ref b77), .val (.long (0 : Int64)), .second, .val (.long (0 : Int64)), .second] [])) t
          refine XS.iload X138.here hx rfl (hb hby at_162) rfl ?_
          show Steps p.tables e below (T138.setTop (mkF m 164 #[.val (.int p0), .val (.int p1), .val (.long q2), .second, .val (.long q3), .second, .val (.long q4), .second, .val (.int (0 : Int32)), .val (.ref b2), .val (.ref b8), .val (.ref b21), .val (.ref b43), .val (.ref b2), .val (.int pt), .val (.ref b77), .val (.long (0 : Int64)), .second, .val (.long (0 : Int64)), .second] [(.int (0 : Int32))])) t
          refine XS.iconst X138.here hx rfl (hb hby at_164) ?_
          show Steps p.tables e below (T138.setTop (mkF m 165 #[.val (.int p0), .val (.int p1), .val (.long q2), .second, .val (.long q3), .second, .val (.long q4), .second, .val (.int (0 : Int32)), .val (.ref b2), .val (.ref b8), .val (.ref b21), .val (.ref b43), .val (.ref b2), .val (.int pt), .val (.ref b77), .val (.long (0 : Int64)), .second, .val (.long (0 : Int64)), .second] [(.int (1 : Int32)), (.int (0 : Int32))])) t
          refine XS.icmpYes X138.here hx rfl (pc0 := 165) (pc' := 175) rfl (hb hby at_165) rfl (flt (by decide : ¬ ((1 : Int32) < (0 : Int32)))).2.2.2 (by decide) (by decide) ?_
          show Steps p.tables e below (T138.setTop (mkF m 175 #[.val (.int p0), .val (.int p1), .val (.long q2), .second, .val (.long q3), .second, .val (.long q4), .second, .val (.int (0 : Int32)), .val (.ref b2), .val (.ref b8), .val (.ref b21), .val (.ref b43), .val (.ref b2), .val (.int pt), .val (.ref b77), .val (.long (0 : Int64)), .second, .val (.long (0 : Int64)), .second] [])) t
          refine XS.iload X138.here hx rfl (hb hby at_175) rfl ?_
          show Steps p.tables e below (T138.setTop (mkF m 177 #[.val (.int p0), .val (.int p1), .val (.long q2), .second, .val (.long q3), .second, .val (.long q4), .second, .val (.int (0 : Int32)), .val (.ref b2), .val (.ref b8), .val (.ref b21), .val (.ref b43), .val (.ref b2), .val (.int pt), .val (.ref b77), .val (.long (0 : Int64)), .second, .val (.long (0 : Int64)), .second] [(.int pt)])) t
          refine XS.iconst X138.here hx rfl (hb hby at_177) ?_
          exact k
        by_cases hc142 : pt = (2 : Int32)
        · refine Goes.by (B := T138.setTop (mkF m 204 #[.val (.int p0), .val (.int p1), .val (.long q2), .second, .val (.long q3), .second, .val (.long q4), .second, .val (.int (0 : Int32)), .val (.ref b2), .val (.ref b8), .val (.ref b21), .val (.ref b43), .val (.ref b2), .val (.int pt), .val (.ref b77), .val (.long (0 : Int64)), .second, .val (.long (0 : Int64)), .second] [(.int (1 : Int32))])) (fun t k => ?_) ?_
          · show Steps p.tables e below (T138.setTop (mkF m 178 #[.val (.int p0), .val (.int p1), .val (.long q2), .second, .val (.long q3), .second, .val (.long q4), .second, .val (.int (0 : Int32)), .val (.ref b2), .val (.ref b8), .val (.ref b21), .val (.ref b43), .val (.ref b2), .val (.int pt), .val (.ref b77), .val (.long (0 : Int64)), .second, .val (.long (0 : Int64)), .second] [(.int (2 : Int32)), (.int pt)])) t
            refine XS.icmpNo X138.here hx rfl (hb hby at_178) rfl (teq hc142).2 ?_
            show Steps p.tables e below (T138.setTop (mkF m 181 #[.val (.int p0), .val (.int p1), .val (.long q2), .second, .val (.long q3), .second, .val (.long q4), .second, .val (.int (0 : Int32)), .val (.ref b2), .val (.ref b8), .val (.ref b21), .val (.ref b43), .val (.ref b2), .val (.int pt), .val (.ref b77), .val (.long (0 : Int64)), .second, .val (.long (0 : Int64)), .second] [])) t
            refine XS.iload X138.here hx rfl (hb hby at_181) rfl ?_
            show Steps p.tables e below (T138.setTop (mkF m 183 #[.val (.int p0), .val (.int p1), .val (.long q2), .second, .val (.long q3), .second, .val (.long q4), .second, .val (.int (0 : Int32)), .val (.ref b2), .val (.ref b8), .val (.ref b21), .val (.ref b43), .val (.ref b2), .val (.int pt), .val (.ref b77), .val (.long (0 : Int64)), .second, .val (.long (0 : Int64)), .second] [(.int (0 : Int32))])) t
            refine XS.iconst X138.here hx rfl (hb hby at_183) ?_
            show Steps p.tables e below (T138.setTop (mkF m 184 #[.val (.int p0), .val (.int p1), .val (.long q2), .second, .val (.long q3), .second, .val (.long q4), .second, .val (.int (0 : Int32)), .val (.ref b2), .val (.ref b8), .val (.ref b21), .val (.ref b43), .val (.ref b2), .val (.int pt), .val (.ref b77), .val (.long (0 : Int64)), .second, .val (.long (0 : Int64)), .second] [(.int (2 : Int32)), (.int (0 : Int32))])) t
            refine XS.icmpYes X138.here hx rfl (pc0 := 184) (pc' := 191) rfl (hb hby at_184) rfl (flt (by decide : ¬ ((2 : Int32) < (0 : Int32)))).2.2.2 (by decide) (by decide) ?_
            show Steps p.tables e below (T138.setTop (mkF m 191 #[.val (.int p0), .val (.int p1), .val (.long q2), .second, .val (.long q3), .second, .val (.long q4), .second, .val (.int (0 : Int32)), .val (.ref b2), .val (.ref b8), .val (.ref b21), .val (.ref b43), .val (.ref b2), .val (.int pt), .val (.ref b77), .val (.long (0 : Int64)), .second, .val (.long (0 : Int64)), .second] [])) t
            refine XS.lload X138.here hx rfl (hb hby at_191) rfl ?_
            show Steps p.tables e below (T138.setTop (mkF m 193 #[.val (.int p0), .val (.int p1), .val (.long q2), .second, .val (.long q3), .second, .val (.long q4), .second, .val (.int (0 : Int32)), .val (.ref b2), .val (.ref b8), .val (.ref b21), .val (.ref b43), .val (.ref b2), .val (.int pt), .val (.ref b77), .val (.long (0 : Int64)), .second, .val (.long (0 : Int64)), .second] [(.long (0 : Int64))])) t
            refine XS.lload X138.here hx rfl (hb hby at_193) rfl ?_
            show Steps p.tables e below (T138.setTop (mkF m 195 #[.val (.int p0), .val (.int p1), .val (.long q2), .second, .val (.long q3), .second, .val (.long q4), .second, .val (.int (0 : Int32)), .val (.ref b2), .val (.ref b8), .val (.ref b21), .val (.ref b43), .val (.ref b2), .val (.int pt), .val (.ref b77), .val (.long (0 : Int64)), .second, .val (.long (0 : Int64)), .second] [(.long (0 : Int64)), (.long (0 : Int64))])) t
            refine XS.lcmp X138.here hx rfl (hb hby at_195) rfl ?_
            show Steps p.tables e below (T138.setTop (mkF m 196 #[.val (.int p0), .val (.int p1), .val (.long q2), .second, .val (.long q3), .second, .val (.long q4), .second, .val (.int (0 : Int32)), .val (.ref b2), .val (.ref b8), .val (.ref b21), .val (.ref b43), .val (.ref b2), .val (.int pt), .val (.ref b77), .val (.long (0 : Int64)), .second, .val (.long (0 : Int64)), .second] [(.int (lcmpW (0 : Int64) (0 : Int64)))])) t
            refine XS.ifNo X138.here hx rfl (hb hby at_196) rfl ((if0 _ _).trans (teq ((lw_eq (0 : Int64) (0 : Int64)).mpr rfl)).2) ?_
            show Steps p.tables e below (T138.setTop (mkF m 199 #[.val (.int p0), .val (.int p1), .val (.long q2), .second, .val (.long q3), .second, .val (.long q4), .second, .val (.int (0 : Int32)), .val (.ref b2), .val (.ref b8), .val (.ref b21), .val (.ref b43), .val (.ref b2), .val (.int pt), .val (.ref b77), .val (.long (0 : Int64)), .second, .val (.long (0 : Int64)), .second] [])) t
            refine XS.iconst X138.here hx rfl (hb hby at_199) ?_
            show Steps p.tables e below (T138.setTop (mkF m 200 #[.val (.int p0), .val (.int p1), .val (.long q2), .second, .val (.long q3), .second, .val (.long q4), .second, .val (.int (0 : Int32)), .val (.ref b2), .val (.ref b8), .val (.ref b21), .val (.ref b43), .val (.ref b2), .val (.int pt), .val (.ref b77), .val (.long (0 : Int64)), .second, .val (.long (0 : Int64)), .second] [(.int (1 : Int32))])) t
            refine XS.goto X138.here hx rfl (pc0 := 200) (pc' := 204) rfl (hb hby at_200) (by decide) (by decide) ?_
            exact k
          obtain ⟨fs, hr, hrun, hended, hW, hsame⟩ := X138.leave (v := some (.int (1 : Int32))) (fun h => by rw [Bd.returns] at h; cases h)
          refine Goes.mk _ _ ?_ ⟨hrun, hended, _, _, rfl, ?_, ⟨_, rfl⟩, hW, hsame.mono (by decide) (by decide)⟩
          · exact retN X138 hx (t := .boolean) Bd.returns (by simp) (hb hby at_204) hr
          · show Q0 Z p0 p1 q2 q3 q4 h0 n0 _ T138.heap _
            rw [e138]
            exact ⟨rfl, N139⟩
        · refine Goes.by (B := T138.setTop (mkF m 204 #[.val (.int p0), .val (.int p1), .val (.long q2), .second, .val (.long q3), .second, .val (.long q4), .second, .val (.int (0 : Int32)), .val (.ref b2), .val (.ref b8), .val (.ref b21), .val (.ref b43), .val (.ref b2), .val (.int pt), .val (.ref b77), .val (.long (0 : Int64)), .second, .val (.long (0 : Int64)), .second] [(.int (1 : Int32))])) (fun t k => ?_) ?_
          · show Steps p.tables e below (T138.setTop (mkF m 178 #[.val (.int p0), .val (.int p1), .val (.long q2), .second, .val (.long q3), .second, .val (.long q4), .second, .val (.int (0 : Int32)), .val (.ref b2), .val (.ref b8), .val (.ref b21), .val (.ref b43), .val (.ref b2), .val (.int pt), .val (.ref b77), .val (.long (0 : Int64)), .second, .val (.long (0 : Int64)), .second] [(.int (2 : Int32)), (.int pt)])) t
            refine XS.icmpYes X138.here hx rfl (pc0 := 178) (pc' := 191) rfl (hb hby at_178) rfl (feq hc142).2 (by decide) (by decide) ?_
            show Steps p.tables e below (T138.setTop (mkF m 191 #[.val (.int p0), .val (.int p1), .val (.long q2), .second, .val (.long q3), .second, .val (.long q4), .second, .val (.int (0 : Int32)), .val (.ref b2), .val (.ref b8), .val (.ref b21), .val (.ref b43), .val (.ref b2), .val (.int pt), .val (.ref b77), .val (.long (0 : Int64)), .second, .val (.long (0 : Int64)), .second] [])) t
            refine XS.lload X138.here hx rfl (hb hby at_191) rfl ?_
            show Steps p.tables e below (T138.setTop (mkF m 193 #[.val (.int p0), .val (.int p1), .val (.long q2), .second, .val (.long q3), .second, .val (.long q4), .second, .val (.int (0 : Int32)), .val (.ref b2), .val (.ref b8), .val (.ref b21), .val (.ref b43), .val (.ref b2), .val (.int pt), .val (.ref b77), .val (.long (0 : Int64)), .second, .val (.long (0 : Int64)), .second] [(.long (0 : Int64))])) t
            refine XS.lload X138.here hx rfl (hb hby at_193) rfl ?_
            show Steps p.tables e below (T138.setTop (mkF m 195 #[.val (.int p0), .val (.int p1), .val (.long q2), .second, .val (.long q3), .second, .val (.long q4), .second, .val (.int (0 : Int32)), .val (.ref b2), .val (.ref b8), .val (.ref b21), .val (.ref b43), .val (.ref b2), .val (.int pt), .val (.ref b77), .val (.long (0 : Int64)), .second, .val (.long (0 : Int64)), .second] [(.long (0 : Int64)), (.long (0 : Int64))])) t
            refine XS.lcmp X138.here hx rfl (hb hby at_195) rfl ?_
            show Steps p.tables e below (T138.setTop (mkF m 196 #[.val (.int p0), .val (.int p1), .val (.long q2), .second, .val (.long q3), .second, .val (.long q4), .second, .val (.int (0 : Int32)), .val (.ref b2), .val (.ref b8), .val (.ref b21), .val (.ref b43), .val (.ref b2), .val (.int pt), .val (.ref b77), .val (.long (0 : Int64)), .second, .val (.long (0 : Int64)), .second] [(.int (lcmpW (0 : Int64) (0 : Int64)))])) t
            refine XS.ifNo X138.here hx rfl (hb hby at_196) rfl ((if0 _ _).trans (teq ((lw_eq (0 : Int64) (0 : Int64)).mpr rfl)).2) ?_
            show Steps p.tables e below (T138.setTop (mkF m 199 #[.val (.int p0), .val (.int p1), .val (.long q2), .second, .val (.long q3), .second, .val (.long q4), .second, .val (.int (0 : Int32)), .val (.ref b2), .val (.ref b8), .val (.ref b21), .val (.ref b43), .val (.ref b2), .val (.int pt), .val (.ref b77), .val (.long (0 : Int64)), .second, .val (.long (0 : Int64)), .second] [])) t
            refine XS.iconst X138.here hx rfl (hb hby at_199) ?_
            show Steps p.tables e below (T138.setTop (mkF m 200 #[.val (.int p0), .val (.int p1), .val (.long q2), .second, .val (.long q3), .second, .val (.long q4), .second, .val (.int (0 : Int32)), .val (.ref b2), .val (.ref b8), .val (.ref b21), .val (.ref b43), .val (.ref b2), .val (.int pt), .val (.ref b77), .val (.long (0 : Int64)), .second, .val (.long (0 : Int64)), .second] [(.int (1 : Int32))])) t
            refine XS.goto X138.here hx rfl (pc0 := 200) (pc' := 204) rfl (hb hby at_200) (by decide) (by decide) ?_
            exact k
          obtain ⟨fs, hr, hrun, hended, hW, hsame⟩ := X138.leave (v := some (.int (1 : Int32))) (fun h => by rw [Bd.returns] at h; cases h)
          refine Goes.mk _ _ ?_ ⟨hrun, hended, _, _, rfl, ?_, ⟨_, rfl⟩, hW, hsame.mono (by decide) (by decide)⟩
          · exact retN X138 hx (t := .boolean) Bd.returns (by simp) (hb hby at_204) hr
          · show Q0 Z p0 p1 q2 q3 q4 h0 n0 _ T138.heap _
            rw [e138]
            exact ⟨rfl, N139⟩
      · refine Goes.by (B := T138.setTop (mkF m 178 #[.val (.int p0), .val (.int p1), .val (.long q2), .second, .val (.long q3), .second, .val (.long q4), .second, .val (.int (0 : Int32)), .val (.ref b2), .val (.ref b8), .val (.ref b21), .val (.ref b43), .val (.ref b2), .val (.int pt), .val (.ref b77), .val (.long (0 : Int64)), .second, .val (.long (0 : Int64)), .second] [(.int (2 : Int32)), (.int pt)])) (fun t k => ?_) ?_
        · show Steps p.tables e below (T138.setTop (mkF m 159 #[.val (.int p0), .val (.int p1), .val (.long q2), .second, .val (.long q3), .second, .val (.long q4), .second, .val (.int (0 : Int32)), .val (.ref b2), .val (.ref b8), .val (.ref b21), .val (.ref b43), .val (.ref b2), .val (.int pt), .val (.ref b77), .val (.long (0 : Int64)), .second, .val (.long (0 : Int64)), .second] [(.int (1 : Int32)), (.int pt)])) t
          refine XS.icmpYes X138.here hx rfl (pc0 := 159) (pc' := 175) rfl (hb hby at_159) rfl (feq hc141).2 (by decide) (by decide) ?_
          show Steps p.tables e below (T138.setTop (mkF m 175 #[.val (.int p0), .val (.int p1), .val (.long q2), .second, .val (.long q3), .second, .val (.long q4), .second, .val (.int (0 : Int32)), .val (.ref b2), .val (.ref b8), .val (.ref b21), .val (.ref b43), .val (.ref b2), .val (.int pt), .val (.ref b77), .val (.long (0 : Int64)), .second, .val (.long (0 : Int64)), .second] [])) t
          refine XS.iload X138.here hx rfl (hb hby at_175) rfl ?_
          show Steps p.tables e below (T138.setTop (mkF m 177 #[.val (.int p0), .val (.int p1), .val (.long q2), .second, .val (.long q3), .second, .val (.long q4), .second, .val (.int (0 : Int32)), .val (.ref b2), .val (.ref b8), .val (.ref b21), .val (.ref b43), .val (.ref b2), .val (.int pt), .val (.ref b77), .val (.long (0 : Int64)), .second, .val (.long (0 : Int64)), .second] [(.int pt)])) t
          refine XS.iconst X138.here hx rfl (hb hby at_177) ?_
          exact k
        by_cases hc143 : pt = (2 : Int32)
        · refine Goes.by (B := T138.setTop (mkF m 204 #[.val (.int p0), .val (.int p1), .val (.long q2), .second, .val (.long q3), .second, .val (.long q4), .second, .val (.int (0 : Int32)), .val (.ref b2), .val (.ref b8), .val (.ref b21), .val (.ref b43), .val (.ref b2), .val (.int pt), .val (.ref b77), .val (.long (0 : Int64)), .second, .val (.long (0 : Int64)), .second] [(.int (1 : Int32))])) (fun t k => ?_) ?_
          · show Steps p.tables e below (T138.setTop (mkF m 178 #[.val (.int p0), .val (.int p1), .val (.long q2), .second, .val (.long q3), .second, .val (.long q4), .second, .val (.int (0 : Int32)), .val (.ref b2), .val (.ref b8), .val (.ref b21), .val (.ref b43), .val (.ref b2), .val (.int pt), .val (.ref b77), .val (.long (0 : Int64)), .second, .val (.long (0 : Int64)), .second] [(.int (2 : Int32)), (.int pt)])) t
            refine XS.icmpNo X138.here hx rfl (hb hby at_178) rfl (teq hc143).2 ?_
            show Steps p.tables e below (T138.setTop (mkF m 181 #[.val (.int p0), .val (.int p1), .val (.long q2), .second, .val (.long q3), .second, .val (.long q4), .second, .val (.int (0 : Int32)), .val (.ref b2), .val (.ref b8), .val (.ref b21), .val (.ref b43), .val (.ref b2), .val (.int pt), .val (.ref b77), .val (.long (0 : Int64)), .second, .val (.long (0 : Int64)), .second] [])) t
            refine XS.iload X138.here hx rfl (hb hby at_181) rfl ?_
            show Steps p.tables e below (T138.setTop (mkF m 183 #[.val (.int p0), .val (.int p1), .val (.long q2), .second, .val (.long q3), .second, .val (.long q4), .second, .val (.int (0 : Int32)), .val (.ref b2), .val (.ref b8), .val (.ref b21), .val (.ref b43), .val (.ref b2), .val (.int pt), .val (.ref b77), .val (.long (0 : Int64)), .second, .val (.long (0 : Int64)), .second] [(.int (0 : Int32))])) t
            refine XS.iconst X138.here hx rfl (hb hby at_183) ?_
            show Steps p.tables e below (T138.setTop (mkF m 184 #[.val (.int p0), .val (.int p1), .val (.long q2), .second, .val (.long q3), .second, .val (.long q4), .second, .val (.int (0 : Int32)), .val (.ref b2), .val (.ref b8), .val (.ref b21), .val (.ref b43), .val (.ref b2), .val (.int pt), .val (.ref b77), .val (.long (0 : Int64)), .second, .val (.long (0 : Int64)), .second] [(.int (2 : Int32)), (.int (0 : Int32))])) t
            refine XS.icmpYes X138.here hx rfl (pc0 := 184) (pc' := 191) rfl (hb hby at_184) rfl (flt (by decide : ¬ ((2 : Int32) < (0 : Int32)))).2.2.2 (by decide) (by decide) ?_
            show Steps p.tables e below (T138.setTop (mkF m 191 #[.val (.int p0), .val (.int p1), .val (.long q2), .second, .val (.long q3), .second, .val (.long q4), .second, .val (.int (0 : Int32)), .val (.ref b2), .val (.ref b8), .val (.ref b21), .val (.ref b43), .val (.ref b2), .val (.int pt), .val (.ref b77), .val (.long (0 : Int64)), .second, .val (.long (0 : Int64)), .second] [])) t
            refine XS.lload X138.here hx rfl (hb hby at_191) rfl ?_
            show Steps p.tables e below (T138.setTop (mkF m 193 #[.val (.int p0), .val (.int p1), .val (.long q2), .second, .val (.long q3), .second, .val (.long q4), .second, .val (.int (0 : Int32)), .val (.ref b2), .val (.ref b8), .val (.ref b21), .val (.ref b43), .val (.ref b2), .val (.int pt), .val (.ref b77), .val (.long (0 : Int64)), .second, .val (.long (0 : Int64)), .second] [(.long (0 : Int64))])) t
            refine XS.lload X138.here hx rfl (hb hby at_193) rfl ?_
            show Steps p.tables e below (T138.setTop (mkF m 195 #[.val (.int p0), .val (.int p1), .val (.long q2), .second, .val (.long q3), .second, .val (.long q4), .second, .val (.int (0 : Int32)), .val (.ref b2), .val (.ref b8), .val (.ref b21), .val (.ref b43), .val (.ref b2), .val (.int pt), .val (.ref b77), .val (.long (0 : Int64)), .second, .val (.long (0 : Int64)), .second] [(.long (0 : Int64)), (.long (0 : Int64))])) t
            refine XS.lcmp X138.here hx rfl (hb hby at_195) rfl ?_
            show Steps p.tables e below (T138.setTop (mkF m 196 #[.val (.int p0), .val (.int p1), .val (.long q2), .second, .val (.long q3), .second, .val (.long q4), .second, .val (.int (0 : Int32)), .val (.ref b2), .val (.ref b8), .val (.ref b21), .val (.ref b43), .val (.ref b2), .val (.int pt), .val (.ref b77), .val (.long (0 : Int64)), .second, .val (.long (0 : Int64)), .second] [(.int (lcmpW (0 : Int64) (0 : Int64)))])) t
            refine XS.ifNo X138.here hx rfl (hb hby at_196) rfl ((if0 _ _).trans (teq ((lw_eq (0 : Int64) (0 : Int64)).mpr rfl)).2) ?_
            show Steps p.tables e below (T138.setTop (mkF m 199 #[.val (.int p0), .val (.int p1), .val (.long q2), .second, .val (.long q3), .second, .val (.long q4), .second, .val (.int (0 : Int32)), .val (.ref b2), .val (.ref b8), .val (.ref b21), .val (.ref b43), .val (.ref b2), .val (.int pt), .val (.ref b77), .val (.long (0 : Int64)), .second, .val (.long (0 : Int64)), .second] [])) t
            refine XS.iconst X138.here hx rfl (hb hby at_199) ?_
            show Steps p.tables e below (T138.setTop (mkF m 200 #[.val (.int p0), .val (.int p1), .val (.long q2), .second, .val (.long q3), .second, .val (.long q4), .second, .val (.int (0 : Int32)), .val (.ref b2), .val (.ref b8), .val (.ref b21), .val (.ref b43), .val (.ref b2), .val (.int pt), .val (.ref b77), .val (.long (0 : Int64)), .second, .val (.long (0 : Int64)), .second] [(.int (1 : Int32))])) t
            refine XS.goto X138.here hx rfl (pc0 := 200) (pc' := 204) rfl (hb hby at_200) (by decide) (by decide) ?_
            exact k
          obtain ⟨fs, hr, hrun, hended, hW, hsame⟩ := X138.leave (v := some (.int (1 : Int32))) (fun h => by rw [Bd.returns] at h; cases h)
          refine Goes.mk _ _ ?_ ⟨hrun, hended, _, _, rfl, ?_, ⟨_, rfl⟩, hW, hsame.mono (by decide) (by decide)⟩
          · exact retN X138 hx (t := .boolean) Bd.returns (by simp) (hb hby at_204) hr
          · show Q0 Z p0 p1 q2 q3 q4 h0 n0 _ T138.heap _
            rw [e138]
            exact ⟨rfl, N139⟩
        · refine Goes.by (B := T138.setTop (mkF m 204 #[.val (.int p0), .val (.int p1), .val (.long q2), .second, .val (.long q3), .second, .val (.long q4), .second, .val (.int (0 : Int32)), .val (.ref b2), .val (.ref b8), .val (.ref b21), .val (.ref b43), .val (.ref b2), .val (.int pt), .val (.ref b77), .val (.long (0 : Int64)), .second, .val (.long (0 : Int64)), .second] [(.int (1 : Int32))])) (fun t k => ?_) ?_
          · show Steps p.tables e below (T138.setTop (mkF m 178 #[.val (.int p0), .val (.int p1), .val (.long q2), .second, .val (.long q3), .second, .val (.long q4), .second, .val (.int (0 : Int32)), .val (.ref b2), .val (.ref b8), .val (.ref b21), .val (.ref b43), .val (.ref b2), .val (.int pt), .val (.ref b77), .val (.long (0 : Int64)), .second, .val (.long (0 : Int64)), .second] [(.int (2 : Int32)), (.int pt)])) t
            refine XS.icmpYes X138.here hx rfl (pc0 := 178) (pc' := 191) rfl (hb hby at_178) rfl (feq hc143).2 (by decide) (by decide) ?_
            show Steps p.tables e below (T138.setTop (mkF m 191 #[.val (.int p0), .val (.int p1), .val (.long q2), .second, .val (.long q3), .second, .val (.long q4), .second, .val (.int (0 : Int32)), .val (.ref b2), .val (.ref b8), .val (.ref b21), .val (.ref b43), .val (.ref b2), .val (.int pt), .val (.ref b77), .val (.long (0 : Int64)), .second, .val (.long (0 : Int64)), .second] [])) t
            refine XS.lload X138.here hx rfl (hb hby at_191) rfl ?_
            show Steps p.tables e below (T138.setTop (mkF m 193 #[.val (.int p0), .val (.int p1), .val (.long q2), .second, .val (.long q3), .second, .val (.long q4), .second, .val (.int (0 : Int32)), .val (.ref b2), .val (.ref b8), .val (.ref b21), .val (.ref b43), .val (.ref b2), .val (.int pt), .val (.ref b77), .val (.long (0 : Int64)), .second, .val (.long (0 : Int64)), .second] [(.long (0 : Int64))])) t
            refine XS.lload X138.here hx rfl (hb hby at_193) rfl ?_
            show Steps p.tables e below (T138.setTop (mkF m 195 #[.val (.int p0), .val (.int p1), .val (.long q2), .second, .val (.long q3), .second, .val (.long q4), .second, .val (.int (0 : Int32)), .val (.ref b2), .val (.ref b8), .val (.ref b21), .val (.ref b43), .val (.ref b2), .val (.int pt), .val (.ref b77), .val (.long (0 : Int64)), .second, .val (.long (0 : Int64)), .second] [(.long (0 : Int64)), (.long (0 : Int64))])) t
            refine XS.lcmp X138.here hx rfl (hb hby at_195) rfl ?_
            show Steps p.tables e below (T138.setTop (mkF m 196 #[.val (.int p0), .val (.int p1), .val (.long q2), .second, .val (.long q3), .second, .val (.long q4), .second, .val (.int (0 : Int32)), .val (.ref b2), .val (.ref b8), .val (.ref b21), .val (.ref b43), .val (.ref b2), .val (.int pt), .val (.ref b77), .val (.long (0 : Int64)), .second, .val (.long (0 : Int64)), .second] [(.int (lcmpW (0 : Int64) (0 : Int64)))])) t
            refine XS.ifNo X138.here hx rfl (hb hby at_196) rfl ((if0 _ _).trans (teq ((lw_eq (0 : Int64) (0 : Int64)).mpr rfl)).2) ?_
            show Steps p.tables e below (T138.setTop (mkF m 199 #[.val (.int p0), .val (.int p1), .val (.long q2), .second, .val (.long q3), .second, .val (.long q4), .second, .val (.int (0 : Int32)), .val (.ref b2), .val (.ref b8), .val (.ref b21), .val (.ref b43), .val (.ref b2), .val (.int pt), .val (.ref b77), .val (.long (0 : Int64)), .second, .val (.long (0 : Int64)), .second] [])) t
            refine XS.iconst X138.here hx rfl (hb hby at_199) ?_
            show Steps p.tables e below (T138.setTop (mkF m 200 #[.val (.int p0), .val (.int p1), .val (.long q2), .second, .val (.long q3), .second, .val (.long q4), .second, .val (.int (0 : Int32)), .val (.ref b2), .val (.ref b8), .val (.ref b21), .val (.ref b43), .val (.ref b2), .val (.int pt), .val (.ref b77), .val (.long (0 : Int64)), .second, .val (.long (0 : Int64)), .second] [(.int (1 : Int32))])) t
            refine XS.goto X138.here hx rfl (pc0 := 200) (pc' := 204) rfl (hb hby at_200) (by decide) (by decide) ?_
            exact k
          obtain ⟨fs, hr, hrun, hended, hW, hsame⟩ := X138.leave (v := some (.int (1 : Int32))) (fun h => by rw [Bd.returns] at h; cases h)
          refine Goes.mk _ _ ?_ ⟨hrun, hended, _, _, rfl, ?_, ⟨_, rfl⟩, hW, hsame.mono (by decide) (by decide)⟩
          · exact retN X138 hx (t := .boolean) Bd.returns (by simp) (hb hby at_204) hr
          · show Q0 Z p0 p1 q2 q3 q4 h0 n0 _ T138.heap _
            rw [e138]
            exact ⟨rfl, N139⟩
    · refine Goes.by (B := T138.setTop (mkF m 159 #[.val (.int p0), .val (.int p1), .val (.long q2), .second, .val (.long q3), .second, .val (.long q4), .second, .val (.int (0 : Int32)), .val (.ref b2), .val (.ref b8), .val (.ref b21), .val (.ref b43), .val (.ref b2), .val (.int pt), .val (.ref b77), .val (.long (0 : Int64)), .second, .val (.long (0 : Int64)), .second] [(.int (1 : Int32)), (.int pt)])) (fun t k => ?_) ?_
      · show Steps p.tables e below (T138.setTop (mkF m 142 #[.val (.int p0), .val (.int p1), .val (.long q2), .second, .val (.long q3), .second, .val (.long q4), .second, .val (.int (0 : Int32)), .val (.ref b2), .val (.ref b8), .val (.ref b21), .val (.ref b43), .val (.ref b2), .val (.int pt), .val (.ref b77), .val (.long (0 : Int64)), .second, .val (.long (0 : Int64)), .second] [(.int pt)])) t
        refine XS.ifYes X138.here hx rfl (pc0 := 142) (pc' := 156) rfl (hb hby at_142) rfl ((if0 _ _).trans (feq hc140).2) (by decide) (by decide) ?_
        show Steps p.tables e below (T138.setTop (mkF m 156 #[.val (.int p0), .val (.int p1), .val (.long q2), .second, .val (.long q3), .second, .val (.long q4), .second, .val (.int (0 : Int32)), .val (.ref b2), .val (.ref b8), .val (.ref b21), .val (.ref b43), .val (.ref b2), .val (.int pt), .val (.ref b77), .val (.long (0 : Int64)), .second, .val (.long (0 : Int64)), .second] [])) t
        refine XS.iload X138.here hx rfl (hb hby at_156) rfl ?_
        show Steps p.tables e below (T138.setTop (mkF m 158 #[.val (.int p0), .val (.int p1), .val (.long q2), .second, .val (.long q3), .second, .val (.long q4), .second, .val (.int (0 : Int32)), .val (.ref b2), .val (.ref b8), .val (.ref b21), .val (.ref b43), .val (.ref b2), .val (.int pt), .val (.ref b77), .val (.long (0 : Int64)), .second, .val (.long (0 : Int64)), .second] [(.int pt)])) t
        refine XS.iconst X138.here hx rfl (hb hby at_158) ?_
        exact k
      by_cases hc144 : pt = (1 : Int32)
      · refine Goes.by (B := T138.setTop (mkF m 178 #[.val (.int p0), .val (.int p1), .val (.long q2), .second, .val (.long q3), .second, .val (.long q4), .second, .val (.int (0 : Int32)), .val (.ref b2), .val (.ref b8), .val (.ref b21), .val (.ref b43), .val (.ref b2), .val (.int pt), .val (.ref b77), .val (.long (0 : Int64)), .second, .val (.long (0 : Int64)), .second] [(.int (2 : Int32)), (.int pt)])) (fun t k => ?_) ?_
        · show Steps p.tables e below (T138.setTop (mkF m 159 #[.val (.int p0), .val (.int p1), .val (.long q2), .second, .val (.long q3), .second, .val (.long q4), .second, .val (.int (0 : Int32)), .val (.ref b2), .val (.ref b8), .val (.ref b21), .val (.ref b43), .val (.ref b2), .val (.int pt), .val (.ref b77), .val (.long (0 : Int64)), .second, .val (.long (0 : Int64)), .second] [(.int (1 : Int32)), (.int pt)])) t
          refine XS.icmpNo X138.here hx rfl (hb hby at_159) rfl (teq hc144).2 ?_
          show Steps p.tables e below (T138.setTop (mkF m 162 #[.val (.int p0), .val (.int p1), .val (.long q2), .second, .val (.long q3), .second, .val (.long q4), .second, .val (.int (0 : Int32)), .val (.ref b2), .val (.ref b8), .val (.ref b21), .val (.ref b43), .val (.ref b2), .val (.int pt), .val (.ref b77), .val (.long (0 : Int64)), .second, .val (.long (0 : Int64)), .second] [])) t
          refine XS.iload X138.here hx rfl (hb hby at_162) rfl ?_
          show Steps p.tables e below (T138.setTop (mkF m 164 #[.val (.int p0), .val (.int p1), .val (.long q2), .second, .val (.long q3), .second, .val (.long q4), .second, .val (.int (0 : Int32)), .val (.ref b2), .val (.ref b8), .val (.ref b21), .val (.ref b43), .val (.ref b2), .val (.int pt), .val (.ref b77), .val (.long (0 : Int64)), .second, .val (.long (0 : Int64)), .second] [(.int (0 : Int32))])) t
          refine XS.iconst X138.here hx rfl (hb hby at_164) ?_
          show Steps p.tables e below (T138.setTop (mkF m 165 #[.val (.int p0), .val (.int p1), .val (.long q2), .second, .val (.long q3), .second, .val (.long q4), .second, .val (.int (0 : Int32)), .val (.ref b2), .val (.ref b8), .val (.ref b21), .val (.ref b43), .val (.ref b2), .val (.int pt), .val (.ref b77), .val (.long (0 : Int64)), .second, .val (.long (0 : Int64)), .second] [(.int (1 : Int32)), (.int (0 : Int32))])) t
          refine XS.icmpYes X138.here hx rfl (pc0 := 165) (pc' := 175) rfl (hb hby at_165) rfl (flt (by decide : ¬ ((1 : Int32) < (0 : Int32)))).2.2.2 (by decide) (by decide) ?_
          show Steps p.tables e below (T138.setTop (mkF m 175 #[.val (.int p0), .val (.int p1), .val (.long q2), .second, .val (.long q3), .second, .val (.long q4), .second, .val (.int (0 : Int32)), .val (.ref b2), .val (.ref b8), .val (.ref b21), .val (.ref b43), .val (.ref b2), .val (.int pt), .val (.ref b77), .val (.long (0 : Int64)), .second, .val (.long (0 : Int64)), .second] [])) t
          refine XS.iload X138.here hx rfl (hb hby at_175) rfl ?_
          show Steps p.tables e below (T138.setTop (mkF m 177 #[.val (.int p0), .val (.int p1), .val (.long q2), .second, .val (.long q3), .second, .val (.long q4), .second, .val (.int (0 : Int32)), .val (.ref b2), .val (.ref b8), .val (.ref b21), .val (.ref b43), .val (.ref b2), .val (.int pt), .val (.ref b77), .val (.long (0 : Int64)), .second, .val (.long (0 : Int64)), .second] [(.int pt)])) t
          refine XS.iconst X138.here hx rfl (hb hby at_177) ?_
          exact k
        by_cases hc145 : pt = (2 : Int32)
        · refine Goes.by (B := T138.setTop (mkF m 204 #[.val (.int p0), .val (.int p1), .val (.long q2), .second, .val (.long q3), .second, .val (.long q4), .second, .val (.int (0 : Int32)), .val (.ref b2), .val (.ref b8), .val (.ref b21), .val (.ref b43), .val (.ref b2), .val (.int pt), .val (.ref b77), .val (.long (0 : Int64)), .second, .val (.long (0 : Int64)), .second] [(.int (1 : Int32))])) (fun t k => ?_) ?_
          · show Steps p.tables e below (T138.setTop (mkF m 178 #[.val (.int p0), .val (.int p1), .val (.long q2), .second, .val (.long q3), .second, .val (.long q4), .second, .val (.int (0 : Int32)), .val (.ref b2), .val (.ref b8), .val (.ref b21), .val (.ref b43), .val (.ref b2), .val (.int pt), .val (.ref b77), .val (.long (0 : Int64)), .second, .val (.long (0 : Int64)), .second] [(.int (2 : Int32)), (.int pt)])) t
            refine XS.icmpNo X138.here hx rfl (hb hby at_178) rfl (teq hc145).2 ?_
            show Steps p.tables e below (T138.setTop (mkF m 181 #[.val (.int p0), .val (.int p1), .val (.long q2), .second, .val (.long q3), .second, .val (.long q4), .second, .val (.int (0 : Int32)), .val (.ref b2), .val (.ref b8), .val (.ref b21), .val (.ref b43), .val (.ref b2), .val (.int pt), .val (.ref b77), .val (.long (0 : Int64)), .second, .val (.long (0 : Int64)), .second] [])) t
            refine XS.iload X138.here hx rfl (hb hby at_181) rfl ?_
            show Steps p.tables e below (T138.setTop (mkF m 183 #[.val (.int p0), .val (.int p1), .val (.long q2), .second, .val (.long q3), .second, .val (.long q4), .second, .val (.int (0 : Int32)), .val (.ref b2), .val (.ref b8), .val (.ref b21), .val (.ref b43), .val (.ref b2), .val (.int pt), .val (.ref b77), .val (.long (0 : Int64)), .second, .val (.long (0 : Int64)), .second] [(.int (0 : Int32))])) t
            refine XS.iconst X138.here hx rfl (hb hby at_183) ?_
            show Steps p.tables e below (T138.setTop (mkF m 184 #[.val (.int p0), .val (.int p1), .val (.long q2), .second, .val (.long q3), .second, .val (.long q4), .second, .val (.int (0 : Int32)), .val (.ref b2), .val (.ref b8), .val (.ref b21), .val (.ref b43), .val (.ref b2), .val (.int pt), .val (.ref b77), .val (.long (0 : Int64)), .second, .val (.long (0 : Int64)), .second] [(.int (2 : Int32)), (.int (0 : Int32))])) t
            refine XS.icmpYes X138.here hx rfl (pc0 := 184) (pc' := 191) rfl (hb hby at_184) rfl (flt (by decide : ¬ ((2 : Int32) < (0 : Int32)))).2.2.2 (by decide) (by decide) ?_
            show Steps p.tables e below (T138.setTop (mkF m 191 #[.val (.int p0), .val (.int p1), .val (.long q2), .second, .val (.long q3), .second, .val (.long q4), .second, .val (.int (0 : Int32)), .val (.ref b2), .val (.ref b8), .val (.ref b21), .val (.ref b43), .val (.ref b2), .val (.int pt), .val (.ref b77), .val (.long (0 : Int64)), .second, .val (.long (0 : Int64)), .second] [])) t
            refine XS.lload X138.here hx rfl (hb hby at_191) rfl ?_
            show Steps p.tables e below (T138.setTop (mkF m 193 #[.val (.int p0), .val (.int p1), .val (.long q2), .second, .val (.long q3), .second, .val (.long q4), .second, .val (.int (0 : Int32)), .val (.ref b2), .val (.ref b8), .val (.ref b21), .val (.ref b43), .val (.ref b2), .val (.int pt), .val (.ref b77), .val (.long (0 : Int64)), .second, .val (.long (0 : Int64)), .second] [(.long (0 : Int64))])) t
            refine XS.lload X138.here hx rfl (hb hby at_193) rfl ?_
            show Steps p.tables e below (T138.setTop (mkF m 195 #[.val (.int p0), .val (.int p1), .val (.long q2), .second, .val (.long q3), .second, .val (.long q4), .second, .val (.int (0 : Int32)), .val (.ref b2), .val (.ref b8), .val (.ref b21), .val (.ref b43), .val (.ref b2), .val (.int pt), .val (.ref b77), .val (.long (0 : Int64)), .second, .val (.long (0 : Int64)), .second] [(.long (0 : Int64)), (.long (0 : Int64))])) t
            refine XS.lcmp X138.here hx rfl (hb hby at_195) rfl ?_
            show Steps p.tables e below (T138.setTop (mkF m 196 #[.val (.int p0), .val (.int p1), .val (.long q2), .second, .val (.long q3), .second, .val (.long q4), .second, .val (.int (0 : Int32)), .val (.ref b2), .val (.ref b8), .val (.ref b21), .val (.ref b43), .val (.ref b2), .val (.int pt), .val (.ref b77), .val (.long (0 : Int64)), .second, .val (.long (0 : Int64)), .second] [(.int (lcmpW (0 : Int64) (0 : Int64)))])) t
            refine XS.ifNo X138.here hx rfl (hb hby at_196) rfl ((if0 _ _).trans (teq ((lw_eq (0 : Int64) (0 : Int64)).mpr rfl)).2) ?_
            show Steps p.tables e below (T138.setTop (mkF m 199 #[.val (.int p0), .val (.int p1), .val (.long q2), .second, .val (.long q3), .second, .val (.long q4), .second, .val (.int (0 : Int32)), .val (.ref b2), .val (.ref b8), .val (.ref b21), .val (.ref b43), .val (.ref b2), .val (.int pt), .val (.ref b77), .val (.long (0 : Int64)), .second, .val (.long (0 : Int64)), .second] [])) t
            refine XS.iconst X138.here hx rfl (hb hby at_199) ?_
            show Steps p.tables e below (T138.setTop (mkF m 200 #[.val (.int p0), .val (.int p1), .val (.long q2), .second, .val (.long q3), .second, .val (.long q4), .second, .val (.int (0 : Int32)), .val (.ref b2), .val (.ref b8), .val (.ref b21), .val (.ref b43), .val (.ref b2), .val (.int pt), .val (.ref b77), .val (.long (0 : Int64)), .second, .val (.long (0 : Int64)), .second] [(.int (1 : Int32))])) t
            refine XS.goto X138.here hx rfl (pc0 := 200) (pc' := 204) rfl (hb hby at_200) (by decide) (by decide) ?_
            exact k
          obtain ⟨fs, hr, hrun, hended, hW, hsame⟩ := X138.leave (v := some (.int (1 : Int32))) (fun h => by rw [Bd.returns] at h; cases h)
          refine Goes.mk _ _ ?_ ⟨hrun, hended, _, _, rfl, ?_, ⟨_, rfl⟩, hW, hsame.mono (by decide) (by decide)⟩
          · exact retN X138 hx (t := .boolean) Bd.returns (by simp) (hb hby at_204) hr
          · show Q0 Z p0 p1 q2 q3 q4 h0 n0 _ T138.heap _
            rw [e138]
            exact ⟨rfl, N139⟩
        · refine Goes.by (B := T138.setTop (mkF m 204 #[.val (.int p0), .val (.int p1), .val (.long q2), .second, .val (.long q3), .second, .val (.long q4), .second, .val (.int (0 : Int32)), .val (.ref b2), .val (.ref b8), .val (.ref b21), .val (.ref b43), .val (.ref b2), .val (.int pt), .val (.ref b77), .val (.long (0 : Int64)), .second, .val (.long (0 : Int64)), .second] [(.int (1 : Int32))])) (fun t k => ?_) ?_
          · show Steps p.tables e below (T138.setTop (mkF m 178 #[.val (.int p0), .val (.int p1), .val (.long q2), .second, .val (.long q3), .second, .val (.long q4), .second, .val (.int (0 : Int32)), .val (.ref b2), .val (.ref b8), .val (.ref b21), .val (.ref b43), .val (.ref b2), .val (.int pt), .val (.ref b77), .val (.long (0 : Int64)), .second, .val (.long (0 : Int64)), .second] [(.int (2 : Int32)), (.int pt)])) t
            refine XS.icmpYes X138.here hx rfl (pc0 := 178) (pc' := 191) rfl (hb hby at_178) rfl (feq hc145).2 (by decide) (by decide) ?_
            show Steps p.tables e below (T138.setTop (mkF m 191 #[.val (.int p0), .val (.int p1), .val (.long q2), .second, .val (.long q3), .second, .val (.long q4), .second, .val (.int (0 : Int32)), .val (.ref b2), .val (.ref b8), .val (.ref b21), .val (.ref b43), .val (.ref b2), .val (.int pt), .val (.ref b77), .val (.long (0 : Int64)), .second, .val (.long (0 : Int64)), .second] [])) t
            refine XS.lload X138.here hx rfl (hb hby at_191) rfl ?_
            show Steps p.tables e below (T138.setTop (mkF m 193 #[.val (.int p0), .val (.int p1), .val (.long q2), .second, .val (.long q3), .second, .val (.long q4), .second, .val (.int (0 : Int32)), .val (.ref b2), .val (.ref b8), .val (.ref b21), .val (.ref b43), .val (.ref b2), .val (.int pt), .val (.ref b77), .val (.long (0 : Int64)), .second, .val (.long (0 : Int64)), .second] [(.long (0 : Int64))])) t
            refine XS.lload X138.here hx rfl (hb hby at_193) rfl ?_
            show Steps p.tables e below (T138.setTop (mkF m 195 #[.val (.int p0), .val (.int p1), .val (.long q2), .second, .val (.long q3), .second, .val (.long q4), .second, .val (.int (0 : Int32)), .val (.ref b2), .val (.ref b8), .val (.ref b21), .val (.ref b43), .val (.ref b2), .val (.int pt), .val (.ref b77), .val (.long (0 : Int64)), .second, .val (.long (0 : Int64)), .second] [(.long (0 : Int64)), (.long (0 : Int64))])) t
            refine XS.lcmp X138.here hx rfl (hb hby at_195) rfl ?_
            show Steps p.tables e below (T138.setTop (mkF m 196 #[.val (.int p0), .val (.int p1), .val (.long q2), .second, .val (.long q3), .second, .val (.long q4), .second, .val (.int (0 : Int32)), .val (.ref b2), .val (.ref b8), .val (.ref b21), .val (.ref b43), .val (.ref b2), .val (.int pt), .val (.ref b77), .val (.long (0 : Int64)), .second, .val (.long (0 : Int64)), .second] [(.int (lcmpW (0 : Int64) (0 : Int64)))])) t
            refine XS.ifNo X138.here hx rfl (hb hby at_196) rfl ((if0 _ _).trans (teq ((lw_eq (0 : Int64) (0 : Int64)).mpr rfl)).2) ?_
            show Steps p.tables e below (T138.setTop (mkF m 199 #[.val (.int p0), .val (.int p1), .val (.long q2), .second, .val (.long q3), .second, .val (.long q4), .second, .val (.int (0 : Int32)), .val (.ref b2), .val (.ref b8), .val (.ref b21), .val (.ref b43), .val (.ref b2), .val (.int pt), .val (.ref b77), .val (.long (0 : Int64)), .second, .val (.long (0 : Int64)), .second] [])) t
            refine XS.iconst X138.here hx rfl (hb hby at_199) ?_
            show Steps p.tables e below (T138.setTop (mkF m 200 #[.val (.int p0), .val (.int p1), .val (.long q2), .second, .val (.long q3), .second, .val (.long q4), .second, .val (.int (0 : Int32)), .val (.ref b2), .val (.ref b8), .val (.ref b21), .val (.ref b43), .val (.ref b2), .val (.int pt), .val (.ref b77), .val (.long (0 : Int64)), .second, .val (.long (0 : Int64)), .second] [(.int (1 : Int32))])) t
            refine XS.goto X138.here hx rfl (pc0 := 200) (pc' := 204) rfl (hb hby at_200) (by decide) (by decide) ?_
            exact k
          obtain ⟨fs, hr, hrun, hended, hW, hsame⟩ := X138.leave (v := some (.int (1 : Int32))) (fun h => by rw [Bd.returns] at h; cases h)
          refine Goes.mk _ _ ?_ ⟨hrun, hended, _, _, rfl, ?_, ⟨_, rfl⟩, hW, hsame.mono (by decide) (by decide)⟩
          · exact retN X138 hx (t := .boolean) Bd.returns (by simp) (hb hby at_204) hr
          · show Q0 Z p0 p1 q2 q3 q4 h0 n0 _ T138.heap _
            rw [e138]
            exact ⟨rfl, N139⟩
      · refine Goes.by (B := T138.setTop (mkF m 178 #[.val (.int p0), .val (.int p1), .val (.long q2), .second, .val (.long q3), .second, .val (.long q4), .second, .val (.int (0 : Int32)), .val (.ref b2), .val (.ref b8), .val (.ref b21), .val (.ref b43), .val (.ref b2), .val (.int pt), .val (.ref b77), .val (.long (0 : Int64)), .second, .val (.long (0 : Int64)), .second] [(.int (2 : Int32)), (.int pt)])) (fun t k => ?_) ?_
        · show Steps p.tables e below (T138.setTop (mkF m 159 #[.val (.int p0), .val (.int p1), .val (.long q2), .second, .val (.long q3), .second, .val (.long q4), .second, .val (.int (0 : Int32)), .val (.ref b2), .val (.ref b8), .val (.ref b21), .val (.ref b43), .val (.ref b2), .val (.int pt), .val (.ref b77), .val (.long (0 : Int64)), .second, .val (.long (0 : Int64)), .second] [(.int (1 : Int32)), (.int pt)])) t
          refine XS.icmpYes X138.here hx rfl (pc0 := 159) (pc' := 175) rfl (hb hby at_159) rfl (feq hc144).2 (by decide) (by decide) ?_
          show Steps p.tables e below (T138.setTop (mkF m 175 #[.val (.int p0), .val (.int p1), .val (.long q2), .second, .val (.long q3), .second, .val (.long q4), .second, .val (.int (0 : Int32)), .val (.ref b2), .val (.ref b8), .val (.ref b21), .val (.ref b43), .val (.ref b2), .val (.int pt), .val (.ref b77), .val (.long (0 : Int64)), .second, .val (.long (0 : Int64)), .second] [])) t
          refine XS.iload X138.here hx rfl (hb hby at_175) rfl ?_
          show Steps p.tables e below (T138.setTop (mkF m 177 #[.val (.int p0), .val (.int p1), .val (.long q2), .second, .val (.long q3), .second, .val (.long q4), .second, .val (.int (0 : Int32)), .val (.ref b2), .val (.ref b8), .val (.ref b21), .val (.ref b43), .val (.ref b2), .val (.int pt), .val (.ref b77), .val (.long (0 : Int64)), .second, .val (.long (0 : Int64)), .second] [(.int pt)])) t
          refine XS.iconst X138.here hx rfl (hb hby at_177) ?_
          exact k
        by_cases hc146 : pt = (2 : Int32)
        · refine Goes.by (B := T138.setTop (mkF m 204 #[.val (.int p0), .val (.int p1), .val (.long q2), .second, .val (.long q3), .second, .val (.long q4), .second, .val (.int (0 : Int32)), .val (.ref b2), .val (.ref b8), .val (.ref b21), .val (.ref b43), .val (.ref b2), .val (.int pt), .val (.ref b77), .val (.long (0 : Int64)), .second, .val (.long (0 : Int64)), .second] [(.int (1 : Int32))])) (fun t k => ?_) ?_
          · show Steps p.tables e below (T138.setTop (mkF m 178 #[.val (.int p0), .val (.int p1), .val (.long q2), .second, .val (.long q3), .second, .val (.long q4), .second, .val (.int (0 : Int32)), .val (.ref b2), .val (.ref b8), .val (.ref b21), .val (.ref b43), .val (.ref b2), .val (.int pt), .val (.ref b77), .val (.long (0 : Int64)), .second, .val (.long (0 : Int64)), .second] [(.int (2 : Int32)), (.int pt)])) t
            refine XS.icmpNo X138.here hx rfl (hb hby at_178) rfl (teq hc146).2 ?_
            show Steps p.tables e below (T138.setTop (mkF m 181 #[.val (.int p0), .val (.int p1), .val (.long q2), .second, .val (.long q3), .second, .val (.long q4), .second, .val (.int (0 : Int32)), .val (.ref b2), .val (.ref b8), .val (.ref b21), .val (.ref b43), .val (.ref b2), .val (.int pt), .val (.ref b77), .val (.long (0 : Int64)), .second, .val (.long (0 : Int64)), .second] [])) t
            refine XS.iload X138.here hx rfl (hb hby at_181) rfl ?_
            show Steps p.tables e below (T138.setTop (mkF m 183 #[.val (.int p0), .val (.int p1), .val (.long q2), .second, .val (.long q3), .second, .val (.long q4), .second, .val (.int (0 : Int32)), .val (.ref b2), .val (.ref b8), .val (.ref b21), .val (.ref b43), .val (.ref b2), .val (.int pt), .val (.ref b77), .val (.long (0 : Int64)), .second, .val (.long (0 : Int64)), .second] [(.int (0 : Int32))])) t
            refine XS.iconst X138.here hx rfl (hb hby at_183) ?_
            show Steps p.tables e below (T138.setTop (mkF m 184 #[.val (.int p0), .val (.int p1), .val (.long q2), .second, .val (.long q3), .second, .val (.long q4), .second, .val (.int (0 : Int32)), .val (.ref b2), .val (.ref b8), .val (.ref b21), .val (.ref b43), .val (.ref b2), .val (.int pt), .val (.ref b77), .val (.long (0 : Int64)), .second, .val (.long (0 : Int64)), .second] [(.int (2 : Int32)), (.int (0 : Int32))])) t
            refine XS.icmpYes X138.here hx rfl (pc0 := 184) (pc' := 191) rfl (hb hby at_184) rfl (flt (by decide : ¬ ((2 : Int32) < (0 : Int32)))).2.2.2 (by decide) (by decide) ?_
            show Steps p.tables e below (T138.setTop (mkF m 191 #[.val (.int p0), .val (.int p1), .val (.long q2), .second, .val (.long q3), .second, .val (.long q4), .second, .val (.int (0 : Int32)), .val (.ref b2), .val (.ref b8), .val (.ref b21), .val (.ref b43), .val (.ref b2), .val (.int pt), .val (.ref b77), .val (.long (0 : Int64)), .second, .val (.long (0 : Int64)), .second] [])) t
            refine XS.lload X138.here hx rfl (hb hby at_191) rfl ?_
            show Steps p.tables e below (T138.setTop (mkF m 193 #[.val (.int p0), .val (.int p1), .val (.long q2), .second, .val (.long q3), .second, .val (.long q4), .second, .val (.int (0 : Int32)), .val (.ref b2), .val (.ref b8), .val (.ref b21), .val (.ref b43), .val (.ref b2), .val (.int pt), .val (.ref b77), .val (.long (0 : Int64)), .second, .val (.long (0 : Int64)), .second] [(.long (0 : Int64))])) t
            refine XS.lload X138.here hx rfl (hb hby at_193) rfl ?_
            show Steps p.tables e below (T138.setTop (mkF m 195 #[.val (.int p0), .val (.int p1), .val (.long q2), .second, .val (.long q3), .second, .val (.long q4), .second, .val (.int (0 : Int32)), .val (.ref b2), .val (.ref b8), .val (.ref b21), .val (.ref b43), .val (.ref b2), .val (.int pt), .val (.ref b77), .val (.long (0 : Int64)), .second, .val (.long (0 : Int64)), .second] [(.long (0 : Int64)), (.long (0 : Int64))])) t
            refine XS.lcmp X138.here hx rfl (hb hby at_195) rfl ?_
            show Steps p.tables e below (T138.setTop (mkF m 196 #[.val (.int p0), .val (.int p1), .val (.long q2), .second, .val (.long q3), .second, .val (.long q4), .second, .val (.int (0 : Int32)), .val (.ref b2), .val (.ref b8), .val (.ref b21), .val (.ref b43), .val (.ref b2), .val (.int pt), .val (.ref b77), .val (.long (0 : Int64)), .second, .val (.long (0 : Int64)), .second] [(.int (lcmpW (0 : Int64) (0 : Int64)))])) t
            refine XS.ifNo X138.here hx rfl (hb hby at_196) rfl ((if0 _ _).trans (teq ((lw_eq (0 : Int64) (0 : Int64)).mpr rfl)).2) ?_
            show Steps p.tables e below (T138.setTop (mkF m 199 #[.val (.int p0), .val (.int p1), .val (.long q2), .second, .val (.long q3), .second, .val (.long q4), .second, .val (.int (0 : Int32)), .val (.ref b2), .val (.ref b8), .val (.ref b21), .val (.ref b43), .val (.ref b2), .val (.int pt), .val (.ref b77), .val (.long (0 : Int64)), .second, .val (.long (0 : Int64)), .second] [])) t
            refine XS.iconst X138.here hx rfl (hb hby at_199) ?_
            show Steps p.tables e below (T138.setTop (mkF m 200 #[.val (.int p0), .val (.int p1), .val (.long q2), .second, .val (.long q3), .second, .val (.long q4), .second, .val (.int (0 : Int32)), .val (.ref b2), .val (.ref b8), .val (.ref b21), .val (.ref b43), .val (.ref b2), .val (.int pt), .val (.ref b77), .val (.long (0 : Int64)), .second, .val (.long (0 : Int64)), .second] [(.int (1 : Int32))])) t
            refine XS.goto X138.here hx rfl (pc0 := 200) (pc' := 204) rfl (hb hby at_200) (by decide) (by decide) ?_
            exact k
          obtain ⟨fs, hr, hrun, hended, hW, hsame⟩ := X138.leave (v := some (.int (1 : Int32))) (fun h => by rw [Bd.returns] at h; cases h)
          refine Goes.mk _ _ ?_ ⟨hrun, hended, _, _, rfl, ?_, ⟨_, rfl⟩, hW, hsame.mono (by decide) (by decide)⟩
          · exact retN X138 hx (t := .boolean) Bd.returns (by simp) (hb hby at_204) hr
          · show Q0 Z p0 p1 q2 q3 q4 h0 n0 _ T138.heap _
            rw [e138]
            exact ⟨rfl, N139⟩
        · refine Goes.by (B := T138.setTop (mkF m 204 #[.val (.int p0), .val (.int p1), .val (.long q2), .second, .val (.long q3), .second, .val (.long q4), .second, .val (.int (0 : Int32)), .val (.ref b2), .val (.ref b8), .val (.ref b21), .val (.ref b43), .val (.ref b2), .val (.int pt), .val (.ref b77), .val (.long (0 : Int64)), .second, .val (.long (0 : Int64)), .second] [(.int (1 : Int32))])) (fun t k => ?_) ?_
          · show Steps p.tables e below (T138.setTop (mkF m 178 #[.val (.int p0), .val (.int p1), .val (.long q2), .second, .val (.long q3), .second, .val (.long q4), .second, .val (.int (0 : Int32)), .val (.ref b2), .val (.ref b8), .val (.ref b21), .val (.ref b43), .val (.ref b2), .val (.int pt), .val (.ref b77), .val (.long (0 : Int64)), .second, .val (.long (0 : Int64)), .second] [(.int (2 : Int32)), (.int pt)])) t
            refine XS.icmpYes X138.here hx rfl (pc0 := 178) (pc' := 191) rfl (hb hby at_178) rfl (feq hc146).2 (by decide) (by decide) ?_
            show Steps p.tables e below (T138.setTop (mkF m 191 #[.val (.int p0), .val (.int p1), .val (.long q2), .second, .val (.long q3), .second, .val (.long q4), .second, .val (.int (0 : Int32)), .val (.ref b2), .val (.ref b8), .val (.ref b21), .val (.ref b43), .val (.ref b2), .val (.int pt), .val (.ref b77), .val (.long (0 : Int64)), .second, .val (.long (0 : Int64)), .second] [])) t
            refine XS.lload X138.here hx rfl (hb hby at_191) rfl ?_
            show Steps p.tables e below (T138.setTop (mkF m 193 #[.val (.int p0), .val (.int p1), .val (.long q2), .second, .val (.long q3), .second, .val (.long q4), .second, .val (.int (0 : Int32)), .val (.ref b2), .val (.ref b8), .val (.ref b21), .val (.ref b43), .val (.ref b2), .val (.int pt), .val (.ref b77), .val (.long (0 : Int64)), .second, .val (.long (0 : Int64)), .second] [(.long (0 : Int64))])) t
            refine XS.lload X138.here hx rfl (hb hby at_193) rfl ?_
            show Steps p.tables e below (T138.setTop (mkF m 195 #[.val (.int p0), .val (.int p1), .val (.long q2), .second, .val (.long q3), .second, .val (.long q4), .second, .val (.int (0 : Int32)), .val (.ref b2), .val (.ref b8), .val (.ref b21), .val (.ref b43), .val (.ref b2), .val (.int pt), .val (.ref b77), .val (.long (0 : Int64)), .second, .val (.long (0 : Int64)), .second] [(.long (0 : Int64)), (.long (0 : Int64))])) t
            refine XS.lcmp X138.here hx rfl (hb hby at_195) rfl ?_
            show Steps p.tables e below (T138.setTop (mkF m 196 #[.val (.int p0), .val (.int p1), .val (.long q2), .second, .val (.long q3), .second, .val (.long q4), .second, .val (.int (0 : Int32)), .val (.ref b2), .val (.ref b8), .val (.ref b21), .val (.ref b43), .val (.ref b2), .val (.int pt), .val (.ref b77), .val (.long (0 : Int64)), .second, .val (.long (0 : Int64)), .second] [(.int (lcmpW (0 : Int64) (0 : Int64)))])) t
            refine XS.ifNo X138.here hx rfl (hb hby at_196) rfl ((if0 _ _).trans (teq ((lw_eq (0 : Int64) (0 : Int64)).mpr rfl)).2) ?_
            show Steps p.tables e below (T138.setTop (mkF m 199 #[.val (.int p0), .val (.int p1), .val (.long q2), .second, .val (.long q3), .second, .val (.long q4), .second, .val (.int (0 : Int32)), .val (.ref b2), .val (.ref b8), .val (.ref b21), .val (.ref b43), .val (.ref b2), .val (.int pt), .val (.ref b77), .val (.long (0 : Int64)), .second, .val (.long (0 : Int64)), .second] [])) t
            refine XS.iconst X138.here hx rfl (hb hby at_199) ?_
            show Steps p.tables e below (T138.setTop (mkF m 200 #[.val (.int p0), .val (.int p1), .val (.long q2), .second, .val (.long q3), .second, .val (.long q4), .second, .val (.int (0 : Int32)), .val (.ref b2), .val (.ref b8), .val (.ref b21), .val (.ref b43), .val (.ref b2), .val (.int pt), .val (.ref b77), .val (.long (0 : Int64)), .second, .val (.long (0 : Int64)), .second] [(.int (1 : Int32))])) t
            refine XS.goto X138.here hx rfl (pc0 := 200) (pc' := 204) rfl (hb hby at_200) (by decide) (by decide) ?_
            exact k
          obtain ⟨fs, hr, hrun, hended, hW, hsame⟩ := X138.leave (v := some (.int (1 : Int32))) (fun h => by rw [Bd.returns] at h; cases h)
          refine Goes.mk _ _ ?_ ⟨hrun, hended, _, _, rfl, ?_, ⟨_, rfl⟩, hW, hsame.mono (by decide) (by decide)⟩
          · exact retN X138 hx (t := .boolean) Bd.returns (by simp) (hb hby at_204) hr
          · show Q0 Z p0 p1 q2 q3 q4 h0 n0 _ T138.heap _
            rw [e138]
            exact ⟨rfl, N139⟩
  · refine Goes.by (B := T68.setTop (mkF m 91 #[.val (.int p0), .val (.int p1), .val (.long q2), .second, .val (.long q3), .second, .val (.long q4), .second, .val (.int (1 : Int32)), .val (.ref b2), .val (.ref b8), .val (.ref b21), .val (.ref b43), .val (.ref b8), .unset, .unset, .unset, .unset, .unset, .unset] [(.int (p1 &&& (1 : Int32)))])) (fun t k => ?_) ?_
    · show Steps p.tables e below (T68.setTop (mkF m 52 #[.val (.int p0), .val (.int p1), .val (.long q2), .second, .val (.long q3), .second, .val (.long q4), .second, .val (.int (1 : Int32)), .val (.ref b2), .val (.ref b8), .val (.ref b21), .val (.ref b43), .unset, .unset, .unset, .unset, .unset, .unset, .unset] [])) t
      refine XS.iload X68.here hx rfl (hb hby at_52) rfl ?_
      show Steps p.tables e below (T68.setTop (mkF m 54 #[.val (.int p0), .val (.int p1), .val (.long q2), .second, .val (.long q3), .second, .val (.long q4), .second, .val (.int (1 : Int32)), .val (.ref b2), .val (.ref b8), .val (.ref b21), .val (.ref b43), .unset, .unset, .unset, .unset, .unset, .unset, .unset] [(.int (1 : Int32))])) t
      refine XS.ifYes X68.here hx rfl (pc0 := 54) (pc' := 62) rfl (hb hby at_54) rfl ((if0 _ _).trans (feq (by decide : ¬ ((1 : Int32) = (0 : Int32)))).2) (by decide) (by decide) ?_
      show Steps p.tables e below (T68.setTop (mkF m 62 #[.val (.int p0), .val (.int p1), .val (.long q2), .second, .val (.long q3), .second, .val (.long q4), .second, .val (.int (1 : Int32)), .val (.ref b2), .val (.ref b8), .val (.ref b21), .val (.ref b43), .unset, .unset, .unset, .unset, .unset, .unset, .unset] [])) t
      refine XS.iload X68.here hx rfl (hb hby at_62) rfl ?_
      show Steps p.tables e below (T68.setTop (mkF m 64 #[.val (.int p0), .val (.int p1), .val (.long q2), .second, .val (.long q3), .second, .val (.long q4), .second, .val (.int (1 : Int32)), .val (.ref b2), .val (.ref b8), .val (.ref b21), .val (.ref b43), .unset, .unset, .unset, .unset, .unset, .unset, .unset] [(.int (1 : Int32))])) t
      refine XS.iconst X68.here hx rfl (hb hby at_64) ?_
      show Steps p.tables e below (T68.setTop (mkF m 65 #[.val (.int p0), .val (.int p1), .val (.long q2), .second, .val (.long q3), .second, .val (.long q4), .second, .val (.int (1 : Int32)), .val (.ref b2), .val (.ref b8), .val (.ref b21), .val (.ref b43), .unset, .unset, .unset, .unset, .unset, .unset, .unset] [(.int (1 : Int32)), (.int (1 : Int32))])) t
      refine XS.icmpNo X68.here hx rfl (hb hby at_65) rfl (teq (by decide : (1 : Int32) = (1 : Int32))).2 ?_
      show Steps p.tables e below (T68.setTop (mkF m 68 #[.val (.int p0), .val (.int p1), .val (.long q2), .second, .val (.long q3), .second, .val (.long q4), .second, .val (.int (1 : Int32)), .val (.ref b2), .val (.ref b8), .val (.ref b21), .val (.ref b43), .unset, .unset, .unset, .unset, .unset, .unset, .unset] [])) t
      refine XS.aload X68.here hx rfl (hb hby at_68) rfl rfl ?_
      show Steps p.tables e below (T68.setTop (mkF m 70 #[.val (.int p0), .val (.int p1), .val (.long q2), .second, .val (.long q3), .second, .val (.long q4), .second, .val (.int (1 : Int32)), .val (.ref b2), .val (.ref b8), .val (.ref b21), .val (.ref b43), .unset, .unset, .unset, .unset, .unset, .unset, .unset] [(.ref b8)])) t
      refine XS.goto X68.here hx rfl (pc0 := 70) (pc' := 86) rfl (hb hby at_70) (by decide) (by decide) ?_
      show Steps p.tables e below (T68.setTop (mkF m 86 #[.val (.int p0), .val (.int p1), .val (.long q2), .second, .val (.long q3), .second, .val (.long q4), .second, .val (.int (1 : Int32)), .val (.ref b2), .val (.ref b8), .val (.ref b21), .val (.ref b43), .unset, .unset, .unset, .unset, .unset, .unset, .unset] [(.ref b8)])) t
      refine XS.astore X68.here hx rfl (hb hby at_86) rfl rfl (l' := #[.val (.int p0), .val (.int p1), .val (.long q2), .second, .val (.long q3), .second, .val (.long q4), .second, .val (.int (1 : Int32)), .val (.ref b2), .val (.ref b8), .val (.ref b21), .val (.ref b43), .val (.ref b8), .unset, .unset, .unset, .unset, .unset, .unset]) rfl ?_
      show Steps p.tables e below (T68.setTop (mkF m 88 #[.val (.int p0), .val (.int p1), .val (.long q2), .second, .val (.long q3), .second, .val (.long q4), .second, .val (.int (1 : Int32)), .val (.ref b2), .val (.ref b8), .val (.ref b21), .val (.ref b43), .val (.ref b8), .unset, .unset, .unset, .unset, .unset, .unset] [])) t
      refine XS.iloadN X68.here hx rfl (hb hby at_88) rfl ?_
      show Steps p.tables e below (T68.setTop (mkF m 89 #[.val (.int p0), .val (.int p1), .val (.long q2), .second, .val (.long q3), .second, .val (.long q4), .second, .val (.int (1 : Int32)), .val (.ref b2), .val (.ref b8), .val (.ref b21), .val (.ref b43), .val (.ref b8), .unset, .unset, .unset, .unset, .unset, .unset] [(.int p1)])) t
      refine XS.iconst X68.here hx rfl (hb hby at_89) ?_
      show Steps p.tables e below (T68.setTop (mkF m 90 #[.val (.int p0), .val (.int p1), .val (.long q2), .second, .val (.long q3), .second, .val (.long q4), .second, .val (.int (1 : Int32)), .val (.ref b2), .val (.ref b8), .val (.ref b21), .val (.ref b43), .val (.ref b8), .unset, .unset, .unset, .unset, .unset, .unset] [(.int (1 : Int32)), (.int p1)])) t
      refine XS.iand X68.here hx rfl (hb hby at_90) rfl ?_
      exact k
    refine Goes.by (B := T68.setTop (mkF m 105 #[.val (.int p0), .val (.int p1), .val (.long q2), .second, .val (.long q3), .second, .val (.long q4), .second, .val (.int (1 : Int32)), .val (.ref b2), .val (.ref b8), .val (.ref b21), .val (.ref b43), .val (.ref b8), .unset, .unset, .unset, .unset, .unset, .unset] [(.int (if (p1 &&& (1 : Int32)) = (0 : Int32) then ((p1.toUInt32 >>> ((1 : Int32) &&& 31).toUInt32).toInt32) else (((p1.toUInt32 >>> ((1 : Int32) &&& 31).toUInt32).toInt32) &&& (3 : Int32))))])) (fun t k => ?_) ?_
    · by_cases hm147 : (p1 &&& (1 : Int32)) = (0 : Int32)
      · simp only [if_pos hm147] at k
        show Steps p.tables e below (T68.setTop (mkF m 91 #[.val (.int p0), .val (.int p1), .val (.long q2), .second, .val (.long q3), .second, .val (.long q4), .second, .val (.int (1 : Int32)), .val (.ref b2), .val (.ref b8), .val (.ref b21), .val (.ref b43), .val (.ref b8), .unset, .unset, .unset, .unset, .unset, .unset] [(.int (p1 &&& (1 : Int32)))])) t
        refine XS.ifYes X68.here hx rfl (pc0 := 91) (pc' := 102) rfl (hb hby at_91) rfl ((if0 _ _).trans (teq hm147).1) (by decide) (by decide) ?_
        show Steps p.tables e below (T68.setTop (mkF m 102 #[.val (.int p0), .val (.int p1), .val (.long q2), .second, .val (.long q3), .second, .val (.long q4), .second, .val (.int (1 : Int32)), .val (.ref b2), .val (.ref b8), .val (.ref b21), .val (.ref b43), .val (.ref b8), .unset, .unset, .unset, .unset, .unset, .unset] [])) t
        refine XS.iloadN X68.here hx rfl (hb hby at_102) rfl ?_
        show Steps p.tables e below (T68.setTop (mkF m 103 #[.val (.int p0), .val (.int p1), .val (.long q2), .second, .val (.long q3), .second, .val (.long q4), .second, .val (.int (1 : Int32)), .val (.ref b2), .val (.ref b8), .val (.ref b21), .val (.ref b43), .val (.ref b8), .unset, .unset, .unset, .unset, .unset, .unset] [(.int p1)])) t
        refine XS.iconst X68.here hx rfl (hb hby at_103) ?_
        show Steps p.tables e below (T68.setTop (mkF m 104 #[.val (.int p0), .val (.int p1), .val (.long q2), .second, .val (.long q3), .second, .val (.long q4), .second, .val (.int (1 : Int32)), .val (.ref b2), .val (.ref b8), .val (.ref b21), .val (.ref b43), .val (.ref b8), .unset, .unset, .unset, .unset, .unset, .unset] [(.int (1 : Int32)), (.int p1)])) t
        refine XS.iushr X68.here hx rfl (hb hby at_104) rfl ?_
        exact k
      · simp only [if_neg hm147] at k
        show Steps p.tables e below (T68.setTop (mkF m 91 #[.val (.int p0), .val (.int p1), .val (.long q2), .second, .val (.long q3), .second, .val (.long q4), .second, .val (.int (1 : Int32)), .val (.ref b2), .val (.ref b8), .val (.ref b21), .val (.ref b43), .val (.ref b8), .unset, .unset, .unset, .unset, .unset, .unset] [(.int (p1 &&& (1 : Int32)))])) t
        refine XS.ifNo X68.here hx rfl (hb hby at_91) rfl ((if0 _ _).trans (feq hm147).1) ?_
        show Steps p.tables e below (T68.setTop (mkF m 94 #[.val (.int p0), .val (.int p1), .val (.long q2), .second, .val (.long q3), .second, .val (.long q4), .second, .val (.int (1 : Int32)), .val (.ref b2), .val (.ref b8), .val (.ref b21), .val (.ref b43), .val (.ref b8), .unset, .unset, .unset, .unset, .unset, .unset] [])) t
        refine XS.iloadN X68.here hx rfl (hb hby at_94) rfl ?_
        show Steps p.tables e below (T68.setTop (mkF m 95 #[.val (.int p0), .val (.int p1), .val (.long q2), .second, .val (.long q3), .second, .val (.long q4), .second, .val (.int (1 : Int32)), .val (.ref b2), .val (.ref b8), .val (.ref b21), .val (.ref b43), .val (.ref b8), .unset, .unset, .unset, .unset, .unset, .unset] [(.int p1)])) t
        refine XS.iconst X68.here hx rfl (hb hby at_95) ?_
        show Steps p.tables e below (T68.setTop (mkF m 96 #[.val (.int p0), .val (.int p1), .val (.long q2), .second, .val (.long q3), .second, .val (.long q4), .second, .val (.int (1 : Int32)), .val (.ref b2), .val (.ref b8), .val (.ref b21), .val (.ref b43), .val (.ref b8), .unset, .unset, .unset, .unset, .unset, .unset] [(.int (1 : Int32)), (.int p1)])) t
        refine XS.iushr X68.here hx rfl (hb hby at_96) rfl ?_
        show Steps p.tables e below (T68.setTop (mkF m 97 #[.val (.int p0), .val (.int p1), .val (.long q2), .second, .val (.long q3), .second, .val (.long q4), .second, .val (.int (1 : Int32)), .val (.ref b2), .val (.ref b8), .val (.ref b21), .val (.ref b43), .val (.ref b8), .unset, .unset, .unset, .unset, .unset, .unset] [(.int ((p1.toUInt32 >>> ((1 : Int32) &&& 31).toUInt32).toInt32))])) t
        refine XS.iconst X68.here hx rfl (hb hby at_97) ?_
        show Steps p.tables e below (T68.setTop (mkF m 98 #[.val (.int p0), .val (.int p1), .val (.long q2), .second, .val (.long q3), .second, .val (.long q4), .second, .val (.int (1 : Int32)), .val (.ref b2), .val (.ref b8), .val (.ref b21), .val (.ref b43), .val (.ref b8), .unset, .unset, .unset, .unset, .unset, .unset] [(.int (3 : Int32)), (.int ((p1.toUInt32 >>> ((1 : Int32) &&& 31).toUInt32).toInt32))])) t
        refine XS.iand X68.here hx rfl (hb hby at_98) rfl ?_
        show Steps p.tables e below (T68.setTop (mkF m 99 #[.val (.int p0), .val (.int p1), .val (.long q2), .second, .val (.long q3), .second, .val (.long q4), .second, .val (.int (1 : Int32)), .val (.ref b2), .val (.ref b8), .val (.ref b21), .val (.ref b43), .val (.ref b8), .unset, .unset, .unset, .unset, .unset, .unset] [(.int (((p1.toUInt32 >>> ((1 : Int32) &&& 31).toUInt32).toInt32) &&& (3 : Int32)))])) t
        refine XS.goto X68.here hx rfl (pc0 := 99) (pc' := 105) rfl (hb hby at_99) (by decide) (by decide) ?_
        exact k
    refine Goes.by (B := T68.setTop (mkF m 107 #[.val (.int p0), .val (.int p1), .val (.long q2), .second, .val (.long q3), .second, .val (.long q4), .second, .val (.int (1 : Int32)), .val (.ref b2), .val (.ref b8), .val (.ref b21), .val (.ref b43), .val (.ref b8), .val (.int (if (p1 &&& (1 : Int32)) = (0 : Int32) then ((p1.toUInt32 >>> ((1 : Int32) &&& 31).toUInt32).toInt32) else (((p1.toUInt32 >>> ((1 : Int32) &&& 31).toUInt32).toInt32) &&& (3 : Int32)))), .unset, .unset, .unset, .unset, .unset] [])) (fun t k => ?_) ?_
    · show Steps p.tables e below (T68.setTop (mkF m 105 #[.val (.int p0), .val (.int p1), .val (.long q2), .second, .val (.long q3), .second, .val (.long q4), .second, .val (.int (1 : Int32)), .val (.ref b2), .val (.ref b8), .val (.ref b21), .val (.ref b43), .val (.ref b8), .unset, .unset, .unset, .unset, .unset, .unset] [(.int (if (p1 &&& (1 : Int32)) = (0 : Int32) then ((p1.toUInt32 >>> ((1 : Int32) &&& 31).toUInt32).toInt32) else (((p1.toUInt32 >>> ((1 : Int32) &&& 31).toUInt32).toInt32) &&& (3 : Int32))))])) t
      refine XS.istore X68.here hx rfl (hb hby at_105) rfl (l' := #[.val (.int p0), .val (.int p1), .val (.long q2), .second, .val (.long q3), .second, .val (.long q4), .second, .val (.int (1 : Int32)), .val (.ref b2), .val (.ref b8), .val (.ref b21), .val (.ref b43), .val (.ref b8), .val (.int (if (p1 &&& (1 : Int32)) = (0 : Int32) then ((p1.toUInt32 >>> ((1 : Int32) &&& 31).toUInt32).toInt32) else (((p1.toUInt32 >>> ((1 : Int32) &&& 31).toUInt32).toInt32) &&& (3 : Int32)))), .unset, .unset, .unset, .unset, .unset]) rfl ?_
      exact k
    generalize hg_pt : (if (p1 &&& (1 : Int32)) = (0 : Int32) then ((p1.toUInt32 >>> ((1 : Int32) &&& 31).toUInt32).toInt32) else (((p1.toUInt32 >>> ((1 : Int32) &&& 31).toUInt32).toInt32) &&& (3 : Int32))) = pt
    have Hp := own_pt p1 pt hg_pt
    obtain ⟨T148, h148, X148, e148, E148, A148, D148, -, st148⟩ := newO X68 hx hZ hown (hw _ (List.mem_of_getElem? (i := 1) rfl)) (hw _ (List.mem_of_getElem? (i := 2) rfl)) (hw _ (List.mem_of_getElem? (i := 3) rfl)) e68 (g := (mkF m 107 #[.val (.int p0), .val (.int p1), .val (.long q2), .second, .val (.long q3), .second, .val (.long q4), .second, .val (.int (1 : Int32)), .val (.ref b2), .val (.ref b8), .val (.ref b21), .val (.ref b43), .val (.ref b8), .val (.int pt), .unset, .unset, .unset, .unset, .unset] [])) rfl (hb hby at_107) (by decide) (by decide)
    obtain ⟨b149, g148⟩ : ∃ z, z = h68.size := ⟨_, rfl⟩
    rw [← g148] at A148 D148 st148
    have ne150 : b2 ≠ b149 := Nat.ne_of_lt (Nat.lt_of_lt_of_le f69.lt (Nat.le_of_eq g148.symm))
    have ne151 : b8 ≠ b149 := Nat.ne_of_lt (Nat.lt_of_lt_of_le f70.lt (Nat.le_of_eq g148.symm))
    have ne152 : b21 ≠ b149 := Nat.ne_of_lt (Nat.lt_of_lt_of_le f71.lt (Nat.le_of_eq g148.symm))
    have ne153 : b43 ≠ b149 := Nat.ne_of_lt (Nat.lt_of_lt_of_le f72.lt (Nat.le_of_eq g148.symm))
    have ge154 : n0 ≤ b149 := Nat.le_trans Z73 (Nat.le_of_eq g148.symm)
    have sz155 : h0.size ≤ b149 := Nat.le_trans Kp68.1 (Nat.le_of_eq g148.symm)
    have f156 : Arv Z h148 b2 k1 .long (0 : Int32) [] (.long (0 : Int64)) := f69.ext E148
    have f157 : Arv Z h148 b8 k7 .long (1 : Int32) [(.long q2)] (.long (0 : Int64)) := f70.ext E148
    have f158 : Arv Z h148 b21 k20 .long (2 : Int32) [(.long q2), (.long q3)] (.long (0 : Int64)) := f71.ext E148
    have f159 : Arv Z h148 b43 k42 .long (3 : Int32) [(.long q2), (.long q3), (.long q4)] (.long (0 : Int64)) := f72.ext E148
    have f160 : Fld Z h148 b149 "com/example/moraine/moraine/Frames$Cut" "position" "Lcom/example/moraine/moraine/Position;" .null := D148 (Or.inr (hw _ (List.mem_of_getElem? (i := 27) rfl))) (ty := (.object "com/example/moraine/moraine/Position")) (by decide)
    have f161 : Fld Z h148 b149 "com/example/moraine/moraine/Frames$Cut" "inParts" "[J" .null := D148 (Or.inr (hw _ (List.mem_of_getElem? (i := 29) rfl))) (ty := (.array .long)) (by decide)
    have Kp148 : Keep h0 h148 [] := Kp68.ext E148
    have Z162 : n0 ≤ h148.size := Nat.le_trans Z73 E148.1
    refine Goes.by st148 ?_
    show Goes p.tables e below _ (T148.setTop (mkF m 110 #[.val (.int p0), .val (.int p1), .val (.long q2), .second, .val (.long q3), .second, .val (.long q4), .second, .val (.int (1 : Int32)), .val (.ref b2), .val (.ref b8), .val (.ref b21), .val (.ref b43), .val (.ref b8), .val (.int pt), .unset, .unset, .unset, .unset, .unset] [(.ref b149)]))
    refine Goes.by (B := T148.setTop (mkF m 111 #[.val (.int p0), .val (.int p1), .val (.long q2), .second, .val (.long q3), .second, .val (.long q4), .second, .val (.int (1 : Int32)), .val (.ref b2), .val (.ref b8), .val (.ref b21), .val (.ref b43), .val (.ref b8), .val (.int pt), .unset, .unset, .unset, .unset, .unset] [(.ref b149), (.ref b149)])) (fun t k => ?_) ?_
    · show Steps p.tables e below (T148.setTop (mkF m 110 #[.val (.int p0), .val (.int p1), .val (.long q2), .second, .val (.long q3), .second, .val (.long q4), .second, .val (.int (1 : Int32)), .val (.ref b2), .val (.ref b8), .val (.ref b21), .val (.ref b43), .val (.ref b8), .val (.int pt), .unset, .unset, .unset, .unset, .unset] [(.ref b149)])) t
      refine XS.dup X148.here hx rfl (hb hby at_110) rfl rfl ?_
      exact k
    obtain ⟨T163, h163, X163, e163, E163, A163, D163, -, st163⟩ := newO X148 hx hZ hown (hw _ (List.mem_of_getElem? (i := 4) rfl)) (hw _ (List.mem_of_getElem? (i := 5) rfl)) (hw _ (List.mem_of_getElem? (i := 6) rfl)) e148 (g := (mkF m 111 #[.val (.int p0), .val (.int p1), .val (.long q2), .second, .val (.long q3), .second, .val (.long q4), .second, .val (.int (1 : Int32)), .val (.ref b2), .val (.ref b8), .val (.ref b21), .val (.ref b43), .val (.ref b8), .val (.int pt), .unset, .unset, .unset, .unset, .unset] [(.ref b149), (.ref b149)])) rfl (hb hby at_111) (by decide) (by decide)
    obtain ⟨b164, g163⟩ : ∃ z, z = h148.size := ⟨_, rfl⟩
    rw [← g163] at A163 D163 st163
    have ne165 : b2 ≠ b164 := Nat.ne_of_lt (Nat.lt_of_lt_of_le f156.lt (Nat.le_of_eq g163.symm))
    have ne166 : b8 ≠ b164 := Nat.ne_of_lt (Nat.lt_of_lt_of_le f157.lt (Nat.le_of_eq g163.symm))
    have ne167 : b21 ≠ b164 := Nat.ne_of_lt (Nat.lt_of_lt_of_le f158.lt (Nat.le_of_eq g163.symm))
    have ne168 : b43 ≠ b164 := Nat.ne_of_lt (Nat.lt_of_lt_of_le f159.lt (Nat.le_of_eq g163.symm))
    have ne169 : b149 ≠ b164 := Nat.ne_of_lt (Nat.lt_of_lt_of_le A148.lt (Nat.le_of_eq g163.symm))
    have ge170 : n0 ≤ b164 := Nat.le_trans Z162 (Nat.le_of_eq g163.symm)
    have sz171 : h0.size ≤ b164 := Nat.le_trans Kp148.1 (Nat.le_of_eq g163.symm)
    have f172 : Arv Z h163 b2 k1 .long (0 : Int32) [] (.long (0 : Int64)) := f156.ext E163
    have f173 : Arv Z h163 b8 k7 .long (1 : Int32) [(.long q2)] (.long (0 : Int64)) := f157.ext E163
    have f174 : Arv Z h163 b21 k20 .long (2 : Int32) [(.long q2), (.long q3)] (.long (0 : Int64)) := f158.ext E163
    have f175 : Arv Z h163 b43 k42 .long (3 : Int32) [(.long q2), (.long q3), (.long q4)] (.long (0 : Int64)) := f159.ext E163
    have f176 : Exa Z h163 b149 "com/example/moraine/moraine/Frames$Cut" := A148.ext E163
    have f177 : Fld Z h163 b149 "com/example/moraine/moraine/Frames$Cut" "position" "Lcom/example/moraine/moraine/Position;" .null := f160.ext E163
    have f178 : Fld Z h163 b149 "com/example/moraine/moraine/Frames$Cut" "inParts" "[J" .null := f161.ext E163
    have f179 : Fld Z h163 b164 "com/example/moraine/moraine/Position" "increments" "J" (.long (0 : Int64)) := D163 (Or.inr (hw _ (List.mem_of_getElem? (i := 19) rfl))) (ty := .long) (by decide)
    have f180 : Fld Z h163 b164 "com/example/moraine/moraine/Position" "records" "J" (.long (0 : Int64)) := D163 (Or.inr (hw _ (List.mem_of_getElem? (i := 21) rfl))) (ty := .long) (by decide)
    have Kp163 : Keep h0 h163 [] := Kp148.ext E163
    have Z181 : n0 ≤ h163.size := Nat.le_trans Z162 E163.1
    refine Goes.by st163 ?_
    show Goes p.tables e below _ (T163.setTop (mkF m 114 #[.val (.int p0), .val (.int p1), .val (.long q2), .second, .val (.long q3), .second, .val (.long q4), .second, .val (.int (1 : Int32)), .val (.ref b2), .val (.ref b8), .val (.ref b21), .val (.ref b43), .val (.ref b8), .val (.int pt), .unset, .unset, .unset, .unset, .unset] [(.ref b164), (.ref b149), (.ref b149)]))
    refine Goes.by (B := T163.setTop (mkF m 118 #[.val (.int p0), .val (.int p1), .val (.long q2), .second, .val (.long q3), .second, .val (.long q4), .second, .val (.int (1 : Int32)), .val (.ref b2), .val (.ref b8), .val (.ref b21), .val (.ref b43), .val (.ref b8), .val (.int pt), .unset, .unset, .unset, .unset, .unset] [(.long q4), (.long q2), (.ref b164), (.ref b164), (.ref b149), (.ref b149)])) (fun t k => ?_) ?_
    · show Steps p.tables e below (T163.setTop (mkF m 114 #[.val (.int p0), .val (.int p1), .val (.long q2), .second, .val (.long q3), .second, .val (.long q4), .second, .val (.int (1 : Int32)), .val (.ref b2), .val (.ref b8), .val (.ref b21), .val (.ref b43), .val (.ref b8), .val (.int pt), .unset, .unset, .unset, .unset, .unset] [(.ref b164), (.ref b149), (.ref b149)])) t
      refine XS.dup X163.here hx rfl (hb hby at_114) rfl rfl ?_
      show Steps p.tables e below (T163.setTop (mkF m 115 #[.val (.int p0), .val (.int p1), .val (.long q2), .second, .val (.long q3), .second, .val (.long q4), .second, .val (.int (1 : Int32)), .val (.ref b2), .val (.ref b8), .val (.ref b21), .val (.ref b43), .val (.ref b8), .val (.int pt), .unset, .unset, .unset, .unset, .unset] [(.ref b164), (.ref b164), (.ref b149), (.ref b149)])) t
      refine XS.lloadN X163.here hx rfl (hb hby at_115) rfl ?_
      show Steps p.tables e below (T163.setTop (mkF m 116 #[.val (.int p0), .val (.int p1), .val (.long q2), .second, .val (.long q3), .second, .val (.long q4), .second, .val (.int (1 : Int32)), .val (.ref b2), .val (.ref b8), .val (.ref b21), .val (.ref b43), .val (.ref b8), .val (.int pt), .unset, .unset, .unset, .unset, .unset] [(.long q2), (.ref b164), (.ref b164), (.ref b149), (.ref b149)])) t
      refine XS.lload X163.here hx rfl (hb hby at_116) rfl ?_
      exact k
    obtain ⟨_, _, ⟨T182, L182, k182, n182⟩, -, X182, ⟨Lc182, hQ182, l182, y182, z182⟩, st182⟩ := X163.specialBack hx (y := (⟨"com/example/moraine/moraine/Position", "<init>", "(JJ)V"⟩ : MethodName)) rfl hown (mvT hZ (hw _ (List.mem_of_getElem? (i := 7) rfl))) (mvT hZ (hw _ (List.mem_of_getElem? (i := 8) rfl))) (mvT hZ (hw _ (List.mem_of_getElem? (i := 9) rfl))) (by decide) (backOf (W := 3) (rmPos l Z az hw [] b164 q2 q4 h163 n0 Z181 A163 f179 f180 ge170) hZ (hw _ (List.mem_of_getElem? (i := 9) rfl)) (hw _ (List.mem_of_getElem? (i := 6) rfl)) (by decide) (by decide)) (g := (mkF m 118 #[.val (.int p0), .val (.int p1), .val (.long q2), .second, .val (.long q3), .second, .val (.long q4), .second, .val (.int (1 : Int32)), .val (.ref b2), .val (.ref b8), .val (.ref b21), .val (.ref b43), .val (.ref b8), .val (.int pt), .unset, .unset, .unset, .unset, .unset] [(.long q4), (.long q2), (.ref b164), (.ref b164), (.ref b149), (.ref b149)])) rfl (by rw [hml]; rfl) (Steps.refl _) (a := b164) (argsL := [(.long q2), (.long q4)]) (rest := [(.ref b164), (.ref b149), (.ref b149)]) (lenOf own_pd1 rfl) rfl (by show 2 * 0 + _ ≤ _; exact Nat.le_of_eq rfl) (hb hby at_118) (fun _ _ => ⟨rfl, e163, (by decide : 6 + 0 ≤ _), (by decide : 10 + 0 ≤ _)⟩)
    dsimp only [Pt.U, Pt.locs, Pt.cells, Pt.slots] at X182 l182 y182 z182 st182 hQ182
    subst l182 y182 z182
    obtain ⟨rfl, N182q, K182, f183, f184, f185⟩ := hQ182
    have f186 : Arv Z T182.heap b2 k1 .long (0 : Int32) [] (.long (0 : Int64)) := f172.keep K182 (ninS ne165 nin0)
    have f187 : Arv Z T182.heap b8 k7 .long (1 : Int32) [(.long q2)] (.long (0 : Int64)) := f173.keep K182 (ninS ne166 nin0)
    have f188 : Arv Z T182.heap b21 k20 .long (2 : Int32) [(.long q2), (.long q3)] (.long (0 : Int64)) := f174.keep K182 (ninS ne167 nin0)
    have f189 : Arv Z T182.heap b43 k42 .long (3 : Int32) [(.long q2), (.long q3), (.long q4)] (.long (0 : Int64)) := f175.keep K182 (ninS ne168 nin0)
    have f190 : Exa Z T182.heap b149 "com/example/moraine/moraine/Frames$Cut" := f176.keep K182
    have f191 : Fld Z T182.heap b149 "com/example/moraine/moraine/Frames$Cut" "position" "Lcom/example/moraine/moraine/Position;" .null := f177.keep K182 (ninS ne169 nin0)
    have f192 : Fld Z T182.heap b149 "com/example/moraine/moraine/Frames$Cut" "inParts" "[J" .null := f178.keep K182 (ninS ne169 nin0)
    have f193 : Exa Z T182.heap b164 "com/example/moraine/moraine/Position" := A163.keep K182
    have Kp182 : Keep h0 T182.heap [] := Kp163.trans K182 (allS (Or.inr sz171) all0)
    have Z194 : n0 ≤ T182.heap.size := Nat.le_trans Z181 K182.1
    have N195 := Fr.app N74 N182q
    refine Goes.by (fun _ k => st182.trans k) ?_
    show Goes p.tables e below _ (T182.setTop (mkF m 121 #[.val (.int p0), .val (.int p1), .val (.long q2), .second, .val (.long q3), .second, .val (.long q4), .second, .val (.int (1 : Int32)), .val (.ref b2), .val (.ref b8), .val (.ref b21), .val (.ref b43), .val (.ref b8), .val (.int pt), .unset, .unset, .unset, .unset, .unset] [(.ref b164), (.ref b149), (.ref b149)]))
    refine Goes.by (B := T182.setTop (mkF m 123 #[.val (.int p0), .val (.int p1), .val (.long q2), .second, .val (.long q3), .second, .val (.long q4), .second, .val (.int (1 : Int32)), .val (.ref b2), .val (.ref b8), .val (.ref b21), .val (.ref b43), .val (.ref b8), .val (.int pt), .unset, .unset, .unset, .unset, .unset] [(.ref b8), (.ref b164), (.ref b149), (.ref b149)])) (fun t k => ?_) ?_
    · show Steps p.tables e below (T182.setTop (mkF m 121 #[.val (.int p0), .val (.int p1), .val (.long q2), .second, .val (.long q3), .second, .val (.long q4), .second, .val (.int (1 : Int32)), .val (.ref b2), .val (.ref b8), .val (.ref b21), .val (.ref b43), .val (.ref b8), .val (.int pt), .unset, .unset, .unset, .unset, .unset] [(.ref b164), (.ref b149), (.ref b149)])) t
      refine XS.aload X182.here hx rfl (hb hby at_121) rfl rfl ?_
      exact k
    obtain ⟨_, _, ⟨T196, L196, k196, n196⟩, -, X196, ⟨Lc196, hQ196, l196, y196, z196⟩, st196⟩ := X182.specialBack hx (y := (⟨"com/example/moraine/moraine/Frames$Cut", "<init>", "(Lcom/example/moraine/moraine/Position;[J)V"⟩ : MethodName)) rfl hown (mvT hZ (hw _ (List.mem_of_getElem? (i := 22) rfl))) (mvT hZ (hw _ (List.mem_of_getElem? (i := 23) rfl))) (mvT hZ (hw _ (List.mem_of_getElem? (i := 24) rfl))) (by decide) (backOf (W := 1) (rmCut l Z az hw [] b149 b164 b8 T182.heap n0 Z194 f190 f191 f192 ge154) hZ (hw _ (List.mem_of_getElem? (i := 24) rfl)) (hw _ (List.mem_of_getElem? (i := 3) rfl)) (by decide) (by decide)) (g := (mkF m 123 #[.val (.int p0), .val (.int p1), .val (.long q2), .second, .val (.long q3), .second, .val (.long q4), .second, .val (.int (1 : Int32)), .val (.ref b2), .val (.ref b8), .val (.ref b21), .val (.ref b43), .val (.ref b8), .val (.int pt), .unset, .unset, .unset, .unset, .unset] [(.ref b8), (.ref b164), (.ref b149), (.ref b149)])) rfl (by rw [hml]; rfl) (Steps.refl _) (a := b149) (argsL := [(.ref b164), (.ref b8)]) (rest := [(.ref b149)]) (lenOf own_pd2 rfl) rfl (by show 2 * 0 + _ ≤ _; exact Nat.le_of_eq rfl) (hb hby at_123) (fun _ _ => ⟨rfl, rfl, (by decide : 6 + 0 ≤ _), (by decide : 10 + 0 ≤ _)⟩)
    dsimp only [Pt.U, Pt.locs, Pt.cells, Pt.slots] at X196 l196 y196 z196 st196 hQ196
    subst l196 y196 z196
    obtain ⟨rfl, N196q, K196, f197, f198, f199⟩ := hQ196
    have f200 : Arv Z T196.heap b2 k1 .long (0 : Int32) [] (.long (0 : Int64)) := f186.keep K196 (ninS ne150 nin0)
    have f201 : Arv Z T196.heap b8 k7 .long (1 : Int32) [(.long q2)] (.long (0 : Int64)) := f187.keep K196 (ninS ne151 nin0)
    have f202 : Arv Z T196.heap b21 k20 .long (2 : Int32) [(.long q2), (.long q3)] (.long (0 : Int64)) := f188.keep K196 (ninS ne152 nin0)
    have f203 : Arv Z T196.heap b43 k42 .long (3 : Int32) [(.long q2), (.long q3), (.long q4)] (.long (0 : Int64)) := f189.keep K196 (ninS ne153 nin0)
    have f204 : Exa Z T196.heap b149 "com/example/moraine/moraine/Frames$Cut" := f190.keep K196
    have f205 : Exa Z T196.heap b164 "com/example/moraine/moraine/Position" := f183.keep K196
    have f206 : Fld Z T196.heap b164 "com/example/moraine/moraine/Position" "increments" "J" (.long q2) := f184.keep K196 (ninS (Ne.symm ne169) nin0)
    have f207 : Fld Z T196.heap b164 "com/example/moraine/moraine/Position" "records" "J" (.long q4) := f185.keep K196 (ninS (Ne.symm ne169) nin0)
    have Kp196 : Keep h0 T196.heap [] := Kp182.trans K196 (allS (Or.inr sz155) all0)
    have Z208 : n0 ≤ T196.heap.size := Nat.le_trans Z194 K196.1
    have N209 := Fr.app N195 N196q
    refine Goes.by (fun _ k => st196.trans k) ?_
    show Goes p.tables e below _ (T196.setTop (mkF m 126 #[.val (.int p0), .val (.int p1), .val (.long q2), .second, .val (.long q3), .second, .val (.long q4), .second, .val (.int (1 : Int32)), .val (.ref b2), .val (.ref b8), .val (.ref b21), .val (.ref b43), .val (.ref b8), .val (.int pt), .unset, .unset, .unset, .unset, .unset] [(.ref b149)]))
    refine Goes.by (B := T196.setTop (mkF m 132 #[.val (.int p0), .val (.int p1), .val (.long q2), .second, .val (.long q3), .second, .val (.long q4), .second, .val (.int (1 : Int32)), .val (.ref b2), .val (.ref b8), .val (.ref b21), .val (.ref b43), .val (.ref b8), .val (.int pt), .val (.ref b149), .unset, .unset, .unset, .unset] [(.int pt), (.ref b149)])) (fun t k => ?_) ?_
    · show Steps p.tables e below (T196.setTop (mkF m 126 #[.val (.int p0), .val (.int p1), .val (.long q2), .second, .val (.long q3), .second, .val (.long q4), .second, .val (.int (1 : Int32)), .val (.ref b2), .val (.ref b8), .val (.ref b21), .val (.ref b43), .val (.ref b8), .val (.int pt), .unset, .unset, .unset, .unset, .unset] [(.ref b149)])) t
      refine XS.astore X196.here hx rfl (hb hby at_126) rfl rfl (l' := #[.val (.int p0), .val (.int p1), .val (.long q2), .second, .val (.long q3), .second, .val (.long q4), .second, .val (.int (1 : Int32)), .val (.ref b2), .val (.ref b8), .val (.ref b21), .val (.ref b43), .val (.ref b8), .val (.int pt), .val (.ref b149), .unset, .unset, .unset, .unset]) rfl ?_
      show Steps p.tables e below (T196.setTop (mkF m 128 #[.val (.int p0), .val (.int p1), .val (.long q2), .second, .val (.long q3), .second, .val (.long q4), .second, .val (.int (1 : Int32)), .val (.ref b2), .val (.ref b8), .val (.ref b21), .val (.ref b43), .val (.ref b8), .val (.int pt), .val (.ref b149), .unset, .unset, .unset, .unset] [])) t
      refine XS.aload X196.here hx rfl (hb hby at_128) rfl rfl ?_
      show Steps p.tables e below (T196.setTop (mkF m 130 #[.val (.int p0), .val (.int p1), .val (.long q2), .second, .val (.long q3), .second, .val (.long q4), .second, .val (.int (1 : Int32)), .val (.ref b2), .val (.ref b8), .val (.ref b21), .val (.ref b43), .val (.ref b8), .val (.int pt), .val (.ref b149), .unset, .unset, .unset, .unset] [(.ref b149)])) t
      refine XS.iload X196.here hx rfl (hb hby at_130) rfl ?_
      exact k
    obtain ⟨cq210, kq210, q210a, q210b, q210c⟩ := isOf hZ rfl f197
    obtain ⟨_, _, ⟨T210, L210, k210, n210⟩, -, X210, ⟨Lc210, hQ210, l210, y210, z210⟩, st210⟩ := X196.virtualBack hx (y := (⟨"com/example/moraine/moraine/Frames$Cut", "inPart", "(I)J"⟩ : MethodName)) (z := (⟨"com/example/moraine/moraine/Frames$Cut", "inPart", "(I)J"⟩ : MethodName)) hown (mvT hZ (hw _ (List.mem_of_getElem? (i := 30) rfl))) (mvT hZ (hw _ (List.mem_of_getElem? (i := 31) rfl))) (notFace_of_selects (args := #[]) (mvT hZ (hw _ (List.mem_of_getElem? (i := 33) rfl)))) (mvT hZ (hw _ (List.mem_of_getElem? (i := 33) rfl))) (mvT hZ (hw _ (List.mem_of_getElem? (i := 32) rfl))) (by decide) (backOf (W := 0) (rmIn1 l Z az hw [] b149 pt b8 k7 q2 T196.heap n0 Z208 f199 f201 Hp) hZ (hw _ (List.mem_of_getElem? (i := 34) rfl)) (hw _ (List.mem_of_getElem? (i := 3) rfl)) (by decide) (by decide)) q210a q210c (g := (mkF m 132 #[.val (.int p0), .val (.int p1), .val (.long q2), .second, .val (.long q3), .second, .val (.long q4), .second, .val (.int (1 : Int32)), .val (.ref b2), .val (.ref b8), .val (.ref b21), .val (.ref b43), .val (.ref b8), .val (.int pt), .val (.ref b149), .unset, .unset, .unset, .unset] [(.int pt), (.ref b149)])) rfl (by rw [hml]; rfl) (Steps.refl _) (argsL := [(.int pt)]) (rest := []) (lenOf own_pd3 rfl) rfl (by show 2 * 0 + _ ≤ _; exact Nat.le_of_eq rfl) (hb hby at_132) (fun _ _ => ⟨rfl, rfl, (by decide : 6 + 0 ≤ _), (by decide : 10 + 0 ≤ _)⟩)
    dsimp only [Pt.U, Pt.locs, Pt.cells, Pt.slots] at X210 l210 y210 z210 st210 hQ210
    subst l210 y210 z210
    obtain ⟨rfl, N210q, e210⟩ := hQ210
    have N211 := Fr.app N209 N210q
    refine Goes.by (fun _ k => st210.trans k) ?_
    show Goes p.tables e below _ (T210.setTop (mkF m 135 #[.val (.int p0), .val (.int p1), .val (.long q2), .second, .val (.long q3), .second, .val (.long q4), .second, .val (.int (1 : Int32)), .val (.ref b2), .val (.ref b8), .val (.ref b21), .val (.ref b43), .val (.ref b8), .val (.int pt), .val (.ref b149), .unset, .unset, .unset, .unset] [(.long (fIn1 pt q2))]))
    refine Goes.by (B := T210.setTop (mkF m 142 #[.val (.int p0), .val (.int p1), .val (.long q2), .second, .val (.long q3), .second, .val (.long q4), .second, .val (.int (1 : Int32)), .val (.ref b2), .val (.ref b8), .val (.ref b21), .val (.ref b43), .val (.ref b8), .val (.int pt), .val (.ref b149), .val (.long (fIn1 pt q2)), .second, .val (.long (0 : Int64)), .second] [(.int pt)])) (fun t k => ?_) ?_
    · show Steps p.tables e below (T210.setTop (mkF m 135 #[.val (.int p0), .val (.int p1), .val (.long q2), .second, .val (.long q3), .second, .val (.long q4), .second, .val (.int (1 : Int32)), .val (.ref b2), .val (.ref b8), .val (.ref b21), .val (.ref b43), .val (.ref b8), .val (.int pt), .val (.ref b149), .unset, .unset, .unset, .unset] [(.long (fIn1 pt q2))])) t
      refine XS.lstore X210.here hx rfl (hb hby at_135) rfl (l' := #[.val (.int p0), .val (.int p1), .val (.long q2), .second, .val (.long q3), .second, .val (.long q4), .second, .val (.int (1 : Int32)), .val (.ref b2), .val (.ref b8), .val (.ref b21), .val (.ref b43), .val (.ref b8), .val (.int pt), .val (.ref b149), .val (.long (fIn1 pt q2)), .second, .unset, .unset]) rfl ?_
      show Steps p.tables e below (T210.setTop (mkF m 137 #[.val (.int p0), .val (.int p1), .val (.long q2), .second, .val (.long q3), .second, .val (.long q4), .second, .val (.int (1 : Int32)), .val (.ref b2), .val (.ref b8), .val (.ref b21), .val (.ref b43), .val (.ref b8), .val (.int pt), .val (.ref b149), .val (.long (fIn1 pt q2)), .second, .unset, .unset] [])) t
      refine XS.lconst X210.here hx rfl (hb hby at_137) ?_
      show Steps p.tables e below (T210.setTop (mkF m 138 #[.val (.int p0), .val (.int p1), .val (.long q2), .second, .val (.long q3), .second, .val (.long q4), .second, .val (.int (1 : Int32)), .val (.ref b2), .val (.ref b8), .val (.ref b21), .val (.ref b43), .val (.ref b8), .val (.int pt), .val (.ref b149), .val (.long (fIn1 pt q2)), .second, .unset, .unset] [(.long (0 : Int64))])) t
      refine XS.lstore X210.here hx rfl (hb hby at_138) rfl (l' := #[.val (.int p0), .val (.int p1), .val (.long q2), .second, .val (.long q3), .second, .val (.long q4), .second, .val (.int (1 : Int32)), .val (.ref b2), .val (.ref b8), .val (.ref b21), .val (.ref b43), .val (.ref b8), .val (.int pt), .val (.ref b149), .val (.long (fIn1 pt q2)), .second, .val (.long (0 : Int64)), .second]) rfl ?_
      show Steps p.tables e below (T210.setTop (mkF m 140 #[.val (.int p0), .val (.int p1), .val (.long q2), .second, .val (.long q3), .second, .val (.long q4), .second, .val (.int (1 : Int32)), .val (.ref b2), .val (.ref b8), .val (.ref b21), .val (.ref b43), .val (.ref b8), .val (.int pt), .val (.ref b149), .val (.long (fIn1 pt q2)), .second, .val (.long (0 : Int64)), .second] [])) t
      refine XS.iload X210.here hx rfl (hb hby at_140) rfl ?_
      exact k
    by_cases hc212 : pt = (0 : Int32)
    · refine Goes.by (B := T210.setTop (mkF m 204 #[.val (.int p0), .val (.int p1), .val (.long q2), .second, .val (.long q3), .second, .val (.long q4), .second, .val (.int (1 : Int32)), .val (.ref b2), .val (.ref b8), .val (.ref b21), .val (.ref b43), .val (.ref b8), .val (.int pt), .val (.ref b149), .val (.long (fIn1 pt q2)), .second, .val (.long q2), .second] [(.int (1 : Int32))])) (fun t k => ?_) ?_
      · show Steps p.tables e below (T210.setTop (mkF m 142 #[.val (.int p0), .val (.int p1), .val (.long q2), .second, .val (.long q3), .second, .val (.long q4), .second, .val (.int (1 : Int32)), .val (.ref b2), .val (.ref b8), .val (.ref b21), .val (.ref b43), .val (.ref b8), .val (.int pt), .val (.ref b149), .val (.long (fIn1 pt q2)), .second, .val (.long (0 : Int64)), .second] [(.int pt)])) t
        refine XS.ifNo X210.here hx rfl (hb hby at_142) rfl ((if0 _ _).trans (teq hc212).2) ?_
        show Steps p.tables e below (T210.setTop (mkF m 145 #[.val (.int p0), .val (.int p1), .val (.long q2), .second, .val (.long q3), .second, .val (.long q4), .second, .val (.int (1 : Int32)), .val (.ref b2), .val (.ref b8), .val (.ref b21), .val (.ref b43), .val (.ref b8), .val (.int pt), .val (.ref b149), .val (.long (fIn1 pt q2)), .second, .val (.long (0 : Int64)), .second] [])) t
        refine XS.iload X210.here hx rfl (hb hby at_145) rfl ?_
        show Steps p.tables e below (T210.setTop (mkF m 147 #[.val (.int p0), .val (.int p1), .val (.long q2), .second, .val (.long q3), .second, .val (.long q4), .second, .val (.int (1 : Int32)), .val (.ref b2), .val (.ref b8), .val (.ref b21), .val (.ref b43), .val (.ref b8), .val (.int pt), .val (.ref b149), .val (.long (fIn1 pt q2)), .second, .val (.long (0 : Int64)), .second] [(.int (1 : Int32))])) t
        refine XS.ifNo X210.here hx rfl (hb hby at_147) rfl ((if0 _ _).trans (tlt (by decide : (0 : Int32) < (1 : Int32))).2.2.2) ?_
        show Steps p.tables e below (T210.setTop (mkF m 150 #[.val (.int p0), .val (.int p1), .val (.long q2), .second, .val (.long q3), .second, .val (.long q4), .second, .val (.int (1 : Int32)), .val (.ref b2), .val (.ref b8), .val (.ref b21), .val (.ref b43), .val (.ref b8), .val (.int pt), .val (.ref b149), .val (.long (fIn1 pt q2)), .second, .val (.long (0 : Int64)), .second] [])) t
        refine XS.lloadN X210.here hx rfl (hb hby at_150) rfl ?_
        show Steps p.tables e below (T210.setTop (mkF m 151 #[.val (.int p0), .val (.int p1), .val (.long q2), .second, .val (.long q3), .second, .val (.long q4), .second, .val (.int (1 : Int32)), .val (.ref b2), .val (.ref b8), .val (.ref b21), .val (.ref b43), .val (.ref b8), .val (.int pt), .val (.ref b149), .val (.long (fIn1 pt q2)), .second, .val (.long (0 : Int64)), .second] [(.long q2)])) t
        refine XS.lstore X210.here hx rfl (hb hby at_151) rfl (l' := #[.val (.int p0), .val (.int p1), .val (.long q2), .second, .val (.long q3), .second, .val (.long q4), .second, .val (.int (1 : Int32)), .val (.ref b2), .val (.ref b8), .val (.ref b21), .val (.ref b43), .val (.ref b8), .val (.int pt), .val (.ref b149), .val (.long (fIn1 pt q2)), .second, .val (.long q2), .second]) rfl ?_
        show Steps p.tables e below (T210.setTop (mkF m 153 #[.val (.int p0), .val (.int p1), .val (.long q2), .second, .val (.long q3), .second, .val (.long q4), .second, .val (.int (1 : Int32)), .val (.ref b2), .val (.ref b8), .val (.ref b21), .val (.ref b43), .val (.ref b8), .val (.int pt), .val (.ref b149), .val (.long (fIn1 pt q2)), .second, .val (.long q2), .second] [])) t
        refine XS.goto X210.here hx rfl (pc0 := 153) (pc' := 191) rfl (hb hby at_153) (by decide) (by decide) ?_
        show Steps p.tables e below (T210.setTop (mkF m 191 #[.val (.int p0), .val (.int p1), .val (.long q2), .second, .val (.long q3), .second, .val (.long q4), .second, .val (.int (1 : Int32)), .val (.ref b2), .val (.ref b8), .val (.ref b21), .val (.ref b43), .val (.ref b8), .val (.int pt), .val (.ref b149), .val (.long (fIn1 pt q2)), .second, .val (.long q2), .second] [])) t
        refine XS.lload X210.here hx rfl (hb hby at_191) rfl ?_
        show Steps p.tables e below (T210.setTop (mkF m 193 #[.val (.int p0), .val (.int p1), .val (.long q2), .second, .val (.long q3), .second, .val (.long q4), .second, .val (.int (1 : Int32)), .val (.ref b2), .val (.ref b8), .val (.ref b21), .val (.ref b43), .val (.ref b8), .val (.int pt), .val (.ref b149), .val (.long (fIn1 pt q2)), .second, .val (.long q2), .second] [(.long (fIn1 pt q2))])) t
        refine XS.lload X210.here hx rfl (hb hby at_193) rfl ?_
        show Steps p.tables e below (T210.setTop (mkF m 195 #[.val (.int p0), .val (.int p1), .val (.long q2), .second, .val (.long q3), .second, .val (.long q4), .second, .val (.int (1 : Int32)), .val (.ref b2), .val (.ref b8), .val (.ref b21), .val (.ref b43), .val (.ref b8), .val (.int pt), .val (.ref b149), .val (.long (fIn1 pt q2)), .second, .val (.long q2), .second] [(.long q2), (.long (fIn1 pt q2))])) t
        refine XS.lcmp X210.here hx rfl (hb hby at_195) rfl ?_
        show Steps p.tables e below (T210.setTop (mkF m 196 #[.val (.int p0), .val (.int p1), .val (.long q2), .second, .val (.long q3), .second, .val (.long q4), .second, .val (.int (1 : Int32)), .val (.ref b2), .val (.ref b8), .val (.ref b21), .val (.ref b43), .val (.ref b8), .val (.int pt), .val (.ref b149), .val (.long (fIn1 pt q2)), .second, .val (.long q2), .second] [(.int (lcmpW (fIn1 pt q2) q2))])) t
        refine XS.ifNo X210.here hx rfl (hb hby at_196) rfl ((if0 _ _).trans (teq ((lw_eq (fIn1 pt q2) q2).mpr (by rw [own_in1 _ _  Hp]; simp only [if_pos hc212]))).2) ?_
        show Steps p.tables e below (T210.setTop (mkF m 199 #[.val (.int p0), .val (.int p1), .val (.long q2), .second, .val (.long q3), .second, .val (.long q4), .second, .val (.int (1 : Int32)), .val (.ref b2), .val (.ref b8), .val (.ref b21), .val (.ref b43), .val (.ref b8), .val (.int pt), .val (.ref b149), .val (.long (fIn1 pt q2)), .second, .val (.long q2), .second] [])) t
        refine XS.iconst X210.here hx rfl (hb hby at_199) ?_
        show Steps p.tables e below (T210.setTop (mkF m 200 #[.val (.int p0), .val (.int p1), .val (.long q2), .second, .val (.long q3), .second, .val (.long q4), .second, .val (.int (1 : Int32)), .val (.ref b2), .val (.ref b8), .val (.ref b21), .val (.ref b43), .val (.ref b8), .val (.int pt), .val (.ref b149), .val (.long (fIn1 pt q2)), .second, .val (.long q2), .second] [(.int (1 : Int32))])) t
        refine XS.goto X210.here hx rfl (pc0 := 200) (pc' := 204) rfl (hb hby at_200) (by decide) (by decide) ?_
        exact k
      obtain ⟨fs, hr, hrun, hended, hW, hsame⟩ := X210.leave (v := some (.int (1 : Int32))) (fun h => by rw [Bd.returns] at h; cases h)
      refine Goes.mk _ _ ?_ ⟨hrun, hended, _, _, rfl, ?_, ⟨_, rfl⟩, hW, hsame.mono (by decide) (by decide)⟩
      · exact retN X210 hx (t := .boolean) Bd.returns (by simp) (hb hby at_204) hr
      · show Q0 Z p0 p1 q2 q3 q4 h0 n0 _ T210.heap _
        rw [e210]
        exact ⟨rfl, N211⟩
    · refine Goes.by (B := T210.setTop (mkF m 159 #[.val (.int p0), .val (.int p1), .val (.long q2), .second, .val (.long q3), .second, .val (.long q4), .second, .val (.int (1 : Int32)), .val (.ref b2), .val (.ref b8), .val (.ref b21), .val (.ref b43), .val (.ref b8), .val (.int pt), .val (.ref b149), .val (.long (fIn1 pt q2)), .second, .val (.long (0 : Int64)), .second] [(.int (1 : Int32)), (.int pt)])) (fun t k => ?_) ?_
      · show Steps p.tables e below (T210.setTop (mkF m 142 #[.val (.int p0), .val (.int p1), .val (.long q2), .second, .val (.long q3), .second, .val (.long q4), .second, .val (.int (1 : Int32)), .val (.ref b2), .val (.ref b8), .val (.ref b21), .val (.ref b43), .val (.ref b8), .val (.int pt), .val (.ref b149), .val (.long (fIn1 pt q2)), .second, .val (.long (0 : Int64)), .second] [(.int pt)])) t
        refine XS.ifYes X210.here hx rfl (pc0 := 142) (pc' := 156) rfl (hb hby at_142) rfl ((if0 _ _).trans (feq hc212).2) (by decide) (by decide) ?_
        show Steps p.tables e below (T210.setTop (mkF m 156 #[.val (.int p0), .val (.int p1), .val (.long q2), .second, .val (.long q3), .second, .val (.long q4), .second, .val (.int (1 : Int32)), .val (.ref b2), .val (.ref b8), .val (.ref b21), .val (.ref b43), .val (.ref b8), .val (.int pt), .val (.ref b149), .val (.long (fIn1 pt q2)), .second, .val (.long (0 : Int64)), .second] [])) t
        refine XS.iload X210.here hx rfl (hb hby at_156) rfl ?_
        show Steps p.tables e below (T210.setTop (mkF m 158 #[.val (.int p0), .val (.int p1), .val (.long q2), .second, .val (.long q3), .second, .val (.long q4), .second, .val (.int (1 : Int32)), .val (.ref b2), .val (.ref b8), .val (.ref b21), .val (.ref b43), .val (.ref b8), .val (.int pt), .val (.ref b149), .val (.long (fIn1 pt q2)), .second, .val (.long (0 : Int64)), .second] [(.int pt)])) t
        refine XS.iconst X210.here hx rfl (hb hby at_158) ?_
        exact k
      by_cases hc213 : pt = (1 : Int32)
      · refine Goes.by (B := T210.setTop (mkF m 178 #[.val (.int p0), .val (.int p1), .val (.long q2), .second, .val (.long q3), .second, .val (.long q4), .second, .val (.int (1 : Int32)), .val (.ref b2), .val (.ref b8), .val (.ref b21), .val (.ref b43), .val (.ref b8), .val (.int pt), .val (.ref b149), .val (.long (fIn1 pt q2)), .second, .val (.long (0 : Int64)), .second] [(.int (2 : Int32)), (.int pt)])) (fun t k => ?_) ?_
        · show Steps p.tables e below (T210.setTop (mkF m 159 #[.val (.int p0), .val (.int p1), .val (.long q2), .second, .val (.long q3), .second, .val (.long q4), .second, .val (.int (1 : Int32)), .val (.ref b2), .val (.ref b8), .val (.ref b21), .val (.ref b43), .val (.ref b8), .val (.int pt), .val (.ref b149), .val (.long (fIn1 pt q2)), .second, .val (.long (0 : Int64)), .second] [(.int (1 : Int32)), (.int pt)])) t
          refine XS.icmpNo X210.here hx rfl (hb hby at_159) rfl (teq hc213).2 ?_
          show Steps p.tables e below (T210.setTop (mkF m 162 #[.val (.int p0), .val (.int p1), .val (.long q2), .second, .val (.long q3), .second, .val (.long q4), .second, .val (.int (1 : Int32)), .val (.ref b2), .val (.ref b8), .val (.ref b21), .val (.ref b43), .val (.ref b8), .val (.int pt), .val (.ref b149), .val (.long (fIn1 pt q2)), .second, .val (.long (0 : Int64)), .second] [])) t
          refine XS.iload X210.here hx rfl (hb hby at_162) rfl ?_
          show Steps p.tables e below (T210.setTop (mkF m 164 #[.val (.int p0), .val (.int p1), .val (.long q2), .second, .val (.long q3), .second, .val (.long q4), .second, .val (.int (1 : Int32)), .val (.ref b2), .val (.ref b8), .val (.ref b21), .val (.ref b43), .val (.ref b8), .val (.int pt), .val (.ref b149), .val (.long (fIn1 pt q2)), .second, .val (.long (0 : Int64)), .second] [(.int (1 : Int32))])) t
          refine XS.iconst X210.here hx rfl (hb hby at_164) ?_
          show Steps p.tables e below (T210.setTop (mkF m 165 #[.val (.int p0), .val (.int p1), .val (.long q2), .second, .val (.long q3), .second, .val (.long q4), .second, .val (.int (1 : Int32)), .val (.ref b2), .val (.ref b8), .val (.ref b21), .val (.ref b43), .val (.ref b8), .val (.int pt), .val (.ref b149), .val (.long (fIn1 pt q2)), .second, .val (.long (0 : Int64)), .second] [(.int (1 : Int32)), (.int (1 : Int32))])) t
          refine XS.icmpYes X210.here hx rfl (pc0 := 165) (pc' := 175) rfl (hb hby at_165) rfl (flt (by decide : ¬ ((1 : Int32) < (1 : Int32)))).2.2.2 (by decide) (by decide) ?_
          show Steps p.tables e below (T210.setTop (mkF m 175 #[.val (.int p0), .val (.int p1), .val (.long q2), .second, .val (.long q3), .second, .val (.long q4), .second, .val (.int (1 : Int32)), .val (.ref b2), .val (.ref b8), .val (.ref b21), .val (.ref b43), .val (.ref b8), .val (.int pt), .val (.ref b149), .val (.long (fIn1 pt q2)), .second, .val (.long (0 : Int64)), .second] [])) t
          refine XS.iload X210.here hx rfl (hb hby at_175) rfl ?_
          show Steps p.tables e below (T210.setTop (mkF m 177 #[.val (.int p0), .val (.int p1), .val (.long q2), .second, .val (.long q3), .second, .val (.long q4), .second, .val (.int (1 : Int32)), .val (.ref b2), .val (.ref b8), .val (.ref b21), .val (.ref b43), .val (.ref b8), .val (.int pt), .val (.ref b149), .val (.long (fIn1 pt q2)), .second, .val (.long (0 : Int64)), .second] [(.int pt)])) t
          refine XS.iconst X210.here hx rfl (hb hby at_177) ?_
          exact k
        by_cases hc214 : pt = (2 : Int32)
        · refine Goes.by (B := T210.setTop (mkF m 204 #[.val (.int p0), .val (.int p1), .val (.long q2), .second, .val (.long q3), .second, .val (.long q4), .second, .val (.int (1 : Int32)), .val (.ref b2), .val (.ref b8), .val (.ref b21), .val (.ref b43), .val (.ref b8), .val (.int pt), .val (.ref b149), .val (.long (fIn1 pt q2)), .second, .val (.long (0 : Int64)), .second] [(.int (1 : Int32))])) (fun t k => ?_) ?_
          · show Steps p.tables e below (T210.setTop (mkF m 178 #[.val (.int p0), .val (.int p1), .val (.long q2), .second, .val (.long q3), .second, .val (.long q4), .second, .val (.int (1 : Int32)), .val (.ref b2), .val (.ref b8), .val (.ref b21), .val (.ref b43), .val (.ref b8), .val (.int pt), .val (.ref b149), .val (.long (fIn1 pt q2)), .second, .val (.long (0 : Int64)), .second] [(.int (2 : Int32)), (.int pt)])) t
            refine XS.icmpNo X210.here hx rfl (hb hby at_178) rfl (teq hc214).2 ?_
            show Steps p.tables e below (T210.setTop (mkF m 181 #[.val (.int p0), .val (.int p1), .val (.long q2), .second, .val (.long q3), .second, .val (.long q4), .second, .val (.int (1 : Int32)), .val (.ref b2), .val (.ref b8), .val (.ref b21), .val (.ref b43), .val (.ref b8), .val (.int pt), .val (.ref b149), .val (.long (fIn1 pt q2)), .second, .val (.long (0 : Int64)), .second] [])) t
            refine XS.iload X210.here hx rfl (hb hby at_181) rfl ?_
            show Steps p.tables e below (T210.setTop (mkF m 183 #[.val (.int p0), .val (.int p1), .val (.long q2), .second, .val (.long q3), .second, .val (.long q4), .second, .val (.int (1 : Int32)), .val (.ref b2), .val (.ref b8), .val (.ref b21), .val (.ref b43), .val (.ref b8), .val (.int pt), .val (.ref b149), .val (.long (fIn1 pt q2)), .second, .val (.long (0 : Int64)), .second] [(.int (1 : Int32))])) t
            refine XS.iconst X210.here hx rfl (hb hby at_183) ?_
            show Steps p.tables e below (T210.setTop (mkF m 184 #[.val (.int p0), .val (.int p1), .val (.long q2), .second, .val (.long q3), .second, .val (.long q4), .second, .val (.int (1 : Int32)), .val (.ref b2), .val (.ref b8), .val (.ref b21), .val (.ref b43), .val (.ref b8), .val (.int pt), .val (.ref b149), .val (.long (fIn1 pt q2)), .second, .val (.long (0 : Int64)), .second] [(.int (2 : Int32)), (.int (1 : Int32))])) t
            refine XS.icmpYes X210.here hx rfl (pc0 := 184) (pc' := 191) rfl (hb hby at_184) rfl (flt (by decide : ¬ ((2 : Int32) < (1 : Int32)))).2.2.2 (by decide) (by decide) ?_
            show Steps p.tables e below (T210.setTop (mkF m 191 #[.val (.int p0), .val (.int p1), .val (.long q2), .second, .val (.long q3), .second, .val (.long q4), .second, .val (.int (1 : Int32)), .val (.ref b2), .val (.ref b8), .val (.ref b21), .val (.ref b43), .val (.ref b8), .val (.int pt), .val (.ref b149), .val (.long (fIn1 pt q2)), .second, .val (.long (0 : Int64)), .second] [])) t
            refine XS.lload X210.here hx rfl (hb hby at_191) rfl ?_
            show Steps p.tables e below (T210.setTop (mkF m 193 #[.val (.int p0), .val (.int p1), .val (.long q2), .second, .val (.long q3), .second, .val (.long q4), .second, .val (.int (1 : Int32)), .val (.ref b2), .val (.ref b8), .val (.ref b21), .val (.ref b43), .val (.ref b8), .val (.int pt), .val (.ref b149), .val (.long (fIn1 pt q2)), .second, .val (.long (0 : Int64)), .second] [(.long (fIn1 pt q2))])) t
            refine XS.lload X210.here hx rfl (hb hby at_193) rfl ?_
            show Steps p.tables e below (T210.setTop (mkF m 195 #[.val (.int p0), .val (.int p1), .val (.long q2), .second, .val (.long q3), .second, .val (.long q4), .second, .val (.int (1 : Int32)), .val (.ref b2), .val (.ref b8), .val (.ref b21), .val (.ref b43), .val (.ref b8), .val (.int pt), .val (.ref b149), .val (.long (fIn1 pt q2)), .second, .val (.long (0 : Int64)), .second] [(.long (0 : Int64)), (.long (fIn1 pt q2))])) t
            refine XS.lcmp X210.here hx rfl (hb hby at_195) rfl ?_
            show Steps p.tables e below (T210.setTop (mkF m 196 #[.val (.int p0), .val (.int p1), .val (.long q2), .second, .val (.long q3), .second, .val (.long q4), .second, .val (.int (1 : Int32)), .val (.ref b2), .val (.ref b8), .val (.ref b21), .val (.ref b43), .val (.ref b8), .val (.int pt), .val (.ref b149), .val (.long (fIn1 pt q2)), .second, .val (.long (0 : Int64)), .second] [(.int (lcmpW (fIn1 pt q2) (0 : Int64)))])) t
            refine XS.ifNo X210.here hx rfl (hb hby at_196) rfl ((if0 _ _).trans (teq ((lw_eq (fIn1 pt q2) (0 : Int64)).mpr (by rw [own_in1 _ _  Hp]; simp only [if_neg hc212, if_pos hc213, if_pos hc214]))).2) ?_
            show Steps p.tables e below (T210.setTop (mkF m 199 #[.val (.int p0), .val (.int p1), .val (.long q2), .second, .val (.long q3), .second, .val (.long q4), .second, .val (.int (1 : Int32)), .val (.ref b2), .val (.ref b8), .val (.ref b21), .val (.ref b43), .val (.ref b8), .val (.int pt), .val (.ref b149), .val (.long (fIn1 pt q2)), .second, .val (.long (0 : Int64)), .second] [])) t
            refine XS.iconst X210.here hx rfl (hb hby at_199) ?_
            show Steps p.tables e below (T210.setTop (mkF m 200 #[.val (.int p0), .val (.int p1), .val (.long q2), .second, .val (.long q3), .second, .val (.long q4), .second, .val (.int (1 : Int32)), .val (.ref b2), .val (.ref b8), .val (.ref b21), .val (.ref b43), .val (.ref b8), .val (.int pt), .val (.ref b149), .val (.long (fIn1 pt q2)), .second, .val (.long (0 : Int64)), .second] [(.int (1 : Int32))])) t
            refine XS.goto X210.here hx rfl (pc0 := 200) (pc' := 204) rfl (hb hby at_200) (by decide) (by decide) ?_
            exact k
          obtain ⟨fs, hr, hrun, hended, hW, hsame⟩ := X210.leave (v := some (.int (1 : Int32))) (fun h => by rw [Bd.returns] at h; cases h)
          refine Goes.mk _ _ ?_ ⟨hrun, hended, _, _, rfl, ?_, ⟨_, rfl⟩, hW, hsame.mono (by decide) (by decide)⟩
          · exact retN X210 hx (t := .boolean) Bd.returns (by simp) (hb hby at_204) hr
          · show Q0 Z p0 p1 q2 q3 q4 h0 n0 _ T210.heap _
            rw [e210]
            exact ⟨rfl, N211⟩
        · refine Goes.by (B := T210.setTop (mkF m 204 #[.val (.int p0), .val (.int p1), .val (.long q2), .second, .val (.long q3), .second, .val (.long q4), .second, .val (.int (1 : Int32)), .val (.ref b2), .val (.ref b8), .val (.ref b21), .val (.ref b43), .val (.ref b8), .val (.int pt), .val (.ref b149), .val (.long (fIn1 pt q2)), .second, .val (.long (0 : Int64)), .second] [(.int (1 : Int32))])) (fun t k => ?_) ?_
          · show Steps p.tables e below (T210.setTop (mkF m 178 #[.val (.int p0), .val (.int p1), .val (.long q2), .second, .val (.long q3), .second, .val (.long q4), .second, .val (.int (1 : Int32)), .val (.ref b2), .val (.ref b8), .val (.ref b21), .val (.ref b43), .val (.ref b8), .val (.int pt), .val (.ref b149), .val (.long (fIn1 pt q2)), .second, .val (.long (0 : Int64)), .second] [(.int (2 : Int32)), (.int pt)])) t
            refine XS.icmpYes X210.here hx rfl (pc0 := 178) (pc' := 191) rfl (hb hby at_178) rfl (feq hc214).2 (by decide) (by decide) ?_
            show Steps p.tables e below (T210.setTop (mkF m 191 #[.val (.int p0), .val (.int p1), .val (.long q2), .second, .val (.long q3), .second, .val (.long q4), .second, .val (.int (1 : Int32)), .val (.ref b2), .val (.ref b8), .val (.ref b21), .val (.ref b43), .val (.ref b8), .val (.int pt), .val (.ref b149), .val (.long (fIn1 pt q2)), .second, .val (.long (0 : Int64)), .second] [])) t
            refine XS.lload X210.here hx rfl (hb hby at_191) rfl ?_
            show Steps p.tables e below (T210.setTop (mkF m 193 #[.val (.int p0), .val (.int p1), .val (.long q2), .second, .val (.long q3), .second, .val (.long q4), .second, .val (.int (1 : Int32)), .val (.ref b2), .val (.ref b8), .val (.ref b21), .val (.ref b43), .val (.ref b8), .val (.int pt), .val (.ref b149), .val (.long (fIn1 pt q2)), .second, .val (.long (0 : Int64)), .second] [(.long (fIn1 pt q2))])) t
            refine XS.lload X210.here hx rfl (hb hby at_193) rfl ?_
            show Steps p.tables e below (T210.setTop (mkF m 195 #[.val (.int p0), .val (.int p1), .val (.long q2), .second, .val (.long q3), .second, .val (.long q4), .second, .val (.int (1 : Int32)), .val (.ref b2), .val (.ref b8), .val (.ref b21), .val (.ref b43), .val (.ref b8), .val (.int pt), .val (.ref b149), .val (.long (fIn1 pt q2)), .second, .val (.long (0 : Int64)), .second] [(.long (0 : Int64)), (.long (fIn1 pt q2))])) t
            refine XS.lcmp X210.here hx rfl (hb hby at_195) rfl ?_
            show Steps p.tables e below (T210.setTop (mkF m 196 #[.val (.int p0), .val (.int p1), .val (.long q2), .second, .val (.long q3), .second, .val (.long q4), .second, .val (.int (1 : Int32)), .val (.ref b2), .val (.ref b8), .val (.ref b21), .val (.ref b43), .val (.ref b8), .val (.int pt), .val (.ref b149), .val (.long (fIn1 pt q2)), .second, .val (.long (0 : Int64)), .second] [(.int (lcmpW (fIn1 pt q2) (0 : Int64)))])) t
            refine XS.ifNo X210.here hx rfl (hb hby at_196) rfl ((if0 _ _).trans (teq ((lw_eq (fIn1 pt q2) (0 : Int64)).mpr (by rw [own_in1 _ _  Hp]; simp only [if_neg hc212, if_pos hc213, if_neg hc214]))).2) ?_
            show Steps p.tables e below (T210.setTop (mkF m 199 #[.val (.int p0), .val (.int p1), .val (.long q2), .second, .val (.long q3), .second, .val (.long q4), .second, .val (.int (1 : Int32)), .val (.ref b2), .val (.ref b8), .val (.ref b21), .val (.ref b43), .val (.ref b8), .val (.int pt), .val (.ref b149), .val (.long (fIn1 pt q2)), .second, .val (.long (0 : Int64)), .second] [])) t
            refine XS.iconst X210.here hx rfl (hb hby at_199) ?_
            show Steps p.tables e below (T210.setTop (mkF m 200 #[.val (.int p0), .val (.int p1), .val (.long q2), .second, .val (.long q3), .second, .val (.long q4), .second, .val (.int (1 : Int32)), .val (.ref b2), .val (.ref b8), .val (.ref b21), .val (.ref b43), .val (.ref b8), .val (.int pt), .val (.ref b149), .val (.long (fIn1 pt q2)), .second, .val (.long (0 : Int64)), .second] [(.int (1 : Int32))])) t
            refine XS.goto X210.here hx rfl (pc0 := 200) (pc' := 204) rfl (hb hby at_200) (by decide) (by decide) ?_
            exact k
          obtain ⟨fs, hr, hrun, hended, hW, hsame⟩ := X210.leave (v := some (.int (1 : Int32))) (fun h => by rw [Bd.returns] at h; cases h)
          refine Goes.mk _ _ ?_ ⟨hrun, hended, _, _, rfl, ?_, ⟨_, rfl⟩, hW, hsame.mono (by decide) (by decide)⟩
          · exact retN X210 hx (t := .boolean) Bd.returns (by simp) (hb hby at_204) hr
          · show Q0 Z p0 p1 q2 q3 q4 h0 n0 _ T210.heap _
            rw [e210]
            exact ⟨rfl, N211⟩
      · refine Goes.by (B := T210.setTop (mkF m 178 #[.val (.int p0), .val (.int p1), .val (.long q2), .second, .val (.long q3), .second, .val (.long q4), .second, .val (.int (1 : Int32)), .val (.ref b2), .val (.ref b8), .val (.ref b21), .val (.ref b43), .val (.ref b8), .val (.int pt), .val (.ref b149), .val (.long (fIn1 pt q2)), .second, .val (.long (0 : Int64)), .second] [(.int (2 : Int32)), (.int pt)])) (fun t k => ?_) ?_
        · show Steps p.tables e below (T210.setTop (mkF m 159 #[.val (.int p0), .val (.int p1), .val (.long q2), .second, .val (.long q3), .second, .val (.long q4), .second, .val (.int (1 : Int32)), .val (.ref b2), .val (.ref b8), .val (.ref b21), .val (.ref b43), .val (.ref b8), .val (.int pt), .val (.ref b149), .val (.long (fIn1 pt q2)), .second, .val (.long (0 : Int64)), .second] [(.int (1 : Int32)), (.int pt)])) t
          refine XS.icmpYes X210.here hx rfl (pc0 := 159) (pc' := 175) rfl (hb hby at_159) rfl (feq hc213).2 (by decide) (by decide) ?_
          show Steps p.tables e below (T210.setTop (mkF m 175 #[.val (.int p0), .val (.int p1), .val (.long q2), .second, .val (.long q3), .second, .val (.long q4), .second, .val (.int (1 : Int32)), .val (.ref b2), .val (.ref b8), .val (.ref b21), .val (.ref b43), .val (.ref b8), .val (.int pt), .val (.ref b149), .val (.long (fIn1 pt q2)), .second, .val (.long (0 : Int64)), .second] [])) t
          refine XS.iload X210.here hx rfl (hb hby at_175) rfl ?_
          show Steps p.tables e below (T210.setTop (mkF m 177 #[.val (.int p0), .val (.int p1), .val (.long q2), .second, .val (.long q3), .second, .val (.long q4), .second, .val (.int (1 : Int32)), .val (.ref b2), .val (.ref b8), .val (.ref b21), .val (.ref b43), .val (.ref b8), .val (.int pt), .val (.ref b149), .val (.long (fIn1 pt q2)), .second, .val (.long (0 : Int64)), .second] [(.int pt)])) t
          refine XS.iconst X210.here hx rfl (hb hby at_177) ?_
          exact k
        by_cases hc215 : pt = (2 : Int32)
        · refine Goes.by (B := T210.setTop (mkF m 204 #[.val (.int p0), .val (.int p1), .val (.long q2), .second, .val (.long q3), .second, .val (.long q4), .second, .val (.int (1 : Int32)), .val (.ref b2), .val (.ref b8), .val (.ref b21), .val (.ref b43), .val (.ref b8), .val (.int pt), .val (.ref b149), .val (.long (fIn1 pt q2)), .second, .val (.long (0 : Int64)), .second] [(.int (1 : Int32))])) (fun t k => ?_) ?_
          · show Steps p.tables e below (T210.setTop (mkF m 178 #[.val (.int p0), .val (.int p1), .val (.long q2), .second, .val (.long q3), .second, .val (.long q4), .second, .val (.int (1 : Int32)), .val (.ref b2), .val (.ref b8), .val (.ref b21), .val (.ref b43), .val (.ref b8), .val (.int pt), .val (.ref b149), .val (.long (fIn1 pt q2)), .second, .val (.long (0 : Int64)), .second] [(.int (2 : Int32)), (.int pt)])) t
            refine XS.icmpNo X210.here hx rfl (hb hby at_178) rfl (teq hc215).2 ?_
            show Steps p.tables e below (T210.setTop (mkF m 181 #[.val (.int p0), .val (.int p1), .val (.long q2), .second, .val (.long q3), .second, .val (.long q4), .second, .val (.int (1 : Int32)), .val (.ref b2), .val (.ref b8), .val (.ref b21), .val (.ref b43), .val (.ref b8), .val (.int pt), .val (.ref b149), .val (.long (fIn1 pt q2)), .second, .val (.long (0 : Int64)), .second] [])) t
            refine XS.iload X210.here hx rfl (hb hby at_181) rfl ?_
            show Steps p.tables e below (T210.setTop (mkF m 183 #[.val (.int p0), .val (.int p1), .val (.long q2), .second, .val (.long q3), .second, .val (.long q4), .second, .val (.int (1 : Int32)), .val (.ref b2), .val (.ref b8), .val (.ref b21), .val (.ref b43), .val (.ref b8), .val (.int pt), .val (.ref b149), .val (.long (fIn1 pt q2)), .second, .val (.long (0 : Int64)), .second] [(.int (1 : Int32))])) t
            refine XS.iconst X210.here hx rfl (hb hby at_183) ?_
            show Steps p.tables e below (T210.setTop (mkF m 184 #[.val (.int p0), .val (.int p1), .val (.long q2), .second, .val (.long q3), .second, .val (.long q4), .second, .val (.int (1 : Int32)), .val (.ref b2), .val (.ref b8), .val (.ref b21), .val (.ref b43), .val (.ref b8), .val (.int pt), .val (.ref b149), .val (.long (fIn1 pt q2)), .second, .val (.long (0 : Int64)), .second] [(.int (2 : Int32)), (.int (1 : Int32))])) t
            refine XS.icmpYes X210.here hx rfl (pc0 := 184) (pc' := 191) rfl (hb hby at_184) rfl (flt (by decide : ¬ ((2 : Int32) < (1 : Int32)))).2.2.2 (by decide) (by decide) ?_
            show Steps p.tables e below (T210.setTop (mkF m 191 #[.val (.int p0), .val (.int p1), .val (.long q2), .second, .val (.long q3), .second, .val (.long q4), .second, .val (.int (1 : Int32)), .val (.ref b2), .val (.ref b8), .val (.ref b21), .val (.ref b43), .val (.ref b8), .val (.int pt), .val (.ref b149), .val (.long (fIn1 pt q2)), .second, .val (.long (0 : Int64)), .second] [])) t
            refine XS.lload X210.here hx rfl (hb hby at_191) rfl ?_
            show Steps p.tables e below (T210.setTop (mkF m 193 #[.val (.int p0), .val (.int p1), .val (.long q2), .second, .val (.long q3), .second, .val (.long q4), .second, .val (.int (1 : Int32)), .val (.ref b2), .val (.ref b8), .val (.ref b21), .val (.ref b43), .val (.ref b8), .val (.int pt), .val (.ref b149), .val (.long (fIn1 pt q2)), .second, .val (.long (0 : Int64)), .second] [(.long (fIn1 pt q2))])) t
            refine XS.lload X210.here hx rfl (hb hby at_193) rfl ?_
            show Steps p.tables e below (T210.setTop (mkF m 195 #[.val (.int p0), .val (.int p1), .val (.long q2), .second, .val (.long q3), .second, .val (.long q4), .second, .val (.int (1 : Int32)), .val (.ref b2), .val (.ref b8), .val (.ref b21), .val (.ref b43), .val (.ref b8), .val (.int pt), .val (.ref b149), .val (.long (fIn1 pt q2)), .second, .val (.long (0 : Int64)), .second] [(.long (0 : Int64)), (.long (fIn1 pt q2))])) t
            refine XS.lcmp X210.here hx rfl (hb hby at_195) rfl ?_
            show Steps p.tables e below (T210.setTop (mkF m 196 #[.val (.int p0), .val (.int p1), .val (.long q2), .second, .val (.long q3), .second, .val (.long q4), .second, .val (.int (1 : Int32)), .val (.ref b2), .val (.ref b8), .val (.ref b21), .val (.ref b43), .val (.ref b8), .val (.int pt), .val (.ref b149), .val (.long (fIn1 pt q2)), .second, .val (.long (0 : Int64)), .second] [(.int (lcmpW (fIn1 pt q2) (0 : Int64)))])) t
            refine XS.ifNo X210.here hx rfl (hb hby at_196) rfl ((if0 _ _).trans (teq ((lw_eq (fIn1 pt q2) (0 : Int64)).mpr (by rw [own_in1 _ _  Hp]; simp only [if_neg hc212, if_neg hc213, if_pos hc215]))).2) ?_
            show Steps p.tables e below (T210.setTop (mkF m 199 #[.val (.int p0), .val (.int p1), .val (.long q2), .second, .val (.long q3), .second, .val (.long q4), .second, .val (.int (1 : Int32)), .val (.ref b2), .val (.ref b8), .val (.ref b21), .val (.ref b43), .val (.ref b8), .val (.int pt), .val (.ref b149), .val (.long (fIn1 pt q2)), .second, .val (.long (0 : Int64)), .second] [])) t
            refine XS.iconst X210.here hx rfl (hb hby at_199) ?_
            show Steps p.tables e below (T210.setTop (mkF m 200 #[.val (.int p0), .val (.int p1), .val (.long q2), .second, .val (.long q3), .second, .val (.long q4), .second, .val (.int (1 : Int32)), .val (.ref b2), .val (.ref b8), .val (.ref b21), .val (.ref b43), .val (.ref b8), .val (.int pt), .val (.ref b149), .val (.long (fIn1 pt q2)), .second, .val (.long (0 : Int64)), .second] [(.int (1 : Int32))])) t
            refine XS.goto X210.here hx rfl (pc0 := 200) (pc' := 204) rfl (hb hby at_200) (by decide) (by decide) ?_
            exact k
          obtain ⟨fs, hr, hrun, hended, hW, hsame⟩ := X210.leave (v := some (.int (1 : Int32))) (fun h => by rw [Bd.returns] at h; cases h)
          refine Goes.mk _ _ ?_ ⟨hrun, hended, _, _, rfl, ?_, ⟨_, rfl⟩, hW, hsame.mono (by decide) (by decide)⟩
          · exact retN X210 hx (t := .boolean) Bd.returns (by simp) (hb hby at_204) hr
          · show Q0 Z p0 p1 q2 q3 q4 h0 n0 _ T210.heap _
            rw [e210]
            exact ⟨rfl, N211⟩
        · refine Goes.by (B := T210.setTop (mkF m 204 #[.val (.int p0), .val (.int p1), .val (.long q2), .second, .val (.long q3), .second, .val (.long q4), .second, .val (.int (1 : Int32)), .val (.ref b2), .val (.ref b8), .val (.ref b21), .val (.ref b43), .val (.ref b8), .val (.int pt), .val (.ref b149), .val (.long (fIn1 pt q2)), .second, .val (.long (0 : Int64)), .second] [(.int (1 : Int32))])) (fun t k => ?_) ?_
          · show Steps p.tables e below (T210.setTop (mkF m 178 #[.val (.int p0), .val (.int p1), .val (.long q2), .second, .val (.long q3), .second, .val (.long q4), .second, .val (.int (1 : Int32)), .val (.ref b2), .val (.ref b8), .val (.ref b21), .val (.ref b43), .val (.ref b8), .val (.int pt), .val (.ref b149), .val (.long (fIn1 pt q2)), .second, .val (.long (0 : Int64)), .second] [(.int (2 : Int32)), (.int pt)])) t
            refine XS.icmpYes X210.here hx rfl (pc0 := 178) (pc' := 191) rfl (hb hby at_178) rfl (feq hc215).2 (by decide) (by decide) ?_
            show Steps p.tables e below (T210.setTop (mkF m 191 #[.val (.int p0), .val (.int p1), .val (.long q2), .second, .val (.long q3), .second, .val (.long q4), .second, .val (.int (1 : Int32)), .val (.ref b2), .val (.ref b8), .val (.ref b21), .val (.ref b43), .val (.ref b8), .val (.int pt), .val (.ref b149), .val (.long (fIn1 pt q2)), .second, .val (.long (0 : Int64)), .second] [])) t
            refine XS.lload X210.here hx rfl (hb hby at_191) rfl ?_
            show Steps p.tables e below (T210.setTop (mkF m 193 #[.val (.int p0), .val (.int p1), .val (.long q2), .second, .val (.long q3), .second, .val (.long q4), .second, .val (.int (1 : Int32)), .val (.ref b2), .val (.ref b8), .val (.ref b21), .val (.ref b43), .val (.ref b8), .val (.int pt), .val (.ref b149), .val (.long (fIn1 pt q2)), .second, .val (.long (0 : Int64)), .second] [(.long (fIn1 pt q2))])) t
            refine XS.lload X210.here hx rfl (hb hby at_193) rfl ?_
            show Steps p.tables e below (T210.setTop (mkF m 195 #[.val (.int p0), .val (.int p1), .val (.long q2), .second, .val (.long q3), .second, .val (.long q4), .second, .val (.int (1 : Int32)), .val (.ref b2), .val (.ref b8), .val (.ref b21), .val (.ref b43), .val (.ref b8), .val (.int pt), .val (.ref b149), .val (.long (fIn1 pt q2)), .second, .val (.long (0 : Int64)), .second] [(.long (0 : Int64)), (.long (fIn1 pt q2))])) t
            refine XS.lcmp X210.here hx rfl (hb hby at_195) rfl ?_
            show Steps p.tables e below (T210.setTop (mkF m 196 #[.val (.int p0), .val (.int p1), .val (.long q2), .second, .val (.long q3), .second, .val (.long q4), .second, .val (.int (1 : Int32)), .val (.ref b2), .val (.ref b8), .val (.ref b21), .val (.ref b43), .val (.ref b8), .val (.int pt), .val (.ref b149), .val (.long (fIn1 pt q2)), .second, .val (.long (0 : Int64)), .second] [(.int (lcmpW (fIn1 pt q2) (0 : Int64)))])) t
            refine XS.ifNo X210.here hx rfl (hb hby at_196) rfl ((if0 _ _).trans (teq ((lw_eq (fIn1 pt q2) (0 : Int64)).mpr (by rw [own_in1 _ _  Hp]; simp only [if_neg hc212, if_neg hc213, if_neg hc215]))).2) ?_
            show Steps p.tables e below (T210.setTop (mkF m 199 #[.val (.int p0), .val (.int p1), .val (.long q2), .second, .val (.long q3), .second, .val (.long q4), .second, .val (.int (1 : Int32)), .val (.ref b2), .val (.ref b8), .val (.ref b21), .val (.ref b43), .val (.ref b8), .val (.int pt), .val (.ref b149), .val (.long (fIn1 pt q2)), .second, .val (.long (0 : Int64)), .second] [])) t
            refine XS.iconst X210.here hx rfl (hb hby at_199) ?_
            show Steps p.tables e below (T210.setTop (mkF m 200 #[.val (.int p0), .val (.int p1), .val (.long q2), .second, .val (.long q3), .second, .val (.long q4), .second, .val (.int (1 : Int32)), .val (.ref b2), .val (.ref b8), .val (.ref b21), .val (.ref b43), .val (.ref b8), .val (.int pt), .val (.ref b149), .val (.long (fIn1 pt q2)), .second, .val (.long (0 : Int64)), .second] [(.int (1 : Int32))])) t
            refine XS.goto X210.here hx rfl (pc0 := 200) (pc' := 204) rfl (hb hby at_200) (by decide) (by decide) ?_
            exact k
          obtain ⟨fs, hr, hrun, hended, hW, hsame⟩ := X210.leave (v := some (.int (1 : Int32))) (fun h => by rw [Bd.returns] at h; cases h)
          refine Goes.mk _ _ ?_ ⟨hrun, hended, _, _, rfl, ?_, ⟨_, rfl⟩, hW, hsame.mono (by decide) (by decide)⟩
          · exact retN X210 hx (t := .boolean) Bd.returns (by simp) (hb hby at_204) hr
          · show Q0 Z p0 p1 q2 q3 q4 h0 n0 _ T210.heap _
            rw [e210]
            exact ⟨rfl, N211⟩
  · refine Goes.by (B := T68.setTop (mkF m 91 #[.val (.int p0), .val (.int p1), .val (.long q2), .second, .val (.long q3), .second, .val (.long q4), .second, .val (.int (2 : Int32)), .val (.ref b2), .val (.ref b8), .val (.ref b21), .val (.ref b43), .val (.ref b21), .unset, .unset, .unset, .unset, .unset, .unset] [(.int (p1 &&& (1 : Int32)))])) (fun t k => ?_) ?_
    · show Steps p.tables e below (T68.setTop (mkF m 52 #[.val (.int p0), .val (.int p1), .val (.long q2), .second, .val (.long q3), .second, .val (.long q4), .second, .val (.int (2 : Int32)), .val (.ref b2), .val (.ref b8), .val (.ref b21), .val (.ref b43), .unset, .unset, .unset, .unset, .unset, .unset, .unset] [])) t
      refine XS.iload X68.here hx rfl (hb hby at_52) rfl ?_
      show Steps p.tables e below (T68.setTop (mkF m 54 #[.val (.int p0), .val (.int p1), .val (.long q2), .second, .val (.long q3), .second, .val (.long q4), .second, .val (.int (2 : Int32)), .val (.ref b2), .val (.ref b8), .val (.ref b21), .val (.ref b43), .unset, .unset, .unset, .unset, .unset, .unset, .unset] [(.int (2 : Int32))])) t
      refine XS.ifYes X68.here hx rfl (pc0 := 54) (pc' := 62) rfl (hb hby at_54) rfl ((if0 _ _).trans (feq (by decide : ¬ ((2 : Int32) = (0 : Int32)))).2) (by decide) (by decide) ?_
      show Steps p.tables e below (T68.setTop (mkF m 62 #[.val (.int p0), .val (.int p1), .val (.long q2), .second, .val (.long q3), .second, .val (.long q4), .second, .val (.int (2 : Int32)), .val (.ref b2), .val (.ref b8), .val (.ref b21), .val (.ref b43), .unset, .unset, .unset, .unset, .unset, .unset, .unset] [])) t
      refine XS.iload X68.here hx rfl (hb hby at_62) rfl ?_
      show Steps p.tables e below (T68.setTop (mkF m 64 #[.val (.int p0), .val (.int p1), .val (.long q2), .second, .val (.long q3), .second, .val (.long q4), .second, .val (.int (2 : Int32)), .val (.ref b2), .val (.ref b8), .val (.ref b21), .val (.ref b43), .unset, .unset, .unset, .unset, .unset, .unset, .unset] [(.int (2 : Int32))])) t
      refine XS.iconst X68.here hx rfl (hb hby at_64) ?_
      show Steps p.tables e below (T68.setTop (mkF m 65 #[.val (.int p0), .val (.int p1), .val (.long q2), .second, .val (.long q3), .second, .val (.long q4), .second, .val (.int (2 : Int32)), .val (.ref b2), .val (.ref b8), .val (.ref b21), .val (.ref b43), .unset, .unset, .unset, .unset, .unset, .unset, .unset] [(.int (1 : Int32)), (.int (2 : Int32))])) t
      refine XS.icmpYes X68.here hx rfl (pc0 := 65) (pc' := 73) rfl (hb hby at_65) rfl (feq (by decide : ¬ ((2 : Int32) = (1 : Int32)))).2 (by decide) (by decide) ?_
      show Steps p.tables e below (T68.setTop (mkF m 73 #[.val (.int p0), .val (.int p1), .val (.long q2), .second, .val (.long q3), .second, .val (.long q4), .second, .val (.int (2 : Int32)), .val (.ref b2), .val (.ref b8), .val (.ref b21), .val (.ref b43), .unset, .unset, .unset, .unset, .unset, .unset, .unset] [])) t
      refine XS.iload X68.here hx rfl (hb hby at_73) rfl ?_
      show Steps p.tables e below (T68.setTop (mkF m 75 #[.val (.int p0), .val (.int p1), .val (.long q2), .second, .val (.long q3), .second, .val (.long q4), .second, .val (.int (2 : Int32)), .val (.ref b2), .val (.ref b8), .val (.ref b21), .val (.ref b43), .unset, .unset, .unset, .unset, .unset, .unset, .unset] [(.int (2 : Int32))])) t
      refine XS.iconst X68.here hx rfl (hb hby at_75) ?_
      show Steps p.tables e below (T68.setTop (mkF m 76 #[.val (.int p0), .val (.int p1), .val (.long q2), .second, .val (.long q3), .second, .val (.long q4), .second, .val (.int (2 : Int32)), .val (.ref b2), .val (.ref b8), .val (.ref b21), .val (.ref b43), .unset, .unset, .unset, .unset, .unset, .unset, .unset] [(.int (2 : Int32)), (.int (2 : Int32))])) t
      refine XS.icmpNo X68.here hx rfl (hb hby at_76) rfl (teq (by decide : (2 : Int32) = (2 : Int32))).2 ?_
      show Steps p.tables e below (T68.setTop (mkF m 79 #[.val (.int p0), .val (.int p1), .val (.long q2), .second, .val (.long q3), .second, .val (.long q4), .second, .val (.int (2 : Int32)), .val (.ref b2), .val (.ref b8), .val (.ref b21), .val (.ref b43), .unset, .unset, .unset, .unset, .unset, .unset, .unset] [])) t
      refine XS.aload X68.here hx rfl (hb hby at_79) rfl rfl ?_
      show Steps p.tables e below (T68.setTop (mkF m 81 #[.val (.int p0), .val (.int p1), .val (.long q2), .second, .val (.long q3), .second, .val (.long q4), .second, .val (.int (2 : Int32)), .val (.ref b2), .val (.ref b8), .val (.ref b21), .val (.ref b43), .unset, .unset, .unset, .unset, .unset, .unset, .unset] [(.ref b21)])) t
      refine XS.goto X68.here hx rfl (pc0 := 81) (pc' := 86) rfl (hb hby at_81) (by decide) (by decide) ?_
      show Steps p.tables e below (T68.setTop (mkF m 86 #[.val (.int p0), .val (.int p1), .val (.long q2), .second, .val (.long q3), .second, .val (.long q4), .second, .val (.int (2 : Int32)), .val (.ref b2), .val (.ref b8), .val (.ref b21), .val (.ref b43), .unset, .unset, .unset, .unset, .unset, .unset, .unset] [(.ref b21)])) t
      refine XS.astore X68.here hx rfl (hb hby at_86) rfl rfl (l' := #[.val (.int p0), .val (.int p1), .val (.long q2), .second, .val (.long q3), .second, .val (.long q4), .second, .val (.int (2 : Int32)), .val (.ref b2), .val (.ref b8), .val (.ref b21), .val (.ref b43), .val (.ref b21), .unset, .unset, .unset, .unset, .unset, .unset]) rfl ?_
      show Steps p.tables e below (T68.setTop (mkF m 88 #[.val (.int p0), .val (.int p1), .val (.long q2), .second, .val (.long q3), .second, .val (.long q4), .second, .val (.int (2 : Int32)), .val (.ref b2), .val (.ref b8), .val (.ref b21), .val (.ref b43), .val (.ref b21), .unset, .unset, .unset, .unset, .unset, .unset] [])) t
      refine XS.iloadN X68.here hx rfl (hb hby at_88) rfl ?_
      show Steps p.tables e below (T68.setTop (mkF m 89 #[.val (.int p0), .val (.int p1), .val (.long q2), .second, .val (.long q3), .second, .val (.long q4), .second, .val (.int (2 : Int32)), .val (.ref b2), .val (.ref b8), .val (.ref b21), .val (.ref b43), .val (.ref b21), .unset, .unset, .unset, .unset, .unset, .unset] [(.int p1)])) t
      refine XS.iconst X68.here hx rfl (hb hby at_89) ?_
      show Steps p.tables e below (T68.setTop (mkF m 90 #[.val (.int p0), .val (.int p1), .val (.long q2), .second, .val (.long q3), .second, .val (.long q4), .second, .val (.int (2 : Int32)), .val (.ref b2), .val (.ref b8), .val (.ref b21), .val (.ref b43), .val (.ref b21), .unset, .unset, .unset, .unset, .unset, .unset] [(.int (1 : Int32)), (.int p1)])) t
      refine XS.iand X68.here hx rfl (hb hby at_90) rfl ?_
      exact k
    refine Goes.by (B := T68.setTop (mkF m 105 #[.val (.int p0), .val (.int p1), .val (.long q2), .second, .val (.long q3), .second, .val (.long q4), .second, .val (.int (2 : Int32)), .val (.ref b2), .val (.ref b8), .val (.ref b21), .val (.ref b43), .val (.ref b21), .unset, .unset, .unset, .unset, .unset, .unset] [(.int (if (p1 &&& (1 : Int32)) = (0 : Int32) then ((p1.toUInt32 >>> ((1 : Int32) &&& 31).toUInt32).toInt32) else (((p1.toUInt32 >>> ((1 : Int32) &&& 31).toUInt32).toInt32) &&& (3 : Int32))))])) (fun t k => ?_) ?_
    · by_cases hm216 : (p1 &&& (1 : Int32)) = (0 : Int32)
      · simp only [if_pos hm216] at k
        show Steps p.tables e below (T68.setTop (mkF m 91 #[.val (.int p0), .val (.int p1), .val (.long q2), .second, .val (.long q3), .second, .val (.long q4), .second, .val (.int (2 : Int32)), .val (.ref b2), .val (.ref b8), .val (.ref b21), .val (.ref b43), .val (.ref b21), .unset, .unset, .unset, .unset, .unset, .unset] [(.int (p1 &&& (1 : Int32)))])) t
        refine XS.ifYes X68.here hx rfl (pc0 := 91) (pc' := 102) rfl (hb hby at_91) rfl ((if0 _ _).trans (teq hm216).1) (by decide) (by decide) ?_
        show Steps p.tables e below (T68.setTop (mkF m 102 #[.val (.int p0), .val (.int p1), .val (.long q2), .second, .val (.long q3), .second, .val (.long q4), .second, .val (.int (2 : Int32)), .val (.ref b2), .val (.ref b8), .val (.ref b21), .val (.ref b43), .val (.ref b21), .unset, .unset, .unset, .unset, .unset, .unset] [])) t
        refine XS.iloadN X68.here hx rfl (hb hby at_102) rfl ?_
        show Steps p.tables e below (T68.setTop (mkF m 103 #[.val (.int p0), .val (.int p1), .val (.long q2), .second, .val (.long q3), .second, .val (.long q4), .second, .val (.int (2 : Int32)), .val (.ref b2), .val (.ref b8), .val (.ref b21), .val (.ref b43), .val (.ref b21), .unset, .unset, .unset, .unset, .unset, .unset] [(.int p1)])) t
        refine XS.iconst X68.here hx rfl (hb hby at_103) ?_
        show Steps p.tables e below (T68.setTop (mkF m 104 #[.val (.int p0), .val (.int p1), .val (.long q2), .second, .val (.long q3), .second, .val (.long q4), .second, .val (.int (2 : Int32)), .val (.ref b2), .val (.ref b8), .val (.ref b21), .val (.ref b43), .val (.ref b21), .unset, .unset, .unset, .unset, .unset, .unset] [(.int (1 : Int32)), (.int p1)])) t
        refine XS.iushr X68.here hx rfl (hb hby at_104) rfl ?_
        exact k
      · simp only [if_neg hm216] at k
        show Steps p.tables e below (T68.setTop (mkF m 91 #[.val (.int p0), .val (.int p1), .val (.long q2), .second, .val (.long q3), .second, .val (.long q4), .second, .val (.int (2 : Int32)), .val (.ref b2), .val (.ref b8), .val (.ref b21), .val (.ref b43), .val (.ref b21), .unset, .unset, .unset, .unset, .unset, .unset] [(.int (p1 &&& (1 : Int32)))])) t
        refine XS.ifNo X68.here hx rfl (hb hby at_91) rfl ((if0 _ _).trans (feq hm216).1) ?_
        show Steps p.tables e below (T68.setTop (mkF m 94 #[.val (.int p0), .val (.int p1), .val (.long q2), .second, .val (.long q3), .second, .val (.long q4), .second, .val (.int (2 : Int32)), .val (.ref b2), .val (.ref b8), .val (.ref b21), .val (.ref b43), .val (.ref b21), .unset, .unset, .unset, .unset, .unset, .unset] [])) t
        refine XS.iloadN X68.here hx rfl (hb hby at_94) rfl ?_
        show Steps p.tables e below (T68.setTop (mkF m 95 #[.val (.int p0), .val (.int p1), .val (.long q2), .second, .val (.long q3), .second, .val (.long q4), .second, .val (.int (2 : Int32)), .val (.ref b2), .val (.ref b8), .val (.ref b21), .val (.ref b43), .val (.ref b21), .unset, .unset, .unset, .unset, .unset, .unset] [(.int p1)])) t
        refine XS.iconst X68.here hx rfl (hb hby at_95) ?_
        show Steps p.tables e below (T68.setTop (mkF m 96 #[.val (.int p0), .val (.int p1), .val (.long q2), .second, .val (.long q3), .second, .val (.long q4), .second, .val (.int (2 : Int32)), .val (.ref b2), .val (.ref b8), .val (.ref b21), .val (.ref b43), .val (.ref b21), .unset, .unset, .unset, .unset, .unset, .unset] [(.int (1 : Int32)), (.int p1)])) t
        refine XS.iushr X68.here hx rfl (hb hby at_96) rfl ?_
        show Steps p.tables e below (T68.setTop (mkF m 97 #[.val (.int p0), .val (.int p1), .val (.long q2), .second, .val (.long q3), .second, .val (.long q4), .second, .val (.int (2 : Int32)), .val (.ref b2), .val (.ref b8), .val (.ref b21), .val (.ref b43), .val (.ref b21), .unset, .unset, .unset, .unset, .unset, .unset] [(.int ((p1.toUInt32 >>> ((1 : Int32) &&& 31).toUInt32).toInt32))])) t
        refine XS.iconst X68.here hx rfl (hb hby at_97) ?_
        show Steps p.tables e below (T68.setTop (mkF m 98 #[.val (.int p0), .val (.int p1), .val (.long q2), .second, .val (.long q3), .second, .val (.long q4), .second, .val (.int (2 : Int32)), .val (.ref b2), .val (.ref b8), .val (.ref b21), .val (.ref b43), .val (.ref b21), .unset, .unset, .unset, .unset, .unset, .unset] [(.int (3 : Int32)), (.int ((p1.toUInt32 >>> ((1 : Int32) &&& 31).toUInt32).toInt32))])) t
        refine XS.iand X68.here hx rfl (hb hby at_98) rfl ?_
        show Steps p.tables e below (T68.setTop (mkF m 99 #[.val (.int p0), .val (.int p1), .val (.long q2), .second, .val (.long q3), .second, .val (.long q4), .second, .val (.int (2 : Int32)), .val (.ref b2), .val (.ref b8), .val (.ref b21), .val (.ref b43), .val (.ref b21), .unset, .unset, .unset, .unset, .unset, .unset] [(.int (((p1.toUInt32 >>> ((1 : Int32) &&& 31).toUInt32).toInt32) &&& (3 : Int32)))])) t
        refine XS.goto X68.here hx rfl (pc0 := 99) (pc' := 105) rfl (hb hby at_99) (by decide) (by decide) ?_
        exact k
    refine Goes.by (B := T68.setTop (mkF m 107 #[.val (.int p0), .val (.int p1), .val (.long q2), .second, .val (.long q3), .second, .val (.long q4), .second, .val (.int (2 : Int32)), .val (.ref b2), .val (.ref b8), .val (.ref b21), .val (.ref b43), .val (.ref b21), .val (.int (if (p1 &&& (1 : Int32)) = (0 : Int32) then ((p1.toUInt32 >>> ((1 : Int32) &&& 31).toUInt32).toInt32) else (((p1.toUInt32 >>> ((1 : Int32) &&& 31).toUInt32).toInt32) &&& (3 : Int32)))), .unset, .unset, .unset, .unset, .unset] [])) (fun t k => ?_) ?_
    · show Steps p.tables e below (T68.setTop (mkF m 105 #[.val (.int p0), .val (.int p1), .val (.long q2), .second, .val (.long q3), .second, .val (.long q4), .second, .val (.int (2 : Int32)), .val (.ref b2), .val (.ref b8), .val (.ref b21), .val (.ref b43), .val (.ref b21), .unset, .unset, .unset, .unset, .unset, .unset] [(.int (if (p1 &&& (1 : Int32)) = (0 : Int32) then ((p1.toUInt32 >>> ((1 : Int32) &&& 31).toUInt32).toInt32) else (((p1.toUInt32 >>> ((1 : Int32) &&& 31).toUInt32).toInt32) &&& (3 : Int32))))])) t
      refine XS.istore X68.here hx rfl (hb hby at_105) rfl (l' := #[.val (.int p0), .val (.int p1), .val (.long q2), .second, .val (.long q3), .second, .val (.long q4), .second, .val (.int (2 : Int32)), .val (.ref b2), .val (.ref b8), .val (.ref b21), .val (.ref b43), .val (.ref b21), .val (.int (if (p1 &&& (1 : Int32)) = (0 : Int32) then ((p1.toUInt32 >>> ((1 : Int32) &&& 31).toUInt32).toInt32) else (((p1.toUInt32 >>> ((1 : Int32) &&& 31).toUInt32).toInt32) &&& (3 : Int32)))), .unset, .unset, .unset, .unset, .unset]) rfl ?_
      exact k
    generalize hg_pt : (if (p1 &&& (1 : Int32)) = (0 : Int32) then ((p1.toUInt32 >>> ((1 : Int32) &&& 31).toUInt32).toInt32) else (((p1.toUInt32 >>> ((1 : Int32) &&& 31).toUInt32).toInt32) &&& (3 : Int32))) = pt
    have Hp := own_pt p1 pt hg_pt
    obtain ⟨T217, h217, X217, e217, E217, A217, D217, -, st217⟩ := newO X68 hx hZ hown (hw _ (List.mem_of_getElem? (i := 1) rfl)) (hw _ (List.mem_of_getElem? (i := 2) rfl)) (hw _ (List.mem_of_getElem? (i := 3) rfl)) e68 (g := (mkF m 107 #[.val (.int p0), .val (.int p1), .val (.long q2), .second, .val (.long q3), .second, .val (.long q4), .second, .val (.int (2 : Int32)), .val (.ref b2), .val (.ref b8), .val (.ref b21), .val (.ref b43), .val (.ref b21), .val (.int pt), .unset, .unset, .unset, .unset, .unset] [])) rfl (hb hby at_107) (by decide) (by decide)
    obtain ⟨b218, g217⟩ : ∃ z, z = h68.size := ⟨_, rfl⟩
    rw [← g217] at A217 D217 st217
    have ne219 : b2 ≠ b218 := Nat.ne_of_lt (Nat.lt_of_lt_of_le f69.lt (Nat.le_of_eq g217.symm))
    have ne220 : b8 ≠ b218 := Nat.ne_of_lt (Nat.lt_of_lt_of_le f70.lt (Nat.le_of_eq g217.symm))
    have ne221 : b21 ≠ b218 := Nat.ne_of_lt (Nat.lt_of_lt_of_le f71.lt (Nat.le_of_eq g217.symm))
    have ne222 : b43 ≠ b218 := Nat.ne_of_lt (Nat.lt_of_lt_of_le f72.lt (Nat.le_of_eq g217.symm))
    have ge223 : n0 ≤ b218 := Nat.le_trans Z73 (Nat.le_of_eq g217.symm)
    have sz224 : h0.size ≤ b218 := Nat.le_trans Kp68.1 (Nat.le_of_eq g217.symm)
    have f225 : Arv Z h217 b2 k1 .long (0 : Int32) [] (.long (0 : Int64)) := f69.ext E217
    have f226 : Arv Z h217 b8 k7 .long (1 : Int32) [(.long q2)] (.long (0 : Int64)) := f70.ext E217
    have f227 : Arv Z h217 b21 k20 .long (2 : Int32) [(.long q2), (.long q3)] (.long (0 : Int64)) := f71.ext E217
    have f228 : Arv Z h217 b43 k42 .long (3 : Int32) [(.long q2), (.long q3), (.long q4)] (.long (0 : Int64)) := f72.ext E217
    have f229 : Fld Z h217 b218 "com/example/moraine/moraine/Frames$Cut" "position" "Lcom/example/moraine/moraine/Position;" .null := D217 (Or.inr (hw _ (List.mem_of_getElem? (i := 27) rfl))) (ty := (.object "com/example/moraine/moraine/Position")) (by decide)
    have f230 : Fld Z h217 b218 "com/example/moraine/moraine/Frames$Cut" "inParts" "[J" .null := D217 (Or.inr (hw _ (List.mem_of_getElem? (i := 29) rfl))) (ty := (.array .long)) (by decide)
    have Kp217 : Keep h0 h217 [] := Kp68.ext E217
    have Z231 : n0 ≤ h217.size := Nat.le_trans Z73 E217.1
    refine Goes.by st217 ?_
    show Goes p.tables e below _ (T217.setTop (mkF m 110 #[.val (.int p0), .val (.int p1), .val (.long q2), .second, .val (.long q3), .second, .val (.long q4), .second, .val (.int (2 : Int32)), .val (.ref b2), .val (.ref b8), .val (.ref b21), .val (.ref b43), .val (.ref b21), .val (.int pt), .unset, .unset, .unset, .unset, .unset] [(.ref b218)]))
    refine Goes.by (B := T217.setTop (mkF m 111 #[.val (.int p0), .val (.int p1), .val (.long q2), .second, .val (.long q3), .second, .val (.long q4), .second, .val (.int (2 : Int32)), .val (.ref b2), .val (.ref b8), .val (.ref b21), .val (.ref b43), .val (.ref b21), .val (.int pt), .unset, .unset, .unset, .unset, .unset] [(.ref b218), (.ref b218)])) (fun t k => ?_) ?_
    · show Steps p.tables e below (T217.setTop (mkF m 110 #[.val (.int p0), .val (.int p1), .val (.long q2), .second, .val (.long q3), .second, .val (.long q4), .second, .val (.int (2 : Int32)), .val (.ref b2), .val (.ref b8), .val (.ref b21), .val (.ref b43), .val (.ref b21), .val (.int pt), .unset, .unset, .unset, .unset, .unset] [(.ref b218)])) t
      refine XS.dup X217.here hx rfl (hb hby at_110) rfl rfl ?_
      exact k
    obtain ⟨T232, h232, X232, e232, E232, A232, D232, -, st232⟩ := newO X217 hx hZ hown (hw _ (List.mem_of_getElem? (i := 4) rfl)) (hw _ (List.mem_of_getElem? (i := 5) rfl)) (hw _ (List.mem_of_getElem? (i := 6) rfl)) e217 (g := (mkF m 111 #[.val (.int p0), .val (.int p1), .val (.long q2), .second, .val (.long q3), .second, .val (.long q4), .second, .val (.int (2 : Int32)), .val (.ref b2), .val (.ref b8), .val (.ref b21), .val (.ref b43), .val (.ref b21), .val (.int pt), .unset, .unset, .unset, .unset, .unset] [(.ref b218), (.ref b218)])) rfl (hb hby at_111) (by decide) (by decide)
    obtain ⟨b233, g232⟩ : ∃ z, z = h217.size := ⟨_, rfl⟩
    rw [← g232] at A232 D232 st232
    have ne234 : b2 ≠ b233 := Nat.ne_of_lt (Nat.lt_of_lt_of_le f225.lt (Nat.le_of_eq g232.symm))
    have ne235 : b8 ≠ b233 := Nat.ne_of_lt (Nat.lt_of_lt_of_le f226.lt (Nat.le_of_eq g232.symm))
    have ne236 : b21 ≠ b233 := Nat.ne_of_lt (Nat.lt_of_lt_of_le f227.lt (Nat.le_of_eq g232.symm))
    have ne237 : b43 ≠ b233 := Nat.ne_of_lt (Nat.lt_of_lt_of_le f228.lt (Nat.le_of_eq g232.symm))
    have ne238 : b218 ≠ b233 := Nat.ne_of_lt (Nat.lt_of_lt_of_le A217.lt (Nat.le_of_eq g232.symm))
    have ge239 : n0 ≤ b233 := Nat.le_trans Z231 (Nat.le_of_eq g232.symm)
    have sz240 : h0.size ≤ b233 := Nat.le_trans Kp217.1 (Nat.le_of_eq g232.symm)
    have f241 : Arv Z h232 b2 k1 .long (0 : Int32) [] (.long (0 : Int64)) := f225.ext E232
    have f242 : Arv Z h232 b8 k7 .long (1 : Int32) [(.long q2)] (.long (0 : Int64)) := f226.ext E232
    have f243 : Arv Z h232 b21 k20 .long (2 : Int32) [(.long q2), (.long q3)] (.long (0 : Int64)) := f227.ext E232
    have f244 : Arv Z h232 b43 k42 .long (3 : Int32) [(.long q2), (.long q3), (.long q4)] (.long (0 : Int64)) := f228.ext E232
    have f245 : Exa Z h232 b218 "com/example/moraine/moraine/Frames$Cut" := A217.ext E232
    have f246 : Fld Z h232 b218 "com/example/moraine/moraine/Frames$Cut" "position" "Lcom/example/moraine/moraine/Position;" .null := f229.ext E232
    have f247 : Fld Z h232 b218 "com/example/moraine/moraine/Frames$Cut" "inParts" "[J" .null := f230.ext E232
    have f248 : Fld Z h232 b233 "com/example/moraine/moraine/Position" "increments" "J" (.long (0 : Int64)) := D232 (Or.inr (hw _ (List.mem_of_getElem? (i := 19) rfl))) (ty := .long) (by decide)
    have f249 : Fld Z h232 b233 "com/example/moraine/moraine/Position" "records" "J" (.long (0 : Int64)) := D232 (Or.inr (hw _ (List.mem_of_getElem? (i := 21) rfl))) (ty := .long) (by decide)
    have Kp232 : Keep h0 h232 [] := Kp217.ext E232
    have Z250 : n0 ≤ h232.size := Nat.le_trans Z231 E232.1
    refine Goes.by st232 ?_
    show Goes p.tables e below _ (T232.setTop (mkF m 114 #[.val (.int p0), .val (.int p1), .val (.long q2), .second, .val (.long q3), .second, .val (.long q4), .second, .val (.int (2 : Int32)), .val (.ref b2), .val (.ref b8), .val (.ref b21), .val (.ref b43), .val (.ref b21), .val (.int pt), .unset, .unset, .unset, .unset, .unset] [(.ref b233), (.ref b218), (.ref b218)]))
    refine Goes.by (B := T232.setTop (mkF m 118 #[.val (.int p0), .val (.int p1), .val (.long q2), .second, .val (.long q3), .second, .val (.long q4), .second, .val (.int (2 : Int32)), .val (.ref b2), .val (.ref b8), .val (.ref b21), .val (.ref b43), .val (.ref b21), .val (.int pt), .unset, .unset, .unset, .unset, .unset] [(.long q4), (.long q2), (.ref b233), (.ref b233), (.ref b218), (.ref b218)])) (fun t k => ?_) ?_
    · show Steps p.tables e below (T232.setTop (mkF m 114 #[.val (.int p0), .val (.int p1), .val (.long q2), .second, .val (.long q3), .second, .val (.long q4), .second, .val (.int (2 : Int32)), .val (.ref b2), .val (.ref b8), .val (.ref b21), .val (.ref b43), .val (.ref b21), .val (.int pt), .unset, .unset, .unset, .unset, .unset] [(.ref b233), (.ref b218), (.ref b218)])) t
      refine XS.dup X232.here hx rfl (hb hby at_114) rfl rfl ?_
      show Steps p.tables e below (T232.setTop (mkF m 115 #[.val (.int p0), .val (.int p1), .val (.long q2), .second, .val (.long q3), .second, .val (.long q4), .second, .val (.int (2 : Int32)), .val (.ref b2), .val (.ref b8), .val (.ref b21), .val (.ref b43), .val (.ref b21), .val (.int pt), .unset, .unset, .unset, .unset, .unset] [(.ref b233), (.ref b233), (.ref b218), (.ref b218)])) t
      refine XS.lloadN X232.here hx rfl (hb hby at_115) rfl ?_
      show Steps p.tables e below (T232.setTop (mkF m 116 #[.val (.int p0), .val (.int p1), .val (.long q2), .second, .val (.long q3), .second, .val (.long q4), .second, .val (.int (2 : Int32)), .val (.ref b2), .val (.ref b8), .val (.ref b21), .val (.ref b43), .val (.ref b21), .val (.int pt), .unset, .unset, .unset, .unset, .unset] [(.long q2), (.ref b233), (.ref b233), (.ref b218), (.ref b218)])) t
      refine XS.lload X232.here hx rfl (hb hby at_116) rfl ?_
      exact k
    obtain ⟨_, _, ⟨T251, L251, k251, n251⟩, -, X251, ⟨Lc251, hQ251, l251, y251, z251⟩, st251⟩ := X232.specialBack hx (y := (⟨"com/example/moraine/moraine/Position", "<init>", "(JJ)V"⟩ : MethodName)) rfl hown (mvT hZ (hw _ (List.mem_of_getElem? (i := 7) rfl))) (mvT hZ (hw _ (List.mem_of_getElem? (i := 8) rfl))) (mvT hZ (hw _ (List.mem_of_getElem? (i := 9) rfl))) (by decide) (backOf (W := 3) (rmPos l Z az hw [] b233 q2 q4 h232 n0 Z250 A232 f248 f249 ge239) hZ (hw _ (List.mem_of_getElem? (i := 9) rfl)) (hw _ (List.mem_of_getElem? (i := 6) rfl)) (by decide) (by decide)) (g := (mkF m 118 #[.val (.int p0), .val (.int p1), .val (.long q2), .second, .val (.long q3), .second, .val (.long q4), .second, .val (.int (2 : Int32)), .val (.ref b2), .val (.ref b8), .val (.ref b21), .val (.ref b43), .val (.ref b21), .val (.int pt), .unset, .unset, .unset, .unset, .unset] [(.long q4), (.long q2), (.ref b233), (.ref b233), (.ref b218), (.ref b218)])) rfl (by rw [hml]; rfl) (Steps.refl _) (a := b233) (argsL := [(.long q2), (.long q4)]) (rest := [(.ref b233), (.ref b218), (.ref b218)]) (lenOf own_pd1 rfl) rfl (by show 2 * 0 + _ ≤ _; exact Nat.le_of_eq rfl) (hb hby at_118) (fun _ _ => ⟨rfl, e232, (by decide : 6 + 0 ≤ _), (by decide : 10 + 0 ≤ _)⟩)
    dsimp only [Pt.U, Pt.locs, Pt.cells, Pt.slots] at X251 l251 y251 z251 st251 hQ251
    subst l251 y251 z251
    obtain ⟨rfl, N251q, K251, f252, f253, f254⟩ := hQ251
    have f255 : Arv Z T251.heap b2 k1 .long (0 : Int32) [] (.long (0 : Int64)) := f241.keep K251 (ninS ne234 nin0)
    have f256 : Arv Z T251.heap b8 k7 .long (1 : Int32) [(.long q2)] (.long (0 : Int64)) := f242.keep K251 (ninS ne235 nin0)
    have f257 : Arv Z T251.heap b21 k20 .long (2 : Int32) [(.long q2), (.long q3)] (.long (0 : Int64)) := f243.keep K251 (ninS ne236 nin0)
    have f258 : Arv Z T251.heap b43 k42 .long (3 : Int32) [(.long q2), (.long q3), (.long q4)] (.long (0 : Int64)) := f244.keep K251 (ninS ne237 nin0)
    have f259 : Exa Z T251.heap b218 "com/example/moraine/moraine/Frames$Cut" := f245.keep K251
    have f260 : Fld Z T251.heap b218 "com/example/moraine/moraine/Frames$Cut" "position" "Lcom/example/moraine/moraine/Position;" .null := f246.keep K251 (ninS ne238 nin0)
    have f261 : Fld Z T251.heap b218 "com/example/moraine/moraine/Frames$Cut" "inParts" "[J" .null := f247.keep K251 (ninS ne238 nin0)
    have f262 : Exa Z T251.heap b233 "com/example/moraine/moraine/Position" := A232.keep K251
    have Kp251 : Keep h0 T251.heap [] := Kp232.trans K251 (allS (Or.inr sz240) all0)
    have Z263 : n0 ≤ T251.heap.size := Nat.le_trans Z250 K251.1
    have N264 := Fr.app N74 N251q
    refine Goes.by (fun _ k => st251.trans k) ?_
    show Goes p.tables e below _ (T251.setTop (mkF m 121 #[.val (.int p0), .val (.int p1), .val (.long q2), .second, .val (.long q3), .second, .val (.long q4), .second, .val (.int (2 : Int32)), .val (.ref b2), .val (.ref b8), .val (.ref b21), .val (.ref b43), .val (.ref b21), .val (.int pt), .unset, .unset, .unset, .unset, .unset] [(.ref b233), (.ref b218), (.ref b218)]))
    refine Goes.by (B := T251.setTop (mkF m 123 #[.val (.int p0), .val (.int p1), .val (.long q2), .second, .val (.long q3), .second, .val (.long q4), .second, .val (.int (2 : Int32)), .val (.ref b2), .val (.ref b8), .val (.ref b21), .val (.ref b43), .val (.ref b21), .val (.int pt), .unset, .unset, .unset, .unset, .unset] [(.ref b21), (.ref b233), (.ref b218), (.ref b218)])) (fun t k => ?_) ?_
    · show Steps p.tables e below (T251.setTop (mkF m 121 #[.val (.int p0), .val (.int p1), .val (.long q2), .second, .val (.long q3), .second, .val (.long q4), .second, .val (.int (2 : Int32)), .val (.ref b2), .val (.ref b8), .val (.ref b21), .val (.ref b43), .val (.ref b21), .val (.int pt), .unset, .unset, .unset, .unset, .unset] [(.ref b233), (.ref b218), (.ref b218)])) t
      refine XS.aload X251.here hx rfl (hb hby at_121) rfl rfl ?_
      exact k
    obtain ⟨_, _, ⟨T265, L265, k265, n265⟩, -, X265, ⟨Lc265, hQ265, l265, y265, z265⟩, st265⟩ := X251.specialBack hx (y := (⟨"com/example/moraine/moraine/Frames$Cut", "<init>", "(Lcom/example/moraine/moraine/Position;[J)V"⟩ : MethodName)) rfl hown (mvT hZ (hw _ (List.mem_of_getElem? (i := 22) rfl))) (mvT hZ (hw _ (List.mem_of_getElem? (i := 23) rfl))) (mvT hZ (hw _ (List.mem_of_getElem? (i := 24) rfl))) (by decide) (backOf (W := 1) (rmCut l Z az hw [] b218 b233 b21 T251.heap n0 Z263 f259 f260 f261 ge223) hZ (hw _ (List.mem_of_getElem? (i := 24) rfl)) (hw _ (List.mem_of_getElem? (i := 3) rfl)) (by decide) (by decide)) (g := (mkF m 123 #[.val (.int p0), .val (.int p1), .val (.long q2), .second, .val (.long q3), .second, .val (.long q4), .second, .val (.int (2 : Int32)), .val (.ref b2), .val (.ref b8), .val (.ref b21), .val (.ref b43), .val (.ref b21), .val (.int pt), .unset, .unset, .unset, .unset, .unset] [(.ref b21), (.ref b233), (.ref b218), (.ref b218)])) rfl (by rw [hml]; rfl) (Steps.refl _) (a := b218) (argsL := [(.ref b233), (.ref b21)]) (rest := [(.ref b218)]) (lenOf own_pd2 rfl) rfl (by show 2 * 0 + _ ≤ _; exact Nat.le_of_eq rfl) (hb hby at_123) (fun _ _ => ⟨rfl, rfl, (by decide : 6 + 0 ≤ _), (by decide : 10 + 0 ≤ _)⟩)
    dsimp only [Pt.U, Pt.locs, Pt.cells, Pt.slots] at X265 l265 y265 z265 st265 hQ265
    subst l265 y265 z265
    obtain ⟨rfl, N265q, K265, f266, f267, f268⟩ := hQ265
    have f269 : Arv Z T265.heap b2 k1 .long (0 : Int32) [] (.long (0 : Int64)) := f255.keep K265 (ninS ne219 nin0)
    have f270 : Arv Z T265.heap b8 k7 .long (1 : Int32) [(.long q2)] (.long (0 : Int64)) := f256.keep K265 (ninS ne220 nin0)
    have f271 : Arv Z T265.heap b21 k20 .long (2 : Int32) [(.long q2), (.long q3)] (.long (0 : Int64)) := f257.keep K265 (ninS ne221 nin0)
    have f272 : Arv Z T265.heap b43 k42 .long (3 : Int32) [(.long q2), (.long q3), (.long q4)] (.long (0 : Int64)) := f258.keep K265 (ninS ne222 nin0)
    have f273 : Exa Z T265.heap b218 "com/example/moraine/moraine/Frames$Cut" := f259.keep K265
    have f274 : Exa Z T265.heap b233 "com/example/moraine/moraine/Position" := f252.keep K265
    have f275 : Fld Z T265.heap b233 "com/example/moraine/moraine/Position" "increments" "J" (.long q2) := f253.keep K265 (ninS (Ne.symm ne238) nin0)
    have f276 : Fld Z T265.heap b233 "com/example/moraine/moraine/Position" "records" "J" (.long q4) := f254.keep K265 (ninS (Ne.symm ne238) nin0)
    have Kp265 : Keep h0 T265.heap [] := Kp251.trans K265 (allS (Or.inr sz224) all0)
    have Z277 : n0 ≤ T265.heap.size := Nat.le_trans Z263 K265.1
    have N278 := Fr.app N264 N265q
    refine Goes.by (fun _ k => st265.trans k) ?_
    show Goes p.tables e below _ (T265.setTop (mkF m 126 #[.val (.int p0), .val (.int p1), .val (.long q2), .second, .val (.long q3), .second, .val (.long q4), .second, .val (.int (2 : Int32)), .val (.ref b2), .val (.ref b8), .val (.ref b21), .val (.ref b43), .val (.ref b21), .val (.int pt), .unset, .unset, .unset, .unset, .unset] [(.ref b218)]))
    refine Goes.by (B := T265.setTop (mkF m 132 #[.val (.int p0), .val (.int p1), .val (.long q2), .second, .val (.long q3), .second, .val (.long q4), .second, .val (.int (2 : Int32)), .val (.ref b2), .val (.ref b8), .val (.ref b21), .val (.ref b43), .val (.ref b21), .val (.int pt), .val (.ref b218), .unset, .unset, .unset, .unset] [(.int pt), (.ref b218)])) (fun t k => ?_) ?_
    · show Steps p.tables e below (T265.setTop (mkF m 126 #[.val (.int p0), .val (.int p1), .val (.long q2), .second, .val (.long q3), .second, .val (.long q4), .second, .val (.int (2 : Int32)), .val (.ref b2), .val (.ref b8), .val (.ref b21), .val (.ref b43), .val (.ref b21), .val (.int pt), .unset, .unset, .unset, .unset, .unset] [(.ref b218)])) t
      refine XS.astore X265.here hx rfl (hb hby at_126) rfl rfl (l' := #[.val (.int p0), .val (.int p1), .val (.long q2), .second, .val (.long q3), .second, .val (.long q4), .second, .val (.int (2 : Int32)), .val (.ref b2), .val (.ref b8), .val (.ref b21), .val (.ref b43), .val (.ref b21), .val (.int pt), .val (.ref b218), .unset, .unset, .unset, .unset]) rfl ?_
      show Steps p.tables e below (T265.setTop (mkF m 128 #[.val (.int p0), .val (.int p1), .val (.long q2), .second, .val (.long q3), .second, .val (.long q4), .second, .val (.int (2 : Int32)), .val (.ref b2), .val (.ref b8), .val (.ref b21), .val (.ref b43), .val (.ref b21), .val (.int pt), .val (.ref b218), .unset, .unset, .unset, .unset] [])) t
      refine XS.aload X265.here hx rfl (hb hby at_128) rfl rfl ?_
      show Steps p.tables e below (T265.setTop (mkF m 130 #[.val (.int p0), .val (.int p1), .val (.long q2), .second, .val (.long q3), .second, .val (.long q4), .second, .val (.int (2 : Int32)), .val (.ref b2), .val (.ref b8), .val (.ref b21), .val (.ref b43), .val (.ref b21), .val (.int pt), .val (.ref b218), .unset, .unset, .unset, .unset] [(.ref b218)])) t
      refine XS.iload X265.here hx rfl (hb hby at_130) rfl ?_
      exact k
    obtain ⟨cq279, kq279, q279a, q279b, q279c⟩ := isOf hZ rfl f266
    obtain ⟨_, _, ⟨T279, L279, k279, n279⟩, -, X279, ⟨Lc279, hQ279, l279, y279, z279⟩, st279⟩ := X265.virtualBack hx (y := (⟨"com/example/moraine/moraine/Frames$Cut", "inPart", "(I)J"⟩ : MethodName)) (z := (⟨"com/example/moraine/moraine/Frames$Cut", "inPart", "(I)J"⟩ : MethodName)) hown (mvT hZ (hw _ (List.mem_of_getElem? (i := 30) rfl))) (mvT hZ (hw _ (List.mem_of_getElem? (i := 31) rfl))) (notFace_of_selects (args := #[]) (mvT hZ (hw _ (List.mem_of_getElem? (i := 33) rfl)))) (mvT hZ (hw _ (List.mem_of_getElem? (i := 33) rfl))) (mvT hZ (hw _ (List.mem_of_getElem? (i := 32) rfl))) (by decide) (backOf (W := 0) (rmIn2 l Z az hw [] b218 pt b21 k20 q2 q3 T265.heap n0 Z277 f268 f271 Hp) hZ (hw _ (List.mem_of_getElem? (i := 34) rfl)) (hw _ (List.mem_of_getElem? (i := 3) rfl)) (by decide) (by decide)) q279a q279c (g := (mkF m 132 #[.val (.int p0), .val (.int p1), .val (.long q2), .second, .val (.long q3), .second, .val (.long q4), .second, .val (.int (2 : Int32)), .val (.ref b2), .val (.ref b8), .val (.ref b21), .val (.ref b43), .val (.ref b21), .val (.int pt), .val (.ref b218), .unset, .unset, .unset, .unset] [(.int pt), (.ref b218)])) rfl (by rw [hml]; rfl) (Steps.refl _) (argsL := [(.int pt)]) (rest := []) (lenOf own_pd3 rfl) rfl (by show 2 * 0 + _ ≤ _; exact Nat.le_of_eq rfl) (hb hby at_132) (fun _ _ => ⟨rfl, rfl, (by decide : 6 + 0 ≤ _), (by decide : 10 + 0 ≤ _)⟩)
    dsimp only [Pt.U, Pt.locs, Pt.cells, Pt.slots] at X279 l279 y279 z279 st279 hQ279
    subst l279 y279 z279
    obtain ⟨rfl, N279q, e279⟩ := hQ279
    have N280 := Fr.app N278 N279q
    refine Goes.by (fun _ k => st279.trans k) ?_
    show Goes p.tables e below _ (T279.setTop (mkF m 135 #[.val (.int p0), .val (.int p1), .val (.long q2), .second, .val (.long q3), .second, .val (.long q4), .second, .val (.int (2 : Int32)), .val (.ref b2), .val (.ref b8), .val (.ref b21), .val (.ref b43), .val (.ref b21), .val (.int pt), .val (.ref b218), .unset, .unset, .unset, .unset] [(.long (fIn2 pt q2 q3))]))
    refine Goes.by (B := T279.setTop (mkF m 142 #[.val (.int p0), .val (.int p1), .val (.long q2), .second, .val (.long q3), .second, .val (.long q4), .second, .val (.int (2 : Int32)), .val (.ref b2), .val (.ref b8), .val (.ref b21), .val (.ref b43), .val (.ref b21), .val (.int pt), .val (.ref b218), .val (.long (fIn2 pt q2 q3)), .second, .val (.long (0 : Int64)), .second] [(.int pt)])) (fun t k => ?_) ?_
    · show Steps p.tables e below (T279.setTop (mkF m 135 #[.val (.int p0), .val (.int p1), .val (.long q2), .second, .val (.long q3), .second, .val (.long q4), .second, .val (.int (2 : Int32)), .val (.ref b2), .val (.ref b8), .val (.ref b21), .val (.ref b43), .val (.ref b21), .val (.int pt), .val (.ref b218), .unset, .unset, .unset, .unset] [(.long (fIn2 pt q2 q3))])) t
      refine XS.lstore X279.here hx rfl (hb hby at_135) rfl (l' := #[.val (.int p0), .val (.int p1), .val (.long q2), .second, .val (.long q3), .second, .val (.long q4), .second, .val (.int (2 : Int32)), .val (.ref b2), .val (.ref b8), .val (.ref b21), .val (.ref b43), .val (.ref b21), .val (.int pt), .val (.ref b218), .val (.long (fIn2 pt q2 q3)), .second, .unset, .unset]) rfl ?_
      show Steps p.tables e below (T279.setTop (mkF m 137 #[.val (.int p0), .val (.int p1), .val (.long q2), .second, .val (.long q3), .second, .val (.long q4), .second, .val (.int (2 : Int32)), .val (.ref b2), .val (.ref b8), .val (.ref b21), .val (.ref b43), .val (.ref b21), .val (.int pt), .val (.ref b218), .val (.long (fIn2 pt q2 q3)), .second, .unset, .unset] [])) t
      refine XS.lconst X279.here hx rfl (hb hby at_137) ?_
      show Steps p.tables e below (T279.setTop (mkF m 138 #[.val (.int p0), .val (.int p1), .val (.long q2), .second, .val (.long q3), .second, .val (.long q4), .second, .val (.int (2 : Int32)), .val (.ref b2), .val (.ref b8), .val (.ref b21), .val (.ref b43), .val (.ref b21), .val (.int pt), .val (.ref b218), .val (.long (fIn2 pt q2 q3)), .second, .unset, .unset] [(.long (0 : Int64))])) t
      refine XS.lstore X279.here hx rfl (hb hby at_138) rfl (l' := #[.val (.int p0), .val (.int p1), .val (.long q2), .second, .val (.long q3), .second, .val (.long q4), .second, .val (.int (2 : Int32)), .val (.ref b2), .val (.ref b8), .val (.ref b21), .val (.ref b43), .val (.ref b21), .val (.int pt), .val (.ref b218), .val (.long (fIn2 pt q2 q3)), .second, .val (.long (0 : Int64)), .second]) rfl ?_
      show Steps p.tables e below (T279.setTop (mkF m 140 #[.val (.int p0), .val (.int p1), .val (.long q2), .second, .val (.long q3), .second, .val (.long q4), .second, .val (.int (2 : Int32)), .val (.ref b2), .val (.ref b8), .val (.ref b21), .val (.ref b43), .val (.ref b21), .val (.int pt), .val (.ref b218), .val (.long (fIn2 pt q2 q3)), .second, .val (.long (0 : Int64)), .second] [])) t
      refine XS.iload X279.here hx rfl (hb hby at_140) rfl ?_
      exact k
    by_cases hc281 : pt = (0 : Int32)
    · refine Goes.by (B := T279.setTop (mkF m 204 #[.val (.int p0), .val (.int p1), .val (.long q2), .second, .val (.long q3), .second, .val (.long q4), .second, .val (.int (2 : Int32)), .val (.ref b2), .val (.ref b8), .val (.ref b21), .val (.ref b43), .val (.ref b21), .val (.int pt), .val (.ref b218), .val (.long (fIn2 pt q2 q3)), .second, .val (.long q2), .second] [(.int (1 : Int32))])) (fun t k => ?_) ?_
      · show Steps p.tables e below (T279.setTop (mkF m 142 #[.val (.int p0), .val (.int p1), .val (.long q2), .second, .val (.long q3), .second, .val (.long q4), .second, .val (.int (2 : Int32)), .val (.ref b2), .val (.ref b8), .val (.ref b21), .val (.ref b43), .val (.ref b21), .val (.int pt), .val (.ref b218), .val (.long (fIn2 pt q2 q3)), .second, .val (.long (0 : Int64)), .second] [(.int pt)])) t
        refine XS.ifNo X279.here hx rfl (hb hby at_142) rfl ((if0 _ _).trans (teq hc281).2) ?_
        show Steps p.tables e below (T279.setTop (mkF m 145 #[.val (.int p0), .val (.int p1), .val (.long q2), .second, .val (.long q3), .second, .val (.long q4), .second, .val (.int (2 : Int32)), .val (.ref b2), .val (.ref b8), .val (.ref b21), .val (.ref b43), .val (.ref b21), .val (.int pt), .val (.ref b218), .val (.long (fIn2 pt q2 q3)), .second, .val (.long (0 : Int64)), .second] [])) t
        refine XS.iload X279.here hx rfl (hb hby at_145) rfl ?_
        show Steps p.tables e below (T279.setTop (mkF m 147 #[.val (.int p0), .val (.int p1), .val (.long q2), .second, .val (.long q3), .second, .val (.long q4), .second, .val (.int (2 : Int32)), .val (.ref b2), .val (.ref b8), .val (.ref b21), .val (.ref b43), .val (.ref b21), .val (.int pt), .val (.ref b218), .val (.long (fIn2 pt q2 q3)), .second, .val (.long (0 : Int64)), .second] [(.int (2 : Int32))])) t
        refine XS.ifNo X279.here hx rfl (hb hby at_147) rfl ((if0 _ _).trans (tlt (by decide : (0 : Int32) < (2 : Int32))).2.2.2) ?_
        show Steps p.tables e below (T279.setTop (mkF m 150 #[.val (.int p0), .val (.int p1), .val (.long q2), .second, .val (.long q3), .second, .val (.long q4), .second, .val (.int (2 : Int32)), .val (.ref b2), .val (.ref b8), .val (.ref b21), .val (.ref b43), .val (.ref b21), .val (.int pt), .val (.ref b218), .val (.long (fIn2 pt q2 q3)), .second, .val (.long (0 : Int64)), .second] [])) t
        refine XS.lloadN X279.here hx rfl (hb hby at_150) rfl ?_
        show Steps p.tables e below (T279.setTop (mkF m 151 #[.val (.int p0), .val (.int p1), .val (.long q2), .second, .val (.long q3), .second, .val (.long q4), .second, .val (.int (2 : Int32)), .val (.ref b2), .val (.ref b8), .val (.ref b21), .val (.ref b43), .val (.ref b21), .val (.int pt), .val (.ref b218), .val (.long (fIn2 pt q2 q3)), .second, .val (.long (0 : Int64)), .second] [(.long q2)])) t
        refine XS.lstore X279.here hx rfl (hb hby at_151) rfl (l' := #[.val (.int p0), .val (.int p1), .val (.long q2), .second, .val (.long q3), .second, .val (.long q4), .second, .val (.int (2 : Int32)), .val (.ref b2), .val (.ref b8), .val (.ref b21), .val (.ref b43), .val (.ref b21), .val (.int pt), .val (.ref b218), .val (.long (fIn2 pt q2 q3)), .second, .val (.long q2), .second]) rfl ?_
        show Steps p.tables e below (T279.setTop (mkF m 153 #[.val (.int p0), .val (.int p1), .val (.long q2), .second, .val (.long q3), .second, .val (.long q4), .second, .val (.int (2 : Int32)), .val (.ref b2), .val (.ref b8), .val (.ref b21), .val (.ref b43), .val (.ref b21), .val (.int pt), .val (.ref b218), .val (.long (fIn2 pt q2 q3)), .second, .val (.long q2), .second] [])) t
        refine XS.goto X279.here hx rfl (pc0 := 153) (pc' := 191) rfl (hb hby at_153) (by decide) (by decide) ?_
        show Steps p.tables e below (T279.setTop (mkF m 191 #[.val (.int p0), .val (.int p1), .val (.long q2), .second, .val (.long q3), .second, .val (.long q4), .second, .val (.int (2 : Int32)), .val (.ref b2), .val (.ref b8), .val (.ref b21), .val (.ref b43), .val (.ref b21), .val (.int pt), .val (.ref b218), .val (.long (fIn2 pt q2 q3)), .second, .val (.long q2), .second] [])) t
        refine XS.lload X279.here hx rfl (hb hby at_191) rfl ?_
        show Steps p.tables e below (T279.setTop (mkF m 193 #[.val (.int p0), .val (.int p1), .val (.long q2), .second, .val (.long q3), .second, .val (.long q4), .second, .val (.int (2 : Int32)), .val (.ref b2), .val (.ref b8), .val (.ref b21), .val (.ref b43), .val (.ref b21), .val (.int pt), .val (.ref b218), .val (.long (fIn2 pt q2 q3)), .second, .val (.long q2), .second] [(.long (fIn2 pt q2 q3))])) t
        refine XS.lload X279.here hx rfl (hb hby at_193) rfl ?_
        show Steps p.tables e below (T279.setTop (mkF m 195 #[.val (.int p0), .val (.int p1), .val (.long q2), .second, .val (.long q3), .second, .val (.long q4), .second, .val (.int (2 : Int32)), .val (.ref b2), .val (.ref b8), .val (.ref b21), .val (.ref b43), .val (.ref b21), .val (.int pt), .val (.ref b218), .val (.long (fIn2 pt q2 q3)), .second, .val (.long q2), .second] [(.long q2), (.long (fIn2 pt q2 q3))])) t
        refine XS.lcmp X279.here hx rfl (hb hby at_195) rfl ?_
        show Steps p.tables e below (T279.setTop (mkF m 196 #[.val (.int p0), .val (.int p1), .val (.long q2), .second, .val (.long q3), .second, .val (.long q4), .second, .val (.int (2 : Int32)), .val (.ref b2), .val (.ref b8), .val (.ref b21), .val (.ref b43), .val (.ref b21), .val (.int pt), .val (.ref b218), .val (.long (fIn2 pt q2 q3)), .second, .val (.long q2), .second] [(.int (lcmpW (fIn2 pt q2 q3) q2))])) t
        refine XS.ifNo X279.here hx rfl (hb hby at_196) rfl ((if0 _ _).trans (teq ((lw_eq (fIn2 pt q2 q3) q2).mpr (by rw [own_in2 _ _ _  Hp]; simp only [if_pos hc281]))).2) ?_
        show Steps p.tables e below (T279.setTop (mkF m 199 #[.val (.int p0), .val (.int p1), .val (.long q2), .second, .val (.long q3), .second, .val (.long q4), .second, .val (.int (2 : Int32)), .val (.ref b2), .val (.ref b8), .val (.ref b21), .val (.ref b43), .val (.ref b21), .val (.int pt), .val (.ref b218), .val (.long (fIn2 pt q2 q3)), .second, .val (.long q2), .second] [])) t
        refine XS.iconst X279.here hx rfl (hb hby at_199) ?_
        show Steps p.tables e below (T279.setTop (mkF m 200 #[.val (.int p0), .val (.int p1), .val (.long q2), .second, .val (.long q3), .second, .val (.long q4), .second, .val (.int (2 : Int32)), .val (.ref b2), .val (.ref b8), .val (.ref b21), .val (.ref b43), .val (.ref b21), .val (.int pt), .val (.ref b218), .val (.long (fIn2 pt q2 q3)), .second, .val (.long q2), .second] [(.int (1 : Int32))])) t
        refine XS.goto X279.here hx rfl (pc0 := 200) (pc' := 204) rfl (hb hby at_200) (by decide) (by decide) ?_
        exact k
      obtain ⟨fs, hr, hrun, hended, hW, hsame⟩ := X279.leave (v := some (.int (1 : Int32))) (fun h => by rw [Bd.returns] at h; cases h)
      refine Goes.mk _ _ ?_ ⟨hrun, hended, _, _, rfl, ?_, ⟨_, rfl⟩, hW, hsame.mono (by decide) (by decide)⟩
      · exact retN X279 hx (t := .boolean) Bd.returns (by simp) (hb hby at_204) hr
      · show Q0 Z p0 p1 q2 q3 q4 h0 n0 _ T279.heap _
        rw [e279]
        exact ⟨rfl, N280⟩
    · refine Goes.by (B := T279.setTop (mkF m 159 #[.val (.int p0), .val (.int p1), .val (.long q2), .second, .val (.long q3), .second, .val (.long q4), .second, .val (.int (2 : Int32)), .val (.ref b2), .val (.ref b8), .val (.ref b21), .val (.ref b43), .val (.ref b21), .val (.int pt), .val (.ref b218), .val (.long (fIn2 pt q2 q3)), .second, .val (.long (0 : Int64)), .second] [(.int (1 : Int32)), (.int pt)])) (fun t k => ?_) ?_
      · show Steps p.tables e below (T279.setTop (mkF m 142 #[.val (.int p0), .val (.int p1), .val (.long q2), .second, .val (.long q3), .second, .val (.long q4), .second, .val (.int (2 : Int32)), .val (.ref b2), .val (.ref b8), .val (.ref b21), .val (.ref b43), .val (.ref b21), .val (.int pt), .val (.ref b218), .val (.long (fIn2 pt q2 q3)), .second, .val (.long (0 : Int64)), .second] [(.int pt)])) t
        refine XS.ifYes X279.here hx rfl (pc0 := 142) (pc' := 156) rfl (hb hby at_142) rfl ((if0 _ _).trans (feq hc281).2) (by decide) (by decide) ?_
        show Steps p.tables e below (T279.setTop (mkF m 156 #[.val (.int p0), .val (.int p1), .val (.long q2), .second, .val (.long q3), .second, .val (.long q4), .second, .val (.int (2 : Int32)), .val (.ref b2), .val (.ref b8), .val (.ref b21), .val (.ref b43), .val (.ref b21), .val (.int pt), .val (.ref b218), .val (.long (fIn2 pt q2 q3)), .second, .val (.long (0 : Int64)), .second] [])) t
        refine XS.iload X279.here hx rfl (hb hby at_156) rfl ?_
        show Steps p.tables e below (T279.setTop (mkF m 158 #[.val (.int p0), .val (.int p1), .val (.long q2), .second, .val (.long q3), .second, .val (.long q4), .second, .val (.int (2 : Int32)), .val (.ref b2), .val (.ref b8), .val (.ref b21), .val (.ref b43), .val (.ref b21), .val (.int pt), .val (.ref b218), .val (.long (fIn2 pt q2 q3)), .second, .val (.long (0 : Int64)), .second] [(.int pt)])) t
        refine XS.iconst X279.here hx rfl (hb hby at_158) ?_
        exact k
      by_cases hc282 : pt = (1 : Int32)
      · refine Goes.by (B := T279.setTop (mkF m 204 #[.val (.int p0), .val (.int p1), .val (.long q2), .second, .val (.long q3), .second, .val (.long q4), .second, .val (.int (2 : Int32)), .val (.ref b2), .val (.ref b8), .val (.ref b21), .val (.ref b43), .val (.ref b21), .val (.int pt), .val (.ref b218), .val (.long (fIn2 pt q2 q3)), .second, .val (.long q3), .second] [(.int (1 : Int32))])) (fun t k => ?_) ?_
        · show Steps p.tables e below (T279.setTop (mkF m 159 #[.val (.int p0), .val (.int p1), .val (.long q2), .second, .val (.long q3), .second, .val (.long q4), .second, .val (.int (2 : Int32)), .val (.ref b2), .val (.ref b8), .val (.ref b21), .val (.ref b43), .val (.ref b21), .val (.int pt), .val (.ref b218), .val (.long (fIn2 pt q2 q3)), .second, .val (.long (0 : Int64)), .second] [(.int (1 : Int32)), (.int pt)])) t
          refine XS.icmpNo X279.here hx rfl (hb hby at_159) rfl (teq hc282).2 ?_
          show Steps p.tables e below (T279.setTop (mkF m 162 #[.val (.int p0), .val (.int p1), .val (.long q2), .second, .val (.long q3), .second, .val (.long q4), .second, .val (.int (2 : Int32)), .val (.ref b2), .val (.ref b8), .val (.ref b21), .val (.ref b43), .val (.ref b21), .val (.int pt), .val (.ref b218), .val (.long (fIn2 pt q2 q3)), .second, .val (.long (0 : Int64)), .second] [])) t
          refine XS.iload X279.here hx rfl (hb hby at_162) rfl ?_
          show Steps p.tables e below (T279.setTop (mkF m 164 #[.val (.int p0), .val (.int p1), .val (.long q2), .second, .val (.long q3), .second, .val (.long q4), .second, .val (.int (2 : Int32)), .val (.ref b2), .val (.ref b8), .val (.ref b21), .val (.ref b43), .val (.ref b21), .val (.int pt), .val (.ref b218), .val (.long (fIn2 pt q2 q3)), .second, .val (.long (0 : Int64)), .second] [(.int (2 : Int32))])) t
          refine XS.iconst X279.here hx rfl (hb hby at_164) ?_
          show Steps p.tables e below (T279.setTop (mkF m 165 #[.val (.int p0), .val (.int p1), .val (.long q2), .second, .val (.long q3), .second, .val (.long q4), .second, .val (.int (2 : Int32)), .val (.ref b2), .val (.ref b8), .val (.ref b21), .val (.ref b43), .val (.ref b21), .val (.int pt), .val (.ref b218), .val (.long (fIn2 pt q2 q3)), .second, .val (.long (0 : Int64)), .second] [(.int (1 : Int32)), (.int (2 : Int32))])) t
          refine XS.icmpNo X279.here hx rfl (hb hby at_165) rfl (tlt (by decide : (1 : Int32) < (2 : Int32))).2.2.2 ?_
          show Steps p.tables e below (T279.setTop (mkF m 168 #[.val (.int p0), .val (.int p1), .val (.long q2), .second, .val (.long q3), .second, .val (.long q4), .second, .val (.int (2 : Int32)), .val (.ref b2), .val (.ref b8), .val (.ref b21), .val (.ref b43), .val (.ref b21), .val (.int pt), .val (.ref b218), .val (.long (fIn2 pt q2 q3)), .second, .val (.long (0 : Int64)), .second] [])) t
          refine XS.lload X279.here hx rfl (hb hby at_168) rfl ?_
          show Steps p.tables e below (T279.setTop (mkF m 170 #[.val (.int p0), .val (.int p1), .val (.long q2), .second, .val (.long q3), .second, .val (.long q4), .second, .val (.int (2 : Int32)), .val (.ref b2), .val (.ref b8), .val (.ref b21), .val (.ref b43), .val (.ref b21), .val (.int pt), .val (.ref b218), .val (.long (fIn2 pt q2 q3)), .second, .val (.long (0 : Int64)), .second] [(.long q3)])) t
          refine XS.lstore X279.here hx rfl (hb hby at_170) rfl (l' := #[.val (.int p0), .val (.int p1), .val (.long q2), .second, .val (.long q3), .second, .val (.long q4), .second, .val (.int (2 : Int32)), .val (.ref b2), .val (.ref b8), .val (.ref b21), .val (.ref b43), .val (.ref b21), .val (.int pt), .val (.ref b218), .val (.long (fIn2 pt q2 q3)), .second, .val (.long q3), .second]) rfl ?_
          show Steps p.tables e below (T279.setTop (mkF m 172 #[.val (.int p0), .val (.int p1), .val (.long q2), .second, .val (.long q3), .second, .val (.long q4), .second, .val (.int (2 : Int32)), .val (.ref b2), .val (.ref b8), .val (.ref b21), .val (.ref b43), .val (.ref b21), .val (.int pt), .val (.ref b218), .val (.long (fIn2 pt q2 q3)), .second, .val (.long q3), .second] [])) t
          refine XS.goto X279.here hx rfl (pc0 := 172) (pc' := 191) rfl (hb hby at_172) (by decide) (by decide) ?_
          show Steps p.tables e below (T279.setTop (mkF m 191 #[.val (.int p0), .val (.int p1), .val (.long q2), .second, .val (.long q3), .second, .val (.long q4), .second, .val (.int (2 : Int32)), .val (.ref b2), .val (.ref b8), .val (.ref b21), .val (.ref b43), .val (.ref b21), .val (.int pt), .val (.ref b218), .val (.long (fIn2 pt q2 q3)), .second, .val (.long q3), .second] [])) t
          refine XS.lload X279.here hx rfl (hb hby at_191) rfl ?_
          show Steps p.tables e below (T279.setTop (mkF m 193 #[.val (.int p0), .val (.int p1), .val (.long q2), .second, .val (.long q3), .second, .val (.long q4), .second, .val (.int (2 : Int32)), .val (.ref b2), .val (.ref b8), .val (.ref b21), .val (.ref b43), .val (.ref b21), .val (.int pt), .val (.ref b218), .val (.long (fIn2 pt q2 q3)), .second, .val (.long q3), .second] [(.long (fIn2 pt q2 q3))])) t
          refine XS.lload X279.here hx rfl (hb hby at_193) rfl ?_
          show Steps p.tables e below (T279.setTop (mkF m 195 #[.val (.int p0), .val (.int p1), .val (.long q2), .second, .val (.long q3), .second, .val (.long q4), .second, .val (.int (2 : Int32)), .val (.ref b2), .val (.ref b8), .val (.ref b21), .val (.ref b43), .val (.ref b21), .val (.int pt), .val (.ref b218), .val (.long (fIn2 pt q2 q3)), .second, .val (.long q3), .second] [(.long q3), (.long (fIn2 pt q2 q3))])) t
          refine XS.lcmp X279.here hx rfl (hb hby at_195) rfl ?_
          show Steps p.tables e below (T279.setTop (mkF m 196 #[.val (.int p0), .val (.int p1), .val (.long q2), .second, .val (.long q3), .second, .val (.long q4), .second, .val (.int (2 : Int32)), .val (.ref b2), .val (.ref b8), .val (.ref b21), .val (.ref b43), .val (.ref b21), .val (.int pt), .val (.ref b218), .val (.long (fIn2 pt q2 q3)), .second, .val (.long q3), .second] [(.int (lcmpW (fIn2 pt q2 q3) q3))])) t
          refine XS.ifNo X279.here hx rfl (hb hby at_196) rfl ((if0 _ _).trans (teq ((lw_eq (fIn2 pt q2 q3) q3).mpr (by rw [own_in2 _ _ _  Hp]; simp only [if_neg hc281, if_pos hc282]))).2) ?_
          show Steps p.tables e below (T279.setTop (mkF m 199 #[.val (.int p0), .val (.int p1), .val (.long q2), .second, .val (.long q3), .second, .val (.long q4), .second, .val (.int (2 : Int32)), .val (.ref b2), .val (.ref b8), .val (.ref b21), .val (.ref b43), .val (.ref b21), .val (.int pt), .val (.ref b218), .val (.long (fIn2 pt q2 q3)), .second, .val (.long q3), .second] [])) t
          refine XS.iconst X279.here hx rfl (hb hby at_199) ?_
          show Steps p.tables e below (T279.setTop (mkF m 200 #[.val (.int p0), .val (.int p1), .val (.long q2), .second, .val (.long q3), .second, .val (.long q4), .second, .val (.int (2 : Int32)), .val (.ref b2), .val (.ref b8), .val (.ref b21), .val (.ref b43), .val (.ref b21), .val (.int pt), .val (.ref b218), .val (.long (fIn2 pt q2 q3)), .second, .val (.long q3), .second] [(.int (1 : Int32))])) t
          refine XS.goto X279.here hx rfl (pc0 := 200) (pc' := 204) rfl (hb hby at_200) (by decide) (by decide) ?_
          exact k
        obtain ⟨fs, hr, hrun, hended, hW, hsame⟩ := X279.leave (v := some (.int (1 : Int32))) (fun h => by rw [Bd.returns] at h; cases h)
        refine Goes.mk _ _ ?_ ⟨hrun, hended, _, _, rfl, ?_, ⟨_, rfl⟩, hW, hsame.mono (by decide) (by decide)⟩
        · exact retN X279 hx (t := .boolean) Bd.returns (by simp) (hb hby at_204) hr
        · show Q0 Z p0 p1 q2 q3 q4 h0 n0 _ T279.heap _
          rw [e279]
          exact ⟨rfl, N280⟩
      · refine Goes.by (B := T279.setTop (mkF m 178 #[.val (.int p0), .val (.int p1), .val (.long q2), .second, .val (.long q3), .second, .val (.long q4), .second, .val (.int (2 : Int32)), .val (.ref b2), .val (.ref b8), .val (.ref b21), .val (.ref b43), .val (.ref b21), .val (.int pt), .val (.ref b218), .val (.long (fIn2 pt q2 q3)), .second, .val (.long (0 : Int64)), .second] [(.int (2 : Int32)), (.int pt)])) (fun t k => ?_) ?_
        · show Steps p.tables e below (T279.setTop (mkF m 159 #[.val (.int p0), .val (.int p1), .val (.long q2), .second, .val (.long q3), .second, .val (.long q4), .second, .val (.int (2 : Int32)), .val (.ref b2), .val (.ref b8), .val (.ref b21), .val (.ref b43), .val (.ref b21), .val (.int pt), .val (.ref b218), .val (.long (fIn2 pt q2 q3)), .second, .val (.long (0 : Int64)), .second] [(.int (1 : Int32)), (.int pt)])) t
          refine XS.icmpYes X279.here hx rfl (pc0 := 159) (pc' := 175) rfl (hb hby at_159) rfl (feq hc282).2 (by decide) (by decide) ?_
          show Steps p.tables e below (T279.setTop (mkF m 175 #[.val (.int p0), .val (.int p1), .val (.long q2), .second, .val (.long q3), .second, .val (.long q4), .second, .val (.int (2 : Int32)), .val (.ref b2), .val (.ref b8), .val (.ref b21), .val (.ref b43), .val (.ref b21), .val (.int pt), .val (.ref b218), .val (.long (fIn2 pt q2 q3)), .second, .val (.long (0 : Int64)), .second] [])) t
          refine XS.iload X279.here hx rfl (hb hby at_175) rfl ?_
          show Steps p.tables e below (T279.setTop (mkF m 177 #[.val (.int p0), .val (.int p1), .val (.long q2), .second, .val (.long q3), .second, .val (.long q4), .second, .val (.int (2 : Int32)), .val (.ref b2), .val (.ref b8), .val (.ref b21), .val (.ref b43), .val (.ref b21), .val (.int pt), .val (.ref b218), .val (.long (fIn2 pt q2 q3)), .second, .val (.long (0 : Int64)), .second] [(.int pt)])) t
          refine XS.iconst X279.here hx rfl (hb hby at_177) ?_
          exact k
        by_cases hc283 : pt = (2 : Int32)
        · refine Goes.by (B := T279.setTop (mkF m 204 #[.val (.int p0), .val (.int p1), .val (.long q2), .second, .val (.long q3), .second, .val (.long q4), .second, .val (.int (2 : Int32)), .val (.ref b2), .val (.ref b8), .val (.ref b21), .val (.ref b43), .val (.ref b21), .val (.int pt), .val (.ref b218), .val (.long (fIn2 pt q2 q3)), .second, .val (.long (0 : Int64)), .second] [(.int (1 : Int32))])) (fun t k => ?_) ?_
          · show Steps p.tables e below (T279.setTop (mkF m 178 #[.val (.int p0), .val (.int p1), .val (.long q2), .second, .val (.long q3), .second, .val (.long q4), .second, .val (.int (2 : Int32)), .val (.ref b2), .val (.ref b8), .val (.ref b21), .val (.ref b43), .val (.ref b21), .val (.int pt), .val (.ref b218), .val (.long (fIn2 pt q2 q3)), .second, .val (.long (0 : Int64)), .second] [(.int (2 : Int32)), (.int pt)])) t
            refine XS.icmpNo X279.here hx rfl (hb hby at_178) rfl (teq hc283).2 ?_
            show Steps p.tables e below (T279.setTop (mkF m 181 #[.val (.int p0), .val (.int p1), .val (.long q2), .second, .val (.long q3), .second, .val (.long q4), .second, .val (.int (2 : Int32)), .val (.ref b2), .val (.ref b8), .val (.ref b21), .val (.ref b43), .val (.ref b21), .val (.int pt), .val (.ref b218), .val (.long (fIn2 pt q2 q3)), .second, .val (.long (0 : Int64)), .second] [])) t
            refine XS.iload X279.here hx rfl (hb hby at_181) rfl ?_
            show Steps p.tables e below (T279.setTop (mkF m 183 #[.val (.int p0), .val (.int p1), .val (.long q2), .second, .val (.long q3), .second, .val (.long q4), .second, .val (.int (2 : Int32)), .val (.ref b2), .val (.ref b8), .val (.ref b21), .val (.ref b43), .val (.ref b21), .val (.int pt), .val (.ref b218), .val (.long (fIn2 pt q2 q3)), .second, .val (.long (0 : Int64)), .second] [(.int (2 : Int32))])) t
            refine XS.iconst X279.here hx rfl (hb hby at_183) ?_
            show Steps p.tables e below (T279.setTop (mkF m 184 #[.val (.int p0), .val (.int p1), .val (.long q2), .second, .val (.long q3), .second, .val (.long q4), .second, .val (.int (2 : Int32)), .val (.ref b2), .val (.ref b8), .val (.ref b21), .val (.ref b43), .val (.ref b21), .val (.int pt), .val (.ref b218), .val (.long (fIn2 pt q2 q3)), .second, .val (.long (0 : Int64)), .second] [(.int (2 : Int32)), (.int (2 : Int32))])) t
            refine XS.icmpYes X279.here hx rfl (pc0 := 184) (pc' := 191) rfl (hb hby at_184) rfl (flt (by decide : ¬ ((2 : Int32) < (2 : Int32)))).2.2.2 (by decide) (by decide) ?_
            show Steps p.tables e below (T279.setTop (mkF m 191 #[.val (.int p0), .val (.int p1), .val (.long q2), .second, .val (.long q3), .second, .val (.long q4), .second, .val (.int (2 : Int32)), .val (.ref b2), .val (.ref b8), .val (.ref b21), .val (.ref b43), .val (.ref b21), .val (.int pt), .val (.ref b218), .val (.long (fIn2 pt q2 q3)), .second, .val (.long (0 : Int64)), .second] [])) t
            refine XS.lload X279.here hx rfl (hb hby at_191) rfl ?_
            show Steps p.tables e below (T279.setTop (mkF m 193 #[.val (.int p0), .val (.int p1), .val (.long q2), .second, .val (.long q3), .second, .val (.long q4), .second, .val (.int (2 : Int32)), .val (.ref b2), .val (.ref b8), .val (.ref b21), .val (.ref b43), .val (.ref b21), .val (.int pt), .val (.ref b218), .val (.long (fIn2 pt q2 q3)), .second, .val (.long (0 : Int64)), .second] [(.long (fIn2 pt q2 q3))])) t
            refine XS.lload X279.here hx rfl (hb hby at_193) rfl ?_
            show Steps p.tables e below (T279.setTop (mkF m 195 #[.val (.int p0), .val (.int p1), .val (.long q2), .second, .val (.long q3), .second, .val (.long q4), .second, .val (.int (2 : Int32)), .val (.ref b2), .val (.ref b8), .val (.ref b21), .val (.ref b43), .val (.ref b21), .val (.int pt), .val (.ref b218), .val (.long (fIn2 pt q2 q3)), .second, .val (.long (0 : Int64)), .second] [(.long (0 : Int64)), (.long (fIn2 pt q2 q3))])) t
            refine XS.lcmp X279.here hx rfl (hb hby at_195) rfl ?_
            show Steps p.tables e below (T279.setTop (mkF m 196 #[.val (.int p0), .val (.int p1), .val (.long q2), .second, .val (.long q3), .second, .val (.long q4), .second, .val (.int (2 : Int32)), .val (.ref b2), .val (.ref b8), .val (.ref b21), .val (.ref b43), .val (.ref b21), .val (.int pt), .val (.ref b218), .val (.long (fIn2 pt q2 q3)), .second, .val (.long (0 : Int64)), .second] [(.int (lcmpW (fIn2 pt q2 q3) (0 : Int64)))])) t
            refine XS.ifNo X279.here hx rfl (hb hby at_196) rfl ((if0 _ _).trans (teq ((lw_eq (fIn2 pt q2 q3) (0 : Int64)).mpr (by rw [own_in2 _ _ _  Hp]; simp only [if_neg hc281, if_neg hc282, if_pos hc283]))).2) ?_
            show Steps p.tables e below (T279.setTop (mkF m 199 #[.val (.int p0), .val (.int p1), .val (.long q2), .second, .val (.long q3), .second, .val (.long q4), .second, .val (.int (2 : Int32)), .val (.ref b2), .val (.ref b8), .val (.ref b21), .val (.ref b43), .val (.ref b21), .val (.int pt), .val (.ref b218), .val (.long (fIn2 pt q2 q3)), .second, .val (.long (0 : Int64)), .second] [])) t
            refine XS.iconst X279.here hx rfl (hb hby at_199) ?_
            show Steps p.tables e below (T279.setTop (mkF m 200 #[.val (.int p0), .val (.int p1), .val (.long q2), .second, .val (.long q3), .second, .val (.long q4), .second, .val (.int (2 : Int32)), .val (.ref b2), .val (.ref b8), .val (.ref b21), .val (.ref b43), .val (.ref b21), .val (.int pt), .val (.ref b218), .val (.long (fIn2 pt q2 q3)), .second, .val (.long (0 : Int64)), .second] [(.int (1 : Int32))])) t
            refine XS.goto X279.here hx rfl (pc0 := 200) (pc' := 204) rfl (hb hby at_200) (by decide) (by decide) ?_
            exact k
          obtain ⟨fs, hr, hrun, hended, hW, hsame⟩ := X279.leave (v := some (.int (1 : Int32))) (fun h => by rw [Bd.returns] at h; cases h)
          refine Goes.mk _ _ ?_ ⟨hrun, hended, _, _, rfl, ?_, ⟨_, rfl⟩, hW, hsame.mono (by decide) (by decide)⟩
          · exact retN X279 hx (t := .boolean) Bd.returns (by simp) (hb hby at_204) hr
          · show Q0 Z p0 p1 q2 q3 q4 h0 n0 _ T279.heap _
            rw [e279]
            exact ⟨rfl, N280⟩
        · refine Goes.by (B := T279.setTop (mkF m 204 #[.val (.int p0), .val (.int p1), .val (.long q2), .second, .val (.long q3), .second, .val (.long q4), .second, .val (.int (2 : Int32)), .val (.ref b2), .val (.ref b8), .val (.ref b21), .val (.ref b43), .val (.ref b21), .val (.int pt), .val (.ref b218), .val (.long (fIn2 pt q2 q3)), .second, .val (.long (0 : Int64)), .second] [(.int (1 : Int32))])) (fun t k => ?_) ?_
          · show Steps p.tables e below (T279.setTop (mkF m 178 #[.val (.int p0), .val (.int p1), .val (.long q2), .second, .val (.long q3), .second, .val (.long q4), .second, .val (.int (2 : Int32)), .val (.ref b2), .val (.ref b8), .val (.ref b21), .val (.ref b43), .val (.ref b21), .val (.int pt), .val (.ref b218), .val (.long (fIn2 pt q2 q3)), .second, .val (.long (0 : Int64)), .second] [(.int (2 : Int32)), (.int pt)])) t
            refine XS.icmpYes X279.here hx rfl (pc0 := 178) (pc' := 191) rfl (hb hby at_178) rfl (feq hc283).2 (by decide) (by decide) ?_
            show Steps p.tables e below (T279.setTop (mkF m 191 #[.val (.int p0), .val (.int p1), .val (.long q2), .second, .val (.long q3), .second, .val (.long q4), .second, .val (.int (2 : Int32)), .val (.ref b2), .val (.ref b8), .val (.ref b21), .val (.ref b43), .val (.ref b21), .val (.int pt), .val (.ref b218), .val (.long (fIn2 pt q2 q3)), .second, .val (.long (0 : Int64)), .second] [])) t
            refine XS.lload X279.here hx rfl (hb hby at_191) rfl ?_
            show Steps p.tables e below (T279.setTop (mkF m 193 #[.val (.int p0), .val (.int p1), .val (.long q2), .second, .val (.long q3), .second, .val (.long q4), .second, .val (.int (2 : Int32)), .val (.ref b2), .val (.ref b8), .val (.ref b21), .val (.ref b43), .val (.ref b21), .val (.int pt), .val (.ref b218), .val (.long (fIn2 pt q2 q3)), .second, .val (.long (0 : Int64)), .second] [(.long (fIn2 pt q2 q3))])) t
            refine XS.lload X279.here hx rfl (hb hby at_193) rfl ?_
            show Steps p.tables e below (T279.setTop (mkF m 195 #[.val (.int p0), .val (.int p1), .val (.long q2), .second, .val (.long q3), .second, .val (.long q4), .second, .val (.int (2 : Int32)), .val (.ref b2), .val (.ref b8), .val (.ref b21), .val (.ref b43), .val (.ref b21), .val (.int pt), .val (.ref b218), .val (.long (fIn2 pt q2 q3)), .second, .val (.long (0 : Int64)), .second] [(.long (0 : Int64)), (.long (fIn2 pt q2 q3))])) t
            refine XS.lcmp X279.here hx rfl (hb hby at_195) rfl ?_
            show Steps p.tables e below (T279.setTop (mkF m 196 #[.val (.int p0), .val (.int p1), .val (.long q2), .second, .val (.long q3), .second, .val (.long q4), .second, .val (.int (2 : Int32)), .val (.ref b2), .val (.ref b8), .val (.ref b21), .val (.ref b43), .val (.ref b21), .val (.int pt), .val (.ref b218), .val (.long (fIn2 pt q2 q3)), .second, .val (.long (0 : Int64)), .second] [(.int (lcmpW (fIn2 pt q2 q3) (0 : Int64)))])) t
            refine XS.ifNo X279.here hx rfl (hb hby at_196) rfl ((if0 _ _).trans (teq ((lw_eq (fIn2 pt q2 q3) (0 : Int64)).mpr (by rw [own_in2 _ _ _  Hp]; simp only [if_neg hc281, if_neg hc282, if_neg hc283]))).2) ?_
            show Steps p.tables e below (T279.setTop (mkF m 199 #[.val (.int p0), .val (.int p1), .val (.long q2), .second, .val (.long q3), .second, .val (.long q4), .second, .val (.int (2 : Int32)), .val (.ref b2), .val (.ref b8), .val (.ref b21), .val (.ref b43), .val (.ref b21), .val (.int pt), .val (.ref b218), .val (.long (fIn2 pt q2 q3)), .second, .val (.long (0 : Int64)), .second] [])) t
            refine XS.iconst X279.here hx rfl (hb hby at_199) ?_
            show Steps p.tables e below (T279.setTop (mkF m 200 #[.val (.int p0), .val (.int p1), .val (.long q2), .second, .val (.long q3), .second, .val (.long q4), .second, .val (.int (2 : Int32)), .val (.ref b2), .val (.ref b8), .val (.ref b21), .val (.ref b43), .val (.ref b21), .val (.int pt), .val (.ref b218), .val (.long (fIn2 pt q2 q3)), .second, .val (.long (0 : Int64)), .second] [(.int (1 : Int32))])) t
            refine XS.goto X279.here hx rfl (pc0 := 200) (pc' := 204) rfl (hb hby at_200) (by decide) (by decide) ?_
            exact k
          obtain ⟨fs, hr, hrun, hended, hW, hsame⟩ := X279.leave (v := some (.int (1 : Int32))) (fun h => by rw [Bd.returns] at h; cases h)
          refine Goes.mk _ _ ?_ ⟨hrun, hended, _, _, rfl, ?_, ⟨_, rfl⟩, hW, hsame.mono (by decide) (by decide)⟩
          · exact retN X279 hx (t := .boolean) Bd.returns (by simp) (hb hby at_204) hr
          · show Q0 Z p0 p1 q2 q3 q4 h0 n0 _ T279.heap _
            rw [e279]
            exact ⟨rfl, N280⟩
  · refine Goes.by (B := T68.setTop (mkF m 91 #[.val (.int p0), .val (.int p1), .val (.long q2), .second, .val (.long q3), .second, .val (.long q4), .second, .val (.int (3 : Int32)), .val (.ref b2), .val (.ref b8), .val (.ref b21), .val (.ref b43), .val (.ref b43), .unset, .unset, .unset, .unset, .unset, .unset] [(.int (p1 &&& (1 : Int32)))])) (fun t k => ?_) ?_
    · show Steps p.tables e below (T68.setTop (mkF m 52 #[.val (.int p0), .val (.int p1), .val (.long q2), .second, .val (.long q3), .second, .val (.long q4), .second, .val (.int (3 : Int32)), .val (.ref b2), .val (.ref b8), .val (.ref b21), .val (.ref b43), .unset, .unset, .unset, .unset, .unset, .unset, .unset] [])) t
      refine XS.iload X68.here hx rfl (hb hby at_52) rfl ?_
      show Steps p.tables e below (T68.setTop (mkF m 54 #[.val (.int p0), .val (.int p1), .val (.long q2), .second, .val (.long q3), .second, .val (.long q4), .second, .val (.int (3 : Int32)), .val (.ref b2), .val (.ref b8), .val (.ref b21), .val (.ref b43), .unset, .unset, .unset, .unset, .unset, .unset, .unset] [(.int (3 : Int32))])) t
      refine XS.ifYes X68.here hx rfl (pc0 := 54) (pc' := 62) rfl (hb hby at_54) rfl ((if0 _ _).trans (feq (by decide : ¬ ((3 : Int32) = (0 : Int32)))).2) (by decide) (by decide) ?_
      show Steps p.tables e below (T68.setTop (mkF m 62 #[.val (.int p0), .val (.int p1), .val (.long q2), .second, .val (.long q3), .second, .val (.long q4), .second, .val (.int (3 : Int32)), .val (.ref b2), .val (.ref b8), .val (.ref b21), .val (.ref b43), .unset, .unset, .unset, .unset, .unset, .unset, .unset] [])) t
      refine XS.iload X68.here hx rfl (hb hby at_62) rfl ?_
      show Steps p.tables e below (T68.setTop (mkF m 64 #[.val (.int p0), .val (.int p1), .val (.long q2), .second, .val (.long q3), .second, .val (.long q4), .second, .val (.int (3 : Int32)), .val (.ref b2), .val (.ref b8), .val (.ref b21), .val (.ref b43), .unset, .unset, .unset, .unset, .unset, .unset, .unset] [(.int (3 : Int32))])) t
      refine XS.iconst X68.here hx rfl (hb hby at_64) ?_
      show Steps p.tables e below (T68.setTop (mkF m 65 #[.val (.int p0), .val (.int p1), .val (.long q2), .second, .val (.long q3), .second, .val (.long q4), .second, .val (.int (3 : Int32)), .val (.ref b2), .val (.ref b8), .val (.ref b21), .val (.ref b43), .unset, .unset, .unset, .unset, .unset, .unset, .unset] [(.int (1 : Int32)), (.int (3 : Int32))])) t
      refine XS.icmpYes X68.here hx rfl (pc0 := 65) (pc' := 73) rfl (hb hby at_65) rfl (feq (by decide : ¬ ((3 : Int32) = (1 : Int32)))).2 (by decide) (by decide) ?_
      show Steps p.tables e below (T68.setTop (mkF m 73 #[.val (.int p0), .val (.int p1), .val (.long q2), .second, .val (.long q3), .second, .val (.long q4), .second, .val (.int (3 : Int32)), .val (.ref b2), .val (.ref b8), .val (.ref b21), .val (.ref b43), .unset, .unset, .unset, .unset, .unset, .unset, .unset] [])) t
      refine XS.iload X68.here hx rfl (hb hby at_73) rfl ?_
      show Steps p.tables e below (T68.setTop (mkF m 75 #[.val (.int p0), .val (.int p1), .val (.long q2), .second, .val (.long q3), .second, .val (.long q4), .second, .val (.int (3 : Int32)), .val (.ref b2), .val (.ref b8), .val (.ref b21), .val (.ref b43), .unset, .unset, .unset, .unset, .unset, .unset, .unset] [(.int (3 : Int32))])) t
      refine XS.iconst X68.here hx rfl (hb hby at_75) ?_
      show Steps p.tables e below (T68.setTop (mkF m 76 #[.val (.int p0), .val (.int p1), .val (.long q2), .second, .val (.long q3), .second, .val (.long q4), .second, .val (.int (3 : Int32)), .val (.ref b2), .val (.ref b8), .val (.ref b21), .val (.ref b43), .unset, .unset, .unset, .unset, .unset, .unset, .unset] [(.int (2 : Int32)), (.int (3 : Int32))])) t
      refine XS.icmpYes X68.here hx rfl (pc0 := 76) (pc' := 84) rfl (hb hby at_76) rfl (feq (by decide : ¬ ((3 : Int32) = (2 : Int32)))).2 (by decide) (by decide) ?_
      show Steps p.tables e below (T68.setTop (mkF m 84 #[.val (.int p0), .val (.int p1), .val (.long q2), .second, .val (.long q3), .second, .val (.long q4), .second, .val (.int (3 : Int32)), .val (.ref b2), .val (.ref b8), .val (.ref b21), .val (.ref b43), .unset, .unset, .unset, .unset, .unset, .unset, .unset] [])) t
      refine XS.aload X68.here hx rfl (hb hby at_84) rfl rfl ?_
      show Steps p.tables e below (T68.setTop (mkF m 86 #[.val (.int p0), .val (.int p1), .val (.long q2), .second, .val (.long q3), .second, .val (.long q4), .second, .val (.int (3 : Int32)), .val (.ref b2), .val (.ref b8), .val (.ref b21), .val (.ref b43), .unset, .unset, .unset, .unset, .unset, .unset, .unset] [(.ref b43)])) t
      refine XS.astore X68.here hx rfl (hb hby at_86) rfl rfl (l' := #[.val (.int p0), .val (.int p1), .val (.long q2), .second, .val (.long q3), .second, .val (.long q4), .second, .val (.int (3 : Int32)), .val (.ref b2), .val (.ref b8), .val (.ref b21), .val (.ref b43), .val (.ref b43), .unset, .unset, .unset, .unset, .unset, .unset]) rfl ?_
      show Steps p.tables e below (T68.setTop (mkF m 88 #[.val (.int p0), .val (.int p1), .val (.long q2), .second, .val (.long q3), .second, .val (.long q4), .second, .val (.int (3 : Int32)), .val (.ref b2), .val (.ref b8), .val (.ref b21), .val (.ref b43), .val (.ref b43), .unset, .unset, .unset, .unset, .unset, .unset] [])) t
      refine XS.iloadN X68.here hx rfl (hb hby at_88) rfl ?_
      show Steps p.tables e below (T68.setTop (mkF m 89 #[.val (.int p0), .val (.int p1), .val (.long q2), .second, .val (.long q3), .second, .val (.long q4), .second, .val (.int (3 : Int32)), .val (.ref b2), .val (.ref b8), .val (.ref b21), .val (.ref b43), .val (.ref b43), .unset, .unset, .unset, .unset, .unset, .unset] [(.int p1)])) t
      refine XS.iconst X68.here hx rfl (hb hby at_89) ?_
      show Steps p.tables e below (T68.setTop (mkF m 90 #[.val (.int p0), .val (.int p1), .val (.long q2), .second, .val (.long q3), .second, .val (.long q4), .second, .val (.int (3 : Int32)), .val (.ref b2), .val (.ref b8), .val (.ref b21), .val (.ref b43), .val (.ref b43), .unset, .unset, .unset, .unset, .unset, .unset] [(.int (1 : Int32)), (.int p1)])) t
      refine XS.iand X68.here hx rfl (hb hby at_90) rfl ?_
      exact k
    refine Goes.by (B := T68.setTop (mkF m 105 #[.val (.int p0), .val (.int p1), .val (.long q2), .second, .val (.long q3), .second, .val (.long q4), .second, .val (.int (3 : Int32)), .val (.ref b2), .val (.ref b8), .val (.ref b21), .val (.ref b43), .val (.ref b43), .unset, .unset, .unset, .unset, .unset, .unset] [(.int (if (p1 &&& (1 : Int32)) = (0 : Int32) then ((p1.toUInt32 >>> ((1 : Int32) &&& 31).toUInt32).toInt32) else (((p1.toUInt32 >>> ((1 : Int32) &&& 31).toUInt32).toInt32) &&& (3 : Int32))))])) (fun t k => ?_) ?_
    · by_cases hm284 : (p1 &&& (1 : Int32)) = (0 : Int32)
      · simp only [if_pos hm284] at k
        show Steps p.tables e below (T68.setTop (mkF m 91 #[.val (.int p0), .val (.int p1), .val (.long q2), .second, .val (.long q3), .second, .val (.long q4), .second, .val (.int (3 : Int32)), .val (.ref b2), .val (.ref b8), .val (.ref b21), .val (.ref b43), .val (.ref b43), .unset, .unset, .unset, .unset, .unset, .unset] [(.int (p1 &&& (1 : Int32)))])) t
        refine XS.ifYes X68.here hx rfl (pc0 := 91) (pc' := 102) rfl (hb hby at_91) rfl ((if0 _ _).trans (teq hm284).1) (by decide) (by decide) ?_
        show Steps p.tables e below (T68.setTop (mkF m 102 #[.val (.int p0), .val (.int p1), .val (.long q2), .second, .val (.long q3), .second, .val (.long q4), .second, .val (.int (3 : Int32)), .val (.ref b2), .val (.ref b8), .val (.ref b21), .val (.ref b43), .val (.ref b43), .unset, .unset, .unset, .unset, .unset, .unset] [])) t
        refine XS.iloadN X68.here hx rfl (hb hby at_102) rfl ?_
        show Steps p.tables e below (T68.setTop (mkF m 103 #[.val (.int p0), .val (.int p1), .val (.long q2), .second, .val (.long q3), .second, .val (.long q4), .second, .val (.int (3 : Int32)), .val (.ref b2), .val (.ref b8), .val (.ref b21), .val (.ref b43), .val (.ref b43), .unset, .unset, .unset, .unset, .unset, .unset] [(.int p1)])) t
        refine XS.iconst X68.here hx rfl (hb hby at_103) ?_
        show Steps p.tables e below (T68.setTop (mkF m 104 #[.val (.int p0), .val (.int p1), .val (.long q2), .second, .val (.long q3), .second, .val (.long q4), .second, .val (.int (3 : Int32)), .val (.ref b2), .val (.ref b8), .val (.ref b21), .val (.ref b43), .val (.ref b43), .unset, .unset, .unset, .unset, .unset, .unset] [(.int (1 : Int32)), (.int p1)])) t
        refine XS.iushr X68.here hx rfl (hb hby at_104) rfl ?_
        exact k
      · simp only [if_neg hm284] at k
        show Steps p.tables e below (T68.setTop (mkF m 91 #[.val (.int p0), .val (.int p1), .val (.long q2), .second, .val (.long q3), .second, .val (.long q4), .second, .val (.int (3 : Int32)), .val (.ref b2), .val (.ref b8), .val (.ref b21), .val (.ref b43), .val (.ref b43), .unset, .unset, .unset, .unset, .unset, .unset] [(.int (p1 &&& (1 : Int32)))])) t
        refine XS.ifNo X68.here hx rfl (hb hby at_91) rfl ((if0 _ _).trans (feq hm284).1) ?_
        show Steps p.tables e below (T68.setTop (mkF m 94 #[.val (.int p0), .val (.int p1), .val (.long q2), .second, .val (.long q3), .second, .val (.long q4), .second, .val (.int (3 : Int32)), .val (.ref b2), .val (.ref b8), .val (.ref b21), .val (.ref b43), .val (.ref b43), .unset, .unset, .unset, .unset, .unset, .unset] [])) t
        refine XS.iloadN X68.here hx rfl (hb hby at_94) rfl ?_
        show Steps p.tables e below (T68.setTop (mkF m 95 #[.val (.int p0), .val (.int p1), .val (.long q2), .second, .val (.long q3), .second, .val (.long q4), .second, .val (.int (3 : Int32)), .val (.ref b2), .val (.ref b8), .val (.ref b21), .val (.ref b43), .val (.ref b43), .unset, .unset, .unset, .unset, .unset, .unset] [(.int p1)])) t
        refine XS.iconst X68.here hx rfl (hb hby at_95) ?_
        show Steps p.tables e below (T68.setTop (mkF m 96 #[.val (.int p0), .val (.int p1), .val (.long q2), .second, .val (.long q3), .second, .val (.long q4), .second, .val (.int (3 : Int32)), .val (.ref b2), .val (.ref b8), .val (.ref b21), .val (.ref b43), .val (.ref b43), .unset, .unset, .unset, .unset, .unset, .unset] [(.int (1 : Int32)), (.int p1)])) t
        refine XS.iushr X68.here hx rfl (hb hby at_96) rfl ?_
        show Steps p.tables e below (T68.setTop (mkF m 97 #[.val (.int p0), .val (.int p1), .val (.long q2), .second, .val (.long q3), .second, .val (.long q4), .second, .val (.int (3 : Int32)), .val (.ref b2), .val (.ref b8), .val (.ref b21), .val (.ref b43), .val (.ref b43), .unset, .unset, .unset, .unset, .unset, .unset] [(.int ((p1.toUInt32 >>> ((1 : Int32) &&& 31).toUInt32).toInt32))])) t
        refine XS.iconst X68.here hx rfl (hb hby at_97) ?_
        show Steps p.tables e below (T68.setTop (mkF m 98 #[.val (.int p0), .val (.int p1), .val (.long q2), .second, .val (.long q3), .second, .val (.long q4), .second, .val (.int (3 : Int32)), .val (.ref b2), .val (.ref b8), .val (.ref b21), .val (.ref b43), .val (.ref b43), .unset, .unset, .unset, .unset, .unset, .unset] [(.int (3 : Int32)), (.int ((p1.toUInt32 >>> ((1 : Int32) &&& 31).toUInt32).toInt32))])) t
        refine XS.iand X68.here hx rfl (hb hby at_98) rfl ?_
        show Steps p.tables e below (T68.setTop (mkF m 99 #[.val (.int p0), .val (.int p1), .val (.long q2), .second, .val (.long q3), .second, .val (.long q4), .second, .val (.int (3 : Int32)), .val (.ref b2), .val (.ref b8), .val (.ref b21), .val (.ref b43), .val (.ref b43), .unset, .unset, .unset, .unset, .unset, .unset] [(.int (((p1.toUInt32 >>> ((1 : Int32) &&& 31).toUInt32).toInt32) &&& (3 : Int32)))])) t
        refine XS.goto X68.here hx rfl (pc0 := 99) (pc' := 105) rfl (hb hby at_99) (by decide) (by decide) ?_
        exact k
    refine Goes.by (B := T68.setTop (mkF m 107 #[.val (.int p0), .val (.int p1), .val (.long q2), .second, .val (.long q3), .second, .val (.long q4), .second, .val (.int (3 : Int32)), .val (.ref b2), .val (.ref b8), .val (.ref b21), .val (.ref b43), .val (.ref b43), .val (.int (if (p1 &&& (1 : Int32)) = (0 : Int32) then ((p1.toUInt32 >>> ((1 : Int32) &&& 31).toUInt32).toInt32) else (((p1.toUInt32 >>> ((1 : Int32) &&& 31).toUInt32).toInt32) &&& (3 : Int32)))), .unset, .unset, .unset, .unset, .unset] [])) (fun t k => ?_) ?_
    · show Steps p.tables e below (T68.setTop (mkF m 105 #[.val (.int p0), .val (.int p1), .val (.long q2), .second, .val (.long q3), .second, .val (.long q4), .second, .val (.int (3 : Int32)), .val (.ref b2), .val (.ref b8), .val (.ref b21), .val (.ref b43), .val (.ref b43), .unset, .unset, .unset, .unset, .unset, .unset] [(.int (if (p1 &&& (1 : Int32)) = (0 : Int32) then ((p1.toUInt32 >>> ((1 : Int32) &&& 31).toUInt32).toInt32) else (((p1.toUInt32 >>> ((1 : Int32) &&& 31).toUInt32).toInt32) &&& (3 : Int32))))])) t
      refine XS.istore X68.here hx rfl (hb hby at_105) rfl (l' := #[.val (.int p0), .val (.int p1), .val (.long q2), .second, .val (.long q3), .second, .val (.long q4), .second, .val (.int (3 : Int32)), .val (.ref b2), .val (.ref b8), .val (.ref b21), .val (.ref b43), .val (.ref b43), .val (.int (if (p1 &&& (1 : Int32)) = (0 : Int32) then ((p1.toUInt32 >>> ((1 : Int32) &&& 31).toUInt32).toInt32) else (((p1.toUInt32 >>> ((1 : Int32) &&& 31).toUInt32).toInt32) &&& (3 : Int32)))), .unset, .unset, .unset, .unset, .unset]) rfl ?_
      exact k
    generalize hg_pt : (if (p1 &&& (1 : Int32)) = (0 : Int32) then ((p1.toUInt32 >>> ((1 : Int32) &&& 31).toUInt32).toInt32) else (((p1.toUInt32 >>> ((1 : Int32) &&& 31).toUInt32).toInt32) &&& (3 : Int32))) = pt
    have Hp := own_pt p1 pt hg_pt
    obtain ⟨T285, h285, X285, e285, E285, A285, D285, -, st285⟩ := newO X68 hx hZ hown (hw _ (List.mem_of_getElem? (i := 1) rfl)) (hw _ (List.mem_of_getElem? (i := 2) rfl)) (hw _ (List.mem_of_getElem? (i := 3) rfl)) e68 (g := (mkF m 107 #[.val (.int p0), .val (.int p1), .val (.long q2), .second, .val (.long q3), .second, .val (.long q4), .second, .val (.int (3 : Int32)), .val (.ref b2), .val (.ref b8), .val (.ref b21), .val (.ref b43), .val (.ref b43), .val (.int pt), .unset, .unset, .unset, .unset, .unset] [])) rfl (hb hby at_107) (by decide) (by decide)
    obtain ⟨b286, g285⟩ : ∃ z, z = h68.size := ⟨_, rfl⟩
    rw [← g285] at A285 D285 st285
    have ne287 : b2 ≠ b286 := Nat.ne_of_lt (Nat.lt_of_lt_of_le f69.lt (Nat.le_of_eq g285.symm))
    have ne288 : b8 ≠ b286 := Nat.ne_of_lt (Nat.lt_of_lt_of_le f70.lt (Nat.le_of_eq g285.symm))
    have ne289 : b21 ≠ b286 := Nat.ne_of_lt (Nat.lt_of_lt_of_le f71.lt (Nat.le_of_eq g285.symm))
    have ne290 : b43 ≠ b286 := Nat.ne_of_lt (Nat.lt_of_lt_of_le f72.lt (Nat.le_of_eq g285.symm))
    have ge291 : n0 ≤ b286 := Nat.le_trans Z73 (Nat.le_of_eq g285.symm)
    have sz292 : h0.size ≤ b286 := Nat.le_trans Kp68.1 (Nat.le_of_eq g285.symm)
    have f293 : Arv Z h285 b2 k1 .long (0 : Int32) [] (.long (0 : Int64)) := f69.ext E285
    have f294 : Arv Z h285 b8 k7 .long (1 : Int32) [(.long q2)] (.long (0 : Int64)) := f70.ext E285
    have f295 : Arv Z h285 b21 k20 .long (2 : Int32) [(.long q2), (.long q3)] (.long (0 : Int64)) := f71.ext E285
    have f296 : Arv Z h285 b43 k42 .long (3 : Int32) [(.long q2), (.long q3), (.long q4)] (.long (0 : Int64)) := f72.ext E285
    have f297 : Fld Z h285 b286 "com/example/moraine/moraine/Frames$Cut" "position" "Lcom/example/moraine/moraine/Position;" .null := D285 (Or.inr (hw _ (List.mem_of_getElem? (i := 27) rfl))) (ty := (.object "com/example/moraine/moraine/Position")) (by decide)
    have f298 : Fld Z h285 b286 "com/example/moraine/moraine/Frames$Cut" "inParts" "[J" .null := D285 (Or.inr (hw _ (List.mem_of_getElem? (i := 29) rfl))) (ty := (.array .long)) (by decide)
    have Kp285 : Keep h0 h285 [] := Kp68.ext E285
    have Z299 : n0 ≤ h285.size := Nat.le_trans Z73 E285.1
    refine Goes.by st285 ?_
    show Goes p.tables e below _ (T285.setTop (mkF m 110 #[.val (.int p0), .val (.int p1), .val (.long q2), .second, .val (.long q3), .second, .val (.long q4), .second, .val (.int (3 : Int32)), .val (.ref b2), .val (.ref b8), .val (.ref b21), .val (.ref b43), .val (.ref b43), .val (.int pt), .unset, .unset, .unset, .unset, .unset] [(.ref b286)]))
    refine Goes.by (B := T285.setTop (mkF m 111 #[.val (.int p0), .val (.int p1), .val (.long q2), .second, .val (.long q3), .second, .val (.long q4), .second, .val (.int (3 : Int32)), .val (.ref b2), .val (.ref b8), .val (.ref b21), .val (.ref b43), .val (.ref b43), .val (.int pt), .unset, .unset, .unset, .unset, .unset] [(.ref b286), (.ref b286)])) (fun t k => ?_) ?_
    · show Steps p.tables e below (T285.setTop (mkF m 110 #[.val (.int p0), .val (.int p1), .val (.long q2), .second, .val (.long q3), .second, .val (.long q4), .second, .val (.int (3 : Int32)), .val (.ref b2), .val (.ref b8), .val (.ref b21), .val (.ref b43), .val (.ref b43), .val (.int pt), .unset, .unset, .unset, .unset, .unset] [(.ref b286)])) t
      refine XS.dup X285.here hx rfl (hb hby at_110) rfl rfl ?_
      exact k
    obtain ⟨T300, h300, X300, e300, E300, A300, D300, -, st300⟩ := newO X285 hx hZ hown (hw _ (List.mem_of_getElem? (i := 4) rfl)) (hw _ (List.mem_of_getElem? (i := 5) rfl)) (hw _ (List.mem_of_getElem? (i := 6) rfl)) e285 (g := (mkF m 111 #[.val (.int p0), .val (.int p1), .val (.long q2), .second, .val (.long q3), .second, .val (.long q4), .second, .val (.int (3 : Int32)), .val (.ref b2), .val (.ref b8), .val (.ref b21), .val (.ref b43), .val (.ref b43), .val (.int pt), .unset, .unset, .unset, .unset, .unset] [(.ref b286), (.ref b286)])) rfl (hb hby at_111) (by decide) (by decide)
    obtain ⟨b301, g300⟩ : ∃ z, z = h285.size := ⟨_, rfl⟩
    rw [← g300] at A300 D300 st300
    have ne302 : b2 ≠ b301 := Nat.ne_of_lt (Nat.lt_of_lt_of_le f293.lt (Nat.le_of_eq g300.symm))
    have ne303 : b8 ≠ b301 := Nat.ne_of_lt (Nat.lt_of_lt_of_le f294.lt (Nat.le_of_eq g300.symm))
    have ne304 : b21 ≠ b301 := Nat.ne_of_lt (Nat.lt_of_lt_of_le f295.lt (Nat.le_of_eq g300.symm))
    have ne305 : b43 ≠ b301 := Nat.ne_of_lt (Nat.lt_of_lt_of_le f296.lt (Nat.le_of_eq g300.symm))
    have ne306 : b286 ≠ b301 := Nat.ne_of_lt (Nat.lt_of_lt_of_le A285.lt (Nat.le_of_eq g300.symm))
    have ge307 : n0 ≤ b301 := Nat.le_trans Z299 (Nat.le_of_eq g300.symm)
    have sz308 : h0.size ≤ b301 := Nat.le_trans Kp285.1 (Nat.le_of_eq g300.symm)
    have f309 : Arv Z h300 b2 k1 .long (0 : Int32) [] (.long (0 : Int64)) := f293.ext E300
    have f310 : Arv Z h300 b8 k7 .long (1 : Int32) [(.long q2)] (.long (0 : Int64)) := f294.ext E300
    have f311 : Arv Z h300 b21 k20 .long (2 : Int32) [(.long q2), (.long q3)] (.long (0 : Int64)) := f295.ext E300
    have f312 : Arv Z h300 b43 k42 .long (3 : Int32) [(.long q2), (.long q3), (.long q4)] (.long (0 : Int64)) := f296.ext E300
    have f313 : Exa Z h300 b286 "com/example/moraine/moraine/Frames$Cut" := A285.ext E300
    have f314 : Fld Z h300 b286 "com/example/moraine/moraine/Frames$Cut" "position" "Lcom/example/moraine/moraine/Position;" .null := f297.ext E300
    have f315 : Fld Z h300 b286 "com/example/moraine/moraine/Frames$Cut" "inParts" "[J" .null := f298.ext E300
    have f316 : Fld Z h300 b301 "com/example/moraine/moraine/Position" "increments" "J" (.long (0 : Int64)) := D300 (Or.inr (hw _ (List.mem_of_getElem? (i := 19) rfl))) (ty := .long) (by decide)
    have f317 : Fld Z h300 b301 "com/example/moraine/moraine/Position" "records" "J" (.long (0 : Int64)) := D300 (Or.inr (hw _ (List.mem_of_getElem? (i := 21) rfl))) (ty := .long) (by decide)
    have Kp300 : Keep h0 h300 [] := Kp285.ext E300
    have Z318 : n0 ≤ h300.size := Nat.le_trans Z299 E300.1
    refine Goes.by st300 ?_
    show Goes p.tables e below _ (T300.setTop (mkF m 114 #[.val (.int p0), .val (.int p1), .val (.long q2), .second, .val (.long q3), .second, .val (.long q4), .second, .val (.int (3 : Int32)), .val (.ref b2), .val (.ref b8), .val (.ref b21), .val (.ref b43), .val (.ref b43), .val (.int pt), .unset, .unset, .unset, .unset, .unset] [(.ref b301), (.ref b286), (.ref b286)]))
    refine Goes.by (B := T300.setTop (mkF m 118 #[.val (.int p0), .val (.int p1), .val (.long q2), .second, .val (.long q3), .second, .val (.long q4), .second, .val (.int (3 : Int32)), .val (.ref b2), .val (.ref b8), .val (.ref b21), .val (.ref b43), .val (.ref b43), .val (.int pt), .unset, .unset, .unset, .unset, .unset] [(.long q4), (.long q2), (.ref b301), (.ref b301), (.ref b286), (.ref b286)])) (fun t k => ?_) ?_
    · show Steps p.tables e below (T300.setTop (mkF m 114 #[.val (.int p0), .val (.int p1), .val (.long q2), .second, .val (.long q3), .second, .val (.long q4), .second, .val (.int (3 : Int32)), .val (.ref b2), .val (.ref b8), .val (.ref b21), .val (.ref b43), .val (.ref b43), .val (.int pt), .unset, .unset, .unset, .unset, .unset] [(.ref b301), (.ref b286), (.ref b286)])) t
      refine XS.dup X300.here hx rfl (hb hby at_114) rfl rfl ?_
      show Steps p.tables e below (T300.setTop (mkF m 115 #[.val (.int p0), .val (.int p1), .val (.long q2), .second, .val (.long q3), .second, .val (.long q4), .second, .val (.int (3 : Int32)), .val (.ref b2), .val (.ref b8), .val (.ref b21), .val (.ref b43), .val (.ref b43), .val (.int pt), .unset, .unset, .unset, .unset, .unset] [(.ref b301), (.ref b301), (.ref b286), (.ref b286)])) t
      refine XS.lloadN X300.here hx rfl (hb hby at_115) rfl ?_
      show Steps p.tables e below (T300.setTop (mkF m 116 #[.val (.int p0), .val (.int p1), .val (.long q2), .second, .val (.long q3), .second, .val (.long q4), .second, .val (.int (3 : Int32)), .val (.ref b2), .val (.ref b8), .val (.ref b21), .val (.ref b43), .val (.ref b43), .val (.int pt), .unset, .unset, .unset, .unset, .unset] [(.long q2), (.ref b301), (.ref b301), (.ref b286), (.ref b286)])) t
      refine XS.lload X300.here hx rfl (hb hby at_116) rfl ?_
      exact k
    obtain ⟨_, _, ⟨T319, L319, k319, n319⟩, -, X319, ⟨Lc319, hQ319, l319, y319, z319⟩, st319⟩ := X300.specialBack hx (y := (⟨"com/example/moraine/moraine/Position", "<init>", "(JJ)V"⟩ : MethodName)) rfl hown (mvT hZ (hw _ (List.mem_of_getElem? (i := 7) rfl))) (mvT hZ (hw _ (List.mem_of_getElem? (i := 8) rfl))) (mvT hZ (hw _ (List.mem_of_getElem? (i := 9) rfl))) (by decide) (backOf (W := 3) (rmPos l Z az hw [] b301 q2 q4 h300 n0 Z318 A300 f316 f317 ge307) hZ (hw _ (List.mem_of_getElem? (i := 9) rfl)) (hw _ (List.mem_of_getElem? (i := 6) rfl)) (by decide) (by decide)) (g := (mkF m 118 #[.val (.int p0), .val (.int p1), .val (.long q2), .second, .val (.long q3), .second, .val (.long q4), .second, .val (.int (3 : Int32)), .val (.ref b2), .val (.ref b8), .val (.ref b21), .val (.ref b43), .val (.ref b43), .val (.int pt), .unset, .unset, .unset, .unset, .unset] [(.long q4), (.long q2), (.ref b301), (.ref b301), (.ref b286), (.ref b286)])) rfl (by rw [hml]; rfl) (Steps.refl _) (a := b301) (argsL := [(.long q2), (.long q4)]) (rest := [(.ref b301), (.ref b286), (.ref b286)]) (lenOf own_pd1 rfl) rfl (by show 2 * 0 + _ ≤ _; exact Nat.le_of_eq rfl) (hb hby at_118) (fun _ _ => ⟨rfl, e300, (by decide : 6 + 0 ≤ _), (by decide : 10 + 0 ≤ _)⟩)
    dsimp only [Pt.U, Pt.locs, Pt.cells, Pt.slots] at X319 l319 y319 z319 st319 hQ319
    subst l319 y319 z319
    obtain ⟨rfl, N319q, K319, f320, f321, f322⟩ := hQ319
    have f323 : Arv Z T319.heap b2 k1 .long (0 : Int32) [] (.long (0 : Int64)) := f309.keep K319 (ninS ne302 nin0)
    have f324 : Arv Z T319.heap b8 k7 .long (1 : Int32) [(.long q2)] (.long (0 : Int64)) := f310.keep K319 (ninS ne303 nin0)
    have f325 : Arv Z T319.heap b21 k20 .long (2 : Int32) [(.long q2), (.long q3)] (.long (0 : Int64)) := f311.keep K319 (ninS ne304 nin0)
    have f326 : Arv Z T319.heap b43 k42 .long (3 : Int32) [(.long q2), (.long q3), (.long q4)] (.long (0 : Int64)) := f312.keep K319 (ninS ne305 nin0)
    have f327 : Exa Z T319.heap b286 "com/example/moraine/moraine/Frames$Cut" := f313.keep K319
    have f328 : Fld Z T319.heap b286 "com/example/moraine/moraine/Frames$Cut" "position" "Lcom/example/moraine/moraine/Position;" .null := f314.keep K319 (ninS ne306 nin0)
    have f329 : Fld Z T319.heap b286 "com/example/moraine/moraine/Frames$Cut" "inParts" "[J" .null := f315.keep K319 (ninS ne306 nin0)
    have f330 : Exa Z T319.heap b301 "com/example/moraine/moraine/Position" := A300.keep K319
    have Kp319 : Keep h0 T319.heap [] := Kp300.trans K319 (allS (Or.inr sz308) all0)
    have Z331 : n0 ≤ T319.heap.size := Nat.le_trans Z318 K319.1
    have N332 := Fr.app N74 N319q
    refine Goes.by (fun _ k => st319.trans k) ?_
    show Goes p.tables e below _ (T319.setTop (mkF m 121 #[.val (.int p0), .val (.int p1), .val (.long q2), .second, .val (.long q3), .second, .val (.long q4), .second, .val (.int (3 : Int32)), .val (.ref b2), .val (.ref b8), .val (.ref b21), .val (.ref b43), .val (.ref b43), .val (.int pt), .unset, .unset, .unset, .unset, .unset] [(.ref b301), (.ref b286), (.ref b286)]))
    refine Goes.by (B := T319.setTop (mkF m 123 #[.val (.int p0), .val (.int p1), .val (.long q2), .second, .val (.long q3), .second, .val (.long q4), .second, .val (.int (3 : Int32)), .val (.ref b2), .val (.ref b8), .val (.ref b21), .val (.ref b43), .val (.ref b43), .val (.int pt), .unset, .unset, .unset, .unset, .unset] [(.ref b43), (.ref b301), (.ref b286), (.ref b286)])) (fun t k => ?_) ?_
    · show Steps p.tables e below (T319.setTop (mkF m 121 #[.val (.int p0), .val (.int p1), .val (.long q2), .second, .val (.long q3), .second, .val (.long q4), .second, .val (.int (3 : Int32)), .val (.ref b2), .val (.ref b8), .val (.ref b21), .val (.ref b43), .val (.ref b43), .val (.int pt), .unset, .unset, .unset, .unset, .unset] [(.ref b301), (.ref b286), (.ref b286)])) t
      refine XS.aload X319.here hx rfl (hb hby at_121) rfl rfl ?_
      exact k
    obtain ⟨_, _, ⟨T333, L333, k333, n333⟩, -, X333, ⟨Lc333, hQ333, l333, y333, z333⟩, st333⟩ := X319.specialBack hx (y := (⟨"com/example/moraine/moraine/Frames$Cut", "<init>", "(Lcom/example/moraine/moraine/Position;[J)V"⟩ : MethodName)) rfl hown (mvT hZ (hw _ (List.mem_of_getElem? (i := 22) rfl))) (mvT hZ (hw _ (List.mem_of_getElem? (i := 23) rfl))) (mvT hZ (hw _ (List.mem_of_getElem? (i := 24) rfl))) (by decide) (backOf (W := 1) (rmCut l Z az hw [] b286 b301 b43 T319.heap n0 Z331 f327 f328 f329 ge291) hZ (hw _ (List.mem_of_getElem? (i := 24) rfl)) (hw _ (List.mem_of_getElem? (i := 3) rfl)) (by decide) (by decide)) (g := (mkF m 123 #[.val (.int p0), .val (.int p1), .val (.long q2), .second, .val (.long q3), .second, .val (.long q4), .second, .val (.int (3 : Int32)), .val (.ref b2), .val (.ref b8), .val (.ref b21), .val (.ref b43), .val (.ref b43), .val (.int pt), .unset, .unset, .unset, .unset, .unset] [(.ref b43), (.ref b301), (.ref b286), (.ref b286)])) rfl (by rw [hml]; rfl) (Steps.refl _) (a := b286) (argsL := [(.ref b301), (.ref b43)]) (rest := [(.ref b286)]) (lenOf own_pd2 rfl) rfl (by show 2 * 0 + _ ≤ _; exact Nat.le_of_eq rfl) (hb hby at_123) (fun _ _ => ⟨rfl, rfl, (by decide : 6 + 0 ≤ _), (by decide : 10 + 0 ≤ _)⟩)
    dsimp only [Pt.U, Pt.locs, Pt.cells, Pt.slots] at X333 l333 y333 z333 st333 hQ333
    subst l333 y333 z333
    obtain ⟨rfl, N333q, K333, f334, f335, f336⟩ := hQ333
    have f337 : Arv Z T333.heap b2 k1 .long (0 : Int32) [] (.long (0 : Int64)) := f323.keep K333 (ninS ne287 nin0)
    have f338 : Arv Z T333.heap b8 k7 .long (1 : Int32) [(.long q2)] (.long (0 : Int64)) := f324.keep K333 (ninS ne288 nin0)
    have f339 : Arv Z T333.heap b21 k20 .long (2 : Int32) [(.long q2), (.long q3)] (.long (0 : Int64)) := f325.keep K333 (ninS ne289 nin0)
    have f340 : Arv Z T333.heap b43 k42 .long (3 : Int32) [(.long q2), (.long q3), (.long q4)] (.long (0 : Int64)) := f326.keep K333 (ninS ne290 nin0)
    have f341 : Exa Z T333.heap b286 "com/example/moraine/moraine/Frames$Cut" := f327.keep K333
    have f342 : Exa Z T333.heap b301 "com/example/moraine/moraine/Position" := f320.keep K333
    have f343 : Fld Z T333.heap b301 "com/example/moraine/moraine/Position" "increments" "J" (.long q2) := f321.keep K333 (ninS (Ne.symm ne306) nin0)
    have f344 : Fld Z T333.heap b301 "com/example/moraine/moraine/Position" "records" "J" (.long q4) := f322.keep K333 (ninS (Ne.symm ne306) nin0)
    have Kp333 : Keep h0 T333.heap [] := Kp319.trans K333 (allS (Or.inr sz292) all0)
    have Z345 : n0 ≤ T333.heap.size := Nat.le_trans Z331 K333.1
    have N346 := Fr.app N332 N333q
    refine Goes.by (fun _ k => st333.trans k) ?_
    show Goes p.tables e below _ (T333.setTop (mkF m 126 #[.val (.int p0), .val (.int p1), .val (.long q2), .second, .val (.long q3), .second, .val (.long q4), .second, .val (.int (3 : Int32)), .val (.ref b2), .val (.ref b8), .val (.ref b21), .val (.ref b43), .val (.ref b43), .val (.int pt), .unset, .unset, .unset, .unset, .unset] [(.ref b286)]))
    refine Goes.by (B := T333.setTop (mkF m 132 #[.val (.int p0), .val (.int p1), .val (.long q2), .second, .val (.long q3), .second, .val (.long q4), .second, .val (.int (3 : Int32)), .val (.ref b2), .val (.ref b8), .val (.ref b21), .val (.ref b43), .val (.ref b43), .val (.int pt), .val (.ref b286), .unset, .unset, .unset, .unset] [(.int pt), (.ref b286)])) (fun t k => ?_) ?_
    · show Steps p.tables e below (T333.setTop (mkF m 126 #[.val (.int p0), .val (.int p1), .val (.long q2), .second, .val (.long q3), .second, .val (.long q4), .second, .val (.int (3 : Int32)), .val (.ref b2), .val (.ref b8), .val (.ref b21), .val (.ref b43), .val (.ref b43), .val (.int pt), .unset, .unset, .unset, .unset, .unset] [(.ref b286)])) t
      refine XS.astore X333.here hx rfl (hb hby at_126) rfl rfl (l' := #[.val (.int p0), .val (.int p1), .val (.long q2), .second, .val (.long q3), .second, .val (.long q4), .second, .val (.int (3 : Int32)), .val (.ref b2), .val (.ref b8), .val (.ref b21), .val (.ref b43), .val (.ref b43), .val (.int pt), .val (.ref b286), .unset, .unset, .unset, .unset]) rfl ?_
      show Steps p.tables e below (T333.setTop (mkF m 128 #[.val (.int p0), .val (.int p1), .val (.long q2), .second, .val (.long q3), .second, .val (.long q4), .second, .val (.int (3 : Int32)), .val (.ref b2), .val (.ref b8), .val (.ref b21), .val (.ref b43), .val (.ref b43), .val (.int pt), .val (.ref b286), .unset, .unset, .unset, .unset] [])) t
      refine XS.aload X333.here hx rfl (hb hby at_128) rfl rfl ?_
      show Steps p.tables e below (T333.setTop (mkF m 130 #[.val (.int p0), .val (.int p1), .val (.long q2), .second, .val (.long q3), .second, .val (.long q4), .second, .val (.int (3 : Int32)), .val (.ref b2), .val (.ref b8), .val (.ref b21), .val (.ref b43), .val (.ref b43), .val (.int pt), .val (.ref b286), .unset, .unset, .unset, .unset] [(.ref b286)])) t
      refine XS.iload X333.here hx rfl (hb hby at_130) rfl ?_
      exact k
    obtain ⟨cq347, kq347, q347a, q347b, q347c⟩ := isOf hZ rfl f334
    obtain ⟨_, _, ⟨T347, L347, k347, n347⟩, -, X347, ⟨Lc347, hQ347, l347, y347, z347⟩, st347⟩ := X333.virtualBack hx (y := (⟨"com/example/moraine/moraine/Frames$Cut", "inPart", "(I)J"⟩ : MethodName)) (z := (⟨"com/example/moraine/moraine/Frames$Cut", "inPart", "(I)J"⟩ : MethodName)) hown (mvT hZ (hw _ (List.mem_of_getElem? (i := 30) rfl))) (mvT hZ (hw _ (List.mem_of_getElem? (i := 31) rfl))) (notFace_of_selects (args := #[]) (mvT hZ (hw _ (List.mem_of_getElem? (i := 33) rfl)))) (mvT hZ (hw _ (List.mem_of_getElem? (i := 33) rfl))) (mvT hZ (hw _ (List.mem_of_getElem? (i := 32) rfl))) (by decide) (backOf (W := 0) (rmIn3 l Z az hw [] b286 pt b43 k42 q2 q3 q4 T333.heap n0 Z345 f336 f340 Hp) hZ (hw _ (List.mem_of_getElem? (i := 34) rfl)) (hw _ (List.mem_of_getElem? (i := 3) rfl)) (by decide) (by decide)) q347a q347c (g := (mkF m 132 #[.val (.int p0), .val (.int p1), .val (.long q2), .second, .val (.long q3), .second, .val (.long q4), .second, .val (.int (3 : Int32)), .val (.ref b2), .val (.ref b8), .val (.ref b21), .val (.ref b43), .val (.ref b43), .val (.int pt), .val (.ref b286), .unset, .unset, .unset, .unset] [(.int pt), (.ref b286)])) rfl (by rw [hml]; rfl) (Steps.refl _) (argsL := [(.int pt)]) (rest := []) (lenOf own_pd3 rfl) rfl (by show 2 * 0 + _ ≤ _; exact Nat.le_of_eq rfl) (hb hby at_132) (fun _ _ => ⟨rfl, rfl, (by decide : 6 + 0 ≤ _), (by decide : 10 + 0 ≤ _)⟩)
    dsimp only [Pt.U, Pt.locs, Pt.cells, Pt.slots] at X347 l347 y347 z347 st347 hQ347
    subst l347 y347 z347
    obtain ⟨rfl, N347q, e347⟩ := hQ347
    have N348 := Fr.app N346 N347q
    refine Goes.by (fun _ k => st347.trans k) ?_
    show Goes p.tables e below _ (T347.setTop (mkF m 135 #[.val (.int p0), .val (.int p1), .val (.long q2), .second, .val (.long q3), .second, .val (.long q4), .second, .val (.int (3 : Int32)), .val (.ref b2), .val (.ref b8), .val (.ref b21), .val (.ref b43), .val (.ref b43), .val (.int pt), .val (.ref b286), .unset, .unset, .unset, .unset] [(.long (fIn3 pt q2 q3 q4))]))
    refine Goes.by (B := T347.setTop (mkF m 142 #[.val (.int p0), .val (.int p1), .val (.long q2), .second, .val (.long q3), .second, .val (.long q4), .second, .val (.int (3 : Int32)), .val (.ref b2), .val (.ref b8), .val (.ref b21), .val (.ref b43), .val (.ref b43), .val (.int pt), .val (.ref b286), .val (.long (fIn3 pt q2 q3 q4)), .second, .val (.long (0 : Int64)), .second] [(.int pt)])) (fun t k => ?_) ?_
    · show Steps p.tables e below (T347.setTop (mkF m 135 #[.val (.int p0), .val (.int p1), .val (.long q2), .second, .val (.long q3), .second, .val (.long q4), .second, .val (.int (3 : Int32)), .val (.ref b2), .val (.ref b8), .val (.ref b21), .val (.ref b43), .val (.ref b43), .val (.int pt), .val (.ref b286), .unset, .unset, .unset, .unset] [(.long (fIn3 pt q2 q3 q4))])) t
      refine XS.lstore X347.here hx rfl (hb hby at_135) rfl (l' := #[.val (.int p0), .val (.int p1), .val (.long q2), .second, .val (.long q3), .second, .val (.long q4), .second, .val (.int (3 : Int32)), .val (.ref b2), .val (.ref b8), .val (.ref b21), .val (.ref b43), .val (.ref b43), .val (.int pt), .val (.ref b286), .val (.long (fIn3 pt q2 q3 q4)), .second, .unset, .unset]) rfl ?_
      show Steps p.tables e below (T347.setTop (mkF m 137 #[.val (.int p0), .val (.int p1), .val (.long q2), .second, .val (.long q3), .second, .val (.long q4), .second, .val (.int (3 : Int32)), .val (.ref b2), .val (.ref b8), .val (.ref b21), .val (.ref b43), .val (.ref b43), .val (.int pt), .val (.ref b286), .val (.long (fIn3 pt q2 q3 q4)), .second, .unset, .unset] [])) t
      refine XS.lconst X347.here hx rfl (hb hby at_137) ?_
      show Steps p.tables e below (T347.setTop (mkF m 138 #[.val (.int p0), .val (.int p1), .val (.long q2), .second, .val (.long q3), .second, .val (.long q4), .second, .val (.int (3 : Int32)), .val (.ref b2), .val (.ref b8), .val (.ref b21), .val (.ref b43), .val (.ref b43), .val (.int pt), .val (.ref b286), .val (.long (fIn3 pt q2 q3 q4)), .second, .unset, .unset] [(.long (0 : Int64))])) t
      refine XS.lstore X347.here hx rfl (hb hby at_138) rfl (l' := #[.val (.int p0), .val (.int p1), .val (.long q2), .second, .val (.long q3), .second, .val (.long q4), .second, .val (.int (3 : Int32)), .val (.ref b2), .val (.ref b8), .val (.ref b21), .val (.ref b43), .val (.ref b43), .val (.int pt), .val (.ref b286), .val (.long (fIn3 pt q2 q3 q4)), .second, .val (.long (0 : Int64)), .second]) rfl ?_
      show Steps p.tables e below (T347.setTop (mkF m 140 #[.val (.int p0), .val (.int p1), .val (.long q2), .second, .val (.long q3), .second, .val (.long q4), .second, .val (.int (3 : Int32)), .val (.ref b2), .val (.ref b8), .val (.ref b21), .val (.ref b43), .val (.ref b43), .val (.int pt), .val (.ref b286), .val (.long (fIn3 pt q2 q3 q4)), .second, .val (.long (0 : Int64)), .second] [])) t
      refine XS.iload X347.here hx rfl (hb hby at_140) rfl ?_
      exact k
    by_cases hc349 : pt = (0 : Int32)
    · refine Goes.by (B := T347.setTop (mkF m 204 #[.val (.int p0), .val (.int p1), .val (.long q2), .second, .val (.long q3), .second, .val (.long q4), .second, .val (.int (3 : Int32)), .val (.ref b2), .val (.ref b8), .val (.ref b21), .val (.ref b43), .val (.ref b43), .val (.int pt), .val (.ref b286), .val (.long (fIn3 pt q2 q3 q4)), .second, .val (.long q2), .second] [(.int (1 : Int32))])) (fun t k => ?_) ?_
      · show Steps p.tables e below (T347.setTop (mkF m 142 #[.val (.int p0), .val (.int p1), .val (.long q2), .second, .val (.long q3), .second, .val (.long q4), .second, .val (.int (3 : Int32)), .val (.ref b2), .val (.ref b8), .val (.ref b21), .val (.ref b43), .val (.ref b43), .val (.int pt), .val (.ref b286), .val (.long (fIn3 pt q2 q3 q4)), .second, .val (.long (0 : Int64)), .second] [(.int pt)])) t
        refine XS.ifNo X347.here hx rfl (hb hby at_142) rfl ((if0 _ _).trans (teq hc349).2) ?_
        show Steps p.tables e below (T347.setTop (mkF m 145 #[.val (.int p0), .val (.int p1), .val (.long q2), .second, .val (.long q3), .second, .val (.long q4), .second, .val (.int (3 : Int32)), .val (.ref b2), .val (.ref b8), .val (.ref b21), .val (.ref b43), .val (.ref b43), .val (.int pt), .val (.ref b286), .val (.long (fIn3 pt q2 q3 q4)), .second, .val (.long (0 : Int64)), .second] [])) t
        refine XS.iload X347.here hx rfl (hb hby at_145) rfl ?_
        show Steps p.tables e below (T347.setTop (mkF m 147 #[.val (.int p0), .val (.int p1), .val (.long q2), .second, .val (.long q3), .second, .val (.long q4), .second, .val (.int (3 : Int32)), .val (.ref b2), .val (.ref b8), .val (.ref b21), .val (.ref b43), .val (.ref b43), .val (.int pt), .val (.ref b286), .val (.long (fIn3 pt q2 q3 q4)), .second, .val (.long (0 : Int64)), .second] [(.int (3 : Int32))])) t
        refine XS.ifNo X347.here hx rfl (hb hby at_147) rfl ((if0 _ _).trans (tlt (by decide : (0 : Int32) < (3 : Int32))).2.2.2) ?_
        show Steps p.tables e below (T347.setTop (mkF m 150 #[.val (.int p0), .val (.int p1), .val (.long q2), .second, .val (.long q3), .second, .val (.long q4), .second, .val (.int (3 : Int32)), .val (.ref b2), .val (.ref b8), .val (.ref b21), .val (.ref b43), .val (.ref b43), .val (.int pt), .val (.ref b286), .val (.long (fIn3 pt q2 q3 q4)), .second, .val (.long (0 : Int64)), .second] [])) t
        refine XS.lloadN X347.here hx rfl (hb hby at_150) rfl ?_
        show Steps p.tables e below (T347.setTop (mkF m 151 #[.val (.int p0), .val (.int p1), .val (.long q2), .second, .val (.long q3), .second, .val (.long q4), .second, .val (.int (3 : Int32)), .val (.ref b2), .val (.ref b8), .val (.ref b21), .val (.ref b43), .val (.ref b43), .val (.int pt), .val (.ref b286), .val (.long (fIn3 pt q2 q3 q4)), .second, .val (.long (0 : Int64)), .second] [(.long q2)])) t
        refine XS.lstore X347.here hx rfl (hb hby at_151) rfl (l' := #[.val (.int p0), .val (.int p1), .val (.long q2), .second, .val (.long q3), .second, .val (.long q4), .second, .val (.int (3 : Int32)), .val (.ref b2), .val (.ref b8), .val (.ref b21), .val (.ref b43), .val (.ref b43), .val (.int pt), .val (.ref b286), .val (.long (fIn3 pt q2 q3 q4)), .second, .val (.long q2), .second]) rfl ?_
        show Steps p.tables e below (T347.setTop (mkF m 153 #[.val (.int p0), .val (.int p1), .val (.long q2), .second, .val (.long q3), .second, .val (.long q4), .second, .val (.int (3 : Int32)), .val (.ref b2), .val (.ref b8), .val (.ref b21), .val (.ref b43), .val (.ref b43), .val (.int pt), .val (.ref b286), .val (.long (fIn3 pt q2 q3 q4)), .second, .val (.long q2), .second] [])) t
        refine XS.goto X347.here hx rfl (pc0 := 153) (pc' := 191) rfl (hb hby at_153) (by decide) (by decide) ?_
        show Steps p.tables e below (T347.setTop (mkF m 191 #[.val (.int p0), .val (.int p1), .val (.long q2), .second, .val (.long q3), .second, .val (.long q4), .second, .val (.int (3 : Int32)), .val (.ref b2), .val (.ref b8), .val (.ref b21), .val (.ref b43), .val (.ref b43), .val (.int pt), .val (.ref b286), .val (.long (fIn3 pt q2 q3 q4)), .second, .val (.long q2), .second] [])) t
        refine XS.lload X347.here hx rfl (hb hby at_191) rfl ?_
        show Steps p.tables e below (T347.setTop (mkF m 193 #[.val (.int p0), .val (.int p1), .val (.long q2), .second, .val (.long q3), .second, .val (.long q4), .second, .val (.int (3 : Int32)), .val (.ref b2), .val (.ref b8), .val (.ref b21), .val (.ref b43), .val (.ref b43), .val (.int pt), .val (.ref b286), .val (.long (fIn3 pt q2 q3 q4)), .second, .val (.long q2), .second] [(.long (fIn3 pt q2 q3 q4))])) t
        refine XS.lload X347.here hx rfl (hb hby at_193) rfl ?_
        show Steps p.tables e below (T347.setTop (mkF m 195 #[.val (.int p0), .val (.int p1), .val (.long q2), .second, .val (.long q3), .second, .val (.long q4), .second, .val (.int (3 : Int32)), .val (.ref b2), .val (.ref b8), .val (.ref b21), .val (.ref b43), .val (.ref b43), .val (.int pt), .val (.ref b286), .val (.long (fIn3 pt q2 q3 q4)), .second, .val (.long q2), .second] [(.long q2), (.long (fIn3 pt q2 q3 q4))])) t
        refine XS.lcmp X347.here hx rfl (hb hby at_195) rfl ?_
        show Steps p.tables e below (T347.setTop (mkF m 196 #[.val (.int p0), .val (.int p1), .val (.long q2), .second, .val (.long q3), .second, .val (.long q4), .second, .val (.int (3 : Int32)), .val (.ref b2), .val (.ref b8), .val (.ref b21), .val (.ref b43), .val (.ref b43), .val (.int pt), .val (.ref b286), .val (.long (fIn3 pt q2 q3 q4)), .second, .val (.long q2), .second] [(.int (lcmpW (fIn3 pt q2 q3 q4) q2))])) t
        refine XS.ifNo X347.here hx rfl (hb hby at_196) rfl ((if0 _ _).trans (teq ((lw_eq (fIn3 pt q2 q3 q4) q2).mpr (by rw [own_in3 _ _ _ _  Hp]; simp only [if_pos hc349]))).2) ?_
        show Steps p.tables e below (T347.setTop (mkF m 199 #[.val (.int p0), .val (.int p1), .val (.long q2), .second, .val (.long q3), .second, .val (.long q4), .second, .val (.int (3 : Int32)), .val (.ref b2), .val (.ref b8), .val (.ref b21), .val (.ref b43), .val (.ref b43), .val (.int pt), .val (.ref b286), .val (.long (fIn3 pt q2 q3 q4)), .second, .val (.long q2), .second] [])) t
        refine XS.iconst X347.here hx rfl (hb hby at_199) ?_
        show Steps p.tables e below (T347.setTop (mkF m 200 #[.val (.int p0), .val (.int p1), .val (.long q2), .second, .val (.long q3), .second, .val (.long q4), .second, .val (.int (3 : Int32)), .val (.ref b2), .val (.ref b8), .val (.ref b21), .val (.ref b43), .val (.ref b43), .val (.int pt), .val (.ref b286), .val (.long (fIn3 pt q2 q3 q4)), .second, .val (.long q2), .second] [(.int (1 : Int32))])) t
        refine XS.goto X347.here hx rfl (pc0 := 200) (pc' := 204) rfl (hb hby at_200) (by decide) (by decide) ?_
        exact k
      obtain ⟨fs, hr, hrun, hended, hW, hsame⟩ := X347.leave (v := some (.int (1 : Int32))) (fun h => by rw [Bd.returns] at h; cases h)
      refine Goes.mk _ _ ?_ ⟨hrun, hended, _, _, rfl, ?_, ⟨_, rfl⟩, hW, hsame.mono (by decide) (by decide)⟩
      · exact retN X347 hx (t := .boolean) Bd.returns (by simp) (hb hby at_204) hr
      · show Q0 Z p0 p1 q2 q3 q4 h0 n0 _ T347.heap _
        rw [e347]
        exact ⟨rfl, N348⟩
    · refine Goes.by (B := T347.setTop (mkF m 159 #[.val (.int p0), .val (.int p1), .val (.long q2), .second, .val (.long q3), .second, .val (.long q4), .second, .val (.int (3 : Int32)), .val (.ref b2), .val (.ref b8), .val (.ref b21), .val (.ref b43), .val (.ref b43), .val (.int pt), .val (.ref b286), .val (.long (fIn3 pt q2 q3 q4)), .second, .val (.long (0 : Int64)), .second] [(.int (1 : Int32)), (.int pt)])) (fun t k => ?_) ?_
      · show Steps p.tables e below (T347.setTop (mkF m 142 #[.val (.int p0), .val (.int p1), .val (.long q2), .second, .val (.long q3), .second, .val (.long q4), .second, .val (.int (3 : Int32)), .val (.ref b2), .val (.ref b8), .val (.ref b21), .val (.ref b43), .val (.ref b43), .val (.int pt), .val (.ref b286), .val (.long (fIn3 pt q2 q3 q4)), .second, .val (.long (0 : Int64)), .second] [(.int pt)])) t
        refine XS.ifYes X347.here hx rfl (pc0 := 142) (pc' := 156) rfl (hb hby at_142) rfl ((if0 _ _).trans (feq hc349).2) (by decide) (by decide) ?_
        show Steps p.tables e below (T347.setTop (mkF m 156 #[.val (.int p0), .val (.int p1), .val (.long q2), .second, .val (.long q3), .second, .val (.long q4), .second, .val (.int (3 : Int32)), .val (.ref b2), .val (.ref b8), .val (.ref b21), .val (.ref b43), .val (.ref b43), .val (.int pt), .val (.ref b286), .val (.long (fIn3 pt q2 q3 q4)), .second, .val (.long (0 : Int64)), .second] [])) t
        refine XS.iload X347.here hx rfl (hb hby at_156) rfl ?_
        show Steps p.tables e below (T347.setTop (mkF m 158 #[.val (.int p0), .val (.int p1), .val (.long q2), .second, .val (.long q3), .second, .val (.long q4), .second, .val (.int (3 : Int32)), .val (.ref b2), .val (.ref b8), .val (.ref b21), .val (.ref b43), .val (.ref b43), .val (.int pt), .val (.ref b286), .val (.long (fIn3 pt q2 q3 q4)), .second, .val (.long (0 : Int64)), .second] [(.int pt)])) t
        refine XS.iconst X347.here hx rfl (hb hby at_158) ?_
        exact k
      by_cases hc350 : pt = (1 : Int32)
      · refine Goes.by (B := T347.setTop (mkF m 204 #[.val (.int p0), .val (.int p1), .val (.long q2), .second, .val (.long q3), .second, .val (.long q4), .second, .val (.int (3 : Int32)), .val (.ref b2), .val (.ref b8), .val (.ref b21), .val (.ref b43), .val (.ref b43), .val (.int pt), .val (.ref b286), .val (.long (fIn3 pt q2 q3 q4)), .second, .val (.long q3), .second] [(.int (1 : Int32))])) (fun t k => ?_) ?_
        · show Steps p.tables e below (T347.setTop (mkF m 159 #[.val (.int p0), .val (.int p1), .val (.long q2), .second, .val (.long q3), .second, .val (.long q4), .second, .val (.int (3 : Int32)), .val (.ref b2), .val (.ref b8), .val (.ref b21), .val (.ref b43), .val (.ref b43), .val (.int pt), .val (.ref b286), .val (.long (fIn3 pt q2 q3 q4)), .second, .val (.long (0 : Int64)), .second] [(.int (1 : Int32)), (.int pt)])) t
          refine XS.icmpNo X347.here hx rfl (hb hby at_159) rfl (teq hc350).2 ?_
          show Steps p.tables e below (T347.setTop (mkF m 162 #[.val (.int p0), .val (.int p1), .val (.long q2), .second, .val (.long q3), .second, .val (.long q4), .second, .val (.int (3 : Int32)), .val (.ref b2), .val (.ref b8), .val (.ref b21), .val (.ref b43), .val (.ref b43), .val (.int pt), .val (.ref b286), .val (.long (fIn3 pt q2 q3 q4)), .second, .val (.long (0 : Int64)), .second] [])) t
          refine XS.iload X347.here hx rfl (hb hby at_162) rfl ?_
          show Steps p.tables e below (T347.setTop (mkF m 164 #[.val (.int p0), .val (.int p1), .val (.long q2), .second, .val (.long q3), .second, .val (.long q4), .second, .val (.int (3 : Int32)), .val (.ref b2), .val (.ref b8), .val (.ref b21), .val (.ref b43), .val (.ref b43), .val (.int pt), .val (.ref b286), .val (.long (fIn3 pt q2 q3 q4)), .second, .val (.long (0 : Int64)), .second] [(.int (3 : Int32))])) t
          refine XS.iconst X347.here hx rfl (hb hby at_164) ?_
          show Steps p.tables e below (T347.setTop (mkF m 165 #[.val (.int p0), .val (.int p1), .val (.long q2), .second, .val (.long q3), .second, .val (.long q4), .second, .val (.int (3 : Int32)), .val (.ref b2), .val (.ref b8), .val (.ref b21), .val (.ref b43), .val (.ref b43), .val (.int pt), .val (.ref b286), .val (.long (fIn3 pt q2 q3 q4)), .second, .val (.long (0 : Int64)), .second] [(.int (1 : Int32)), (.int (3 : Int32))])) t
          refine XS.icmpNo X347.here hx rfl (hb hby at_165) rfl (tlt (by decide : (1 : Int32) < (3 : Int32))).2.2.2 ?_
          show Steps p.tables e below (T347.setTop (mkF m 168 #[.val (.int p0), .val (.int p1), .val (.long q2), .second, .val (.long q3), .second, .val (.long q4), .second, .val (.int (3 : Int32)), .val (.ref b2), .val (.ref b8), .val (.ref b21), .val (.ref b43), .val (.ref b43), .val (.int pt), .val (.ref b286), .val (.long (fIn3 pt q2 q3 q4)), .second, .val (.long (0 : Int64)), .second] [])) t
          refine XS.lload X347.here hx rfl (hb hby at_168) rfl ?_
          show Steps p.tables e below (T347.setTop (mkF m 170 #[.val (.int p0), .val (.int p1), .val (.long q2), .second, .val (.long q3), .second, .val (.long q4), .second, .val (.int (3 : Int32)), .val (.ref b2), .val (.ref b8), .val (.ref b21), .val (.ref b43), .val (.ref b43), .val (.int pt), .val (.ref b286), .val (.long (fIn3 pt q2 q3 q4)), .second, .val (.long (0 : Int64)), .second] [(.long q3)])) t
          refine XS.lstore X347.here hx rfl (hb hby at_170) rfl (l' := #[.val (.int p0), .val (.int p1), .val (.long q2), .second, .val (.long q3), .second, .val (.long q4), .second, .val (.int (3 : Int32)), .val (.ref b2), .val (.ref b8), .val (.ref b21), .val (.ref b43), .val (.ref b43), .val (.int pt), .val (.ref b286), .val (.long (fIn3 pt q2 q3 q4)), .second, .val (.long q3), .second]) rfl ?_
          show Steps p.tables e below (T347.setTop (mkF m 172 #[.val (.int p0), .val (.int p1), .val (.long q2), .second, .val (.long q3), .second, .val (.long q4), .second, .val (.int (3 : Int32)), .val (.ref b2), .val (.ref b8), .val (.ref b21), .val (.ref b43), .val (.ref b43), .val (.int pt), .val (.ref b286), .val (.long (fIn3 pt q2 q3 q4)), .second, .val (.long q3), .second] [])) t
          refine XS.goto X347.here hx rfl (pc0 := 172) (pc' := 191) rfl (hb hby at_172) (by decide) (by decide) ?_
          show Steps p.tables e below (T347.setTop (mkF m 191 #[.val (.int p0), .val (.int p1), .val (.long q2), .second, .val (.long q3), .second, .val (.long q4), .second, .val (.int (3 : Int32)), .val (.ref b2), .val (.ref b8), .val (.ref b21), .val (.ref b43), .val (.ref b43), .val (.int pt), .val (.ref b286), .val (.long (fIn3 pt q2 q3 q4)), .second, .val (.long q3), .second] [])) t
          refine XS.lload X347.here hx rfl (hb hby at_191) rfl ?_
          show Steps p.tables e below (T347.setTop (mkF m 193 #[.val (.int p0), .val (.int p1), .val (.long q2), .second, .val (.long q3), .second, .val (.long q4), .second, .val (.int (3 : Int32)), .val (.ref b2), .val (.ref b8), .val (.ref b21), .val (.ref b43), .val (.ref b43), .val (.int pt), .val (.ref b286), .val (.long (fIn3 pt q2 q3 q4)), .second, .val (.long q3), .second] [(.long (fIn3 pt q2 q3 q4))])) t
          refine XS.lload X347.here hx rfl (hb hby at_193) rfl ?_
          show Steps p.tables e below (T347.setTop (mkF m 195 #[.val (.int p0), .val (.int p1), .val (.long q2), .second, .val (.long q3), .second, .val (.long q4), .second, .val (.int (3 : Int32)), .val (.ref b2), .val (.ref b8), .val (.ref b21), .val (.ref b43), .val (.ref b43), .val (.int pt), .val (.ref b286), .val (.long (fIn3 pt q2 q3 q4)), .second, .val (.long q3), .second] [(.long q3), (.long (fIn3 pt q2 q3 q4))])) t
          refine XS.lcmp X347.here hx rfl (hb hby at_195) rfl ?_
          show Steps p.tables e below (T347.setTop (mkF m 196 #[.val (.int p0), .val (.int p1), .val (.long q2), .second, .val (.long q3), .second, .val (.long q4), .second, .val (.int (3 : Int32)), .val (.ref b2), .val (.ref b8), .val (.ref b21), .val (.ref b43), .val (.ref b43), .val (.int pt), .val (.ref b286), .val (.long (fIn3 pt q2 q3 q4)), .second, .val (.long q3), .second] [(.int (lcmpW (fIn3 pt q2 q3 q4) q3))])) t
          refine XS.ifNo X347.here hx rfl (hb hby at_196) rfl ((if0 _ _).trans (teq ((lw_eq (fIn3 pt q2 q3 q4) q3).mpr (by rw [own_in3 _ _ _ _  Hp]; simp only [if_neg hc349, if_pos hc350]))).2) ?_
          show Steps p.tables e below (T347.setTop (mkF m 199 #[.val (.int p0), .val (.int p1), .val (.long q2), .second, .val (.long q3), .second, .val (.long q4), .second, .val (.int (3 : Int32)), .val (.ref b2), .val (.ref b8), .val (.ref b21), .val (.ref b43), .val (.ref b43), .val (.int pt), .val (.ref b286), .val (.long (fIn3 pt q2 q3 q4)), .second, .val (.long q3), .second] [])) t
          refine XS.iconst X347.here hx rfl (hb hby at_199) ?_
          show Steps p.tables e below (T347.setTop (mkF m 200 #[.val (.int p0), .val (.int p1), .val (.long q2), .second, .val (.long q3), .second, .val (.long q4), .second, .val (.int (3 : Int32)), .val (.ref b2), .val (.ref b8), .val (.ref b21), .val (.ref b43), .val (.ref b43), .val (.int pt), .val (.ref b286), .val (.long (fIn3 pt q2 q3 q4)), .second, .val (.long q3), .second] [(.int (1 : Int32))])) t
          refine XS.goto X347.here hx rfl (pc0 := 200) (pc' := 204) rfl (hb hby at_200) (by decide) (by decide) ?_
          exact k
        obtain ⟨fs, hr, hrun, hended, hW, hsame⟩ := X347.leave (v := some (.int (1 : Int32))) (fun h => by rw [Bd.returns] at h; cases h)
        refine Goes.mk _ _ ?_ ⟨hrun, hended, _, _, rfl, ?_, ⟨_, rfl⟩, hW, hsame.mono (by decide) (by decide)⟩
        · exact retN X347 hx (t := .boolean) Bd.returns (by simp) (hb hby at_204) hr
        · show Q0 Z p0 p1 q2 q3 q4 h0 n0 _ T347.heap _
          rw [e347]
          exact ⟨rfl, N348⟩
      · refine Goes.by (B := T347.setTop (mkF m 178 #[.val (.int p0), .val (.int p1), .val (.long q2), .second, .val (.long q3), .second, .val (.long q4), .second, .val (.int (3 : Int32)), .val (.ref b2), .val (.ref b8), .val (.ref b21), .val (.ref b43), .val (.ref b43), .val (.int pt), .val (.ref b286), .val (.long (fIn3 pt q2 q3 q4)), .second, .val (.long (0 : Int64)), .second] [(.int (2 : Int32)), (.int pt)])) (fun t k => ?_) ?_
        · show Steps p.tables e below (T347.setTop (mkF m 159 #[.val (.int p0), .val (.int p1), .val (.long q2), .second, .val (.long q3), .second, .val (.long q4), .second, .val (.int (3 : Int32)), .val (.ref b2), .val (.ref b8), .val (.ref b21), .val (.ref b43), .val (.ref b43), .val (.int pt), .val (.ref b286), .val (.long (fIn3 pt q2 q3 q4)), .second, .val (.long (0 : Int64)), .second] [(.int (1 : Int32)), (.int pt)])) t
          refine XS.icmpYes X347.here hx rfl (pc0 := 159) (pc' := 175) rfl (hb hby at_159) rfl (feq hc350).2 (by decide) (by decide) ?_
          show Steps p.tables e below (T347.setTop (mkF m 175 #[.val (.int p0), .val (.int p1), .val (.long q2), .second, .val (.long q3), .second, .val (.long q4), .second, .val (.int (3 : Int32)), .val (.ref b2), .val (.ref b8), .val (.ref b21), .val (.ref b43), .val (.ref b43), .val (.int pt), .val (.ref b286), .val (.long (fIn3 pt q2 q3 q4)), .second, .val (.long (0 : Int64)), .second] [])) t
          refine XS.iload X347.here hx rfl (hb hby at_175) rfl ?_
          show Steps p.tables e below (T347.setTop (mkF m 177 #[.val (.int p0), .val (.int p1), .val (.long q2), .second, .val (.long q3), .second, .val (.long q4), .second, .val (.int (3 : Int32)), .val (.ref b2), .val (.ref b8), .val (.ref b21), .val (.ref b43), .val (.ref b43), .val (.int pt), .val (.ref b286), .val (.long (fIn3 pt q2 q3 q4)), .second, .val (.long (0 : Int64)), .second] [(.int pt)])) t
          refine XS.iconst X347.here hx rfl (hb hby at_177) ?_
          exact k
        by_cases hc351 : pt = (2 : Int32)
        · refine Goes.by (B := T347.setTop (mkF m 204 #[.val (.int p0), .val (.int p1), .val (.long q2), .second, .val (.long q3), .second, .val (.long q4), .second, .val (.int (3 : Int32)), .val (.ref b2), .val (.ref b8), .val (.ref b21), .val (.ref b43), .val (.ref b43), .val (.int pt), .val (.ref b286), .val (.long (fIn3 pt q2 q3 q4)), .second, .val (.long q4), .second] [(.int (1 : Int32))])) (fun t k => ?_) ?_
          · show Steps p.tables e below (T347.setTop (mkF m 178 #[.val (.int p0), .val (.int p1), .val (.long q2), .second, .val (.long q3), .second, .val (.long q4), .second, .val (.int (3 : Int32)), .val (.ref b2), .val (.ref b8), .val (.ref b21), .val (.ref b43), .val (.ref b43), .val (.int pt), .val (.ref b286), .val (.long (fIn3 pt q2 q3 q4)), .second, .val (.long (0 : Int64)), .second] [(.int (2 : Int32)), (.int pt)])) t
            refine XS.icmpNo X347.here hx rfl (hb hby at_178) rfl (teq hc351).2 ?_
            show Steps p.tables e below (T347.setTop (mkF m 181 #[.val (.int p0), .val (.int p1), .val (.long q2), .second, .val (.long q3), .second, .val (.long q4), .second, .val (.int (3 : Int32)), .val (.ref b2), .val (.ref b8), .val (.ref b21), .val (.ref b43), .val (.ref b43), .val (.int pt), .val (.ref b286), .val (.long (fIn3 pt q2 q3 q4)), .second, .val (.long (0 : Int64)), .second] [])) t
            refine XS.iload X347.here hx rfl (hb hby at_181) rfl ?_
            show Steps p.tables e below (T347.setTop (mkF m 183 #[.val (.int p0), .val (.int p1), .val (.long q2), .second, .val (.long q3), .second, .val (.long q4), .second, .val (.int (3 : Int32)), .val (.ref b2), .val (.ref b8), .val (.ref b21), .val (.ref b43), .val (.ref b43), .val (.int pt), .val (.ref b286), .val (.long (fIn3 pt q2 q3 q4)), .second, .val (.long (0 : Int64)), .second] [(.int (3 : Int32))])) t
            refine XS.iconst X347.here hx rfl (hb hby at_183) ?_
            show Steps p.tables e below (T347.setTop (mkF m 184 #[.val (.int p0), .val (.int p1), .val (.long q2), .second, .val (.long q3), .second, .val (.long q4), .second, .val (.int (3 : Int32)), .val (.ref b2), .val (.ref b8), .val (.ref b21), .val (.ref b43), .val (.ref b43), .val (.int pt), .val (.ref b286), .val (.long (fIn3 pt q2 q3 q4)), .second, .val (.long (0 : Int64)), .second] [(.int (2 : Int32)), (.int (3 : Int32))])) t
            refine XS.icmpNo X347.here hx rfl (hb hby at_184) rfl (tlt (by decide : (2 : Int32) < (3 : Int32))).2.2.2 ?_
            show Steps p.tables e below (T347.setTop (mkF m 187 #[.val (.int p0), .val (.int p1), .val (.long q2), .second, .val (.long q3), .second, .val (.long q4), .second, .val (.int (3 : Int32)), .val (.ref b2), .val (.ref b8), .val (.ref b21), .val (.ref b43), .val (.ref b43), .val (.int pt), .val (.ref b286), .val (.long (fIn3 pt q2 q3 q4)), .second, .val (.long (0 : Int64)), .second] [])) t
            refine XS.lload X347.here hx rfl (hb hby at_187) rfl ?_
            show Steps p.tables e below (T347.setTop (mkF m 189 #[.val (.int p0), .val (.int p1), .val (.long q2), .second, .val (.long q3), .second, .val (.long q4), .second, .val (.int (3 : Int32)), .val (.ref b2), .val (.ref b8), .val (.ref b21), .val (.ref b43), .val (.ref b43), .val (.int pt), .val (.ref b286), .val (.long (fIn3 pt q2 q3 q4)), .second, .val (.long (0 : Int64)), .second] [(.long q4)])) t
            refine XS.lstore X347.here hx rfl (hb hby at_189) rfl (l' := #[.val (.int p0), .val (.int p1), .val (.long q2), .second, .val (.long q3), .second, .val (.long q4), .second, .val (.int (3 : Int32)), .val (.ref b2), .val (.ref b8), .val (.ref b21), .val (.ref b43), .val (.ref b43), .val (.int pt), .val (.ref b286), .val (.long (fIn3 pt q2 q3 q4)), .second, .val (.long q4), .second]) rfl ?_
            show Steps p.tables e below (T347.setTop (mkF m 191 #[.val (.int p0), .val (.int p1), .val (.long q2), .second, .val (.long q3), .second, .val (.long q4), .second, .val (.int (3 : Int32)), .val (.ref b2), .val (.ref b8), .val (.ref b21), .val (.ref b43), .val (.ref b43), .val (.int pt), .val (.ref b286), .val (.long (fIn3 pt q2 q3 q4)), .second, .val (.long q4), .second] [])) t
            refine XS.lload X347.here hx rfl (hb hby at_191) rfl ?_
            show Steps p.tables e below (T347.setTop (mkF m 193 #[.val (.int p0), .val (.int p1), .val (.long q2), .second, .val (.long q3), .second, .val (.long q4), .second, .val (.int (3 : Int32)), .val (.ref b2), .val (.ref b8), .val (.ref b21), .val (.ref b43), .val (.ref b43), .val (.int pt), .val (.ref b286), .val (.long (fIn3 pt q2 q3 q4)), .second, .val (.long q4), .second] [(.long (fIn3 pt q2 q3 q4))])) t
            refine XS.lload X347.here hx rfl (hb hby at_193) rfl ?_
            show Steps p.tables e below (T347.setTop (mkF m 195 #[.val (.int p0), .val (.int p1), .val (.long q2), .second, .val (.long q3), .second, .val (.long q4), .second, .val (.int (3 : Int32)), .val (.ref b2), .val (.ref b8), .val (.ref b21), .val (.ref b43), .val (.ref b43), .val (.int pt), .val (.ref b286), .val (.long (fIn3 pt q2 q3 q4)), .second, .val (.long q4), .second] [(.long q4), (.long (fIn3 pt q2 q3 q4))])) t
            refine XS.lcmp X347.here hx rfl (hb hby at_195) rfl ?_
            show Steps p.tables e below (T347.setTop (mkF m 196 #[.val (.int p0), .val (.int p1), .val (.long q2), .second, .val (.long q3), .second, .val (.long q4), .second, .val (.int (3 : Int32)), .val (.ref b2), .val (.ref b8), .val (.ref b21), .val (.ref b43), .val (.ref b43), .val (.int pt), .val (.ref b286), .val (.long (fIn3 pt q2 q3 q4)), .second, .val (.long q4), .second] [(.int (lcmpW (fIn3 pt q2 q3 q4) q4))])) t
            refine XS.ifNo X347.here hx rfl (hb hby at_196) rfl ((if0 _ _).trans (teq ((lw_eq (fIn3 pt q2 q3 q4) q4).mpr (by rw [own_in3 _ _ _ _  Hp]; simp only [if_neg hc349, if_neg hc350, if_pos hc351]))).2) ?_
            show Steps p.tables e below (T347.setTop (mkF m 199 #[.val (.int p0), .val (.int p1), .val (.long q2), .second, .val (.long q3), .second, .val (.long q4), .second, .val (.int (3 : Int32)), .val (.ref b2), .val (.ref b8), .val (.ref b21), .val (.ref b43), .val (.ref b43), .val (.int pt), .val (.ref b286), .val (.long (fIn3 pt q2 q3 q4)), .second, .val (.long q4), .second] [])) t
            refine XS.iconst X347.here hx rfl (hb hby at_199) ?_
            show Steps p.tables e below (T347.setTop (mkF m 200 #[.val (.int p0), .val (.int p1), .val (.long q2), .second, .val (.long q3), .second, .val (.long q4), .second, .val (.int (3 : Int32)), .val (.ref b2), .val (.ref b8), .val (.ref b21), .val (.ref b43), .val (.ref b43), .val (.int pt), .val (.ref b286), .val (.long (fIn3 pt q2 q3 q4)), .second, .val (.long q4), .second] [(.int (1 : Int32))])) t
            refine XS.goto X347.here hx rfl (pc0 := 200) (pc' := 204) rfl (hb hby at_200) (by decide) (by decide) ?_
            exact k
          obtain ⟨fs, hr, hrun, hended, hW, hsame⟩ := X347.leave (v := some (.int (1 : Int32))) (fun h => by rw [Bd.returns] at h; cases h)
          refine Goes.mk _ _ ?_ ⟨hrun, hended, _, _, rfl, ?_, ⟨_, rfl⟩, hW, hsame.mono (by decide) (by decide)⟩
          · exact retN X347 hx (t := .boolean) Bd.returns (by simp) (hb hby at_204) hr
          · show Q0 Z p0 p1 q2 q3 q4 h0 n0 _ T347.heap _
            rw [e347]
            exact ⟨rfl, N348⟩
        · refine Goes.by (B := T347.setTop (mkF m 204 #[.val (.int p0), .val (.int p1), .val (.long q2), .second, .val (.long q3), .second, .val (.long q4), .second, .val (.int (3 : Int32)), .val (.ref b2), .val (.ref b8), .val (.ref b21), .val (.ref b43), .val (.ref b43), .val (.int pt), .val (.ref b286), .val (.long (fIn3 pt q2 q3 q4)), .second, .val (.long (0 : Int64)), .second] [(.int (1 : Int32))])) (fun t k => ?_) ?_
          · show Steps p.tables e below (T347.setTop (mkF m 178 #[.val (.int p0), .val (.int p1), .val (.long q2), .second, .val (.long q3), .second, .val (.long q4), .second, .val (.int (3 : Int32)), .val (.ref b2), .val (.ref b8), .val (.ref b21), .val (.ref b43), .val (.ref b43), .val (.int pt), .val (.ref b286), .val (.long (fIn3 pt q2 q3 q4)), .second, .val (.long (0 : Int64)), .second] [(.int (2 : Int32)), (.int pt)])) t
            refine XS.icmpYes X347.here hx rfl (pc0 := 178) (pc' := 191) rfl (hb hby at_178) rfl (feq hc351).2 (by decide) (by decide) ?_
            show Steps p.tables e below (T347.setTop (mkF m 191 #[.val (.int p0), .val (.int p1), .val (.long q2), .second, .val (.long q3), .second, .val (.long q4), .second, .val (.int (3 : Int32)), .val (.ref b2), .val (.ref b8), .val (.ref b21), .val (.ref b43), .val (.ref b43), .val (.int pt), .val (.ref b286), .val (.long (fIn3 pt q2 q3 q4)), .second, .val (.long (0 : Int64)), .second] [])) t
            refine XS.lload X347.here hx rfl (hb hby at_191) rfl ?_
            show Steps p.tables e below (T347.setTop (mkF m 193 #[.val (.int p0), .val (.int p1), .val (.long q2), .second, .val (.long q3), .second, .val (.long q4), .second, .val (.int (3 : Int32)), .val (.ref b2), .val (.ref b8), .val (.ref b21), .val (.ref b43), .val (.ref b43), .val (.int pt), .val (.ref b286), .val (.long (fIn3 pt q2 q3 q4)), .second, .val (.long (0 : Int64)), .second] [(.long (fIn3 pt q2 q3 q4))])) t
            refine XS.lload X347.here hx rfl (hb hby at_193) rfl ?_
            show Steps p.tables e below (T347.setTop (mkF m 195 #[.val (.int p0), .val (.int p1), .val (.long q2), .second, .val (.long q3), .second, .val (.long q4), .second, .val (.int (3 : Int32)), .val (.ref b2), .val (.ref b8), .val (.ref b21), .val (.ref b43), .val (.ref b43), .val (.int pt), .val (.ref b286), .val (.long (fIn3 pt q2 q3 q4)), .second, .val (.long (0 : Int64)), .second] [(.long (0 : Int64)), (.long (fIn3 pt q2 q3 q4))])) t
            refine XS.lcmp X347.here hx rfl (hb hby at_195) rfl ?_
            show Steps p.tables e below (T347.setTop (mkF m 196 #[.val (.int p0), .val (.int p1), .val (.long q2), .second, .val (.long q3), .second, .val (.long q4), .second, .val (.int (3 : Int32)), .val (.ref b2), .val (.ref b8), .val (.ref b21), .val (.ref b43), .val (.ref b43), .val (.int pt), .val (.ref b286), .val (.long (fIn3 pt q2 q3 q4)), .second, .val (.long (0 : Int64)), .second] [(.int (lcmpW (fIn3 pt q2 q3 q4) (0 : Int64)))])) t
            refine XS.ifNo X347.here hx rfl (hb hby at_196) rfl ((if0 _ _).trans (teq ((lw_eq (fIn3 pt q2 q3 q4) (0 : Int64)).mpr (by rw [own_in3 _ _ _ _  Hp]; simp only [if_neg hc349, if_neg hc350, if_neg hc351]))).2) ?_
            show Steps p.tables e below (T347.setTop (mkF m 199 #[.val (.int p0), .val (.int p1), .val (.long q2), .second, .val (.long q3), .second, .val (.long q4), .second, .val (.int (3 : Int32)), .val (.ref b2), .val (.ref b8), .val (.ref b21), .val (.ref b43), .val (.ref b43), .val (.int pt), .val (.ref b286), .val (.long (fIn3 pt q2 q3 q4)), .second, .val (.long (0 : Int64)), .second] [])) t
            refine XS.iconst X347.here hx rfl (hb hby at_199) ?_
            show Steps p.tables e below (T347.setTop (mkF m 200 #[.val (.int p0), .val (.int p1), .val (.long q2), .second, .val (.long q3), .second, .val (.long q4), .second, .val (.int (3 : Int32)), .val (.ref b2), .val (.ref b8), .val (.ref b21), .val (.ref b43), .val (.ref b43), .val (.int pt), .val (.ref b286), .val (.long (fIn3 pt q2 q3 q4)), .second, .val (.long (0 : Int64)), .second] [(.int (1 : Int32))])) t
            refine XS.goto X347.here hx rfl (pc0 := 200) (pc' := 204) rfl (hb hby at_200) (by decide) (by decide) ?_
            exact k
          obtain ⟨fs, hr, hrun, hended, hW, hsame⟩ := X347.leave (v := some (.int (1 : Int32))) (fun h => by rw [Bd.returns] at h; cases h)
          refine Goes.mk _ _ ?_ ⟨hrun, hended, _, _, rfl, ?_, ⟨_, rfl⟩, hW, hsame.mono (by decide) (by decide)⟩
          · exact retN X347 hx (t := .boolean) Bd.returns (by simp) (hb hby at_204) hr
          · show Q0 Z p0 p1 q2 q3 q4 h0 n0 _ T347.heap _
            rw [e347]
            exact ⟨rfl, N348⟩
set_option maxRecDepth 65536 in
set_option maxHeartbeats 40000000 in
theorem comes_1 {Post : Tables → Env → Array Value → State → Outcome → State → Prop} (hpost : ∀ tb e args s v u, (limb_1_1.after args s (.returned v) u = true ∧ limb_1_2.after args s (.returned v) u = true ∧ True) → FrameEnd s (.returned v) u (Jvm.fieldLocs frame_1_writes args s ++ Jvm.arrayLocs frame_1_arrays args s ++ Jvm.staticLocs frame_1_statics s) 24 128 → Post tb e args s (.returned v) u) :
    ArmFor flags0 classFile x code maxLocals ret World_1 tables_1 room_1 Calls_1 rest_1 Pre_1 Post := by
  intro l hfl _ _ p e ha hc hk s m args below hf hA hF happ hP
  obtain ⟨hcalls, hrest, hpre⟩ := hP
  obtain ⟨-, -, -, hnamed, -, -, -, hat⟩ := (Spec.applies_iff hf).mp happ
  obtain ⟨hg, hn⟩ := and_e (Cond.before_iff.mp (show (Jvm.Cond.and given_1 narrow_1).before args s = true from hpre))
  obtain ⟨gg1, gg2⟩ := and_e hg
  obtain ⟨gg3, gg4⟩ := and_e gg2
  obtain ⟨gg5, gg6⟩ := and_e gg4
  obtain ⟨gg7, gg8⟩ := and_e gg6
  obtain ⟨gg9, gg10⟩ := and_e gg8
  obtain ⟨w0, w1, w2, w3, w4, rfl⟩ : ∃ w0 w1 w2 w3 w4 : Value, args = #[w0, w1, w2, w3, w4] := by
    have hs : args.size = 5 := by simpa [Cond.value, given_1] using gg1
    obtain ⟨L⟩ := args
    match L, hs with
    | [w0, w1, w2, w3, w4], _ => exact ⟨w0, w1, w2, w3, w4, rfl⟩
  have hw := fun d (hd : d ∈ tables_1) => atoms_spec (ws := Jvm.Cond.code x code maxLocals ret :: tables_1) hat d (List.mem_cons_of_mem _ hd)
  have hfit : Fit s := fun {y c} hc i hi => by
    obtain ⟨ha, rfl⟩ := Array.getElem?_eq_some_iff.mp hc
    have q := List.all_eq_true.mp ((Array.all_eq_true_iff_forall_mem.mp hF) _ (Array.getElem_mem ha)) i (List.mem_range.mpr hi)
    simpa [Array.getElem?_eq_getElem hi] using q
  obtain ⟨i0, ei0⟩ := is_v gg3
  obtain rfl : w0 = (.int i0) := Option.some.inj ei0
  obtain ⟨i1, ei1⟩ := is_v gg5
  obtain rfl : w1 = (.int i1) := Option.some.inj ei1
  obtain ⟨i2, ei2⟩ := isL_v gg7
  obtain rfl : w2 = (.long i2) := Option.some.inj ei2
  obtain ⟨i3, ei3⟩ := isL_v gg9
  obtain rfl : w3 = (.long i3) := Option.some.inj ei3
  obtain ⟨i4, ei4⟩ := isL_v gg10
  obtain rfl : w4 = (.long i4) := Option.some.inj ei4
  obtain ⟨n, o, h1, h2, h3, _, L, rfl, ⟨rfl, N⟩, hq⟩ := rm0 l s _ hw tables_1 i0 i1 i2 i3 i4 s.heap s.heap.size (Nat.le_refl _)  p e ha hc hk s m _ below hf ((Spec.applies_iff_loose hf).mp happ).1 ⟨rfl, State.Warmed39.refl s, rfl⟩ trivial
  refine ⟨n, _, h1, h2, h3, hpost _ _ _ _ _ _ ⟨Cond.after_iff.mpr rfl, Cond.after_iff.mpr (eq_i res_at (Term.int_eval (1)) rfl), trivial⟩ ⟨hq.1, hq.2.1, (hq.2.2.sift fun y hy => Or.inr (N y hy)).mono (by decide) (by decide)⟩⟩
theorem main_1_1 : Claimed_1_1 := comes_1 fun _ _ _ _ _ _ h hF => ⟨h.1, hF⟩
theorem main_1_2 : Claimed_1_2 := comes_1 fun _ _ _ _ _ _ h hF => ⟨h.2.1, hF⟩
end Jvm.Pilot.@@N@@
namespace Jvm.Pilot.@@N@@
open Jvm Jvm.ClassFile Sem Op Lib Jvm.Free Jvm.Stand Jvm.Pilot.@@N@@.Jvm.D
/-! MADE BY PROGRAM (witnessworld.py) out of the Statement's table words and the real class files: 13 classes; the members and pool entries that the words name. The judged class is class 1, her method 1. -/
namespace start1
open Jvm.ClassFile
def u (s : String) : CpInfo := .utf8 (stringToUtf16 s)
/-- a pool by its gaps: so many unusable entries, then the entry; so many at the end -/
def gap : Nat → List CpInfo → List CpInfo
  | 0, r => r
  | n + 1, r => .unusable :: gap n r
def poolList (es : List (Nat × CpInfo)) (last : Nat) : List CpInfo := es.foldr (fun e r => gap e.1 (e.2 :: r)) (gap last [])
def pool (es : List (Nat × CpInfo)) (last : Nat) : Array CpInfo := ⟨poolList es last⟩
def fileOf (pool : Array CpInfo) (this : Nat) (attrs : Array Attribute := #[]) (ms : Array MethodInfo := #[]) (fl : Nat := 33) (sup : Nat := 0) (ifs : Array Nat := #[]) (fds : Array FieldInfo := #[]) : ClassFile where
  minorVersion := 0
  majorVersion := 65
  constantPool := pool
  accessFlags := fl
  thisClass := this
  superClass := sup
  interfaces := ifs
  fields := fds
  methods := ms
  attributes := attrs
def plain (name : String) (sup : Option ClassId) : Class where
  name := name
  kind := .ordinary
  loader := none
  accessFlags := 33
  super := sup
  interfaces := #[]
  cf := none
  fields := #[]
  methods := #[]
  instanceTypes := #[]
  staticTypes := #[]
  resolved := #[]
  callSites := []
  init := .initialized
  statics := none
  mirror := none

def pool0 : Array CpInfo := pool [(5, u "<init>"), (0, u "()V"), (1, .class_ 10), (1, u "java/lang/Object")] 113

def k0c0 : Code := { maxStack := 0, maxLocals := 1, code := object_method_1_code, exceptionTable := #[], attributes := #[] }
def k0m0 : Method := { name := "<init>", desc := "()V", sig := { parameters := [], returnType := none }, accessFlags := 1, code := some k0c0 }
/-- java/lang/Object -/
def k0 : Class := { plain "java/lang/Object" none with
  accessFlags := 33
  interfaces := #[]
  cf := some (fileOf pool0 8 #[] #[{ accessFlags := 1, nameIndex := 5, descriptorIndex := 6, attributes := #[] }] 33 0 #[] #[])
  fields := #[]
  methods := #[k0m0]
  instanceTypes := #[]
  staticTypes := #[]
  resolved := Array.replicate 124 none
  statics := none }

def pool1 : Array CpInfo := pool [(2, .class_ 4), (1, u "java/lang/Object"), (0, u "<init>"), (0, u "()V"), (0, .class_ 8), (0, u "com/example/moraine/moraine/Frames$Cut"), (0, .class_ 10), (0, u "com/example/moraine/moraine/Position"), (0, .methodref 9 12), (0, .nameAndType 5 13), (0, u "(JJ)V"), (0, .methodref 7 15), (0, .nameAndType 5 16), (0, u "(Lcom/example/moraine/moraine/Position;[J)V"), (0, .methodref 7 18), (0, .nameAndType 19 20), (0, u "inPart"), (0, u "(I)J"), (0, .class_ 22), (0, u "com/example/moraine/moraine/CutInPartPinLaw"), (2, u "law"), (0, u "(IIJJJ)Z")] 9

def k1m0 : Method := { name := "<init>", desc := "()V", sig := { parameters := [], returnType := none }, accessFlags := 2, code := none }
def k1c1 : Code := { maxStack := 8, maxLocals := 20, code := code, exceptionTable := #[], attributes := #[] }
def k1m1 : Method := { name := "law", desc := "(IIJJJ)Z", sig := { parameters := [.int, .int, .long, .long, .long], returnType := some .boolean }, accessFlags := 9, code := some k1c1 }
/-- com/example/moraine/moraine/CutInPartPinLaw -/
def k1 : Class := { plain "com/example/moraine/moraine/CutInPartPinLaw" (some 0) with
  accessFlags := 49
  interfaces := #[]
  cf := some (fileOf pool1 21 #[] #[{ accessFlags := 2, nameIndex := 5, descriptorIndex := 6, attributes := #[] }, { accessFlags := 9, nameIndex := 25, descriptorIndex := 26, attributes := #[] }] 49 2 #[] #[])
  fields := #[]
  methods := #[k1m0, k1m1]
  instanceTypes := #[]
  staticTypes := #[]
  resolved := Array.replicate 36 none
  statics := none }

def pool2 : Array CpInfo := pool [(1, .methodref 2 3), (0, .class_ 4), (0, .nameAndType 5 6), (0, u "java/lang/Object"), (0, u "<init>"), (0, u "()V"), (0, .class_ 8), (0, u "java/lang/Record")] 13

def k2c0 : Code := { maxStack := 1, maxLocals := 1, code := jdk_30_method_1_code, exceptionTable := #[], attributes := #[] }
def k2m0 : Method := { name := "<init>", desc := "()V", sig := { parameters := [], returnType := none }, accessFlags := 4, code := some k2c0 }
/-- java/lang/Record -/
def k2 : Class := { plain "java/lang/Record" (some 0) with
  accessFlags := 1057
  interfaces := #[]
  cf := some (fileOf pool2 7 #[] #[{ accessFlags := 4, nameIndex := 5, descriptorIndex := 6, attributes := #[] }] 1057 2 #[] #[])
  fields := #[]
  methods := #[k2m0]
  instanceTypes := #[]
  staticTypes := #[]
  resolved := Array.replicate 22 none
  statics := none }

def pool3 : Array CpInfo := pool [(1, .methodref 2 3), (0, .class_ 4), (0, .nameAndType 5 6), (0, u "java/lang/Record"), (0, u "<init>"), (0, u "()V"), (0, .fieldref 8 9), (0, .class_ 10), (0, .nameAndType 11 12), (0, u "com/example/moraine/moraine/Frames$Cut"), (0, u "position"), (0, u "Lcom/example/moraine/moraine/Position;"), (0, .fieldref 8 14), (0, .nameAndType 15 16), (0, u "inParts"), (0, u "[J"), (12, u "(Lcom/example/moraine/moraine/Position;[J)V"), (3, u "inPart"), (0, u "(I)J"), (9, .class_ 45), (0, u "com/example/moraine/moraine/Frames")] 20

def k3c0 : Code := { maxStack := 2, maxLocals := 3, code := prog_25_method_1_code, exceptionTable := #[], attributes := #[] }
def k3m0 : Method := { name := "<init>", desc := "(Lcom/example/moraine/moraine/Position;[J)V", sig := { parameters := [(.object "com/example/moraine/moraine/Position"), (.array .long)], returnType := none }, accessFlags := 0, code := some k3c0 }
def k3c1 : Code := { maxStack := 2, maxLocals := 2, code := prog_25_method_2_code, exceptionTable := #[], attributes := #[] }
def k3m1 : Method := { name := "inPart", desc := "(I)J", sig := { parameters := [.int], returnType := some .long }, accessFlags := 0, code := some k3c1 }
/-- com/example/moraine/moraine/Frames$Cut -/
def k3 : Class := { plain "com/example/moraine/moraine/Frames$Cut" (some 2) with
  accessFlags := 48
  interfaces := #[]
  cf := some (fileOf pool3 8 #[.nestHost 44] #[{ accessFlags := 0, nameIndex := 5, descriptorIndex := 29, attributes := #[] }, { accessFlags := 0, nameIndex := 33, descriptorIndex := 34, attributes := #[] }] 48 2 #[] #[{ accessFlags := 18, nameIndex := 11, descriptorIndex := 12, attributes := #[] }, { accessFlags := 18, nameIndex := 15, descriptorIndex := 16, attributes := #[] }])
  fields := #[{ name := "position", type := (.object "com/example/moraine/moraine/Position"), accessFlags := 18, slot := 0, constantValue := 0 }, { name := "inParts", type := (.array .long), accessFlags := 18, slot := 1, constantValue := 0 }]
  methods := #[k3m0, k3m1]
  instanceTypes := #[(.object "com/example/moraine/moraine/Position"), (.array .long)]
  staticTypes := #[]
  resolved := Array.replicate 66 none
  statics := none }

def pool4 : Array CpInfo := pool [(1, .methodref 2 3), (0, .class_ 4), (0, .nameAndType 5 6), (0, u "java/lang/Record"), (0, u "<init>"), (0, u "()V"), (0, .fieldref 8 9), (0, .class_ 10), (0, .nameAndType 11 12), (0, u "com/example/moraine/moraine/Position"), (0, u "increments"), (0, u "J"), (0, .fieldref 8 14), (0, .nameAndType 15 12), (0, u "records"), (14, u "(JJ)V"), (2, u "START"), (0, u "Lcom/example/moraine/moraine/Position;")] 29

def k4c0 : Code := { maxStack := 3, maxLocals := 5, code := prog_60_method_1_code, exceptionTable := #[], attributes := #[] }
def k4m0 : Method := { name := "<init>", desc := "(JJ)V", sig := { parameters := [.long, .long], returnType := none }, accessFlags := 0, code := some k4c0 }
/-- com/example/moraine/moraine/Position -/
def k4 : Class := { plain "com/example/moraine/moraine/Position" (some 2) with
  accessFlags := 48
  interfaces := #[]
  cf := some (fileOf pool4 8 #[] #[{ accessFlags := 0, nameIndex := 5, descriptorIndex := 30, attributes := #[] }] 48 2 #[] #[{ accessFlags := 18, nameIndex := 11, descriptorIndex := 12, attributes := #[] }, { accessFlags := 18, nameIndex := 15, descriptorIndex := 12, attributes := #[] }, { accessFlags := 24, nameIndex := 33, descriptorIndex := 34, attributes := #[] }])
  fields := #[{ name := "increments", type := .long, accessFlags := 18, slot := 0, constantValue := 0 }, { name := "records", type := .long, accessFlags := 18, slot := 1, constantValue := 0 }, { name := "START", type := (.object "com/example/moraine/moraine/Position"), accessFlags := 24, slot := 0, constantValue := 0 }]
  methods := #[k4m0]
  instanceTypes := #[.long, .long]
  staticTypes := #[(.object "com/example/moraine/moraine/Position")]
  resolved := Array.replicate 64 none
  statics := none }

def pool5 : Array CpInfo := pool [(1, u "java/lang/Cloneable"), (0, .class_ 1), (0, u "java/lang/Object"), (0, .class_ 3)] 3

/-- java/lang/Cloneable -/
def k5 : Class := { plain "java/lang/Cloneable" (some 0) with
  accessFlags := 1537
  interfaces := #[]
  cf := some (fileOf pool5 2 #[] #[] 1537 4 #[] #[])
  fields := #[]
  methods := #[]
  instanceTypes := #[]
  staticTypes := #[]
  resolved := Array.replicate 8 none
  statics := none }

def pool6 : Array CpInfo := pool [(1, u "java/io/Serializable"), (0, .class_ 1), (0, u "java/lang/Object"), (0, .class_ 3)] 3

/-- java/io/Serializable -/
def k6 : Class := { plain "java/io/Serializable" (some 0) with
  accessFlags := 1537
  interfaces := #[]
  cf := some (fileOf pool6 2 #[] #[] 1537 4 #[] #[])
  fields := #[]
  methods := #[]
  instanceTypes := #[]
  staticTypes := #[]
  resolved := Array.replicate 8 none
  statics := none }

/-- the primitive byte -/
def k7 : Class := { plain "byte" none with kind := .primitive 'B', accessFlags := 0x411 }
/-- [B -/
def k8 : Class := { plain "[B" (some 0) with kind := .array 7 .byte, interfaces := #[5, 6], accessFlags := 1041 }

/-- the primitive int -/
def k9 : Class := { plain "int" none with kind := .primitive 'I', accessFlags := 0x411 }
/-- [I -/
def k10 : Class := { plain "[I" (some 0) with kind := .array 9 .int, interfaces := #[5, 6], accessFlags := 1041 }

/-- the primitive long -/
def k11 : Class := { plain "long" none with kind := .primitive 'J', accessFlags := 0x411 }
/-- [J -/
def k12 : Class := { plain "[J" (some 0) with kind := .array 11 .long, interfaces := #[5, 6], accessFlags := 1041 }

def heap : Heap := #[]
def classes : Array Class := #[k0, k1, k2, k3, k4, k5, k6, k7, k8, k9, k10, k11, k12]
def interned : List (Array UInt16 × Addr) := []
def slotsUsed : Nat := 0
def theMethod : MethodId := ⟨1, 1⟩
def args0 : Array Value := #[.int 5, .int 7, .long 5, .long 5, .long 5]
def aboutOver (below : List Frame) : State where
  vm := { classes := classes, interned := interned.toArray }
  heap := heap
  slotsUsed := slotsUsed
  threads := #[{ frames := .invoking theMethod args0 :: below }]
def below0 : List Frame := [.native { method := ⟨0, 0⟩, args := #[] }]
def about1 : State := aboutOver below0
def p0 : Program := .bare "" "" ""
def e0 : Env := launch0.env 0 0 0
theorem w_frames : about1.frames = Frame.invoking theMethod args0 :: below0 := rfl
set_option maxRecDepth 65536 in
theorem w_args : argsFit about1.vm theMethod args0 = true := by decide +kernel
set_option maxRecDepth 65536 in
theorem w_heap : heapFits about1 = true := by decide +kernel
set_option maxRecDepth 65536 in
theorem w_runnable : about1.curStatus? = some .runnable := by decide +kernel
set_option maxRecDepth 65536 in
theorem w_alone : about1.alone = true := by decide +kernel
set_option maxRecDepth 65536 in
theorem w_named : about1.methodNamed? x = some theMethod := by decide +kernel
set_option maxRecDepth 65536 in
theorem w_hears : about1.hears theMethod below0 = true := by decide +kernel
set_option maxRecDepth 65536 in
theorem w_ripe : about1.ripe theMethod args0 below0 = true := by decide +kernel
theorem w_running : about1.status = .running := rfl
set_option maxRecDepth 65536 in
theorem w_room : about1.hasRoom e0.platform room_1 = true :=
  launch0.hasRoom_least _ room_1 (by decide +kernel) (by decide +kernel) (by decide +kernel) (by decide +kernel) (by decide +kernel) (by decide +kernel)
theorem allAtoms_all (ts : List Jvm.Cond) (a : Array Jvm.Value) (st : Jvm.State) : (allAtoms ts).before a st = ts.all (fun c => c.before a st) := by
  induction ts with
  | nil => rfl
  | cons c t ih =>
    show (Jvm.Cond.and c (allAtoms t)).before a st = _
    rw [Jvm.Cond.before_and, ih, List.all_cons]
def words1 : List Jvm.Cond := Jvm.Cond.code x code maxLocals ret :: tables_1
/-- a 'code' word, met by the world's own term for the bytes: nothing is compared byte by byte -/
theorem code_word {y : MethodName} {bytes : ByteArray} {mx : Nat} {rt : Option FieldType} {a : Array Value} {s : State} {m : MethodId} {meth : Method} {c : Code} (h1 : s.methodNamed? y = some m) (h2 : s.vm.method? m = some meth) (h3 : meth.code = some c) (h4 : c.code = bytes)
    (h5 : (c.maxLocals == mx && c.exceptionTable.isEmpty && decide (c.maxStack ≤ mostOperands) && decide (meth.sig.returnType = rt) && !meth.locks && decide (parseMethodDescriptor y.desc = some meth.sig)) = true) : (Jvm.Cond.code y bytes mx rt).before a s = true := by
  simp only [Bool.and_eq_true, beq_iff_eq, Bool.not_eq_true', decide_eq_true_eq] at h5
  obtain ⟨⟨⟨⟨⟨g1, g2⟩, g3⟩, g4⟩, g5⟩, g6⟩ := h5
  simp [Cond.before, Cond.holds, Cond.value, h1, h2, h3, h4, g1, g2, g3, g4, g5, g6]
def isCode : Jvm.Cond → Bool
  | .code _ _ _ _ => true
  | _ => false
theorem all_split {L : List Jvm.Cond} {P : Jvm.Cond → Bool} (h1 : L.all (fun c => isCode c || P c) = true) (h2 : ∀ c ∈ L.filter isCode, P c = true) : L.all P = true := by
  refine List.all_eq_true.mpr fun c hc => ?_
  have h := List.all_eq_true.mp h1 c hc
  rcases Bool.eq_false_or_eq_true (isCode c) with hi | hi
  · exact h2 c (List.mem_filter.mpr ⟨hc, hi⟩)
  · simpa [hi] using h
set_option maxRecDepth 65536 in
theorem w_c0 : (Jvm.Cond.code x code maxLocals ret).before args0 about1 = true := code_word (m := ⟨1, 1⟩) (meth := k1m1) (c := k1c1) (by decide +kernel) rfl rfl rfl (by decide +kernel)
set_option maxRecDepth 65536 in
theorem w_c1 : (Jvm.Cond.code ({ cls := "com/example/moraine/moraine/Position", name := "<init>", desc := "(JJ)V" } : Jvm.MethodName) prog_60_method_1_code (5 : Nat) (Option.none : Option Jvm.ClassFile.FieldType)).before args0 about1 = true := code_word (m := ⟨4, 0⟩) (meth := k4m0) (c := k4c0) (by decide +kernel) rfl rfl rfl (by decide +kernel)
set_option maxRecDepth 65536 in
theorem w_c2 : (Jvm.Cond.code ({ cls := "java/lang/Record", name := "<init>", desc := "()V" } : Jvm.MethodName) jdk_30_method_1_code (1 : Nat) (Option.none : Option Jvm.ClassFile.FieldType)).before args0 about1 = true := code_word (m := ⟨2, 0⟩) (meth := k2m0) (c := k2c0) (by decide +kernel) rfl rfl rfl (by decide +kernel)
set_option maxRecDepth 65536 in
theorem w_c3 : (Jvm.Cond.code ({ cls := "java/lang/Object", name := "<init>", desc := "()V" } : Jvm.MethodName) object_method_1_code (1 : Nat) (Option.none : Option Jvm.ClassFile.FieldType)).before args0 about1 = true := code_word (m := ⟨0, 0⟩) (meth := k0m0) (c := k0c0) (by decide +kernel) rfl rfl rfl (by decide +kernel)
set_option maxRecDepth 65536 in
theorem w_c4 : (Jvm.Cond.code ({ cls := "com/example/moraine/moraine/Frames$Cut", name := "<init>", desc := "(Lcom/example/moraine/moraine/Position;[J)V" } : Jvm.MethodName) prog_25_method_1_code (3 : Nat) (Option.none : Option Jvm.ClassFile.FieldType)).before args0 about1 = true := code_word (m := ⟨3, 0⟩) (meth := k3m0) (c := k3c0) (by decide +kernel) rfl rfl rfl (by decide +kernel)
set_option maxRecDepth 65536 in
theorem w_c5 : (Jvm.Cond.code ({ cls := "com/example/moraine/moraine/Frames$Cut", name := "inPart", desc := "(I)J" } : Jvm.MethodName) prog_25_method_2_code (2 : Nat) (Option.some Jvm.ClassFile.FieldType.long)).before args0 about1 = true := code_word (m := ⟨3, 1⟩) (meth := k3m1) (c := k3c1) (by decide +kernel) rfl rfl rfl (by decide +kernel)
def codes1 : List Jvm.Cond := [Jvm.Cond.code x code maxLocals ret, Jvm.Cond.code ({ cls := "com/example/moraine/moraine/Position", name := "<init>", desc := "(JJ)V" } : Jvm.MethodName) prog_60_method_1_code (5 : Nat) (Option.none : Option Jvm.ClassFile.FieldType), Jvm.Cond.code ({ cls := "java/lang/Record", name := "<init>", desc := "()V" } : Jvm.MethodName) jdk_30_method_1_code (1 : Nat) (Option.none : Option Jvm.ClassFile.FieldType), Jvm.Cond.code ({ cls := "java/lang/Object", name := "<init>", desc := "()V" } : Jvm.MethodName) object_method_1_code (1 : Nat) (Option.none : Option Jvm.ClassFile.FieldType), Jvm.Cond.code ({ cls := "com/example/moraine/moraine/Frames$Cut", name := "<init>", desc := "(Lcom/example/moraine/moraine/Position;[J)V" } : Jvm.MethodName) prog_25_method_1_code (3 : Nat) (Option.none : Option Jvm.ClassFile.FieldType), Jvm.Cond.code ({ cls := "com/example/moraine/moraine/Frames$Cut", name := "inPart", desc := "(I)J" } : Jvm.MethodName) prog_25_method_2_code (2 : Nat) (Option.some Jvm.ClassFile.FieldType.long)]
set_option maxRecDepth 65536 in
theorem codes_eq : words1.filter isCode = codes1 := rfl
theorem w_codes : ∀ c ∈ words1.filter isCode, c.before args0 about1 = true := by
  rw [codes_eq]
  intro c hc
  simp only [codes1, List.mem_cons, List.not_mem_nil, or_false] at hc
  rcases hc with rfl | rfl | rfl | rfl | rfl | rfl
  · exact w_c0
  · exact w_c1
  · exact w_c2
  · exact w_c3
  · exact w_c4
  · exact w_c5
set_option maxRecDepth 65536 in
theorem w_t1 : (words1.take 24).all (fun c => isCode c || c.before args0 about1) = true := by decide +kernel
set_option maxRecDepth 65536 in
theorem w_t2 : (words1.drop 24).all (fun c => isCode c || c.before args0 about1) = true := by decide +kernel
theorem w_tables : (allAtoms (Jvm.Cond.code x code maxLocals ret :: tables_1)).before args0 about1 = true := by
  rw [allAtoms_all]
  show words1.all (fun c => c.before args0 about1) = true
  refine all_split ?_ w_codes
  rw [← List.take_append_drop 24 words1, List.all_append, w_t1, w_t2]
  rfl
set_option maxRecDepth 65536 in
theorem w_case : (Jvm.Cond.and given_1 narrow_1).before args0 about1 = true := by decide +kernel
theorem w_applies : (headSpec (Jvm.Cond.code x code maxLocals ret :: tables_1) room_1).applies x e0.platform about1 = true :=
  (Spec.applies_iff w_frames).mpr ⟨w_running, w_runnable, w_alone, w_named, w_hears, w_ripe, w_room, w_tables⟩
theorem atStart : AtStart classFile x code maxLocals ret World_1 tables_1 room_1 Calls_1 rest_1 Pre_1 launch0 p0 e0 about1 theMethod args0 below0 :=
  ⟨lists_1, trivial, launch0.admits_env _ _ _, launch0.least_env, fairChoices_fair.cas, fairChoices_fair.clock, w_frames, w_args, w_heap, w_applies, trivial, trivial, w_case⟩
end start1
theorem witness_1 : WitnessClaimed_1 := ⟨start1.p0, start1.e0, start1.about1, start1.theMethod, start1.args0, start1.below0, start1.atStart⟩
end Jvm.Pilot.@@N@@
