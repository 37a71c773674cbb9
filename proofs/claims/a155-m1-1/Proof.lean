import JvmDerived
import JvmDerived.Pilot.@@N@@Statement
import JvmDerived.Pilot.@@N@@Code
set_option linter.unusedVariables false
set_option linter.unusedSimpArgs false
namespace Jvm.RoadKit
open Sem ClassFile Op Lib Jvm.Stand Jvm.Free Jvm.LawKit
section New
variable {p : Program} {l : Launch} {e : Env} {R : Room} {s : State} {m : MethodId} {args : Array Value} {below : List Frame} {meth : Method} {c : Code} {T : State} {locs : List Loc} {cells slots : Nat}
theorem retI (X : Stand p l e R s m args below meth c T locs cells slots) (hx : p.tables.exec = Jvm.exec) {pc : Nat} {Ls : Array Slot} {z : Int32} {rest : List Value} (hret : meth.sig.returnType = some .int) (hd : decode c.code pc = .ok (.ireturn, 1)) {fs : List Frame}
    (hl : ∀ (f : JFrame) (acts : List Action), f.method = m → f.locked = none → f.entered = [] → (doReturn e (T.setTop f) acts (some (.int z))).1 = T.setFrames fs) : Steps p.tables e below (T.setTop (mkF m pc Ls (.int z :: rest))) (T.setFrames fs) :=
  retOut X hx hret rfl (Or.inl ⟨rfl, Or.inl rfl, _, rfl⟩) hd hl
def Elt (Z : State) (h : Heap) (a : Addr) (ty : FieldType) (j : Int32) (v : Value) : Prop := ∃ cl : Cell, Arr Z h a cl ty ∧ ¬ (j < 0 ∨ cl.slots.size ≤ j.toNatClampNeg) ∧ cl.slots[j.toNatClampNeg]? = some v
theorem Elt.of {Z : State} {h : Heap} {a : Addr} {k : ClassId} {ty : FieldType} {n j : Int32} {vs : List Value} {d v : Value} (F : Arv Z h a k ty n vs d) (q : ¬ j < 0 ∧ j < n) (u : vs.getD j.toNatClampNeg d = v) : Elt Z h a ty j v := by
  obtain ⟨c, A, _, S, _, H, _⟩ := F
  exact ⟨c, A, inb_of S q, H.at (inb_of S q) u⟩
def Goes (tb : Tables) (e : Env) (below : List Frame) (P : State → Outcome → Prop) (A : State) : Prop := ∃ s₂ o, Steps tb e below A s₂ ∧ P s₂ o
theorem Goes.start {tb : Tables} {e : Env} {below : List Frame} {P : State → Outcome → Prop} {A : State} (h : Goes tb e below P A) : ∃ s₂ o, Steps tb e below A s₂ ∧ P s₂ o := h
theorem Goes.by {tb : Tables} {e : Env} {below : List Frame} {P : State → Outcome → Prop} {A B : State} (h : ∀ t, Steps tb e below B t → Steps tb e below A t) (g : Goes tb e below P B) : Goes tb e below P A := by
  obtain ⟨s₂, o, h1, h2⟩ := g
  exact ⟨s₂, o, h _ h1, h2⟩
theorem Goes.mk {tb : Tables} {e : Env} {below : List Frame} {P : State → Outcome → Prop} {A : State} (s₂ : State) (o : Outcome) (h : Steps tb e below A s₂) (hp : P s₂ o) : Goes tb e below P A := ⟨s₂, o, h, hp⟩
end New
end Jvm.RoadKit
namespace Jvm.Pilot.@@N@@
open Jvm Jvm.ClassFile Sem Op Lib Jvm.Free Jvm.Stand Jvm.LawKit Jvm.RoadKit Bundle Jvm.Pilot.@@N@@.Jvm.D
theorem d2_0 : decode jdk_30_method_1_code 0 = .ok (.aload_n 0, 1) := by decide +kernel
theorem d2_1 : decode jdk_30_method_1_code 1 = .ok (.invokespecial 1, 3) := by decide +kernel
theorem d2_4 : decode jdk_30_method_1_code 4 = .ok (.return_, 1) := by decide +kernel
def Q2 (Z : State) (a0 : Addr) (h0 : Heap) (n0 : Nat) (v : Option Value) (h : Heap) (L : List Loc) : Prop := v = none ∧ Fr n0 L ∧ h = h0
theorem own_pn_java_lang_Record : plainName "java/lang/Record" = true := by first | (simp [plainName, overriddenIn]; done) | decide +kernel
theorem ef2 (m : MethodId) (x0 : Addr) : entryFrame m #[(.ref x0)] 1 = mkF m 0 #[.val (.ref x0)] [] := by first | (simp [entryFrame, mkF, argsToLocals, Value.category]; done) | rfl
set_option maxRecDepth 65536 in
set_option maxHeartbeats 40000000 in
theorem rm2 (l : Launch) (Z : State) (az : Array Value) (hw : ∀ d ∈ tables_1, d.before az Z = true) (ws : List Jvm.Cond) (a0 : Addr) (h0 : Heap) (n0 : Nat) (Z0 : n0 ≤ h0.size) :
    MetFree l (⟨"java/lang/Record", "<init>", "()V"⟩ : MethodName) (head1 (Jvm.Cond.code (⟨"java/lang/Record", "<init>", "()V"⟩ : MethodName) jdk_30_method_1_code 1 none :: ws) ({ frames := 1, cells := 0, slots := 0, locals := 12 } : Room)) (fun a U => a = #[(.ref a0)] ∧ Z.Warmed39 U.vm ∧ U.heap = h0) (fun _ _ _ _ _ => True) (fun _ U o U' => ∃ v L, o = .returned v ∧ Q2 Z a0 h0 n0 v U'.heap L ∧ FrameEnd U o U' L ({ frames := 1, cells := 0, slots := 0, locals := 12 } : Room).cells ({ frames := 1, cells := 0, slots := 0, locals := 12 } : Room).slots) := by
  refine MetFree.of_bodySF (plainFor_of_name own_pn_java_lang_Record) hisR ?_
  intro p e s m args below meth c s₁ Bd hml0 hP hK
  obtain ⟨rfl, hZ, hh⟩ := hP
  have hx := Bd.exec
  have hby := Bd.bytes
  have hml : c.maxLocals = 1 := hml0
  have hown : s.vm.findClass "java/lang/Record" = some m.cls := findClass_of_methodNamed Bd.named
  have hnm := (name_of_methodNamed Bd.named Bd.method).1
  have X0 : Stand p l e ({ frames := 1, cells := 0, slots := 0, locals := 12 } : Room) s m #[(.ref a0)] below meth c s₁ [] 0 0 := Stand.of_body Bd
  have e0 : s₁.heap = h0 := by rw [← hh, Bd.state]; rfl
  have N0 := Fr.nil n0
  have Kp0 : Keep h0 h0 [] := Keep.refl _ _
  refine Goes.start ?_
  refine Goes.by (B := s₁.setTop (mkF m 0 #[.val (.ref a0)] [])) (fun t k => castTop (ef2 m a0) k) ?_
  refine Goes.by (B := s₁.setTop (mkF m 1 #[.val (.ref a0)] [(.ref a0)])) (fun t k => ?_) ?_
  · show Steps p.tables e below (s₁.setTop (mkF m 0 #[.val (.ref a0)] [])) t
    refine XS.aloadN X0.here hx rfl (hb hby d2_0) rfl rfl ?_
    exact k
  obtain ⟨T1, X1, e1, st1⟩ := initO X0 hx hZ hown (hw _ (List.mem_of_getElem? (i := 11) rfl)) (hw _ (List.mem_of_getElem? (i := 12) rfl)) (hw _ (List.mem_of_getElem? (i := 13) rfl)) e0 (g := (mkF m 1 #[.val (.ref a0)] [(.ref a0)])) rfl (by rw [hml]; rfl) rfl (hb hby d2_1) (by decide) (W := 0) (by show 2 * 0 + _ ≤ _; exact Nat.le_of_eq rfl) (by decide)
  refine Goes.by st1 ?_
  show Goes p.tables e below _ (T1.setTop (mkF m 4 #[.val (.ref a0)] []))
  obtain ⟨fs, hr, hrun, hended, hW, hsame⟩ := X1.leave (v := none) (fun _ => rfl)
  refine Goes.mk _ _ ?_ ⟨hrun, hended, _, _, rfl, ?_, ⟨_, rfl⟩, hW, hsame.mono (by decide) (by decide)⟩
  · exact X1.returnOut hx Bd.returns (hb hby d2_4) hr
  · show Q2 Z a0 h0 n0 _ T1.heap _
    rw [e1]
    exact ⟨rfl, N0, rfl⟩
theorem d1_0 : decode prog_3_method_1_code 0 = .ok (.aload_n 0, 1) := by decide +kernel
theorem d1_1 : decode prog_3_method_1_code 1 = .ok (.invokespecial 1, 3) := by decide +kernel
theorem own_pd0 : parseMethodDescriptor "()V" = some ⟨[], none⟩ := by decide +kernel
theorem d1_4 : decode prog_3_method_1_code 4 = .ok (.aload_n 0, 1) := by decide +kernel
theorem d1_5 : decode prog_3_method_1_code 5 = .ok (.lload_n 1, 1) := by decide +kernel
theorem d1_6 : decode prog_3_method_1_code 6 = .ok (.putfield 7, 3) := by decide +kernel
theorem d1_9 : decode prog_3_method_1_code 9 = .ok (.aload_n 0, 1) := by decide +kernel
theorem d1_10 : decode prog_3_method_1_code 10 = .ok (.lload_n 3, 1) := by decide +kernel
theorem d1_11 : decode prog_3_method_1_code 11 = .ok (.putfield 13, 3) := by decide +kernel
theorem d1_14 : decode prog_3_method_1_code 14 = .ok (.aload_n 0, 1) := by decide +kernel
theorem d1_15 : decode prog_3_method_1_code 15 = .ok (.lload 5, 2) := by decide +kernel
theorem d1_17 : decode prog_3_method_1_code 17 = .ok (.putfield 16, 3) := by decide +kernel
theorem d1_20 : decode prog_3_method_1_code 20 = .ok (.return_, 1) := by decide +kernel
def Q1 (Z : State) (a0 : Addr) (q1 : Int64) (q2 : Int64) (q3 : Int64) (h0 : Heap) (n0 : Nat) (v : Option Value) (h : Heap) (L : List Loc) : Prop := v = none ∧ Fr n0 L ∧ Keep h0 h [a0] ∧ Exa Z h a0 "com/example/allocat/allocat/core/Capacity" ∧ Fld Z h a0 "com/example/allocat/allocat/core/Capacity" "ram" "J" (.long q1) ∧ Fld Z h a0 "com/example/allocat/allocat/core/Capacity" "disk" "J" (.long q2) ∧ Fld Z h a0 "com/example/allocat/allocat/core/Capacity" "cpu" "J" (.long q3)
theorem own_pn_com_example_allocat_allocat_core_Capacity : plainName "com/example/allocat/allocat/core/Capacity" = true := by first | (simp [plainName, overriddenIn]; done) | decide +kernel
theorem ef1 (m : MethodId) (x0 : Addr) (x1 : Int64) (x2 : Int64) (x3 : Int64) : entryFrame m #[(.ref x0), (.long x1), (.long x2), (.long x3)] 7 = mkF m 0 #[.val (.ref x0), .val (.long x1), .second, .val (.long x2), .second, .val (.long x3), .second] [] := by first | (simp [entryFrame, mkF, argsToLocals, Value.category]; done) | rfl
set_option maxRecDepth 65536 in
set_option maxHeartbeats 40000000 in
theorem rm1 (l : Launch) (Z : State) (az : Array Value) (hw : ∀ d ∈ tables_1, d.before az Z = true) (ws : List Jvm.Cond) (a0 : Addr) (q1 : Int64) (q2 : Int64) (q3 : Int64) (h0 : Heap) (n0 : Nat) (Z0 : n0 ≤ h0.size) (F0 : Exa Z h0 a0 "com/example/allocat/allocat/core/Capacity") (F1 : Fld Z h0 a0 "com/example/allocat/allocat/core/Capacity" "ram" "J" (.long (0 : Int64))) (F2 : Fld Z h0 a0 "com/example/allocat/allocat/core/Capacity" "disk" "J" (.long (0 : Int64))) (F3 : Fld Z h0 a0 "com/example/allocat/allocat/core/Capacity" "cpu" "J" (.long (0 : Int64))) (Ge0 : n0 ≤ a0) :
    MetFree l (⟨"com/example/allocat/allocat/core/Capacity", "<init>", "(JJJ)V"⟩ : MethodName) (head1 (Jvm.Cond.code (⟨"com/example/allocat/allocat/core/Capacity", "<init>", "(JJJ)V"⟩ : MethodName) prog_3_method_1_code 7 none :: ws) ({ frames := 2, cells := 0, slots := 0, locals := 24 } : Room)) (fun a U => a = #[(.ref a0), (.long q1), (.long q2), (.long q3)] ∧ Z.Warmed39 U.vm ∧ U.heap = h0) (fun _ _ _ _ _ => True) (fun _ U o U' => ∃ v L, o = .returned v ∧ Q1 Z a0 q1 q2 q3 h0 n0 v U'.heap L ∧ FrameEnd U o U' L ({ frames := 2, cells := 0, slots := 0, locals := 24 } : Room).cells ({ frames := 2, cells := 0, slots := 0, locals := 24 } : Room).slots) := by
  refine MetFree.of_bodySF (plainFor_of_name own_pn_com_example_allocat_allocat_core_Capacity) hisR ?_
  intro p e s m args below meth c s₁ Bd hml0 hP hK
  obtain ⟨rfl, hZ, hh⟩ := hP
  have hx := Bd.exec
  have hby := Bd.bytes
  have hml : c.maxLocals = 7 := hml0
  have hown : s.vm.findClass "com/example/allocat/allocat/core/Capacity" = some m.cls := findClass_of_methodNamed Bd.named
  have hnm := (name_of_methodNamed Bd.named Bd.method).1
  have X0 : Stand p l e ({ frames := 2, cells := 0, slots := 0, locals := 24 } : Room) s m #[(.ref a0), (.long q1), (.long q2), (.long q3)] below meth c s₁ [] 0 0 := Stand.of_body Bd
  have e0 : s₁.heap = h0 := by rw [← hh, Bd.state]; rfl
  have N0 := Fr.nil n0
  have Kp0 : Keep h0 h0 [a0] := Keep.refl _ _
  refine Goes.start ?_
  refine Goes.by (B := s₁.setTop (mkF m 0 #[.val (.ref a0), .val (.long q1), .second, .val (.long q2), .second, .val (.long q3), .second] [])) (fun t k => castTop (ef1 m a0 q1 q2 q3) k) ?_
  refine Goes.by (B := s₁.setTop (mkF m 1 #[.val (.ref a0), .val (.long q1), .second, .val (.long q2), .second, .val (.long q3), .second] [(.ref a0)])) (fun t k => ?_) ?_
  · show Steps p.tables e below (s₁.setTop (mkF m 0 #[.val (.ref a0), .val (.long q1), .second, .val (.long q2), .second, .val (.long q3), .second] [])) t
    refine XS.aloadN X0.here hx rfl (hb hby d1_0) rfl rfl ?_
    exact k
  obtain ⟨_, _, ⟨T1, L1, k1, n1⟩, -, X1, ⟨Lc1, hQ1, l1, y1, z1⟩, st1⟩ := X0.specialBack hx (y := (⟨"java/lang/Record", "<init>", "()V"⟩ : MethodName)) rfl hown (mvT hZ (hw _ (List.mem_of_getElem? (i := 6) rfl))) (mvT hZ (hw _ (List.mem_of_getElem? (i := 7) rfl))) (mvT hZ (hw _ (List.mem_of_getElem? (i := 10) rfl))) (by decide) (backOf (W := 0) (rm2 l Z az hw [] a0 h0 n0 Z0 ) hZ (hw _ (List.mem_of_getElem? (i := 10) rfl)) (hw _ (List.mem_of_getElem? (i := 9) rfl)) (by decide) (by decide)) (g := (mkF m 1 #[.val (.ref a0), .val (.long q1), .second, .val (.long q2), .second, .val (.long q3), .second] [(.ref a0)])) rfl (by rw [hml]; rfl) (Steps.refl _) (a := a0) (argsL := []) (rest := []) (lenOf own_pd0 rfl) rfl (by show 2 * 0 + _ ≤ _; exact Nat.le_of_eq rfl) (hb hby d1_1) (fun _ _ => ⟨rfl, e0, (by decide : 0 + 0 ≤ _), (by decide : 0 + 0 ≤ _)⟩)
  dsimp only [Pt.U, Pt.locs, Pt.cells, Pt.slots] at X1 l1 y1 z1 st1 hQ1
  subst l1 y1 z1
  obtain ⟨rfl, N1q, e1⟩ := hQ1
  have N2 := Fr.app N0 N1q
  refine Goes.by (fun _ k => st1.trans k) ?_
  show Goes p.tables e below _ (T1.setTop (mkF m 4 #[.val (.ref a0), .val (.long q1), .second, .val (.long q2), .second, .val (.long q3), .second] []))
  refine Goes.by (B := T1.setTop (mkF m 6 #[.val (.ref a0), .val (.long q1), .second, .val (.long q2), .second, .val (.long q3), .second] [(.long q1), (.ref a0)])) (fun t k => ?_) ?_
  · show Steps p.tables e below (T1.setTop (mkF m 4 #[.val (.ref a0), .val (.long q1), .second, .val (.long q2), .second, .val (.long q3), .second] [])) t
    refine XS.aloadN X1.here hx rfl (hb hby d1_4) rfl rfl ?_
    show Steps p.tables e below (T1.setTop (mkF m 5 #[.val (.ref a0), .val (.long q1), .second, .val (.long q2), .second, .val (.long q3), .second] [(.ref a0)])) t
    refine XS.lloadN X1.here hx rfl (hb hby d1_5) rfl ?_
    exact k
  obtain ⟨T3, h3, X3, e3, W3, st3⟩ := putF X1 hx hZ hown (host := "") (Or.inl (hw _ (List.mem_of_getElem? (i := 14) rfl))) Via.refl e1 F1 F0 (Or.inr ⟨(hw _ (List.mem_of_getElem? (i := 15) rfl)), rfl, hnm⟩) (hw _ (List.mem_of_getElem? (i := 1) rfl)) (ty := .long) (by decide) rfl rfl (g := (mkF m 6 #[.val (.ref a0), .val (.long q1), .second, .val (.long q2), .second, .val (.long q3), .second] [(.long q1), (.ref a0)])) rfl rfl (hb hby d1_6)
  have f4 : Exa Z h3 a0 "com/example/allocat/allocat/core/Capacity" := F0.wr W3
  have f5 : Fld Z h3 a0 "com/example/allocat/allocat/core/Capacity" "disk" "J" (.long (0 : Int64)) := F2.other W3 (Or.inr (slot_ne (Or.inr (hw _ (List.mem_of_getElem? (i := 17) rfl))) (Or.inr (hw _ (List.mem_of_getElem? (i := 15) rfl))) (by decide) (t := .long) (t' := .long) (by decide) (by decide)))
  have f6 : Fld Z h3 a0 "com/example/allocat/allocat/core/Capacity" "cpu" "J" (.long (0 : Int64)) := F3.other W3 (Or.inr (slot_ne (Or.inr (hw _ (List.mem_of_getElem? (i := 19) rfl))) (Or.inr (hw _ (List.mem_of_getElem? (i := 15) rfl))) (by decide) (t := .long) (t' := .long) (by decide) (by decide)))
  have f7 : Fld Z h3 a0 "com/example/allocat/allocat/core/Capacity" "ram" "J" (.long q1) := F1.same W3
  have Kp3 : Keep h0 h3 [a0] := Kp0.wr W3 (Or.inl (List.mem_of_getElem? (i := 0) rfl))
  have Z8 : n0 ≤ h3.size := Nat.le_trans Z0 (Nat.le_of_eq W3.size.symm)
  have N9 := Fr.snoc X3 N2 Ge0
  refine Goes.by st3 ?_
  show Goes p.tables e below _ (T3.setTop (mkF m 9 #[.val (.ref a0), .val (.long q1), .second, .val (.long q2), .second, .val (.long q3), .second] []))
  refine Goes.by (B := T3.setTop (mkF m 11 #[.val (.ref a0), .val (.long q1), .second, .val (.long q2), .second, .val (.long q3), .second] [(.long q2), (.ref a0)])) (fun t k => ?_) ?_
  · show Steps p.tables e below (T3.setTop (mkF m 9 #[.val (.ref a0), .val (.long q1), .second, .val (.long q2), .second, .val (.long q3), .second] [])) t
    refine XS.aloadN X3.here hx rfl (hb hby d1_9) rfl rfl ?_
    show Steps p.tables e below (T3.setTop (mkF m 10 #[.val (.ref a0), .val (.long q1), .second, .val (.long q2), .second, .val (.long q3), .second] [(.ref a0)])) t
    refine XS.lloadN X3.here hx rfl (hb hby d1_10) rfl ?_
    exact k
  obtain ⟨T10, h10, X10, e10, W10, st10⟩ := putF X3 hx hZ hown (host := "") (Or.inl (hw _ (List.mem_of_getElem? (i := 16) rfl))) Via.refl e3 f5 f4 (Or.inr ⟨(hw _ (List.mem_of_getElem? (i := 17) rfl)), rfl, hnm⟩) (hw _ (List.mem_of_getElem? (i := 1) rfl)) (ty := .long) (by decide) rfl rfl (g := (mkF m 11 #[.val (.ref a0), .val (.long q1), .second, .val (.long q2), .second, .val (.long q3), .second] [(.long q2), (.ref a0)])) rfl rfl (hb hby d1_11)
  have f11 : Exa Z h10 a0 "com/example/allocat/allocat/core/Capacity" := f4.wr W10
  have f12 : Fld Z h10 a0 "com/example/allocat/allocat/core/Capacity" "cpu" "J" (.long (0 : Int64)) := f6.other W10 (Or.inr (slot_ne (Or.inr (hw _ (List.mem_of_getElem? (i := 19) rfl))) (Or.inr (hw _ (List.mem_of_getElem? (i := 17) rfl))) (by decide) (t := .long) (t' := .long) (by decide) (by decide)))
  have f13 : Fld Z h10 a0 "com/example/allocat/allocat/core/Capacity" "ram" "J" (.long q1) := f7.other W10 (Or.inr (slot_ne (Or.inr (hw _ (List.mem_of_getElem? (i := 15) rfl))) (Or.inr (hw _ (List.mem_of_getElem? (i := 17) rfl))) (by decide) (t := .long) (t' := .long) (by decide) (by decide)))
  have f14 : Fld Z h10 a0 "com/example/allocat/allocat/core/Capacity" "disk" "J" (.long q2) := f5.same W10
  have Kp10 : Keep h0 h10 [a0] := Kp3.wr W10 (Or.inl (List.mem_of_getElem? (i := 0) rfl))
  have Z15 : n0 ≤ h10.size := Nat.le_trans Z8 (Nat.le_of_eq W10.size.symm)
  have N16 := Fr.snoc X10 N9 Ge0
  refine Goes.by st10 ?_
  show Goes p.tables e below _ (T10.setTop (mkF m 14 #[.val (.ref a0), .val (.long q1), .second, .val (.long q2), .second, .val (.long q3), .second] []))
  refine Goes.by (B := T10.setTop (mkF m 17 #[.val (.ref a0), .val (.long q1), .second, .val (.long q2), .second, .val (.long q3), .second] [(.long q3), (.ref a0)])) (fun t k => ?_) ?_
  · show Steps p.tables e below (T10.setTop (mkF m 14 #[.val (.ref a0), .val (.long q1), .second, .val (.long q2), .second, .val (.long q3), .second] [])) t
    refine XS.aloadN X10.here hx rfl (hb hby d1_14) rfl rfl ?_
    show Steps p.tables e below (T10.setTop (mkF m 15 #[.val (.ref a0), .val (.long q1), .second, .val (.long q2), .second, .val (.long q3), .second] [(.ref a0)])) t
    refine XS.lload X10.here hx rfl (hb hby d1_15) rfl ?_
    exact k
  obtain ⟨T17, h17, X17, e17, W17, st17⟩ := putF X10 hx hZ hown (host := "") (Or.inl (hw _ (List.mem_of_getElem? (i := 18) rfl))) Via.refl e10 f12 f11 (Or.inr ⟨(hw _ (List.mem_of_getElem? (i := 19) rfl)), rfl, hnm⟩) (hw _ (List.mem_of_getElem? (i := 1) rfl)) (ty := .long) (by decide) rfl rfl (g := (mkF m 17 #[.val (.ref a0), .val (.long q1), .second, .val (.long q2), .second, .val (.long q3), .second] [(.long q3), (.ref a0)])) rfl rfl (hb hby d1_17)
  have f18 : Exa Z h17 a0 "com/example/allocat/allocat/core/Capacity" := f11.wr W17
  have f19 : Fld Z h17 a0 "com/example/allocat/allocat/core/Capacity" "ram" "J" (.long q1) := f13.other W17 (Or.inr (slot_ne (Or.inr (hw _ (List.mem_of_getElem? (i := 15) rfl))) (Or.inr (hw _ (List.mem_of_getElem? (i := 19) rfl))) (by decide) (t := .long) (t' := .long) (by decide) (by decide)))
  have f20 : Fld Z h17 a0 "com/example/allocat/allocat/core/Capacity" "disk" "J" (.long q2) := f14.other W17 (Or.inr (slot_ne (Or.inr (hw _ (List.mem_of_getElem? (i := 17) rfl))) (Or.inr (hw _ (List.mem_of_getElem? (i := 19) rfl))) (by decide) (t := .long) (t' := .long) (by decide) (by decide)))
  have f21 : Fld Z h17 a0 "com/example/allocat/allocat/core/Capacity" "cpu" "J" (.long q3) := f12.same W17
  have Kp17 : Keep h0 h17 [a0] := Kp10.wr W17 (Or.inl (List.mem_of_getElem? (i := 0) rfl))
  have Z22 : n0 ≤ h17.size := Nat.le_trans Z15 (Nat.le_of_eq W17.size.symm)
  have N23 := Fr.snoc X17 N16 Ge0
  refine Goes.by st17 ?_
  show Goes p.tables e below _ (T17.setTop (mkF m 20 #[.val (.ref a0), .val (.long q1), .second, .val (.long q2), .second, .val (.long q3), .second] []))
  obtain ⟨fs, hr, hrun, hended, hW, hsame⟩ := X17.leave (v := none) (fun _ => rfl)
  refine Goes.mk _ _ ?_ ⟨hrun, hended, _, _, rfl, ?_, ⟨_, rfl⟩, hW, hsame.mono (by decide) (by decide)⟩
  · exact X17.returnOut hx Bd.returns (hb hby d1_20) hr
  · show Q1 Z a0 q1 q2 q3 h0 n0 _ T17.heap _
    rw [e17]
    exact ⟨rfl, N23, Kp17, f18, f19, f20, f21⟩
theorem d4_0 : decode prog_3_method_2_code 0 = .ok (.aload_n 0, 1) := by decide +kernel
theorem d4_1 : decode prog_3_method_2_code 1 = .ok (.getfield 7, 3) := by decide +kernel
theorem d4_4 : decode prog_3_method_2_code 4 = .ok (.aload_n 1, 1) := by decide +kernel
theorem d4_5 : decode prog_3_method_2_code 5 = .ok (.getfield 7, 3) := by decide +kernel
theorem d4_8 : decode prog_3_method_2_code 8 = .ok (.lcmp, 1) := by decide +kernel
theorem d4_9 : decode prog_3_method_2_code 9 = .ok (.ifCond .lt 31, 3) := by decide +kernel
theorem d4_40 : decode prog_3_method_2_code 40 = .ok (.iconst 0, 1) := by decide +kernel
theorem d4_41 : decode prog_3_method_2_code 41 = .ok (.ireturn, 1) := by decide +kernel
theorem d4_12 : decode prog_3_method_2_code 12 = .ok (.aload_n 0, 1) := by decide +kernel
theorem d4_13 : decode prog_3_method_2_code 13 = .ok (.getfield 13, 3) := by decide +kernel
theorem d4_16 : decode prog_3_method_2_code 16 = .ok (.aload_n 1, 1) := by decide +kernel
theorem d4_17 : decode prog_3_method_2_code 17 = .ok (.getfield 13, 3) := by decide +kernel
theorem d4_20 : decode prog_3_method_2_code 20 = .ok (.lcmp, 1) := by decide +kernel
theorem d4_21 : decode prog_3_method_2_code 21 = .ok (.ifCond .lt 19, 3) := by decide +kernel
theorem d4_24 : decode prog_3_method_2_code 24 = .ok (.aload_n 0, 1) := by decide +kernel
theorem d4_25 : decode prog_3_method_2_code 25 = .ok (.getfield 16, 3) := by decide +kernel
theorem d4_28 : decode prog_3_method_2_code 28 = .ok (.aload_n 1, 1) := by decide +kernel
theorem d4_29 : decode prog_3_method_2_code 29 = .ok (.getfield 16, 3) := by decide +kernel
theorem d4_32 : decode prog_3_method_2_code 32 = .ok (.lcmp, 1) := by decide +kernel
theorem d4_33 : decode prog_3_method_2_code 33 = .ok (.ifCond .lt 7, 3) := by decide +kernel
theorem d4_36 : decode prog_3_method_2_code 36 = .ok (.iconst 1, 1) := by decide +kernel
theorem d4_37 : decode prog_3_method_2_code 37 = .ok (.goto 4, 3) := by decide +kernel
def f4 (u0 : Int64) (u1 : Int64) (u2 : Int64) (v0 : Int64) (v1 : Int64) (v2 : Int64) : Int32 := (if u0 < v0 then (0 : Int32) else (if u1 < v1 then (0 : Int32) else (if u2 < v2 then (0 : Int32) else (1 : Int32))))
def Q4 (Z : State) (a0 : Addr) (a1 : Addr) (u0 : Int64) (u1 : Int64) (u2 : Int64) (v0 : Int64) (v1 : Int64) (v2 : Int64) (h0 : Heap) (n0 : Nat) (v : Option Value) (h : Heap) (L : List Loc) : Prop := v = some (.int (f4 u0 u1 u2 v0 v1 v2)) ∧ Fr n0 L ∧ h = h0
theorem ef4 (m : MethodId) (x0 : Addr) (x1 : Addr) : entryFrame m #[(.ref x0), (.ref x1)] 2 = mkF m 0 #[.val (.ref x0), .val (.ref x1)] [] := by first | (simp [entryFrame, mkF, argsToLocals, Value.category]; done) | rfl
set_option maxRecDepth 65536 in
set_option maxHeartbeats 40000000 in
theorem rm4 (l : Launch) (Z : State) (az : Array Value) (hw : ∀ d ∈ tables_1, d.before az Z = true) (ws : List Jvm.Cond) (a0 : Addr) (a1 : Addr) (u0 : Int64) (u1 : Int64) (u2 : Int64) (v0 : Int64) (v1 : Int64) (v2 : Int64) (h0 : Heap) (n0 : Nat) (Z0 : n0 ≤ h0.size) (F0 : Fld Z h0 a0 "com/example/allocat/allocat/core/Capacity" "ram" "J" (.long u0)) (F1 : Fld Z h0 a0 "com/example/allocat/allocat/core/Capacity" "disk" "J" (.long u1)) (F2 : Fld Z h0 a0 "com/example/allocat/allocat/core/Capacity" "cpu" "J" (.long u2)) (F3 : Fld Z h0 a1 "com/example/allocat/allocat/core/Capacity" "ram" "J" (.long v0)) (F4 : Fld Z h0 a1 "com/example/allocat/allocat/core/Capacity" "disk" "J" (.long v1)) (F5 : Fld Z h0 a1 "com/example/allocat/allocat/core/Capacity" "cpu" "J" (.long v2)) :
    MetFree l (⟨"com/example/allocat/allocat/core/Capacity", "covers", "(Lcom/example/allocat/allocat/core/Capacity;)Z"⟩ : MethodName) (head1 (Jvm.Cond.code (⟨"com/example/allocat/allocat/core/Capacity", "covers", "(Lcom/example/allocat/allocat/core/Capacity;)Z"⟩ : MethodName) prog_3_method_2_code 2 (some .boolean) :: ws) ({ frames := 0, cells := 0, slots := 0, locals := 0 } : Room)) (fun a U => a = #[(.ref a0), (.ref a1)] ∧ Z.Warmed39 U.vm ∧ U.heap = h0) (fun _ _ _ _ _ => True) (fun _ U o U' => ∃ v L, o = .returned v ∧ Q4 Z a0 a1 u0 u1 u2 v0 v1 v2 h0 n0 v U'.heap L ∧ FrameEnd U o U' L ({ frames := 0, cells := 0, slots := 0, locals := 0 } : Room).cells ({ frames := 0, cells := 0, slots := 0, locals := 0 } : Room).slots) := by
  refine MetFree.of_bodySF (plainFor_of_name own_pn_com_example_allocat_allocat_core_Capacity) hisR ?_
  intro p e s m args below meth c s₁ Bd hml0 hP hK
  obtain ⟨rfl, hZ, hh⟩ := hP
  have hx := Bd.exec
  have hby := Bd.bytes
  have hml : c.maxLocals = 2 := hml0
  have hown : s.vm.findClass "com/example/allocat/allocat/core/Capacity" = some m.cls := findClass_of_methodNamed Bd.named
  have hnm := (name_of_methodNamed Bd.named Bd.method).1
  have X0 : Stand p l e ({ frames := 0, cells := 0, slots := 0, locals := 0 } : Room) s m #[(.ref a0), (.ref a1)] below meth c s₁ [] 0 0 := Stand.of_body Bd
  have e0 : s₁.heap = h0 := by rw [← hh, Bd.state]; rfl
  have N0 := Fr.nil n0
  have Kp0 : Keep h0 h0 [] := Keep.refl _ _
  refine Goes.start ?_
  refine Goes.by (B := s₁.setTop (mkF m 0 #[.val (.ref a0), .val (.ref a1)] [])) (fun t k => castTop (ef4 m a0 a1) k) ?_
  refine Goes.by (B := s₁.setTop (mkF m 1 #[.val (.ref a0), .val (.ref a1)] [(.ref a0)])) (fun t k => ?_) ?_
  · show Steps p.tables e below (s₁.setTop (mkF m 0 #[.val (.ref a0), .val (.ref a1)] [])) t
    refine XS.aloadN X0.here hx rfl (hb hby d4_0) rfl rfl ?_
    exact k
  obtain ⟨T1, X1, e1, st1⟩ := getF X0 hx hZ hown (host := "") (Or.inl (hw _ (List.mem_of_getElem? (i := 14) rfl))) Via.refl e0 F0 (g := (mkF m 1 #[.val (.ref a0), .val (.ref a1)] [(.ref a0)])) rfl rfl (hb hby d4_1)
  refine Goes.by st1 ?_
  show Goes p.tables e below _ (T1.setTop (mkF m 4 #[.val (.ref a0), .val (.ref a1)] [(.long u0)]))
  refine Goes.by (B := T1.setTop (mkF m 5 #[.val (.ref a0), .val (.ref a1)] [(.ref a1), (.long u0)])) (fun t k => ?_) ?_
  · show Steps p.tables e below (T1.setTop (mkF m 4 #[.val (.ref a0), .val (.ref a1)] [(.long u0)])) t
    refine XS.aloadN X1.here hx rfl (hb hby d4_4) rfl rfl ?_
    exact k
  obtain ⟨T2, X2, e2, st2⟩ := getF X1 hx hZ hown (host := "") (Or.inl (hw _ (List.mem_of_getElem? (i := 14) rfl))) Via.refl e1 F3 (g := (mkF m 5 #[.val (.ref a0), .val (.ref a1)] [(.ref a1), (.long u0)])) rfl rfl (hb hby d4_5)
  refine Goes.by st2 ?_
  show Goes p.tables e below _ (T2.setTop (mkF m 8 #[.val (.ref a0), .val (.ref a1)] [(.long v0), (.long u0)]))
  refine Goes.by (B := T2.setTop (mkF m 9 #[.val (.ref a0), .val (.ref a1)] [(.int (lcmpW u0 v0))])) (fun t k => ?_) ?_
  · show Steps p.tables e below (T2.setTop (mkF m 8 #[.val (.ref a0), .val (.ref a1)] [(.long v0), (.long u0)])) t
    refine XS.lcmp X2.here hx rfl (hb hby d4_8) rfl ?_
    exact k
  by_cases hc3 : u0 < v0
  · refine Goes.by (B := T2.setTop (mkF m 41 #[.val (.ref a0), .val (.ref a1)] [(.int (0 : Int32))])) (fun t k => ?_) ?_
    · show Steps p.tables e below (T2.setTop (mkF m 9 #[.val (.ref a0), .val (.ref a1)] [(.int (lcmpW u0 v0))])) t
      refine XS.ifYes X2.here hx rfl (pc0 := 9) (pc' := 40) rfl (hb hby d4_9) rfl ((if0 _ _).trans (tlt ((lw_lt u0 v0).mpr hc3)).1) (by decide) (by decide) ?_
      show Steps p.tables e below (T2.setTop (mkF m 40 #[.val (.ref a0), .val (.ref a1)] [])) t
      refine XS.iconst X2.here hx rfl (hb hby d4_40) ?_
      exact k
    obtain ⟨fs, hr, hrun, hended, hW, hsame⟩ := X2.leave (v := some (.int (0 : Int32))) (fun h => by rw [Bd.returns] at h; cases h)
    refine Goes.mk _ _ ?_ ⟨hrun, hended, _, _, rfl, ?_, ⟨_, rfl⟩, hW, hsame.mono (by decide) (by decide)⟩
    · exact retN X2 hx (t := .boolean) Bd.returns (by simp) (hb hby d4_41) hr
    · show Q4 Z a0 a1 u0 u1 u2 v0 v1 v2 h0 n0 _ T2.heap _
      rw [e2]
      exact ⟨(by simp only [f4, if_pos hc3]), N0, rfl⟩
  · refine Goes.by (B := T2.setTop (mkF m 13 #[.val (.ref a0), .val (.ref a1)] [(.ref a0)])) (fun t k => ?_) ?_
    · show Steps p.tables e below (T2.setTop (mkF m 9 #[.val (.ref a0), .val (.ref a1)] [(.int (lcmpW u0 v0))])) t
      refine XS.ifNo X2.here hx rfl (hb hby d4_9) rfl ((if0 _ _).trans (flt (fun z => hc3 ((lw_lt u0 v0).mp z))).1) ?_
      show Steps p.tables e below (T2.setTop (mkF m 12 #[.val (.ref a0), .val (.ref a1)] [])) t
      refine XS.aloadN X2.here hx rfl (hb hby d4_12) rfl rfl ?_
      exact k
    obtain ⟨T4, X4, e4, st4⟩ := getF X2 hx hZ hown (host := "") (Or.inl (hw _ (List.mem_of_getElem? (i := 16) rfl))) Via.refl e2 F1 (g := (mkF m 13 #[.val (.ref a0), .val (.ref a1)] [(.ref a0)])) rfl rfl (hb hby d4_13)
    refine Goes.by st4 ?_
    show Goes p.tables e below _ (T4.setTop (mkF m 16 #[.val (.ref a0), .val (.ref a1)] [(.long u1)]))
    refine Goes.by (B := T4.setTop (mkF m 17 #[.val (.ref a0), .val (.ref a1)] [(.ref a1), (.long u1)])) (fun t k => ?_) ?_
    · show Steps p.tables e below (T4.setTop (mkF m 16 #[.val (.ref a0), .val (.ref a1)] [(.long u1)])) t
      refine XS.aloadN X4.here hx rfl (hb hby d4_16) rfl rfl ?_
      exact k
    obtain ⟨T5, X5, e5, st5⟩ := getF X4 hx hZ hown (host := "") (Or.inl (hw _ (List.mem_of_getElem? (i := 16) rfl))) Via.refl e4 F4 (g := (mkF m 17 #[.val (.ref a0), .val (.ref a1)] [(.ref a1), (.long u1)])) rfl rfl (hb hby d4_17)
    refine Goes.by st5 ?_
    show Goes p.tables e below _ (T5.setTop (mkF m 20 #[.val (.ref a0), .val (.ref a1)] [(.long v1), (.long u1)]))
    refine Goes.by (B := T5.setTop (mkF m 21 #[.val (.ref a0), .val (.ref a1)] [(.int (lcmpW u1 v1))])) (fun t k => ?_) ?_
    · show Steps p.tables e below (T5.setTop (mkF m 20 #[.val (.ref a0), .val (.ref a1)] [(.long v1), (.long u1)])) t
      refine XS.lcmp X5.here hx rfl (hb hby d4_20) rfl ?_
      exact k
    by_cases hc6 : u1 < v1
    · refine Goes.by (B := T5.setTop (mkF m 41 #[.val (.ref a0), .val (.ref a1)] [(.int (0 : Int32))])) (fun t k => ?_) ?_
      · show Steps p.tables e below (T5.setTop (mkF m 21 #[.val (.ref a0), .val (.ref a1)] [(.int (lcmpW u1 v1))])) t
        refine XS.ifYes X5.here hx rfl (pc0 := 21) (pc' := 40) rfl (hb hby d4_21) rfl ((if0 _ _).trans (tlt ((lw_lt u1 v1).mpr hc6)).1) (by decide) (by decide) ?_
        show Steps p.tables e below (T5.setTop (mkF m 40 #[.val (.ref a0), .val (.ref a1)] [])) t
        refine XS.iconst X5.here hx rfl (hb hby d4_40) ?_
        exact k
      obtain ⟨fs, hr, hrun, hended, hW, hsame⟩ := X5.leave (v := some (.int (0 : Int32))) (fun h => by rw [Bd.returns] at h; cases h)
      refine Goes.mk _ _ ?_ ⟨hrun, hended, _, _, rfl, ?_, ⟨_, rfl⟩, hW, hsame.mono (by decide) (by decide)⟩
      · exact retN X5 hx (t := .boolean) Bd.returns (by simp) (hb hby d4_41) hr
      · show Q4 Z a0 a1 u0 u1 u2 v0 v1 v2 h0 n0 _ T5.heap _
        rw [e5]
        exact ⟨(by simp only [f4, if_neg hc3, if_pos hc6]), N0, rfl⟩
    · refine Goes.by (B := T5.setTop (mkF m 25 #[.val (.ref a0), .val (.ref a1)] [(.ref a0)])) (fun t k => ?_) ?_
      · show Steps p.tables e below (T5.setTop (mkF m 21 #[.val (.ref a0), .val (.ref a1)] [(.int (lcmpW u1 v1))])) t
        refine XS.ifNo X5.here hx rfl (hb hby d4_21) rfl ((if0 _ _).trans (flt (fun z => hc6 ((lw_lt u1 v1).mp z))).1) ?_
        show Steps p.tables e below (T5.setTop (mkF m 24 #[.val (.ref a0), .val (.ref a1)] [])) t
        refine XS.aloadN X5.here hx rfl (hb hby d4_24) rfl rfl ?_
        exact k
      obtain ⟨T7, X7, e7, st7⟩ := getF X5 hx hZ hown (host := "") (Or.inl (hw _ (List.mem_of_getElem? (i := 18) rfl))) Via.refl e5 F2 (g := (mkF m 25 #[.val (.ref a0), .val (.ref a1)] [(.ref a0)])) rfl rfl (hb hby d4_25)
      refine Goes.by st7 ?_
      show Goes p.tables e below _ (T7.setTop (mkF m 28 #[.val (.ref a0), .val (.ref a1)] [(.long u2)]))
      refine Goes.by (B := T7.setTop (mkF m 29 #[.val (.ref a0), .val (.ref a1)] [(.ref a1), (.long u2)])) (fun t k => ?_) ?_
      · show Steps p.tables e below (T7.setTop (mkF m 28 #[.val (.ref a0), .val (.ref a1)] [(.long u2)])) t
        refine XS.aloadN X7.here hx rfl (hb hby d4_28) rfl rfl ?_
        exact k
      obtain ⟨T8, X8, e8, st8⟩ := getF X7 hx hZ hown (host := "") (Or.inl (hw _ (List.mem_of_getElem? (i := 18) rfl))) Via.refl e7 F5 (g := (mkF m 29 #[.val (.ref a0), .val (.ref a1)] [(.ref a1), (.long u2)])) rfl rfl (hb hby d4_29)
      refine Goes.by st8 ?_
      show Goes p.tables e below _ (T8.setTop (mkF m 32 #[.val (.ref a0), .val (.ref a1)] [(.long v2), (.long u2)]))
      refine Goes.by (B := T8.setTop (mkF m 33 #[.val (.ref a0), .val (.ref a1)] [(.int (lcmpW u2 v2))])) (fun t k => ?_) ?_
      · show Steps p.tables e below (T8.setTop (mkF m 32 #[.val (.ref a0), .val (.ref a1)] [(.long v2), (.long u2)])) t
        refine XS.lcmp X8.here hx rfl (hb hby d4_32) rfl ?_
        exact k
      by_cases hc9 : u2 < v2
      · refine Goes.by (B := T8.setTop (mkF m 41 #[.val (.ref a0), .val (.ref a1)] [(.int (0 : Int32))])) (fun t k => ?_) ?_
        · show Steps p.tables e below (T8.setTop (mkF m 33 #[.val (.ref a0), .val (.ref a1)] [(.int (lcmpW u2 v2))])) t
          refine XS.ifYes X8.here hx rfl (pc0 := 33) (pc' := 40) rfl (hb hby d4_33) rfl ((if0 _ _).trans (tlt ((lw_lt u2 v2).mpr hc9)).1) (by decide) (by decide) ?_
          show Steps p.tables e below (T8.setTop (mkF m 40 #[.val (.ref a0), .val (.ref a1)] [])) t
          refine XS.iconst X8.here hx rfl (hb hby d4_40) ?_
          exact k
        obtain ⟨fs, hr, hrun, hended, hW, hsame⟩ := X8.leave (v := some (.int (0 : Int32))) (fun h => by rw [Bd.returns] at h; cases h)
        refine Goes.mk _ _ ?_ ⟨hrun, hended, _, _, rfl, ?_, ⟨_, rfl⟩, hW, hsame.mono (by decide) (by decide)⟩
        · exact retN X8 hx (t := .boolean) Bd.returns (by simp) (hb hby d4_41) hr
        · show Q4 Z a0 a1 u0 u1 u2 v0 v1 v2 h0 n0 _ T8.heap _
          rw [e8]
          exact ⟨(by simp only [f4, if_neg hc3, if_neg hc6, if_pos hc9]), N0, rfl⟩
      · refine Goes.by (B := T8.setTop (mkF m 41 #[.val (.ref a0), .val (.ref a1)] [(.int (1 : Int32))])) (fun t k => ?_) ?_
        · show Steps p.tables e below (T8.setTop (mkF m 33 #[.val (.ref a0), .val (.ref a1)] [(.int (lcmpW u2 v2))])) t
          refine XS.ifNo X8.here hx rfl (hb hby d4_33) rfl ((if0 _ _).trans (flt (fun z => hc9 ((lw_lt u2 v2).mp z))).1) ?_
          show Steps p.tables e below (T8.setTop (mkF m 36 #[.val (.ref a0), .val (.ref a1)] [])) t
          refine XS.iconst X8.here hx rfl (hb hby d4_36) ?_
          show Steps p.tables e below (T8.setTop (mkF m 37 #[.val (.ref a0), .val (.ref a1)] [(.int (1 : Int32))])) t
          refine XS.goto X8.here hx rfl (pc0 := 37) (pc' := 41) rfl (hb hby d4_37) (by decide) (by decide) ?_
          exact k
        obtain ⟨fs, hr, hrun, hended, hW, hsame⟩ := X8.leave (v := some (.int (1 : Int32))) (fun h => by rw [Bd.returns] at h; cases h)
        refine Goes.mk _ _ ?_ ⟨hrun, hended, _, _, rfl, ?_, ⟨_, rfl⟩, hW, hsame.mono (by decide) (by decide)⟩
        · exact retN X8 hx (t := .boolean) Bd.returns (by simp) (hb hby d4_41) hr
        · show Q4 Z a0 a1 u0 u1 u2 v0 v1 v2 h0 n0 _ T8.heap _
          rw [e8]
          exact ⟨(by simp only [f4, if_neg hc3, if_neg hc6, if_neg hc9]), N0, rfl⟩
theorem own_self (a b c : Int64) : f4 a b c a b c = 1 := by
  have h : ∀ x : Int64, ¬ x < x := fun x => Int64.lt_irrefl
  simp only [f4, h, if_false]
theorem own_pd1 : parseMethodDescriptor "(JJJ)V" = some ⟨[.long, .long, .long], none⟩ := by decide +kernel
theorem own_pd2 : parseMethodDescriptor "(Lcom/example/allocat/allocat/core/Capacity;)Z" = some ⟨[(.object "com/example/allocat/allocat/core/Capacity")], some .boolean⟩ := by decide +kernel
theorem own_eq (q0 q1 q2 q3 q4 q5 : Int64) : (f4 q0 q1 q2 q3 q4 q5) = (if (if q2 < q5 then ((if q1 < q4 then ((if q0 < q3 then (1 : Int32) else (0 : Int32)) + (1 : Int32)) else (if q0 < q3 then (1 : Int32) else (0 : Int32))) + (1 : Int32)) else (if q1 < q4 then ((if q0 < q3 then (1 : Int32) else (0 : Int32)) + (1 : Int32)) else (if q0 < q3 then (1 : Int32) else (0 : Int32)))) = (0 : Int32) then (1 : Int32) else (0 : Int32)) := by
  unfold f4
  by_cases h0 : q0 < q3 <;> by_cases h1 : q1 < q4 <;> by_cases h2 : q2 < q5 <;> simp only [h0, h1, h2, if_true, if_false] <;> decide
def Q0 (Z : State) (q0 : Int64) (q1 : Int64) (q2 : Int64) (q3 : Int64) (q4 : Int64) (q5 : Int64) (h0 : Heap) (n0 : Nat) (v : Option Value) (h : Heap) (L : List Loc) : Prop := v = some (.int 1) ∧ Fr n0 L
theorem own_pn_com_example_allocat_allocat_core_CapacityCoversPinLaw : plainName "com/example/allocat/allocat/core/CapacityCoversPinLaw" = true := by first | (simp [plainName, overriddenIn]; done) | decide +kernel
theorem ef0 (m : MethodId) (x0 : Int64) (x1 : Int64) (x2 : Int64) (x3 : Int64) (x4 : Int64) (x5 : Int64) : entryFrame m #[(.long x0), (.long x1), (.long x2), (.long x3), (.long x4), (.long x5)] maxLocals = mkF m 0 #[.val (.long x0), .second, .val (.long x1), .second, .val (.long x2), .second, .val (.long x3), .second, .val (.long x4), .second, .val (.long x5), .second, .unset, .unset, .unset, .unset, .unset, .unset] [] := by first | (simp [entryFrame, mkF, argsToLocals, Value.category, maxLocals]; done) | rfl
set_option maxRecDepth 65536 in
set_option maxHeartbeats 40000000 in
theorem rm0 (l : Launch) (Z : State) (az : Array Value) (hw : ∀ d ∈ tables_1, d.before az Z = true) (ws : List Jvm.Cond) (q0 : Int64) (q1 : Int64) (q2 : Int64) (q3 : Int64) (q4 : Int64) (q5 : Int64) (h0 : Heap) (n0 : Nat) (Z0 : n0 ≤ h0.size) :
    MetFree l x (head1 (Jvm.Cond.code x code maxLocals ret :: ws) room_1) (fun a U => a = #[(.long q0), (.long q1), (.long q2), (.long q3), (.long q4), (.long q5)] ∧ Z.Warmed39 U.vm ∧ U.heap = h0) (fun _ _ _ _ _ => True) (fun _ U o U' => ∃ v L, o = .returned v ∧ Q0 Z q0 q1 q2 q3 q4 q5 h0 n0 v U'.heap L ∧ FrameEnd U o U' L 2 6) := by
  refine MetFree.of_bodySF (plainFor_of_name own_pn_com_example_allocat_allocat_core_CapacityCoversPinLaw) hisR ?_
  intro p e s m args below meth c s₁ Bd hml0 hP hK
  obtain ⟨rfl, hZ, hh⟩ := hP
  have hx := Bd.exec
  have hby := Bd.bytes
  have hml : c.maxLocals = 18 := hml0
  have hown : s.vm.findClass "com/example/allocat/allocat/core/CapacityCoversPinLaw" = some m.cls := findClass_of_methodNamed Bd.named
  have hnm := (name_of_methodNamed Bd.named Bd.method).1
  have X0 : Stand p l e room_1 s m #[(.long q0), (.long q1), (.long q2), (.long q3), (.long q4), (.long q5)] below meth c s₁ [] 0 0 := Stand.of_body Bd
  have e0 : s₁.heap = h0 := by rw [← hh, Bd.state]; rfl
  have N0 := Fr.nil n0
  have Kp0 : Keep h0 h0 [] := Keep.refl _ _
  refine Goes.start ?_
  refine Goes.by (B := s₁.setTop (mkF m 0 #[.val (.long q0), .second, .val (.long q1), .second, .val (.long q2), .second, .val (.long q3), .second, .val (.long q4), .second, .val (.long q5), .second, .unset, .unset, .unset, .unset, .unset, .unset] [])) (fun t k => castTop (ef0 m q0 q1 q2 q3 q4 q5) k) ?_
  obtain ⟨T1, h1, X1, e1, E1, A1, D1, -, st1⟩ := newO X0 hx hZ hown (hw _ (List.mem_of_getElem? (i := 0) rfl)) (hw _ (List.mem_of_getElem? (i := 1) rfl)) (hw _ (List.mem_of_getElem? (i := 2) rfl)) e0 (g := (mkF m 0 #[.val (.long q0), .second, .val (.long q1), .second, .val (.long q2), .second, .val (.long q3), .second, .val (.long q4), .second, .val (.long q5), .second, .unset, .unset, .unset, .unset, .unset, .unset] [])) rfl (hb hby at_0) (by decide) (by decide)
  obtain ⟨b2, g1⟩ : ∃ z, z = h0.size := ⟨_, rfl⟩
  rw [← g1] at A1 D1 st1
  have ge3 : n0 ≤ b2 := Nat.le_trans Z0 (Nat.le_of_eq g1.symm)
  have sz4 : h0.size ≤ b2 := Nat.le_trans Kp0.1 (Nat.le_of_eq g1.symm)
  have f5 : Fld Z h1 b2 "com/example/allocat/allocat/core/Capacity" "ram" "J" (.long (0 : Int64)) := D1 (Or.inr (hw _ (List.mem_of_getElem? (i := 15) rfl))) (ty := .long) (by decide)
  have f6 : Fld Z h1 b2 "com/example/allocat/allocat/core/Capacity" "disk" "J" (.long (0 : Int64)) := D1 (Or.inr (hw _ (List.mem_of_getElem? (i := 17) rfl))) (ty := .long) (by decide)
  have f7 : Fld Z h1 b2 "com/example/allocat/allocat/core/Capacity" "cpu" "J" (.long (0 : Int64)) := D1 (Or.inr (hw _ (List.mem_of_getElem? (i := 19) rfl))) (ty := .long) (by decide)
  have Kp1 : Keep h0 h1 [] := Kp0.ext E1
  have Z8 : n0 ≤ h1.size := Nat.le_trans Z0 E1.1
  refine Goes.by st1 ?_
  show Goes p.tables e below _ (T1.setTop (mkF m 3 #[.val (.long q0), .second, .val (.long q1), .second, .val (.long q2), .second, .val (.long q3), .second, .val (.long q4), .second, .val (.long q5), .second, .unset, .unset, .unset, .unset, .unset, .unset] [(.ref b2)]))
  refine Goes.by (B := T1.setTop (mkF m 8 #[.val (.long q0), .second, .val (.long q1), .second, .val (.long q2), .second, .val (.long q3), .second, .val (.long q4), .second, .val (.long q5), .second, .unset, .unset, .unset, .unset, .unset, .unset] [(.long q2), (.long q1), (.long q0), (.ref b2), (.ref b2)])) (fun t k => ?_) ?_
  · show Steps p.tables e below (T1.setTop (mkF m 3 #[.val (.long q0), .second, .val (.long q1), .second, .val (.long q2), .second, .val (.long q3), .second, .val (.long q4), .second, .val (.long q5), .second, .unset, .unset, .unset, .unset, .unset, .unset] [(.ref b2)])) t
    refine XS.dup X1.here hx rfl (hb hby at_3) rfl rfl ?_
    show Steps p.tables e below (T1.setTop (mkF m 4 #[.val (.long q0), .second, .val (.long q1), .second, .val (.long q2), .second, .val (.long q3), .second, .val (.long q4), .second, .val (.long q5), .second, .unset, .unset, .unset, .unset, .unset, .unset] [(.ref b2), (.ref b2)])) t
    refine XS.lloadN X1.here hx rfl (hb hby at_4) rfl ?_
    show Steps p.tables e below (T1.setTop (mkF m 5 #[.val (.long q0), .second, .val (.long q1), .second, .val (.long q2), .second, .val (.long q3), .second, .val (.long q4), .second, .val (.long q5), .second, .unset, .unset, .unset, .unset, .unset, .unset] [(.long q0), (.ref b2), (.ref b2)])) t
    refine XS.lloadN X1.here hx rfl (hb hby at_5) rfl ?_
    show Steps p.tables e below (T1.setTop (mkF m 6 #[.val (.long q0), .second, .val (.long q1), .second, .val (.long q2), .second, .val (.long q3), .second, .val (.long q4), .second, .val (.long q5), .second, .unset, .unset, .unset, .unset, .unset, .unset] [(.long q1), (.long q0), (.ref b2), (.ref b2)])) t
    refine XS.lload X1.here hx rfl (hb hby at_6) rfl ?_
    exact k
  obtain ⟨_, _, ⟨T9, L9, k9, n9⟩, -, X9, ⟨Lc9, hQ9, l9, y9, z9⟩, st9⟩ := X1.specialBack hx (y := (⟨"com/example/allocat/allocat/core/Capacity", "<init>", "(JJJ)V"⟩ : MethodName)) rfl hown (mvT hZ (hw _ (List.mem_of_getElem? (i := 3) rfl))) (mvT hZ (hw _ (List.mem_of_getElem? (i := 4) rfl))) (mvT hZ (hw _ (List.mem_of_getElem? (i := 5) rfl))) (by decide) (backOf (W := 1) (rm1 l Z az hw [] b2 q0 q1 q2 h1 n0 Z8 A1 f5 f6 f7 ge3) hZ (hw _ (List.mem_of_getElem? (i := 5) rfl)) (hw _ (List.mem_of_getElem? (i := 2) rfl)) (by decide) (by decide)) (g := (mkF m 8 #[.val (.long q0), .second, .val (.long q1), .second, .val (.long q2), .second, .val (.long q3), .second, .val (.long q4), .second, .val (.long q5), .second, .unset, .unset, .unset, .unset, .unset, .unset] [(.long q2), (.long q1), (.long q0), (.ref b2), (.ref b2)])) rfl (by rw [hml]; rfl) (Steps.refl _) (a := b2) (argsL := [(.long q0), (.long q1), (.long q2)]) (rest := [(.ref b2)]) (lenOf own_pd1 rfl) rfl (by show 2 * 0 + _ ≤ _; exact Nat.le_of_eq rfl) (hb hby at_8) (fun _ _ => ⟨rfl, e1, (by decide : 1 + 0 ≤ _), (by decide : 3 + 0 ≤ _)⟩)
  dsimp only [Pt.U, Pt.locs, Pt.cells, Pt.slots] at X9 l9 y9 z9 st9 hQ9
  subst l9 y9 z9
  obtain ⟨rfl, N9q, K9, f10, f11, f12, f13⟩ := hQ9
  have f14 : Exa Z T9.heap b2 "com/example/allocat/allocat/core/Capacity" := A1.keep K9
  have Kp9 : Keep h0 T9.heap [] := Kp1.trans K9 (allS (Or.inr sz4) all0)
  have Z15 : n0 ≤ T9.heap.size := Nat.le_trans Z8 K9.1
  have N16 := Fr.app N0 N9q
  refine Goes.by (fun _ k => st9.trans k) ?_
  show Goes p.tables e below _ (T9.setTop (mkF m 11 #[.val (.long q0), .second, .val (.long q1), .second, .val (.long q2), .second, .val (.long q3), .second, .val (.long q4), .second, .val (.long q5), .second, .unset, .unset, .unset, .unset, .unset, .unset] [(.ref b2)]))
  refine Goes.by (B := T9.setTop (mkF m 13 #[.val (.long q0), .second, .val (.long q1), .second, .val (.long q2), .second, .val (.long q3), .second, .val (.long q4), .second, .val (.long q5), .second, .val (.ref b2), .unset, .unset, .unset, .unset, .unset] [])) (fun t k => ?_) ?_
  · show Steps p.tables e below (T9.setTop (mkF m 11 #[.val (.long q0), .second, .val (.long q1), .second, .val (.long q2), .second, .val (.long q3), .second, .val (.long q4), .second, .val (.long q5), .second, .unset, .unset, .unset, .unset, .unset, .unset] [(.ref b2)])) t
    refine XS.astore X9.here hx rfl (hb hby at_11) rfl rfl (l' := #[.val (.long q0), .second, .val (.long q1), .second, .val (.long q2), .second, .val (.long q3), .second, .val (.long q4), .second, .val (.long q5), .second, .val (.ref b2), .unset, .unset, .unset, .unset, .unset]) rfl ?_
    exact k
  obtain ⟨T17, h17, X17, e17, E17, A17, D17, -, st17⟩ := newO X9 hx hZ hown (hw _ (List.mem_of_getElem? (i := 0) rfl)) (hw _ (List.mem_of_getElem? (i := 1) rfl)) (hw _ (List.mem_of_getElem? (i := 2) rfl)) rfl (g := (mkF m 13 #[.val (.long q0), .second, .val (.long q1), .second, .val (.long q2), .second, .val (.long q3), .second, .val (.long q4), .second, .val (.long q5), .second, .val (.ref b2), .unset, .unset, .unset, .unset, .unset] [])) rfl (hb hby at_13) (by decide) (by decide)
  obtain ⟨b18, g17⟩ : ∃ z, z = T9.heap.size := ⟨_, rfl⟩
  rw [← g17] at A17 D17 st17
  have ne19 : b2 ≠ b18 := Nat.ne_of_lt (Nat.lt_of_lt_of_le f10.lt (Nat.le_of_eq g17.symm))
  have ge20 : n0 ≤ b18 := Nat.le_trans Z15 (Nat.le_of_eq g17.symm)
  have sz21 : h0.size ≤ b18 := Nat.le_trans Kp9.1 (Nat.le_of_eq g17.symm)
  have f22 : Exa Z h17 b2 "com/example/allocat/allocat/core/Capacity" := f10.ext E17
  have f23 : Fld Z h17 b2 "com/example/allocat/allocat/core/Capacity" "ram" "J" (.long q0) := f11.ext E17
  have f24 : Fld Z h17 b2 "com/example/allocat/allocat/core/Capacity" "disk" "J" (.long q1) := f12.ext E17
  have f25 : Fld Z h17 b2 "com/example/allocat/allocat/core/Capacity" "cpu" "J" (.long q2) := f13.ext E17
  have f26 : Fld Z h17 b18 "com/example/allocat/allocat/core/Capacity" "ram" "J" (.long (0 : Int64)) := D17 (Or.inr (hw _ (List.mem_of_getElem? (i := 15) rfl))) (ty := .long) (by decide)
  have f27 : Fld Z h17 b18 "com/example/allocat/allocat/core/Capacity" "disk" "J" (.long (0 : Int64)) := D17 (Or.inr (hw _ (List.mem_of_getElem? (i := 17) rfl))) (ty := .long) (by decide)
  have f28 : Fld Z h17 b18 "com/example/allocat/allocat/core/Capacity" "cpu" "J" (.long (0 : Int64)) := D17 (Or.inr (hw _ (List.mem_of_getElem? (i := 19) rfl))) (ty := .long) (by decide)
  have Kp17 : Keep h0 h17 [] := Kp9.ext E17
  have Z29 : n0 ≤ h17.size := Nat.le_trans Z15 E17.1
  refine Goes.by st17 ?_
  show Goes p.tables e below _ (T17.setTop (mkF m 16 #[.val (.long q0), .second, .val (.long q1), .second, .val (.long q2), .second, .val (.long q3), .second, .val (.long q4), .second, .val (.long q5), .second, .val (.ref b2), .unset, .unset, .unset, .unset, .unset] [(.ref b18)]))
  refine Goes.by (B := T17.setTop (mkF m 23 #[.val (.long q0), .second, .val (.long q1), .second, .val (.long q2), .second, .val (.long q3), .second, .val (.long q4), .second, .val (.long q5), .second, .val (.ref b2), .unset, .unset, .unset, .unset, .unset] [(.long q5), (.long q4), (.long q3), (.ref b18), (.ref b18)])) (fun t k => ?_) ?_
  · show Steps p.tables e below (T17.setTop (mkF m 16 #[.val (.long q0), .second, .val (.long q1), .second, .val (.long q2), .second, .val (.long q3), .second, .val (.long q4), .second, .val (.long q5), .second, .val (.ref b2), .unset, .unset, .unset, .unset, .unset] [(.ref b18)])) t
    refine XS.dup X17.here hx rfl (hb hby at_16) rfl rfl ?_
    show Steps p.tables e below (T17.setTop (mkF m 17 #[.val (.long q0), .second, .val (.long q1), .second, .val (.long q2), .second, .val (.long q3), .second, .val (.long q4), .second, .val (.long q5), .second, .val (.ref b2), .unset, .unset, .unset, .unset, .unset] [(.ref b18), (.ref b18)])) t
    refine XS.lload X17.here hx rfl (hb hby at_17) rfl ?_
    show Steps p.tables e below (T17.setTop (mkF m 19 #[.val (.long q0), .second, .val (.long q1), .second, .val (.long q2), .second, .val (.long q3), .second, .val (.long q4), .second, .val (.long q5), .second, .val (.ref b2), .unset, .unset, .unset, .unset, .unset] [(.long q3), (.ref b18), (.ref b18)])) t
    refine XS.lload X17.here hx rfl (hb hby at_19) rfl ?_
    show Steps p.tables e below (T17.setTop (mkF m 21 #[.val (.long q0), .second, .val (.long q1), .second, .val (.long q2), .second, .val (.long q3), .second, .val (.long q4), .second, .val (.long q5), .second, .val (.ref b2), .unset, .unset, .unset, .unset, .unset] [(.long q4), (.long q3), (.ref b18), (.ref b18)])) t
    refine XS.lload X17.here hx rfl (hb hby at_21) rfl ?_
    exact k
  obtain ⟨_, _, ⟨T30, L30, k30, n30⟩, -, X30, ⟨Lc30, hQ30, l30, y30, z30⟩, st30⟩ := X17.specialBack hx (y := (⟨"com/example/allocat/allocat/core/Capacity", "<init>", "(JJJ)V"⟩ : MethodName)) rfl hown (mvT hZ (hw _ (List.mem_of_getElem? (i := 3) rfl))) (mvT hZ (hw _ (List.mem_of_getElem? (i := 4) rfl))) (mvT hZ (hw _ (List.mem_of_getElem? (i := 5) rfl))) (by decide) (backOf (W := 1) (rm1 l Z az hw [] b18 q3 q4 q5 h17 n0 Z29 A17 f26 f27 f28 ge20) hZ (hw _ (List.mem_of_getElem? (i := 5) rfl)) (hw _ (List.mem_of_getElem? (i := 2) rfl)) (by decide) (by decide)) (g := (mkF m 23 #[.val (.long q0), .second, .val (.long q1), .second, .val (.long q2), .second, .val (.long q3), .second, .val (.long q4), .second, .val (.long q5), .second, .val (.ref b2), .unset, .unset, .unset, .unset, .unset] [(.long q5), (.long q4), (.long q3), (.ref b18), (.ref b18)])) rfl (by rw [hml]; rfl) (Steps.refl _) (a := b18) (argsL := [(.long q3), (.long q4), (.long q5)]) (rest := [(.ref b18)]) (lenOf own_pd1 rfl) rfl (by show 2 * 0 + _ ≤ _; exact Nat.le_of_eq rfl) (hb hby at_23) (fun _ _ => ⟨rfl, e17, (by decide : 2 + 0 ≤ _), (by decide : 6 + 0 ≤ _)⟩)
  dsimp only [Pt.U, Pt.locs, Pt.cells, Pt.slots] at X30 l30 y30 z30 st30 hQ30
  subst l30 y30 z30
  obtain ⟨rfl, N30q, K30, f31, f32, f33, f34⟩ := hQ30
  have f35 : Exa Z T30.heap b2 "com/example/allocat/allocat/core/Capacity" := f22.keep K30
  have f36 : Fld Z T30.heap b2 "com/example/allocat/allocat/core/Capacity" "ram" "J" (.long q0) := f23.keep K30 (ninS ne19 nin0)
  have f37 : Fld Z T30.heap b2 "com/example/allocat/allocat/core/Capacity" "disk" "J" (.long q1) := f24.keep K30 (ninS ne19 nin0)
  have f38 : Fld Z T30.heap b2 "com/example/allocat/allocat/core/Capacity" "cpu" "J" (.long q2) := f25.keep K30 (ninS ne19 nin0)
  have f39 : Exa Z T30.heap b18 "com/example/allocat/allocat/core/Capacity" := A17.keep K30
  have Kp30 : Keep h0 T30.heap [] := Kp17.trans K30 (allS (Or.inr sz21) all0)
  have Z40 : n0 ≤ T30.heap.size := Nat.le_trans Z29 K30.1
  have N41 := Fr.app N16 N30q
  refine Goes.by (fun _ k => st30.trans k) ?_
  show Goes p.tables e below _ (T30.setTop (mkF m 26 #[.val (.long q0), .second, .val (.long q1), .second, .val (.long q2), .second, .val (.long q3), .second, .val (.long q4), .second, .val (.long q5), .second, .val (.ref b2), .unset, .unset, .unset, .unset, .unset] [(.ref b18)]))
  refine Goes.by (B := T30.setTop (mkF m 35 #[.val (.long q0), .second, .val (.long q1), .second, .val (.long q2), .second, .val (.long q3), .second, .val (.long q4), .second, .val (.long q5), .second, .val (.ref b2), .val (.ref b18), .val (.int (0 : Int32)), .unset, .unset, .unset] [(.int (lcmpW q0 q3))])) (fun t k => ?_) ?_
  · show Steps p.tables e below (T30.setTop (mkF m 26 #[.val (.long q0), .second, .val (.long q1), .second, .val (.long q2), .second, .val (.long q3), .second, .val (.long q4), .second, .val (.long q5), .second, .val (.ref b2), .unset, .unset, .unset, .unset, .unset] [(.ref b18)])) t
    refine XS.astore X30.here hx rfl (hb hby at_26) rfl rfl (l' := #[.val (.long q0), .second, .val (.long q1), .second, .val (.long q2), .second, .val (.long q3), .second, .val (.long q4), .second, .val (.long q5), .second, .val (.ref b2), .val (.ref b18), .unset, .unset, .unset, .unset]) rfl ?_
    show Steps p.tables e below (T30.setTop (mkF m 28 #[.val (.long q0), .second, .val (.long q1), .second, .val (.long q2), .second, .val (.long q3), .second, .val (.long q4), .second, .val (.long q5), .second, .val (.ref b2), .val (.ref b18), .unset, .unset, .unset, .unset] [])) t
    refine XS.iconst X30.here hx rfl (hb hby at_28) ?_
    show Steps p.tables e below (T30.setTop (mkF m 29 #[.val (.long q0), .second, .val (.long q1), .second, .val (.long q2), .second, .val (.long q3), .second, .val (.long q4), .second, .val (.long q5), .second, .val (.ref b2), .val (.ref b18), .unset, .unset, .unset, .unset] [(.int (0 : Int32))])) t
    refine XS.istore X30.here hx rfl (hb hby at_29) rfl (l' := #[.val (.long q0), .second, .val (.long q1), .second, .val (.long q2), .second, .val (.long q3), .second, .val (.long q4), .second, .val (.long q5), .second, .val (.ref b2), .val (.ref b18), .val (.int (0 : Int32)), .unset, .unset, .unset]) rfl ?_
    show Steps p.tables e below (T30.setTop (mkF m 31 #[.val (.long q0), .second, .val (.long q1), .second, .val (.long q2), .second, .val (.long q3), .second, .val (.long q4), .second, .val (.long q5), .second, .val (.ref b2), .val (.ref b18), .val (.int (0 : Int32)), .unset, .unset, .unset] [])) t
    refine XS.lloadN X30.here hx rfl (hb hby at_31) rfl ?_
    show Steps p.tables e below (T30.setTop (mkF m 32 #[.val (.long q0), .second, .val (.long q1), .second, .val (.long q2), .second, .val (.long q3), .second, .val (.long q4), .second, .val (.long q5), .second, .val (.ref b2), .val (.ref b18), .val (.int (0 : Int32)), .unset, .unset, .unset] [(.long q0)])) t
    refine XS.lload X30.here hx rfl (hb hby at_32) rfl ?_
    show Steps p.tables e below (T30.setTop (mkF m 34 #[.val (.long q0), .second, .val (.long q1), .second, .val (.long q2), .second, .val (.long q3), .second, .val (.long q4), .second, .val (.long q5), .second, .val (.ref b2), .val (.ref b18), .val (.int (0 : Int32)), .unset, .unset, .unset] [(.long q3), (.long q0)])) t
    refine XS.lcmp X30.here hx rfl (hb hby at_34) rfl ?_
    exact k
  refine Goes.by (B := T30.setTop (mkF m 44 #[.val (.long q0), .second, .val (.long q1), .second, .val (.long q2), .second, .val (.long q3), .second, .val (.long q4), .second, .val (.long q5), .second, .val (.ref b2), .val (.ref b18), .val (.int (if q0 < q3 then (1 : Int32) else (0 : Int32))), .unset, .unset, .unset] [])) (fun t k => ?_) ?_
  · by_cases hm42 : q0 < q3
    · simp only [if_pos hm42] at k
      show Steps p.tables e below (T30.setTop (mkF m 35 #[.val (.long q0), .second, .val (.long q1), .second, .val (.long q2), .second, .val (.long q3), .second, .val (.long q4), .second, .val (.long q5), .second, .val (.ref b2), .val (.ref b18), .val (.int (0 : Int32)), .unset, .unset, .unset] [(.int (lcmpW q0 q3))])) t
      refine XS.ifNo X30.here hx rfl (hb hby at_35) rfl ((if0 _ _).trans (tlt ((lw_lt q0 q3).mpr hm42)).2.1) ?_
      show Steps p.tables e below (T30.setTop (mkF m 38 #[.val (.long q0), .second, .val (.long q1), .second, .val (.long q2), .second, .val (.long q3), .second, .val (.long q4), .second, .val (.long q5), .second, .val (.ref b2), .val (.ref b18), .val (.int (0 : Int32)), .unset, .unset, .unset] [])) t
      refine XS.iload X30.here hx rfl (hb hby at_38) rfl ?_
      show Steps p.tables e below (T30.setTop (mkF m 40 #[.val (.long q0), .second, .val (.long q1), .second, .val (.long q2), .second, .val (.long q3), .second, .val (.long q4), .second, .val (.long q5), .second, .val (.ref b2), .val (.ref b18), .val (.int (0 : Int32)), .unset, .unset, .unset] [(.int (0 : Int32))])) t
      refine XS.iconst X30.here hx rfl (hb hby at_40) ?_
      show Steps p.tables e below (T30.setTop (mkF m 41 #[.val (.long q0), .second, .val (.long q1), .second, .val (.long q2), .second, .val (.long q3), .second, .val (.long q4), .second, .val (.long q5), .second, .val (.ref b2), .val (.ref b18), .val (.int (0 : Int32)), .unset, .unset, .unset] [(.int (1 : Int32)), (.int (0 : Int32))])) t
      refine XS.iadd X30.here hx rfl (hb hby at_41) rfl ?_
      show Steps p.tables e below (T30.setTop (mkF m 42 #[.val (.long q0), .second, .val (.long q1), .second, .val (.long q2), .second, .val (.long q3), .second, .val (.long q4), .second, .val (.long q5), .second, .val (.ref b2), .val (.ref b18), .val (.int (0 : Int32)), .unset, .unset, .unset] [(.int (1 : Int32))])) t
      refine XS.istore X30.here hx rfl (hb hby at_42) rfl (l' := #[.val (.long q0), .second, .val (.long q1), .second, .val (.long q2), .second, .val (.long q3), .second, .val (.long q4), .second, .val (.long q5), .second, .val (.ref b2), .val (.ref b18), .val (.int (1 : Int32)), .unset, .unset, .unset]) rfl ?_
      exact k
    · simp only [if_neg hm42] at k
      show Steps p.tables e below (T30.setTop (mkF m 35 #[.val (.long q0), .second, .val (.long q1), .second, .val (.long q2), .second, .val (.long q3), .second, .val (.long q4), .second, .val (.long q5), .second, .val (.ref b2), .val (.ref b18), .val (.int (0 : Int32)), .unset, .unset, .unset] [(.int (lcmpW q0 q3))])) t
      refine XS.ifYes X30.here hx rfl (pc0 := 35) (pc' := 44) rfl (hb hby at_35) rfl ((if0 _ _).trans (flt (fun z => hm42 ((lw_lt q0 q3).mp z))).2.1) (by decide) (by decide) ?_
      exact k
  refine Goes.by (B := T30.setTop (mkF m 48 #[.val (.long q0), .second, .val (.long q1), .second, .val (.long q2), .second, .val (.long q3), .second, .val (.long q4), .second, .val (.long q5), .second, .val (.ref b2), .val (.ref b18), .val (.int (if q0 < q3 then (1 : Int32) else (0 : Int32))), .unset, .unset, .unset] [(.int (lcmpW q1 q4))])) (fun t k => ?_) ?_
  · show Steps p.tables e below (T30.setTop (mkF m 44 #[.val (.long q0), .second, .val (.long q1), .second, .val (.long q2), .second, .val (.long q3), .second, .val (.long q4), .second, .val (.long q5), .second, .val (.ref b2), .val (.ref b18), .val (.int (if q0 < q3 then (1 : Int32) else (0 : Int32))), .unset, .unset, .unset] [])) t
    refine XS.lloadN X30.here hx rfl (hb hby at_44) rfl ?_
    show Steps p.tables e below (T30.setTop (mkF m 45 #[.val (.long q0), .second, .val (.long q1), .second, .val (.long q2), .second, .val (.long q3), .second, .val (.long q4), .second, .val (.long q5), .second, .val (.ref b2), .val (.ref b18), .val (.int (if q0 < q3 then (1 : Int32) else (0 : Int32))), .unset, .unset, .unset] [(.long q1)])) t
    refine XS.lload X30.here hx rfl (hb hby at_45) rfl ?_
    show Steps p.tables e below (T30.setTop (mkF m 47 #[.val (.long q0), .second, .val (.long q1), .second, .val (.long q2), .second, .val (.long q3), .second, .val (.long q4), .second, .val (.long q5), .second, .val (.ref b2), .val (.ref b18), .val (.int (if q0 < q3 then (1 : Int32) else (0 : Int32))), .unset, .unset, .unset] [(.long q4), (.long q1)])) t
    refine XS.lcmp X30.here hx rfl (hb hby at_47) rfl ?_
    exact k
  refine Goes.by (B := T30.setTop (mkF m 57 #[.val (.long q0), .second, .val (.long q1), .second, .val (.long q2), .second, .val (.long q3), .second, .val (.long q4), .second, .val (.long q5), .second, .val (.ref b2), .val (.ref b18), .val (.int (if q1 < q4 then ((if q0 < q3 then (1 : Int32) else (0 : Int32)) + (1 : Int32)) else (if q0 < q3 then (1 : Int32) else (0 : Int32)))), .unset, .unset, .unset] [])) (fun t k => ?_) ?_
  · by_cases hm43 : q1 < q4
    · simp only [if_pos hm43] at k
      show Steps p.tables e below (T30.setTop (mkF m 48 #[.val (.long q0), .second, .val (.long q1), .second, .val (.long q2), .second, .val (.long q3), .second, .val (.long q4), .second, .val (.long q5), .second, .val (.ref b2), .val (.ref b18), .val (.int (if q0 < q3 then (1 : Int32) else (0 : Int32))), .unset, .unset, .unset] [(.int (lcmpW q1 q4))])) t
      refine XS.ifNo X30.here hx rfl (hb hby at_48) rfl ((if0 _ _).trans (tlt ((lw_lt q1 q4).mpr hm43)).2.1) ?_
      show Steps p.tables e below (T30.setTop (mkF m 51 #[.val (.long q0), .second, .val (.long q1), .second, .val (.long q2), .second, .val (.long q3), .second, .val (.long q4), .second, .val (.long q5), .second, .val (.ref b2), .val (.ref b18), .val (.int (if q0 < q3 then (1 : Int32) else (0 : Int32))), .unset, .unset, .unset] [])) t
      refine XS.iload X30.here hx rfl (hb hby at_51) rfl ?_
      show Steps p.tables e below (T30.setTop (mkF m 53 #[.val (.long q0), .second, .val (.long q1), .second, .val (.long q2), .second, .val (.long q3), .second, .val (.long q4), .second, .val (.long q5), .second, .val (.ref b2), .val (.ref b18), .val (.int (if q0 < q3 then (1 : Int32) else (0 : Int32))), .unset, .unset, .unset] [(.int (if q0 < q3 then (1 : Int32) else (0 : Int32)))])) t
      refine XS.iconst X30.here hx rfl (hb hby at_53) ?_
      show Steps p.tables e below (T30.setTop (mkF m 54 #[.val (.long q0), .second, .val (.long q1), .second, .val (.long q2), .second, .val (.long q3), .second, .val (.long q4), .second, .val (.long q5), .second, .val (.ref b2), .val (.ref b18), .val (.int (if q0 < q3 then (1 : Int32) else (0 : Int32))), .unset, .unset, .unset] [(.int (1 : Int32)), (.int (if q0 < q3 then (1 : Int32) else (0 : Int32)))])) t
      refine XS.iadd X30.here hx rfl (hb hby at_54) rfl ?_
      show Steps p.tables e below (T30.setTop (mkF m 55 #[.val (.long q0), .second, .val (.long q1), .second, .val (.long q2), .second, .val (.long q3), .second, .val (.long q4), .second, .val (.long q5), .second, .val (.ref b2), .val (.ref b18), .val (.int (if q0 < q3 then (1 : Int32) else (0 : Int32))), .unset, .unset, .unset] [(.int ((if q0 < q3 then (1 : Int32) else (0 : Int32)) + (1 : Int32)))])) t
      refine XS.istore X30.here hx rfl (hb hby at_55) rfl (l' := #[.val (.long q0), .second, .val (.long q1), .second, .val (.long q2), .second, .val (.long q3), .second, .val (.long q4), .second, .val (.long q5), .second, .val (.ref b2), .val (.ref b18), .val (.int ((if q0 < q3 then (1 : Int32) else (0 : Int32)) + (1 : Int32))), .unset, .unset, .unset]) rfl ?_
      exact k
    · simp only [if_neg hm43] at k
      show Steps p.tables e below (T30.setTop (mkF m 48 #[.val (.long q0), .second, .val (.long q1), .second, .val (.long q2), .second, .val (.long q3), .second, .val (.long q4), .second, .val (.long q5), .second, .val (.ref b2), .val (.ref b18), .val (.int (if q0 < q3 then (1 : Int32) else (0 : Int32))), .unset, .unset, .unset] [(.int (lcmpW q1 q4))])) t
      refine XS.ifYes X30.here hx rfl (pc0 := 48) (pc' := 57) rfl (hb hby at_48) rfl ((if0 _ _).trans (flt (fun z => hm43 ((lw_lt q1 q4).mp z))).2.1) (by decide) (by decide) ?_
      exact k
  refine Goes.by (B := T30.setTop (mkF m 62 #[.val (.long q0), .second, .val (.long q1), .second, .val (.long q2), .second, .val (.long q3), .second, .val (.long q4), .second, .val (.long q5), .second, .val (.ref b2), .val (.ref b18), .val (.int (if q1 < q4 then ((if q0 < q3 then (1 : Int32) else (0 : Int32)) + (1 : Int32)) else (if q0 < q3 then (1 : Int32) else (0 : Int32)))), .unset, .unset, .unset] [(.int (lcmpW q2 q5))])) (fun t k => ?_) ?_
  · show Steps p.tables e below (T30.setTop (mkF m 57 #[.val (.long q0), .second, .val (.long q1), .second, .val (.long q2), .second, .val (.long q3), .second, .val (.long q4), .second, .val (.long q5), .second, .val (.ref b2), .val (.ref b18), .val (.int (if q1 < q4 then ((if q0 < q3 then (1 : Int32) else (0 : Int32)) + (1 : Int32)) else (if q0 < q3 then (1 : Int32) else (0 : Int32)))), .unset, .unset, .unset] [])) t
    refine XS.lload X30.here hx rfl (hb hby at_57) rfl ?_
    show Steps p.tables e below (T30.setTop (mkF m 59 #[.val (.long q0), .second, .val (.long q1), .second, .val (.long q2), .second, .val (.long q3), .second, .val (.long q4), .second, .val (.long q5), .second, .val (.ref b2), .val (.ref b18), .val (.int (if q1 < q4 then ((if q0 < q3 then (1 : Int32) else (0 : Int32)) + (1 : Int32)) else (if q0 < q3 then (1 : Int32) else (0 : Int32)))), .unset, .unset, .unset] [(.long q2)])) t
    refine XS.lload X30.here hx rfl (hb hby at_59) rfl ?_
    show Steps p.tables e below (T30.setTop (mkF m 61 #[.val (.long q0), .second, .val (.long q1), .second, .val (.long q2), .second, .val (.long q3), .second, .val (.long q4), .second, .val (.long q5), .second, .val (.ref b2), .val (.ref b18), .val (.int (if q1 < q4 then ((if q0 < q3 then (1 : Int32) else (0 : Int32)) + (1 : Int32)) else (if q0 < q3 then (1 : Int32) else (0 : Int32)))), .unset, .unset, .unset] [(.long q5), (.long q2)])) t
    refine XS.lcmp X30.here hx rfl (hb hby at_61) rfl ?_
    exact k
  refine Goes.by (B := T30.setTop (mkF m 71 #[.val (.long q0), .second, .val (.long q1), .second, .val (.long q2), .second, .val (.long q3), .second, .val (.long q4), .second, .val (.long q5), .second, .val (.ref b2), .val (.ref b18), .val (.int (if q2 < q5 then ((if q1 < q4 then ((if q0 < q3 then (1 : Int32) else (0 : Int32)) + (1 : Int32)) else (if q0 < q3 then (1 : Int32) else (0 : Int32))) + (1 : Int32)) else (if q1 < q4 then ((if q0 < q3 then (1 : Int32) else (0 : Int32)) + (1 : Int32)) else (if q0 < q3 then (1 : Int32) else (0 : Int32))))), .unset, .unset, .unset] [])) (fun t k => ?_) ?_
  · by_cases hm44 : q2 < q5
    · simp only [if_pos hm44] at k
      show Steps p.tables e below (T30.setTop (mkF m 62 #[.val (.long q0), .second, .val (.long q1), .second, .val (.long q2), .second, .val (.long q3), .second, .val (.long q4), .second, .val (.long q5), .second, .val (.ref b2), .val (.ref b18), .val (.int (if q1 < q4 then ((if q0 < q3 then (1 : Int32) else (0 : Int32)) + (1 : Int32)) else (if q0 < q3 then (1 : Int32) else (0 : Int32)))), .unset, .unset, .unset] [(.int (lcmpW q2 q5))])) t
      refine XS.ifNo X30.here hx rfl (hb hby at_62) rfl ((if0 _ _).trans (tlt ((lw_lt q2 q5).mpr hm44)).2.1) ?_
      show Steps p.tables e below (T30.setTop (mkF m 65 #[.val (.long q0), .second, .val (.long q1), .second, .val (.long q2), .second, .val (.long q3), .second, .val (.long q4), .second, .val (.long q5), .second, .val (.ref b2), .val (.ref b18), .val (.int (if q1 < q4 then ((if q0 < q3 then (1 : Int32) else (0 : Int32)) + (1 : Int32)) else (if q0 < q3 then (1 : Int32) else (0 : Int32)))), .unset, .unset, .unset] [])) t
      refine XS.iload X30.here hx rfl (hb hby at_65) rfl ?_
      show Steps p.tables e below (T30.setTop (mkF m 67 #[.val (.long q0), .second, .val (.long q1), .second, .val (.long q2), .second, .val (.long q3), .second, .val (.long q4), .second, .val (.long q5), .second, .val (.ref b2), .val (.ref b18), .val (.int (if q1 < q4 then ((if q0 < q3 then (1 : Int32) else (0 : Int32)) + (1 : Int32)) else (if q0 < q3 then (1 : Int32) else (0 : Int32)))), .unset, .unset, .unset] [(.int (if q1 < q4 then ((if q0 < q3 then (1 : Int32) else (0 : Int32)) + (1 : Int32)) else (if q0 < q3 then (1 : Int32) else (0 : Int32))))])) t
      refine XS.iconst X30.here hx rfl (hb hby at_67) ?_
      show Steps p.tables e below (T30.setTop (mkF m 68 #[.val (.long q0), .second, .val (.long q1), .second, .val (.long q2), .second, .val (.long q3), .second, .val (.long q4), .second, .val (.long q5), .second, .val (.ref b2), .val (.ref b18), .val (.int (if q1 < q4 then ((if q0 < q3 then (1 : Int32) else (0 : Int32)) + (1 : Int32)) else (if q0 < q3 then (1 : Int32) else (0 : Int32)))), .unset, .unset, .unset] [(.int (1 : Int32)), (.int (if q1 < q4 then ((if q0 < q3 then (1 : Int32) else (0 : Int32)) + (1 : Int32)) else (if q0 < q3 then (1 : Int32) else (0 : Int32))))])) t
      refine XS.iadd X30.here hx rfl (hb hby at_68) rfl ?_
      show Steps p.tables e below (T30.setTop (mkF m 69 #[.val (.long q0), .second, .val (.long q1), .second, .val (.long q2), .second, .val (.long q3), .second, .val (.long q4), .second, .val (.long q5), .second, .val (.ref b2), .val (.ref b18), .val (.int (if q1 < q4 then ((if q0 < q3 then (1 : Int32) else (0 : Int32)) + (1 : Int32)) else (if q0 < q3 then (1 : Int32) else (0 : Int32)))), .unset, .unset, .unset] [(.int ((if q1 < q4 then ((if q0 < q3 then (1 : Int32) else (0 : Int32)) + (1 : Int32)) else (if q0 < q3 then (1 : Int32) else (0 : Int32))) + (1 : Int32)))])) t
      refine XS.istore X30.here hx rfl (hb hby at_69) rfl (l' := #[.val (.long q0), .second, .val (.long q1), .second, .val (.long q2), .second, .val (.long q3), .second, .val (.long q4), .second, .val (.long q5), .second, .val (.ref b2), .val (.ref b18), .val (.int ((if q1 < q4 then ((if q0 < q3 then (1 : Int32) else (0 : Int32)) + (1 : Int32)) else (if q0 < q3 then (1 : Int32) else (0 : Int32))) + (1 : Int32))), .unset, .unset, .unset]) rfl ?_
      exact k
    · simp only [if_neg hm44] at k
      show Steps p.tables e below (T30.setTop (mkF m 62 #[.val (.long q0), .second, .val (.long q1), .second, .val (.long q2), .second, .val (.long q3), .second, .val (.long q4), .second, .val (.long q5), .second, .val (.ref b2), .val (.ref b18), .val (.int (if q1 < q4 then ((if q0 < q3 then (1 : Int32) else (0 : Int32)) + (1 : Int32)) else (if q0 < q3 then (1 : Int32) else (0 : Int32)))), .unset, .unset, .unset] [(.int (lcmpW q2 q5))])) t
      refine XS.ifYes X30.here hx rfl (pc0 := 62) (pc' := 71) rfl (hb hby at_62) rfl ((if0 _ _).trans (flt (fun z => hm44 ((lw_lt q2 q5).mp z))).2.1) (by decide) (by decide) ?_
      exact k
  refine Goes.by (B := T30.setTop (mkF m 73 #[.val (.long q0), .second, .val (.long q1), .second, .val (.long q2), .second, .val (.long q3), .second, .val (.long q4), .second, .val (.long q5), .second, .val (.ref b2), .val (.ref b18), .val (.int (if q2 < q5 then ((if q1 < q4 then ((if q0 < q3 then (1 : Int32) else (0 : Int32)) + (1 : Int32)) else (if q0 < q3 then (1 : Int32) else (0 : Int32))) + (1 : Int32)) else (if q1 < q4 then ((if q0 < q3 then (1 : Int32) else (0 : Int32)) + (1 : Int32)) else (if q0 < q3 then (1 : Int32) else (0 : Int32))))), .unset, .unset, .unset] [(.int (if q2 < q5 then ((if q1 < q4 then ((if q0 < q3 then (1 : Int32) else (0 : Int32)) + (1 : Int32)) else (if q0 < q3 then (1 : Int32) else (0 : Int32))) + (1 : Int32)) else (if q1 < q4 then ((if q0 < q3 then (1 : Int32) else (0 : Int32)) + (1 : Int32)) else (if q0 < q3 then (1 : Int32) else (0 : Int32)))))])) (fun t k => ?_) ?_
  · show Steps p.tables e below (T30.setTop (mkF m 71 #[.val (.long q0), .second, .val (.long q1), .second, .val (.long q2), .second, .val (.long q3), .second, .val (.long q4), .second, .val (.long q5), .second, .val (.ref b2), .val (.ref b18), .val (.int (if q2 < q5 then ((if q1 < q4 then ((if q0 < q3 then (1 : Int32) else (0 : Int32)) + (1 : Int32)) else (if q0 < q3 then (1 : Int32) else (0 : Int32))) + (1 : Int32)) else (if q1 < q4 then ((if q0 < q3 then (1 : Int32) else (0 : Int32)) + (1 : Int32)) else (if q0 < q3 then (1 : Int32) else (0 : Int32))))), .unset, .unset, .unset] [])) t
    refine XS.iload X30.here hx rfl (hb hby at_71) rfl ?_
    exact k
  refine Goes.by (B := T30.setTop (mkF m 81 #[.val (.long q0), .second, .val (.long q1), .second, .val (.long q2), .second, .val (.long q3), .second, .val (.long q4), .second, .val (.long q5), .second, .val (.ref b2), .val (.ref b18), .val (.int (if q2 < q5 then ((if q1 < q4 then ((if q0 < q3 then (1 : Int32) else (0 : Int32)) + (1 : Int32)) else (if q0 < q3 then (1 : Int32) else (0 : Int32))) + (1 : Int32)) else (if q1 < q4 then ((if q0 < q3 then (1 : Int32) else (0 : Int32)) + (1 : Int32)) else (if q0 < q3 then (1 : Int32) else (0 : Int32))))), .unset, .unset, .unset] [(.int (if (if q2 < q5 then ((if q1 < q4 then ((if q0 < q3 then (1 : Int32) else (0 : Int32)) + (1 : Int32)) else (if q0 < q3 then (1 : Int32) else (0 : Int32))) + (1 : Int32)) else (if q1 < q4 then ((if q0 < q3 then (1 : Int32) else (0 : Int32)) + (1 : Int32)) else (if q0 < q3 then (1 : Int32) else (0 : Int32)))) = (0 : Int32) then (1 : Int32) else (0 : Int32)))])) (fun t k => ?_) ?_
  · by_cases hm45 : (if q2 < q5 then ((if q1 < q4 then ((if q0 < q3 then (1 : Int32) else (0 : Int32)) + (1 : Int32)) else (if q0 < q3 then (1 : Int32) else (0 : Int32))) + (1 : Int32)) else (if q1 < q4 then ((if q0 < q3 then (1 : Int32) else (0 : Int32)) + (1 : Int32)) else (if q0 < q3 then (1 : Int32) else (0 : Int32)))) = (0 : Int32)
    · simp only [if_pos hm45] at k
      show Steps p.tables e below (T30.setTop (mkF m 73 #[.val (.long q0), .second, .val (.long q1), .second, .val (.long q2), .second, .val (.long q3), .second, .val (.long q4), .second, .val (.long q5), .second, .val (.ref b2), .val (.ref b18), .val (.int (if q2 < q5 then ((if q1 < q4 then ((if q0 < q3 then (1 : Int32) else (0 : Int32)) + (1 : Int32)) else (if q0 < q3 then (1 : Int32) else (0 : Int32))) + (1 : Int32)) else (if q1 < q4 then ((if q0 < q3 then (1 : Int32) else (0 : Int32)) + (1 : Int32)) else (if q0 < q3 then (1 : Int32) else (0 : Int32))))), .unset, .unset, .unset] [(.int (if q2 < q5 then ((if q1 < q4 then ((if q0 < q3 then (1 : Int32) else (0 : Int32)) + (1 : Int32)) else (if q0 < q3 then (1 : Int32) else (0 : Int32))) + (1 : Int32)) else (if q1 < q4 then ((if q0 < q3 then (1 : Int32) else (0 : Int32)) + (1 : Int32)) else (if q0 < q3 then (1 : Int32) else (0 : Int32)))))])) t
      refine XS.ifNo X30.here hx rfl (hb hby at_73) rfl ((if0 _ _).trans (teq hm45).2) ?_
      show Steps p.tables e below (T30.setTop (mkF m 76 #[.val (.long q0), .second, .val (.long q1), .second, .val (.long q2), .second, .val (.long q3), .second, .val (.long q4), .second, .val (.long q5), .second, .val (.ref b2), .val (.ref b18), .val (.int (if q2 < q5 then ((if q1 < q4 then ((if q0 < q3 then (1 : Int32) else (0 : Int32)) + (1 : Int32)) else (if q0 < q3 then (1 : Int32) else (0 : Int32))) + (1 : Int32)) else (if q1 < q4 then ((if q0 < q3 then (1 : Int32) else (0 : Int32)) + (1 : Int32)) else (if q0 < q3 then (1 : Int32) else (0 : Int32))))), .unset, .unset, .unset] [])) t
      refine XS.iconst X30.here hx rfl (hb hby at_76) ?_
      show Steps p.tables e below (T30.setTop (mkF m 77 #[.val (.long q0), .second, .val (.long q1), .second, .val (.long q2), .second, .val (.long q3), .second, .val (.long q4), .second, .val (.long q5), .second, .val (.ref b2), .val (.ref b18), .val (.int (if q2 < q5 then ((if q1 < q4 then ((if q0 < q3 then (1 : Int32) else (0 : Int32)) + (1 : Int32)) else (if q0 < q3 then (1 : Int32) else (0 : Int32))) + (1 : Int32)) else (if q1 < q4 then ((if q0 < q3 then (1 : Int32) else (0 : Int32)) + (1 : Int32)) else (if q0 < q3 then (1 : Int32) else (0 : Int32))))), .unset, .unset, .unset] [(.int (1 : Int32))])) t
      refine XS.goto X30.here hx rfl (pc0 := 77) (pc' := 81) rfl (hb hby at_77) (by decide) (by decide) ?_
      exact k
    · simp only [if_neg hm45] at k
      show Steps p.tables e below (T30.setTop (mkF m 73 #[.val (.long q0), .second, .val (.long q1), .second, .val (.long q2), .second, .val (.long q3), .second, .val (.long q4), .second, .val (.long q5), .second, .val (.ref b2), .val (.ref b18), .val (.int (if q2 < q5 then ((if q1 < q4 then ((if q0 < q3 then (1 : Int32) else (0 : Int32)) + (1 : Int32)) else (if q0 < q3 then (1 : Int32) else (0 : Int32))) + (1 : Int32)) else (if q1 < q4 then ((if q0 < q3 then (1 : Int32) else (0 : Int32)) + (1 : Int32)) else (if q0 < q3 then (1 : Int32) else (0 : Int32))))), .unset, .unset, .unset] [(.int (if q2 < q5 then ((if q1 < q4 then ((if q0 < q3 then (1 : Int32) else (0 : Int32)) + (1 : Int32)) else (if q0 < q3 then (1 : Int32) else (0 : Int32))) + (1 : Int32)) else (if q1 < q4 then ((if q0 < q3 then (1 : Int32) else (0 : Int32)) + (1 : Int32)) else (if q0 < q3 then (1 : Int32) else (0 : Int32)))))])) t
      refine XS.ifYes X30.here hx rfl (pc0 := 73) (pc' := 80) rfl (hb hby at_73) rfl ((if0 _ _).trans (feq hm45).2) (by decide) (by decide) ?_
      show Steps p.tables e below (T30.setTop (mkF m 80 #[.val (.long q0), .second, .val (.long q1), .second, .val (.long q2), .second, .val (.long q3), .second, .val (.long q4), .second, .val (.long q5), .second, .val (.ref b2), .val (.ref b18), .val (.int (if q2 < q5 then ((if q1 < q4 then ((if q0 < q3 then (1 : Int32) else (0 : Int32)) + (1 : Int32)) else (if q0 < q3 then (1 : Int32) else (0 : Int32))) + (1 : Int32)) else (if q1 < q4 then ((if q0 < q3 then (1 : Int32) else (0 : Int32)) + (1 : Int32)) else (if q0 < q3 then (1 : Int32) else (0 : Int32))))), .unset, .unset, .unset] [])) t
      refine XS.iconst X30.here hx rfl (hb hby at_80) ?_
      exact k
  refine Goes.by (B := T30.setTop (mkF m 87 #[.val (.long q0), .second, .val (.long q1), .second, .val (.long q2), .second, .val (.long q3), .second, .val (.long q4), .second, .val (.long q5), .second, .val (.ref b2), .val (.ref b18), .val (.int (if q2 < q5 then ((if q1 < q4 then ((if q0 < q3 then (1 : Int32) else (0 : Int32)) + (1 : Int32)) else (if q0 < q3 then (1 : Int32) else (0 : Int32))) + (1 : Int32)) else (if q1 < q4 then ((if q0 < q3 then (1 : Int32) else (0 : Int32)) + (1 : Int32)) else (if q0 < q3 then (1 : Int32) else (0 : Int32))))), .val (.int (if (if q2 < q5 then ((if q1 < q4 then ((if q0 < q3 then (1 : Int32) else (0 : Int32)) + (1 : Int32)) else (if q0 < q3 then (1 : Int32) else (0 : Int32))) + (1 : Int32)) else (if q1 < q4 then ((if q0 < q3 then (1 : Int32) else (0 : Int32)) + (1 : Int32)) else (if q0 < q3 then (1 : Int32) else (0 : Int32)))) = (0 : Int32) then (1 : Int32) else (0 : Int32))), .unset, .unset] [(.ref b18), (.ref b2)])) (fun t k => ?_) ?_
  · show Steps p.tables e below (T30.setTop (mkF m 81 #[.val (.long q0), .second, .val (.long q1), .second, .val (.long q2), .second, .val (.long q3), .second, .val (.long q4), .second, .val (.long q5), .second, .val (.ref b2), .val (.ref b18), .val (.int (if q2 < q5 then ((if q1 < q4 then ((if q0 < q3 then (1 : Int32) else (0 : Int32)) + (1 : Int32)) else (if q0 < q3 then (1 : Int32) else (0 : Int32))) + (1 : Int32)) else (if q1 < q4 then ((if q0 < q3 then (1 : Int32) else (0 : Int32)) + (1 : Int32)) else (if q0 < q3 then (1 : Int32) else (0 : Int32))))), .unset, .unset, .unset] [(.int (if (if q2 < q5 then ((if q1 < q4 then ((if q0 < q3 then (1 : Int32) else (0 : Int32)) + (1 : Int32)) else (if q0 < q3 then (1 : Int32) else (0 : Int32))) + (1 : Int32)) else (if q1 < q4 then ((if q0 < q3 then (1 : Int32) else (0 : Int32)) + (1 : Int32)) else (if q0 < q3 then (1 : Int32) else (0 : Int32)))) = (0 : Int32) then (1 : Int32) else (0 : Int32)))])) t
    refine XS.istore X30.here hx rfl (hb hby at_81) rfl (l' := #[.val (.long q0), .second, .val (.long q1), .second, .val (.long q2), .second, .val (.long q3), .second, .val (.long q4), .second, .val (.long q5), .second, .val (.ref b2), .val (.ref b18), .val (.int (if q2 < q5 then ((if q1 < q4 then ((if q0 < q3 then (1 : Int32) else (0 : Int32)) + (1 : Int32)) else (if q0 < q3 then (1 : Int32) else (0 : Int32))) + (1 : Int32)) else (if q1 < q4 then ((if q0 < q3 then (1 : Int32) else (0 : Int32)) + (1 : Int32)) else (if q0 < q3 then (1 : Int32) else (0 : Int32))))), .val (.int (if (if q2 < q5 then ((if q1 < q4 then ((if q0 < q3 then (1 : Int32) else (0 : Int32)) + (1 : Int32)) else (if q0 < q3 then (1 : Int32) else (0 : Int32))) + (1 : Int32)) else (if q1 < q4 then ((if q0 < q3 then (1 : Int32) else (0 : Int32)) + (1 : Int32)) else (if q0 < q3 then (1 : Int32) else (0 : Int32)))) = (0 : Int32) then (1 : Int32) else (0 : Int32))), .unset, .unset]) rfl ?_
    show Steps p.tables e below (T30.setTop (mkF m 83 #[.val (.long q0), .second, .val (.long q1), .second, .val (.long q2), .second, .val (.long q3), .second, .val (.long q4), .second, .val (.long q5), .second, .val (.ref b2), .val (.ref b18), .val (.int (if q2 < q5 then ((if q1 < q4 then ((if q0 < q3 then (1 : Int32) else (0 : Int32)) + (1 : Int32)) else (if q0 < q3 then (1 : Int32) else (0 : Int32))) + (1 : Int32)) else (if q1 < q4 then ((if q0 < q3 then (1 : Int32) else (0 : Int32)) + (1 : Int32)) else (if q0 < q3 then (1 : Int32) else (0 : Int32))))), .val (.int (if (if q2 < q5 then ((if q1 < q4 then ((if q0 < q3 then (1 : Int32) else (0 : Int32)) + (1 : Int32)) else (if q0 < q3 then (1 : Int32) else (0 : Int32))) + (1 : Int32)) else (if q1 < q4 then ((if q0 < q3 then (1 : Int32) else (0 : Int32)) + (1 : Int32)) else (if q0 < q3 then (1 : Int32) else (0 : Int32)))) = (0 : Int32) then (1 : Int32) else (0 : Int32))), .unset, .unset] [])) t
    refine XS.aload X30.here hx rfl (hb hby at_83) rfl rfl ?_
    show Steps p.tables e below (T30.setTop (mkF m 85 #[.val (.long q0), .second, .val (.long q1), .second, .val (.long q2), .second, .val (.long q3), .second, .val (.long q4), .second, .val (.long q5), .second, .val (.ref b2), .val (.ref b18), .val (.int (if q2 < q5 then ((if q1 < q4 then ((if q0 < q3 then (1 : Int32) else (0 : Int32)) + (1 : Int32)) else (if q0 < q3 then (1 : Int32) else (0 : Int32))) + (1 : Int32)) else (if q1 < q4 then ((if q0 < q3 then (1 : Int32) else (0 : Int32)) + (1 : Int32)) else (if q0 < q3 then (1 : Int32) else (0 : Int32))))), .val (.int (if (if q2 < q5 then ((if q1 < q4 then ((if q0 < q3 then (1 : Int32) else (0 : Int32)) + (1 : Int32)) else (if q0 < q3 then (1 : Int32) else (0 : Int32))) + (1 : Int32)) else (if q1 < q4 then ((if q0 < q3 then (1 : Int32) else (0 : Int32)) + (1 : Int32)) else (if q0 < q3 then (1 : Int32) else (0 : Int32)))) = (0 : Int32) then (1 : Int32) else (0 : Int32))), .unset, .unset] [(.ref b2)])) t
    refine XS.aload X30.here hx rfl (hb hby at_85) rfl rfl ?_
    exact k
  obtain ⟨cq46, kq46, q46a, q46b, q46c⟩ := isOf hZ rfl f35
  obtain ⟨_, _, ⟨T46, L46, k46, n46⟩, -, X46, ⟨Lc46, hQ46, l46, y46, z46⟩, st46⟩ := X30.virtualBack hx (y := (⟨"com/example/allocat/allocat/core/Capacity", "covers", "(Lcom/example/allocat/allocat/core/Capacity;)Z"⟩ : MethodName)) (z := (⟨"com/example/allocat/allocat/core/Capacity", "covers", "(Lcom/example/allocat/allocat/core/Capacity;)Z"⟩ : MethodName)) hown (mvT hZ (hw _ (List.mem_of_getElem? (i := 20) rfl))) (mvT hZ (hw _ (List.mem_of_getElem? (i := 21) rfl))) (notFace_of_selects (args := #[]) (mvT hZ (hw _ (List.mem_of_getElem? (i := 23) rfl)))) (mvT hZ (hw _ (List.mem_of_getElem? (i := 23) rfl))) (mvT hZ (hw _ (List.mem_of_getElem? (i := 22) rfl))) (by decide) (backOf (W := 0) (rm4 l Z az hw [] b2 b18 q0 q1 q2 q3 q4 q5 T30.heap n0 Z40 f36 f37 f38 f32 f33 f34) hZ (hw _ (List.mem_of_getElem? (i := 24) rfl)) (hw _ (List.mem_of_getElem? (i := 2) rfl)) (by decide) (by decide)) q46a q46c (g := (mkF m 87 #[.val (.long q0), .second, .val (.long q1), .second, .val (.long q2), .second, .val (.long q3), .second, .val (.long q4), .second, .val (.long q5), .second, .val (.ref b2), .val (.ref b18), .val (.int (if q2 < q5 then ((if q1 < q4 then ((if q0 < q3 then (1 : Int32) else (0 : Int32)) + (1 : Int32)) else (if q0 < q3 then (1 : Int32) else (0 : Int32))) + (1 : Int32)) else (if q1 < q4 then ((if q0 < q3 then (1 : Int32) else (0 : Int32)) + (1 : Int32)) else (if q0 < q3 then (1 : Int32) else (0 : Int32))))), .val (.int (if (if q2 < q5 then ((if q1 < q4 then ((if q0 < q3 then (1 : Int32) else (0 : Int32)) + (1 : Int32)) else (if q0 < q3 then (1 : Int32) else (0 : Int32))) + (1 : Int32)) else (if q1 < q4 then ((if q0 < q3 then (1 : Int32) else (0 : Int32)) + (1 : Int32)) else (if q0 < q3 then (1 : Int32) else (0 : Int32)))) = (0 : Int32) then (1 : Int32) else (0 : Int32))), .unset, .unset] [(.ref b18), (.ref b2)])) rfl (by rw [hml]; rfl) (Steps.refl _) (argsL := [(.ref b18)]) (rest := []) (lenOf own_pd2 rfl) rfl (by show 2 * 0 + _ ≤ _; exact Nat.le_of_eq rfl) (hb hby at_87) (fun _ _ => ⟨rfl, rfl, (by decide : 2 + 0 ≤ _), (by decide : 6 + 0 ≤ _)⟩)
  dsimp only [Pt.U, Pt.locs, Pt.cells, Pt.slots] at X46 l46 y46 z46 st46 hQ46
  subst l46 y46 z46
  obtain ⟨rfl, N46q, e46⟩ := hQ46
  have N47 := Fr.app N41 N46q
  refine Goes.by (fun _ k => st46.trans k) ?_
  show Goes p.tables e below _ (T46.setTop (mkF m 90 #[.val (.long q0), .second, .val (.long q1), .second, .val (.long q2), .second, .val (.long q3), .second, .val (.long q4), .second, .val (.long q5), .second, .val (.ref b2), .val (.ref b18), .val (.int (if q2 < q5 then ((if q1 < q4 then ((if q0 < q3 then (1 : Int32) else (0 : Int32)) + (1 : Int32)) else (if q0 < q3 then (1 : Int32) else (0 : Int32))) + (1 : Int32)) else (if q1 < q4 then ((if q0 < q3 then (1 : Int32) else (0 : Int32)) + (1 : Int32)) else (if q0 < q3 then (1 : Int32) else (0 : Int32))))), .val (.int (if (if q2 < q5 then ((if q1 < q4 then ((if q0 < q3 then (1 : Int32) else (0 : Int32)) + (1 : Int32)) else (if q0 < q3 then (1 : Int32) else (0 : Int32))) + (1 : Int32)) else (if q1 < q4 then ((if q0 < q3 then (1 : Int32) else (0 : Int32)) + (1 : Int32)) else (if q0 < q3 then (1 : Int32) else (0 : Int32)))) = (0 : Int32) then (1 : Int32) else (0 : Int32))), .unset, .unset] [(.int (f4 q0 q1 q2 q3 q4 q5))]))
  refine Goes.by (B := T46.setTop (mkF m 96 #[.val (.long q0), .second, .val (.long q1), .second, .val (.long q2), .second, .val (.long q3), .second, .val (.long q4), .second, .val (.long q5), .second, .val (.ref b2), .val (.ref b18), .val (.int (if q2 < q5 then ((if q1 < q4 then ((if q0 < q3 then (1 : Int32) else (0 : Int32)) + (1 : Int32)) else (if q0 < q3 then (1 : Int32) else (0 : Int32))) + (1 : Int32)) else (if q1 < q4 then ((if q0 < q3 then (1 : Int32) else (0 : Int32)) + (1 : Int32)) else (if q0 < q3 then (1 : Int32) else (0 : Int32))))), .val (.int (if (if q2 < q5 then ((if q1 < q4 then ((if q0 < q3 then (1 : Int32) else (0 : Int32)) + (1 : Int32)) else (if q0 < q3 then (1 : Int32) else (0 : Int32))) + (1 : Int32)) else (if q1 < q4 then ((if q0 < q3 then (1 : Int32) else (0 : Int32)) + (1 : Int32)) else (if q0 < q3 then (1 : Int32) else (0 : Int32)))) = (0 : Int32) then (1 : Int32) else (0 : Int32))), .val (.int (f4 q0 q1 q2 q3 q4 q5)), .unset] [(.ref b2), (.ref b2)])) (fun t k => ?_) ?_
  · show Steps p.tables e below (T46.setTop (mkF m 90 #[.val (.long q0), .second, .val (.long q1), .second, .val (.long q2), .second, .val (.long q3), .second, .val (.long q4), .second, .val (.long q5), .second, .val (.ref b2), .val (.ref b18), .val (.int (if q2 < q5 then ((if q1 < q4 then ((if q0 < q3 then (1 : Int32) else (0 : Int32)) + (1 : Int32)) else (if q0 < q3 then (1 : Int32) else (0 : Int32))) + (1 : Int32)) else (if q1 < q4 then ((if q0 < q3 then (1 : Int32) else (0 : Int32)) + (1 : Int32)) else (if q0 < q3 then (1 : Int32) else (0 : Int32))))), .val (.int (if (if q2 < q5 then ((if q1 < q4 then ((if q0 < q3 then (1 : Int32) else (0 : Int32)) + (1 : Int32)) else (if q0 < q3 then (1 : Int32) else (0 : Int32))) + (1 : Int32)) else (if q1 < q4 then ((if q0 < q3 then (1 : Int32) else (0 : Int32)) + (1 : Int32)) else (if q0 < q3 then (1 : Int32) else (0 : Int32)))) = (0 : Int32) then (1 : Int32) else (0 : Int32))), .unset, .unset] [(.int (f4 q0 q1 q2 q3 q4 q5))])) t
    refine XS.istore X46.here hx rfl (hb hby at_90) rfl (l' := #[.val (.long q0), .second, .val (.long q1), .second, .val (.long q2), .second, .val (.long q3), .second, .val (.long q4), .second, .val (.long q5), .second, .val (.ref b2), .val (.ref b18), .val (.int (if q2 < q5 then ((if q1 < q4 then ((if q0 < q3 then (1 : Int32) else (0 : Int32)) + (1 : Int32)) else (if q0 < q3 then (1 : Int32) else (0 : Int32))) + (1 : Int32)) else (if q1 < q4 then ((if q0 < q3 then (1 : Int32) else (0 : Int32)) + (1 : Int32)) else (if q0 < q3 then (1 : Int32) else (0 : Int32))))), .val (.int (if (if q2 < q5 then ((if q1 < q4 then ((if q0 < q3 then (1 : Int32) else (0 : Int32)) + (1 : Int32)) else (if q0 < q3 then (1 : Int32) else (0 : Int32))) + (1 : Int32)) else (if q1 < q4 then ((if q0 < q3 then (1 : Int32) else (0 : Int32)) + (1 : Int32)) else (if q0 < q3 then (1 : Int32) else (0 : Int32)))) = (0 : Int32) then (1 : Int32) else (0 : Int32))), .val (.int (f4 q0 q1 q2 q3 q4 q5)), .unset]) rfl ?_
    show Steps p.tables e below (T46.setTop (mkF m 92 #[.val (.long q0), .second, .val (.long q1), .second, .val (.long q2), .second, .val (.long q3), .second, .val (.long q4), .second, .val (.long q5), .second, .val (.ref b2), .val (.ref b18), .val (.int (if q2 < q5 then ((if q1 < q4 then ((if q0 < q3 then (1 : Int32) else (0 : Int32)) + (1 : Int32)) else (if q0 < q3 then (1 : Int32) else (0 : Int32))) + (1 : Int32)) else (if q1 < q4 then ((if q0 < q3 then (1 : Int32) else (0 : Int32)) + (1 : Int32)) else (if q0 < q3 then (1 : Int32) else (0 : Int32))))), .val (.int (if (if q2 < q5 then ((if q1 < q4 then ((if q0 < q3 then (1 : Int32) else (0 : Int32)) + (1 : Int32)) else (if q0 < q3 then (1 : Int32) else (0 : Int32))) + (1 : Int32)) else (if q1 < q4 then ((if q0 < q3 then (1 : Int32) else (0 : Int32)) + (1 : Int32)) else (if q0 < q3 then (1 : Int32) else (0 : Int32)))) = (0 : Int32) then (1 : Int32) else (0 : Int32))), .val (.int (f4 q0 q1 q2 q3 q4 q5)), .unset] [])) t
    refine XS.aload X46.here hx rfl (hb hby at_92) rfl rfl ?_
    show Steps p.tables e below (T46.setTop (mkF m 94 #[.val (.long q0), .second, .val (.long q1), .second, .val (.long q2), .second, .val (.long q3), .second, .val (.long q4), .second, .val (.long q5), .second, .val (.ref b2), .val (.ref b18), .val (.int (if q2 < q5 then ((if q1 < q4 then ((if q0 < q3 then (1 : Int32) else (0 : Int32)) + (1 : Int32)) else (if q0 < q3 then (1 : Int32) else (0 : Int32))) + (1 : Int32)) else (if q1 < q4 then ((if q0 < q3 then (1 : Int32) else (0 : Int32)) + (1 : Int32)) else (if q0 < q3 then (1 : Int32) else (0 : Int32))))), .val (.int (if (if q2 < q5 then ((if q1 < q4 then ((if q0 < q3 then (1 : Int32) else (0 : Int32)) + (1 : Int32)) else (if q0 < q3 then (1 : Int32) else (0 : Int32))) + (1 : Int32)) else (if q1 < q4 then ((if q0 < q3 then (1 : Int32) else (0 : Int32)) + (1 : Int32)) else (if q0 < q3 then (1 : Int32) else (0 : Int32)))) = (0 : Int32) then (1 : Int32) else (0 : Int32))), .val (.int (f4 q0 q1 q2 q3 q4 q5)), .unset] [(.ref b2)])) t
    refine XS.aload X46.here hx rfl (hb hby at_94) rfl rfl ?_
    exact k
  obtain ⟨cq48, kq48, q48a, q48b, q48c⟩ := isOf hZ e46 f35
  obtain ⟨_, _, ⟨T48, L48, k48, n48⟩, -, X48, ⟨Lc48, hQ48, l48, y48, z48⟩, st48⟩ := X46.virtualBack hx (y := (⟨"com/example/allocat/allocat/core/Capacity", "covers", "(Lcom/example/allocat/allocat/core/Capacity;)Z"⟩ : MethodName)) (z := (⟨"com/example/allocat/allocat/core/Capacity", "covers", "(Lcom/example/allocat/allocat/core/Capacity;)Z"⟩ : MethodName)) hown (mvT hZ (hw _ (List.mem_of_getElem? (i := 20) rfl))) (mvT hZ (hw _ (List.mem_of_getElem? (i := 21) rfl))) (notFace_of_selects (args := #[]) (mvT hZ (hw _ (List.mem_of_getElem? (i := 23) rfl)))) (mvT hZ (hw _ (List.mem_of_getElem? (i := 23) rfl))) (mvT hZ (hw _ (List.mem_of_getElem? (i := 22) rfl))) (by decide) (backOf (W := 0) (rm4 l Z az hw [] b2 b2 q0 q1 q2 q0 q1 q2 T30.heap n0 Z40 f36 f37 f38 f36 f37 f38) hZ (hw _ (List.mem_of_getElem? (i := 24) rfl)) (hw _ (List.mem_of_getElem? (i := 2) rfl)) (by decide) (by decide)) q48a q48c (g := (mkF m 96 #[.val (.long q0), .second, .val (.long q1), .second, .val (.long q2), .second, .val (.long q3), .second, .val (.long q4), .second, .val (.long q5), .second, .val (.ref b2), .val (.ref b18), .val (.int (if q2 < q5 then ((if q1 < q4 then ((if q0 < q3 then (1 : Int32) else (0 : Int32)) + (1 : Int32)) else (if q0 < q3 then (1 : Int32) else (0 : Int32))) + (1 : Int32)) else (if q1 < q4 then ((if q0 < q3 then (1 : Int32) else (0 : Int32)) + (1 : Int32)) else (if q0 < q3 then (1 : Int32) else (0 : Int32))))), .val (.int (if (if q2 < q5 then ((if q1 < q4 then ((if q0 < q3 then (1 : Int32) else (0 : Int32)) + (1 : Int32)) else (if q0 < q3 then (1 : Int32) else (0 : Int32))) + (1 : Int32)) else (if q1 < q4 then ((if q0 < q3 then (1 : Int32) else (0 : Int32)) + (1 : Int32)) else (if q0 < q3 then (1 : Int32) else (0 : Int32)))) = (0 : Int32) then (1 : Int32) else (0 : Int32))), .val (.int (f4 q0 q1 q2 q3 q4 q5)), .unset] [(.ref b2), (.ref b2)])) rfl (by rw [hml]; rfl) (Steps.refl _) (argsL := [(.ref b2)]) (rest := []) (lenOf own_pd2 rfl) rfl (by show 2 * 0 + _ ≤ _; exact Nat.le_of_eq rfl) (hb hby at_96) (fun _ _ => ⟨rfl, e46, (by decide : 2 + 0 ≤ _), (by decide : 6 + 0 ≤ _)⟩)
  dsimp only [Pt.U, Pt.locs, Pt.cells, Pt.slots] at X48 l48 y48 z48 st48 hQ48
  subst l48 y48 z48
  obtain ⟨rfl, N48q, e48⟩ := hQ48
  have N49 := Fr.app N47 N48q
  refine Goes.by (fun _ k => st48.trans k) ?_
  show Goes p.tables e below _ (T48.setTop (mkF m 99 #[.val (.long q0), .second, .val (.long q1), .second, .val (.long q2), .second, .val (.long q3), .second, .val (.long q4), .second, .val (.long q5), .second, .val (.ref b2), .val (.ref b18), .val (.int (if q2 < q5 then ((if q1 < q4 then ((if q0 < q3 then (1 : Int32) else (0 : Int32)) + (1 : Int32)) else (if q0 < q3 then (1 : Int32) else (0 : Int32))) + (1 : Int32)) else (if q1 < q4 then ((if q0 < q3 then (1 : Int32) else (0 : Int32)) + (1 : Int32)) else (if q0 < q3 then (1 : Int32) else (0 : Int32))))), .val (.int (if (if q2 < q5 then ((if q1 < q4 then ((if q0 < q3 then (1 : Int32) else (0 : Int32)) + (1 : Int32)) else (if q0 < q3 then (1 : Int32) else (0 : Int32))) + (1 : Int32)) else (if q1 < q4 then ((if q0 < q3 then (1 : Int32) else (0 : Int32)) + (1 : Int32)) else (if q0 < q3 then (1 : Int32) else (0 : Int32)))) = (0 : Int32) then (1 : Int32) else (0 : Int32))), .val (.int (f4 q0 q1 q2 q3 q4 q5)), .unset] [(.int (f4 q0 q1 q2 q0 q1 q2))]))
  refine Goes.by (B := T48.setTop (mkF m 118 #[.val (.long q0), .second, .val (.long q1), .second, .val (.long q2), .second, .val (.long q3), .second, .val (.long q4), .second, .val (.long q5), .second, .val (.ref b2), .val (.ref b18), .val (.int (if q2 < q5 then ((if q1 < q4 then ((if q0 < q3 then (1 : Int32) else (0 : Int32)) + (1 : Int32)) else (if q0 < q3 then (1 : Int32) else (0 : Int32))) + (1 : Int32)) else (if q1 < q4 then ((if q0 < q3 then (1 : Int32) else (0 : Int32)) + (1 : Int32)) else (if q0 < q3 then (1 : Int32) else (0 : Int32))))), .val (.int (if (if q2 < q5 then ((if q1 < q4 then ((if q0 < q3 then (1 : Int32) else (0 : Int32)) + (1 : Int32)) else (if q0 < q3 then (1 : Int32) else (0 : Int32))) + (1 : Int32)) else (if q1 < q4 then ((if q0 < q3 then (1 : Int32) else (0 : Int32)) + (1 : Int32)) else (if q0 < q3 then (1 : Int32) else (0 : Int32)))) = (0 : Int32) then (1 : Int32) else (0 : Int32))), .val (.int (f4 q0 q1 q2 q3 q4 q5)), .val (.int (f4 q0 q1 q2 q0 q1 q2))] [(.int (1 : Int32))])) (fun t k => ?_) ?_
  · show Steps p.tables e below (T48.setTop (mkF m 99 #[.val (.long q0), .second, .val (.long q1), .second, .val (.long q2), .second, .val (.long q3), .second, .val (.long q4), .second, .val (.long q5), .second, .val (.ref b2), .val (.ref b18), .val (.int (if q2 < q5 then ((if q1 < q4 then ((if q0 < q3 then (1 : Int32) else (0 : Int32)) + (1 : Int32)) else (if q0 < q3 then (1 : Int32) else (0 : Int32))) + (1 : Int32)) else (if q1 < q4 then ((if q0 < q3 then (1 : Int32) else (0 : Int32)) + (1 : Int32)) else (if q0 < q3 then (1 : Int32) else (0 : Int32))))), .val (.int (if (if q2 < q5 then ((if q1 < q4 then ((if q0 < q3 then (1 : Int32) else (0 : Int32)) + (1 : Int32)) else (if q0 < q3 then (1 : Int32) else (0 : Int32))) + (1 : Int32)) else (if q1 < q4 then ((if q0 < q3 then (1 : Int32) else (0 : Int32)) + (1 : Int32)) else (if q0 < q3 then (1 : Int32) else (0 : Int32)))) = (0 : Int32) then (1 : Int32) else (0 : Int32))), .val (.int (f4 q0 q1 q2 q3 q4 q5)), .unset] [(.int (f4 q0 q1 q2 q0 q1 q2))])) t
    refine XS.istore X48.here hx rfl (hb hby at_99) rfl (l' := #[.val (.long q0), .second, .val (.long q1), .second, .val (.long q2), .second, .val (.long q3), .second, .val (.long q4), .second, .val (.long q5), .second, .val (.ref b2), .val (.ref b18), .val (.int (if q2 < q5 then ((if q1 < q4 then ((if q0 < q3 then (1 : Int32) else (0 : Int32)) + (1 : Int32)) else (if q0 < q3 then (1 : Int32) else (0 : Int32))) + (1 : Int32)) else (if q1 < q4 then ((if q0 < q3 then (1 : Int32) else (0 : Int32)) + (1 : Int32)) else (if q0 < q3 then (1 : Int32) else (0 : Int32))))), .val (.int (if (if q2 < q5 then ((if q1 < q4 then ((if q0 < q3 then (1 : Int32) else (0 : Int32)) + (1 : Int32)) else (if q0 < q3 then (1 : Int32) else (0 : Int32))) + (1 : Int32)) else (if q1 < q4 then ((if q0 < q3 then (1 : Int32) else (0 : Int32)) + (1 : Int32)) else (if q0 < q3 then (1 : Int32) else (0 : Int32)))) = (0 : Int32) then (1 : Int32) else (0 : Int32))), .val (.int (f4 q0 q1 q2 q3 q4 q5)), .val (.int (f4 q0 q1 q2 q0 q1 q2))]) rfl ?_
    show Steps p.tables e below (T48.setTop (mkF m 101 #[.val (.long q0), .second, .val (.long q1), .second, .val (.long q2), .second, .val (.long q3), .second, .val (.long q4), .second, .val (.long q5), .second, .val (.ref b2), .val (.ref b18), .val (.int (if q2 < q5 then ((if q1 < q4 then ((if q0 < q3 then (1 : Int32) else (0 : Int32)) + (1 : Int32)) else (if q0 < q3 then (1 : Int32) else (0 : Int32))) + (1 : Int32)) else (if q1 < q4 then ((if q0 < q3 then (1 : Int32) else (0 : Int32)) + (1 : Int32)) else (if q0 < q3 then (1 : Int32) else (0 : Int32))))), .val (.int (if (if q2 < q5 then ((if q1 < q4 then ((if q0 < q3 then (1 : Int32) else (0 : Int32)) + (1 : Int32)) else (if q0 < q3 then (1 : Int32) else (0 : Int32))) + (1 : Int32)) else (if q1 < q4 then ((if q0 < q3 then (1 : Int32) else (0 : Int32)) + (1 : Int32)) else (if q0 < q3 then (1 : Int32) else (0 : Int32)))) = (0 : Int32) then (1 : Int32) else (0 : Int32))), .val (.int (f4 q0 q1 q2 q3 q4 q5)), .val (.int (f4 q0 q1 q2 q0 q1 q2))] [])) t
    refine XS.iload X48.here hx rfl (hb hby at_101) rfl ?_
    show Steps p.tables e below (T48.setTop (mkF m 103 #[.val (.long q0), .second, .val (.long q1), .second, .val (.long q2), .second, .val (.long q3), .second, .val (.long q4), .second, .val (.long q5), .second, .val (.ref b2), .val (.ref b18), .val (.int (if q2 < q5 then ((if q1 < q4 then ((if q0 < q3 then (1 : Int32) else (0 : Int32)) + (1 : Int32)) else (if q0 < q3 then (1 : Int32) else (0 : Int32))) + (1 : Int32)) else (if q1 < q4 then ((if q0 < q3 then (1 : Int32) else (0 : Int32)) + (1 : Int32)) else (if q0 < q3 then (1 : Int32) else (0 : Int32))))), .val (.int (if (if q2 < q5 then ((if q1 < q4 then ((if q0 < q3 then (1 : Int32) else (0 : Int32)) + (1 : Int32)) else (if q0 < q3 then (1 : Int32) else (0 : Int32))) + (1 : Int32)) else (if q1 < q4 then ((if q0 < q3 then (1 : Int32) else (0 : Int32)) + (1 : Int32)) else (if q0 < q3 then (1 : Int32) else (0 : Int32)))) = (0 : Int32) then (1 : Int32) else (0 : Int32))), .val (.int (f4 q0 q1 q2 q3 q4 q5)), .val (.int (f4 q0 q1 q2 q0 q1 q2))] [(.int (f4 q0 q1 q2 q3 q4 q5))])) t
    refine XS.iload X48.here hx rfl (hb hby at_103) rfl ?_
    show Steps p.tables e below (T48.setTop (mkF m 105 #[.val (.long q0), .second, .val (.long q1), .second, .val (.long q2), .second, .val (.long q3), .second, .val (.long q4), .second, .val (.long q5), .second, .val (.ref b2), .val (.ref b18), .val (.int (if q2 < q5 then ((if q1 < q4 then ((if q0 < q3 then (1 : Int32) else (0 : Int32)) + (1 : Int32)) else (if q0 < q3 then (1 : Int32) else (0 : Int32))) + (1 : Int32)) else (if q1 < q4 then ((if q0 < q3 then (1 : Int32) else (0 : Int32)) + (1 : Int32)) else (if q0 < q3 then (1 : Int32) else (0 : Int32))))), .val (.int (if (if q2 < q5 then ((if q1 < q4 then ((if q0 < q3 then (1 : Int32) else (0 : Int32)) + (1 : Int32)) else (if q0 < q3 then (1 : Int32) else (0 : Int32))) + (1 : Int32)) else (if q1 < q4 then ((if q0 < q3 then (1 : Int32) else (0 : Int32)) + (1 : Int32)) else (if q0 < q3 then (1 : Int32) else (0 : Int32)))) = (0 : Int32) then (1 : Int32) else (0 : Int32))), .val (.int (f4 q0 q1 q2 q3 q4 q5)), .val (.int (f4 q0 q1 q2 q0 q1 q2))] [(.int (if (if q2 < q5 then ((if q1 < q4 then ((if q0 < q3 then (1 : Int32) else (0 : Int32)) + (1 : Int32)) else (if q0 < q3 then (1 : Int32) else (0 : Int32))) + (1 : Int32)) else (if q1 < q4 then ((if q0 < q3 then (1 : Int32) else (0 : Int32)) + (1 : Int32)) else (if q0 < q3 then (1 : Int32) else (0 : Int32)))) = (0 : Int32) then (1 : Int32) else (0 : Int32))), (.int (f4 q0 q1 q2 q3 q4 q5))])) t
    refine XS.icmpNo X48.here hx rfl (hb hby at_105) rfl (teq (own_eq q0 q1 q2 q3 q4 q5)).2 ?_
    show Steps p.tables e below (T48.setTop (mkF m 108 #[.val (.long q0), .second, .val (.long q1), .second, .val (.long q2), .second, .val (.long q3), .second, .val (.long q4), .second, .val (.long q5), .second, .val (.ref b2), .val (.ref b18), .val (.int (if q2 < q5 then ((if q1 < q4 then ((if q0 < q3 then (1 : Int32) else (0 : Int32)) + (1 : Int32)) else (if q0 < q3 then (1 : Int32) else (0 : Int32))) + (1 : Int32)) else (if q1 < q4 then ((if q0 < q3 then (1 : Int32) else (0 : Int32)) + (1 : Int32)) else (if q0 < q3 then (1 : Int32) else (0 : Int32))))), .val (.int (if (if q2 < q5 then ((if q1 < q4 then ((if q0 < q3 then (1 : Int32) else (0 : Int32)) + (1 : Int32)) else (if q0 < q3 then (1 : Int32) else (0 : Int32))) + (1 : Int32)) else (if q1 < q4 then ((if q0 < q3 then (1 : Int32) else (0 : Int32)) + (1 : Int32)) else (if q0 < q3 then (1 : Int32) else (0 : Int32)))) = (0 : Int32) then (1 : Int32) else (0 : Int32))), .val (.int (f4 q0 q1 q2 q3 q4 q5)), .val (.int (f4 q0 q1 q2 q0 q1 q2))] [])) t
    refine XS.iload X48.here hx rfl (hb hby at_108) rfl ?_
    show Steps p.tables e below (T48.setTop (mkF m 110 #[.val (.long q0), .second, .val (.long q1), .second, .val (.long q2), .second, .val (.long q3), .second, .val (.long q4), .second, .val (.long q5), .second, .val (.ref b2), .val (.ref b18), .val (.int (if q2 < q5 then ((if q1 < q4 then ((if q0 < q3 then (1 : Int32) else (0 : Int32)) + (1 : Int32)) else (if q0 < q3 then (1 : Int32) else (0 : Int32))) + (1 : Int32)) else (if q1 < q4 then ((if q0 < q3 then (1 : Int32) else (0 : Int32)) + (1 : Int32)) else (if q0 < q3 then (1 : Int32) else (0 : Int32))))), .val (.int (if (if q2 < q5 then ((if q1 < q4 then ((if q0 < q3 then (1 : Int32) else (0 : Int32)) + (1 : Int32)) else (if q0 < q3 then (1 : Int32) else (0 : Int32))) + (1 : Int32)) else (if q1 < q4 then ((if q0 < q3 then (1 : Int32) else (0 : Int32)) + (1 : Int32)) else (if q0 < q3 then (1 : Int32) else (0 : Int32)))) = (0 : Int32) then (1 : Int32) else (0 : Int32))), .val (.int (f4 q0 q1 q2 q3 q4 q5)), .val (.int (f4 q0 q1 q2 q0 q1 q2))] [(.int (f4 q0 q1 q2 q0 q1 q2))])) t
    refine XS.ifNo X48.here hx rfl (hb hby at_110) rfl ((if0 _ _).trans (feq (by rw [own_self]; decide)).1) ?_
    show Steps p.tables e below (T48.setTop (mkF m 113 #[.val (.long q0), .second, .val (.long q1), .second, .val (.long q2), .second, .val (.long q3), .second, .val (.long q4), .second, .val (.long q5), .second, .val (.ref b2), .val (.ref b18), .val (.int (if q2 < q5 then ((if q1 < q4 then ((if q0 < q3 then (1 : Int32) else (0 : Int32)) + (1 : Int32)) else (if q0 < q3 then (1 : Int32) else (0 : Int32))) + (1 : Int32)) else (if q1 < q4 then ((if q0 < q3 then (1 : Int32) else (0 : Int32)) + (1 : Int32)) else (if q0 < q3 then (1 : Int32) else (0 : Int32))))), .val (.int (if (if q2 < q5 then ((if q1 < q4 then ((if q0 < q3 then (1 : Int32) else (0 : Int32)) + (1 : Int32)) else (if q0 < q3 then (1 : Int32) else (0 : Int32))) + (1 : Int32)) else (if q1 < q4 then ((if q0 < q3 then (1 : Int32) else (0 : Int32)) + (1 : Int32)) else (if q0 < q3 then (1 : Int32) else (0 : Int32)))) = (0 : Int32) then (1 : Int32) else (0 : Int32))), .val (.int (f4 q0 q1 q2 q3 q4 q5)), .val (.int (f4 q0 q1 q2 q0 q1 q2))] [])) t
    refine XS.iconst X48.here hx rfl (hb hby at_113) ?_
    show Steps p.tables e below (T48.setTop (mkF m 114 #[.val (.long q0), .second, .val (.long q1), .second, .val (.long q2), .second, .val (.long q3), .second, .val (.long q4), .second, .val (.long q5), .second, .val (.ref b2), .val (.ref b18), .val (.int (if q2 < q5 then ((if q1 < q4 then ((if q0 < q3 then (1 : Int32) else (0 : Int32)) + (1 : Int32)) else (if q0 < q3 then (1 : Int32) else (0 : Int32))) + (1 : Int32)) else (if q1 < q4 then ((if q0 < q3 then (1 : Int32) else (0 : Int32)) + (1 : Int32)) else (if q0 < q3 then (1 : Int32) else (0 : Int32))))), .val (.int (if (if q2 < q5 then ((if q1 < q4 then ((if q0 < q3 then (1 : Int32) else (0 : Int32)) + (1 : Int32)) else (if q0 < q3 then (1 : Int32) else (0 : Int32))) + (1 : Int32)) else (if q1 < q4 then ((if q0 < q3 then (1 : Int32) else (0 : Int32)) + (1 : Int32)) else (if q0 < q3 then (1 : Int32) else (0 : Int32)))) = (0 : Int32) then (1 : Int32) else (0 : Int32))), .val (.int (f4 q0 q1 q2 q3 q4 q5)), .val (.int (f4 q0 q1 q2 q0 q1 q2))] [(.int (1 : Int32))])) t
    refine XS.goto X48.here hx rfl (pc0 := 114) (pc' := 118) rfl (hb hby at_114) (by decide) (by decide) ?_
    exact k
  obtain ⟨fs, hr, hrun, hended, hW, hsame⟩ := X48.leave (v := some (.int (1 : Int32))) (fun h => by rw [Bd.returns] at h; cases h)
  refine Goes.mk _ _ ?_ ⟨hrun, hended, _, _, rfl, ?_, ⟨_, rfl⟩, hW, hsame.mono (by decide) (by decide)⟩
  · exact retN X48 hx (t := .boolean) Bd.returns (by simp) (hb hby at_118) hr
  · show Q0 Z q0 q1 q2 q3 q4 q5 h0 n0 _ T48.heap _
    rw [e48]
    exact ⟨rfl, N49⟩
set_option maxRecDepth 65536 in
set_option maxHeartbeats 40000000 in
theorem comes_1 {Post : Tables → Env → Array Value → State → Outcome → State → Prop} (hpost : ∀ tb e args s v u, (limb_1_1.after args s (.returned v) u = true ∧ limb_1_2.after args s (.returned v) u = true ∧ True) → FrameEnd s (.returned v) u (Jvm.fieldLocs frame_1_writes args s ++ Jvm.arrayLocs frame_1_arrays args s ++ Jvm.staticLocs frame_1_statics s) 16 128 → Post tb e args s (.returned v) u) :
    ArmFor flags0 classFile x code maxLocals ret World_1 tables_1 room_1 Calls_1 rest_1 Pre_1 Post := by
  intro l hfl _ _ p e ha hc hk s m args below hf hA hF happ hP
  obtain ⟨hcalls, hrest, hpre⟩ := hP
  obtain ⟨-, -, -, hnamed, -, -, -, hat⟩ := (Spec.applies_iff hf).mp happ
  obtain ⟨hg, hn⟩ := and_e (Cond.before_iff.mp (show (Jvm.Cond.and given_1 narrow_1).before args s = true from hpre))
  obtain ⟨gg1, gg2⟩ := and_e hg
  obtain ⟨gg3, gg4⟩ := and_e gg2
  obtain ⟨gg5, gg6⟩ := and_e gg4
  obtain ⟨gg7, gg8⟩ := and_e gg6
  obtain ⟨gg9, gg10⟩ := and_e gg8
  obtain ⟨gg11, gg12⟩ := and_e gg10
  obtain ⟨w0, w1, w2, w3, w4, w5, rfl⟩ : ∃ w0 w1 w2 w3 w4 w5 : Value, args = #[w0, w1, w2, w3, w4, w5] := by
    have hs : args.size = 6 := by simpa [Cond.value, given_1] using gg1
    obtain ⟨L⟩ := args
    match L, hs with
    | [w0, w1, w2, w3, w4, w5], _ => exact ⟨w0, w1, w2, w3, w4, w5, rfl⟩
  have hw := fun d (hd : d ∈ tables_1) => atoms_spec (ws := Jvm.Cond.code x code maxLocals ret :: tables_1) hat d (List.mem_cons_of_mem _ hd)
  have hfit : Fit s := fun {y c} hc i hi => by
    obtain ⟨ha, rfl⟩ := Array.getElem?_eq_some_iff.mp hc
    have q := List.all_eq_true.mp ((Array.all_eq_true_iff_forall_mem.mp hF) _ (Array.getElem_mem ha)) i (List.mem_range.mpr hi)
    simpa [Array.getElem?_eq_getElem hi] using q
  obtain ⟨i0, ei0⟩ := isL_v gg3
  obtain rfl : w0 = (.long i0) := Option.some.inj ei0
  obtain ⟨i1, ei1⟩ := isL_v gg5
  obtain rfl : w1 = (.long i1) := Option.some.inj ei1
  obtain ⟨i2, ei2⟩ := isL_v gg7
  obtain rfl : w2 = (.long i2) := Option.some.inj ei2
  obtain ⟨i3, ei3⟩ := isL_v gg9
  obtain rfl : w3 = (.long i3) := Option.some.inj ei3
  obtain ⟨i4, ei4⟩ := isL_v gg11
  obtain rfl : w4 = (.long i4) := Option.some.inj ei4
  obtain ⟨i5, ei5⟩ := isL_v gg12
  obtain rfl : w5 = (.long i5) := Option.some.inj ei5
  obtain ⟨n, o, h1, h2, h3, _, L, rfl, ⟨rfl, N⟩, hq⟩ := rm0 l s _ hw tables_1 i0 i1 i2 i3 i4 i5 s.heap s.heap.size (Nat.le_refl _)  p e ha hc hk s m _ below hf ((Spec.applies_iff_loose hf).mp happ).1 ⟨rfl, State.Warmed39.refl s, rfl⟩ trivial
  refine ⟨n, _, h1, h2, h3, hpost _ _ _ _ _ _ ⟨Cond.after_iff.mpr rfl, Cond.after_iff.mpr (eq_i res_at (Term.int_eval (1)) rfl), trivial⟩ ⟨hq.1, hq.2.1, (hq.2.2.sift fun y hy => Or.inr (N y hy)).mono (by decide) (by decide)⟩⟩
theorem main_1_1 : Claimed_1_1 := comes_1 fun _ _ _ _ _ _ h hF => ⟨h.1, hF⟩
theorem main_1_2 : Claimed_1_2 := comes_1 fun _ _ _ _ _ _ h hF => ⟨h.2.1, hF⟩
end Jvm.Pilot.@@N@@
namespace Jvm.Pilot.@@N@@
open Jvm Jvm.ClassFile Sem Op Lib Jvm.Free Jvm.Stand Jvm.Pilot.@@N@@.Jvm.D
/-! MADE BY PROGRAM (witnessworld.py) out of the Statement's table words and the real class files: 10 classes; the members and pool entries that the words name. The judged class is class 1, her method 1. -/
namespace start1
open Jvm.ClassFile
def u (s : String) : CpInfo := .utf8 (stringToUtf16 s)
/-- a pool by its gaps: so many unusable entries, then the entry; so many at the end -/
def gap : Nat → List CpInfo → List CpInfo
  | 0, r => r
  | n + 1, r => .unusable :: gap n r
def poolList (es : List (Nat × CpInfo)) (last : Nat) : List CpInfo := es.foldr (fun e r => gap e.1 (e.2 :: r)) (gap last [])
def pool (es : List (Nat × CpInfo)) (last : Nat) : Array CpInfo := ⟨poolList es last⟩
def fileOf (pool : Array CpInfo) (this : Nat) (attrs : Array Attribute := #[]) (ms : Array MethodInfo := #[]) (fl : Nat := 33) (sup : Nat := 0) (ifs : Array Nat := #[]) (fds : Array FieldInfo := #[]) : ClassFile where
  minorVersion := 0
  majorVersion := 65
  constantPool := pool
  accessFlags := fl
  thisClass := this
  superClass := sup
  interfaces := ifs
  fields := fds
  methods := ms
  attributes := attrs
def plain (name : String) (sup : Option ClassId) : Class where
  name := name
  kind := .ordinary
  loader := none
  accessFlags := 33
  super := sup
  interfaces := #[]
  cf := none
  fields := #[]
  methods := #[]
  instanceTypes := #[]
  staticTypes := #[]
  resolved := #[]
  callSites := []
  init := .initialized
  statics := none
  mirror := none

def pool0 : Array CpInfo := pool [(5, u "<init>"), (0, u "()V"), (1, .class_ 10), (1, u "java/lang/Object")] 113

def k0c0 : Code := { maxStack := 0, maxLocals := 1, code := object_method_1_code, exceptionTable := #[], attributes := #[] }
def k0m0 : Method := { name := "<init>", desc := "()V", sig := { parameters := [], returnType := none }, accessFlags := 1, code := some k0c0 }
/-- java/lang/Object -/
def k0 : Class := { plain "java/lang/Object" none with
  accessFlags := 33
  interfaces := #[]
  cf := some (fileOf pool0 8 #[] #[{ accessFlags := 1, nameIndex := 5, descriptorIndex := 6, attributes := #[] }] 33 0 #[] #[])
  fields := #[]
  methods := #[k0m0]
  instanceTypes := #[]
  staticTypes := #[]
  resolved := Array.replicate 124 none
  statics := none }

def pool1 : Array CpInfo := pool [(2, .class_ 4), (1, u "java/lang/Object"), (0, u "<init>"), (0, u "()V"), (0, .class_ 8), (0, u "com/example/allocat/allocat/core/Capacity"), (0, .methodref 7 10), (0, .nameAndType 5 11), (0, u "(JJJ)V"), (0, .methodref 7 13), (0, .nameAndType 14 15), (0, u "covers"), (0, u "(Lcom/example/allocat/allocat/core/Capacity;)Z"), (0, .class_ 17), (0, u "com/example/allocat/allocat/core/CapacityCoversPinLaw"), (2, u "law"), (0, u "(JJJJJJ)Z")] 3

def k1m0 : Method := { name := "<init>", desc := "()V", sig := { parameters := [], returnType := none }, accessFlags := 1, code := none }
def k1c1 : Code := { maxStack := 8, maxLocals := 18, code := code, exceptionTable := #[], attributes := #[] }
def k1m1 : Method := { name := "law", desc := "(JJJJJJ)Z", sig := { parameters := [.long, .long, .long, .long, .long, .long], returnType := some .boolean }, accessFlags := 9, code := some k1c1 }
/-- com/example/allocat/allocat/core/CapacityCoversPinLaw -/
def k1 : Class := { plain "com/example/allocat/allocat/core/CapacityCoversPinLaw" (some 0) with
  accessFlags := 49
  interfaces := #[]
  cf := some (fileOf pool1 16 #[] #[{ accessFlags := 1, nameIndex := 5, descriptorIndex := 6, attributes := #[] }, { accessFlags := 9, nameIndex := 20, descriptorIndex := 21, attributes := #[] }] 49 2 #[] #[])
  fields := #[]
  methods := #[k1m0, k1m1]
  instanceTypes := #[]
  staticTypes := #[]
  resolved := Array.replicate 25 none
  statics := none }

def pool2 : Array CpInfo := pool [(1, .methodref 2 3), (0, .class_ 4), (0, .nameAndType 5 6), (0, u "java/lang/Object"), (0, u "<init>"), (0, u "()V"), (0, .class_ 8), (0, u "java/lang/Record")] 13

def k2c0 : Code := { maxStack := 1, maxLocals := 1, code := jdk_30_method_1_code, exceptionTable := #[], attributes := #[] }
def k2m0 : Method := { name := "<init>", desc := "()V", sig := { parameters := [], returnType := none }, accessFlags := 4, code := some k2c0 }
/-- java/lang/Record -/
def k2 : Class := { plain "java/lang/Record" (some 0) with
  accessFlags := 1057
  interfaces := #[]
  cf := some (fileOf pool2 7 #[] #[{ accessFlags := 4, nameIndex := 5, descriptorIndex := 6, attributes := #[] }] 1057 2 #[] #[])
  fields := #[]
  methods := #[k2m0]
  instanceTypes := #[]
  staticTypes := #[]
  resolved := Array.replicate 22 none
  statics := none }

def pool3 : Array CpInfo := pool [(1, .methodref 2 3), (0, .class_ 4), (0, .nameAndType 5 6), (0, u "java/lang/Record"), (0, u "<init>"), (0, u "()V"), (0, .fieldref 8 9), (0, .class_ 10), (0, .nameAndType 11 12), (0, u "com/example/allocat/allocat/core/Capacity"), (0, u "ram"), (0, u "J"), (0, .fieldref 8 14), (0, .nameAndType 15 12), (0, u "disk"), (0, .fieldref 8 17), (0, .nameAndType 18 12), (0, u "cpu"), (2, u "(JJJ)V"), (15, u "covers"), (0, u "(Lcom/example/allocat/allocat/core/Capacity;)Z")] 29

def k3c0 : Code := { maxStack := 3, maxLocals := 7, code := prog_3_method_1_code, exceptionTable := #[], attributes := #[] }
def k3m0 : Method := { name := "<init>", desc := "(JJJ)V", sig := { parameters := [.long, .long, .long], returnType := none }, accessFlags := 1, code := some k3c0 }
def k3c1 : Code := { maxStack := 4, maxLocals := 2, code := prog_3_method_2_code, exceptionTable := #[], attributes := #[] }
def k3m1 : Method := { name := "covers", desc := "(Lcom/example/allocat/allocat/core/Capacity;)Z", sig := { parameters := [(.object "com/example/allocat/allocat/core/Capacity")], returnType := some .boolean }, accessFlags := 1, code := some k3c1 }
/-- com/example/allocat/allocat/core/Capacity -/
def k3 : Class := { plain "com/example/allocat/allocat/core/Capacity" (some 2) with
  accessFlags := 49
  interfaces := #[]
  cf := some (fileOf pool3 8 #[] #[{ accessFlags := 1, nameIndex := 5, descriptorIndex := 21, attributes := #[] }, { accessFlags := 1, nameIndex := 37, descriptorIndex := 38, attributes := #[] }] 49 2 #[] #[{ accessFlags := 18, nameIndex := 11, descriptorIndex := 12, attributes := #[] }, { accessFlags := 18, nameIndex := 15, descriptorIndex := 12, attributes := #[] }, { accessFlags := 18, nameIndex := 18, descriptorIndex := 12, attributes := #[] }])
  fields := #[{ name := "ram", type := .long, accessFlags := 18, slot := 0, constantValue := 0 }, { name := "disk", type := .long, accessFlags := 18, slot := 1, constantValue := 0 }, { name := "cpu", type := .long, accessFlags := 18, slot := 2, constantValue := 0 }]
  methods := #[k3m0, k3m1]
  instanceTypes := #[.long, .long, .long]
  staticTypes := #[]
  resolved := Array.replicate 68 none
  statics := none }

def pool4 : Array CpInfo := pool [(1, u "java/lang/Cloneable"), (0, .class_ 1), (0, u "java/lang/Object"), (0, .class_ 3)] 3

/-- java/lang/Cloneable -/
def k4 : Class := { plain "java/lang/Cloneable" (some 0) with
  accessFlags := 1537
  interfaces := #[]
  cf := some (fileOf pool4 2 #[] #[] 1537 4 #[] #[])
  fields := #[]
  methods := #[]
  instanceTypes := #[]
  staticTypes := #[]
  resolved := Array.replicate 8 none
  statics := none }

def pool5 : Array CpInfo := pool [(1, u "java/io/Serializable"), (0, .class_ 1), (0, u "java/lang/Object"), (0, .class_ 3)] 3

/-- java/io/Serializable -/
def k5 : Class := { plain "java/io/Serializable" (some 0) with
  accessFlags := 1537
  interfaces := #[]
  cf := some (fileOf pool5 2 #[] #[] 1537 4 #[] #[])
  fields := #[]
  methods := #[]
  instanceTypes := #[]
  staticTypes := #[]
  resolved := Array.replicate 8 none
  statics := none }

/-- the primitive byte -/
def k6 : Class := { plain "byte" none with kind := .primitive 'B', accessFlags := 0x411 }
/-- [B -/
def k7 : Class := { plain "[B" (some 0) with kind := .array 6 .byte, interfaces := #[4, 5], accessFlags := 1041 }

/-- the primitive int -/
def k8 : Class := { plain "int" none with kind := .primitive 'I', accessFlags := 0x411 }
/-- [I -/
def k9 : Class := { plain "[I" (some 0) with kind := .array 8 .int, interfaces := #[4, 5], accessFlags := 1041 }

def heap : Heap := #[]
def classes : Array Class := #[k0, k1, k2, k3, k4, k5, k6, k7, k8, k9]
def interned : List (Array UInt16 × Addr) := []
def slotsUsed : Nat := 0
def theMethod : MethodId := ⟨1, 1⟩
def args0 : Array Value := #[.long 5, .long 7, .long 7, .long 7, .long 7, .long 7]
def aboutOver (below : List Frame) : State where
  vm := { classes := classes, interned := interned.toArray }
  heap := heap
  slotsUsed := slotsUsed
  threads := #[{ frames := .invoking theMethod args0 :: below }]
def below0 : List Frame := [.native { method := ⟨0, 0⟩, args := #[] }]
def about1 : State := aboutOver below0
def p0 : Program := .bare "" "" ""
def e0 : Env := launch0.env 0 0 0
theorem w_frames : about1.frames = Frame.invoking theMethod args0 :: below0 := rfl
set_option maxRecDepth 65536 in
theorem w_args : argsFit about1.vm theMethod args0 = true := by decide +kernel
set_option maxRecDepth 65536 in
theorem w_heap : heapFits about1 = true := by decide +kernel
set_option maxRecDepth 65536 in
theorem w_runnable : about1.curStatus? = some .runnable := by decide +kernel
set_option maxRecDepth 65536 in
theorem w_alone : about1.alone = true := by decide +kernel
set_option maxRecDepth 65536 in
theorem w_named : about1.methodNamed? x = some theMethod := by decide +kernel
set_option maxRecDepth 65536 in
theorem w_hears : about1.hears theMethod below0 = true := by decide +kernel
set_option maxRecDepth 65536 in
theorem w_ripe : about1.ripe theMethod args0 below0 = true := by decide +kernel
theorem w_running : about1.status = .running := rfl
set_option maxRecDepth 65536 in
theorem w_room : about1.hasRoom e0.platform room_1 = true :=
  launch0.hasRoom_least _ room_1 (by decide +kernel) (by decide +kernel) (by decide +kernel) (by decide +kernel) (by decide +kernel) (by decide +kernel)
theorem allAtoms_all (ts : List Jvm.Cond) (a : Array Jvm.Value) (st : Jvm.State) : (allAtoms ts).before a st = ts.all (fun c => c.before a st) := by
  induction ts with
  | nil => rfl
  | cons c t ih =>
    show (Jvm.Cond.and c (allAtoms t)).before a st = _
    rw [Jvm.Cond.before_and, ih, List.all_cons]
def words1 : List Jvm.Cond := Jvm.Cond.code x code maxLocals ret :: tables_1
/-- a 'code' word, met by the world's own term for the bytes: nothing is compared byte by byte -/
theorem code_word {y : MethodName} {bytes : ByteArray} {mx : Nat} {rt : Option FieldType} {a : Array Value} {s : State} {m : MethodId} {meth : Method} {c : Code} (h1 : s.methodNamed? y = some m) (h2 : s.vm.method? m = some meth) (h3 : meth.code = some c) (h4 : c.code = bytes)
    (h5 : (c.maxLocals == mx && c.exceptionTable.isEmpty && decide (c.maxStack ≤ mostOperands) && decide (meth.sig.returnType = rt) && !meth.locks && decide (parseMethodDescriptor y.desc = some meth.sig)) = true) : (Jvm.Cond.code y bytes mx rt).before a s = true := by
  simp only [Bool.and_eq_true, beq_iff_eq, Bool.not_eq_true', decide_eq_true_eq] at h5
  obtain ⟨⟨⟨⟨⟨g1, g2⟩, g3⟩, g4⟩, g5⟩, g6⟩ := h5
  simp [Cond.before, Cond.holds, Cond.value, h1, h2, h3, h4, g1, g2, g3, g4, g5, g6]
def isCode : Jvm.Cond → Bool
  | .code _ _ _ _ => true
  | _ => false
theorem all_split {L : List Jvm.Cond} {P : Jvm.Cond → Bool} (h1 : L.all (fun c => isCode c || P c) = true) (h2 : ∀ c ∈ L.filter isCode, P c = true) : L.all P = true := by
  refine List.all_eq_true.mpr fun c hc => ?_
  have h := List.all_eq_true.mp h1 c hc
  rcases Bool.eq_false_or_eq_true (isCode c) with hi | hi
  · exact h2 c (List.mem_filter.mpr ⟨hc, hi⟩)
  · simpa [hi] using h
set_option maxRecDepth 65536 in
theorem w_c0 : (Jvm.Cond.code x code maxLocals ret).before args0 about1 = true := code_word (m := ⟨1, 1⟩) (meth := k1m1) (c := k1c1) (by decide +kernel) rfl rfl rfl (by decide +kernel)
set_option maxRecDepth 65536 in
theorem w_c1 : (Jvm.Cond.code ({ cls := "com/example/allocat/allocat/core/Capacity", name := "<init>", desc := "(JJJ)V" } : Jvm.MethodName) prog_3_method_1_code (7 : Nat) (Option.none : Option Jvm.ClassFile.FieldType)).before args0 about1 = true := code_word (m := ⟨3, 0⟩) (meth := k3m0) (c := k3c0) (by decide +kernel) rfl rfl rfl (by decide +kernel)
set_option maxRecDepth 65536 in
theorem w_c2 : (Jvm.Cond.code ({ cls := "java/lang/Record", name := "<init>", desc := "()V" } : Jvm.MethodName) jdk_30_method_1_code (1 : Nat) (Option.none : Option Jvm.ClassFile.FieldType)).before args0 about1 = true := code_word (m := ⟨2, 0⟩) (meth := k2m0) (c := k2c0) (by decide +kernel) rfl rfl rfl (by decide +kernel)
set_option maxRecDepth 65536 in
theorem w_c3 : (Jvm.Cond.code ({ cls := "java/lang/Object", name := "<init>", desc := "()V" } : Jvm.MethodName) object_method_1_code (1 : Nat) (Option.none : Option Jvm.ClassFile.FieldType)).before args0 about1 = true := code_word (m := ⟨0, 0⟩) (meth := k0m0) (c := k0c0) (by decide +kernel) rfl rfl rfl (by decide +kernel)
set_option maxRecDepth 65536 in
theorem w_c4 : (Jvm.Cond.code ({ cls := "com/example/allocat/allocat/core/Capacity", name := "covers", desc := "(Lcom/example/allocat/allocat/core/Capacity;)Z" } : Jvm.MethodName) prog_3_method_2_code (2 : Nat) (Option.some Jvm.ClassFile.FieldType.boolean)).before args0 about1 = true := code_word (m := ⟨3, 1⟩) (meth := k3m1) (c := k3c1) (by decide +kernel) rfl rfl rfl (by decide +kernel)
def codes1 : List Jvm.Cond := [Jvm.Cond.code x code maxLocals ret, Jvm.Cond.code ({ cls := "com/example/allocat/allocat/core/Capacity", name := "<init>", desc := "(JJJ)V" } : Jvm.MethodName) prog_3_method_1_code (7 : Nat) (Option.none : Option Jvm.ClassFile.FieldType), Jvm.Cond.code ({ cls := "java/lang/Record", name := "<init>", desc := "()V" } : Jvm.MethodName) jdk_30_method_1_code (1 : Nat) (Option.none : Option Jvm.ClassFile.FieldType), Jvm.Cond.code ({ cls := "java/lang/Object", name := "<init>", desc := "()V" } : Jvm.MethodName) object_method_1_code (1 : Nat) (Option.none : Option Jvm.ClassFile.FieldType), Jvm.Cond.code ({ cls := "com/example/allocat/allocat/core/Capacity", name := "covers", desc := "(Lcom/example/allocat/allocat/core/Capacity;)Z" } : Jvm.MethodName) prog_3_method_2_code (2 : Nat) (Option.some Jvm.ClassFile.FieldType.boolean)]
set_option maxRecDepth 65536 in
theorem codes_eq : words1.filter isCode = codes1 := rfl
theorem w_codes : ∀ c ∈ words1.filter isCode, c.before args0 about1 = true := by
  rw [codes_eq]
  intro c hc
  simp only [codes1, List.mem_cons, List.not_mem_nil, or_false] at hc
  rcases hc with rfl | rfl | rfl | rfl | rfl
  · exact w_c0
  · exact w_c1
  · exact w_c2
  · exact w_c3
  · exact w_c4
set_option maxRecDepth 65536 in
theorem w_t1 : (words1.take 24).all (fun c => isCode c || c.before args0 about1) = true := by decide +kernel
set_option maxRecDepth 65536 in
theorem w_t2 : (words1.drop 24).all (fun c => isCode c || c.before args0 about1) = true := by decide +kernel
theorem w_tables : (allAtoms (Jvm.Cond.code x code maxLocals ret :: tables_1)).before args0 about1 = true := by
  rw [allAtoms_all]
  show words1.all (fun c => c.before args0 about1) = true
  refine all_split ?_ w_codes
  rw [← List.take_append_drop 24 words1, List.all_append, w_t1, w_t2]
  rfl
set_option maxRecDepth 65536 in
theorem w_case : (Jvm.Cond.and given_1 narrow_1).before args0 about1 = true := by decide +kernel
theorem w_applies : (headSpec (Jvm.Cond.code x code maxLocals ret :: tables_1) room_1).applies x e0.platform about1 = true :=
  (Spec.applies_iff w_frames).mpr ⟨w_running, w_runnable, w_alone, w_named, w_hears, w_ripe, w_room, w_tables⟩
theorem atStart : AtStart classFile x code maxLocals ret World_1 tables_1 room_1 Calls_1 rest_1 Pre_1 launch0 p0 e0 about1 theMethod args0 below0 :=
  ⟨lists_1, trivial, launch0.admits_env _ _ _, launch0.least_env, fairChoices_fair.cas, fairChoices_fair.clock, w_frames, w_args, w_heap, w_applies, trivial, trivial, w_case⟩
end start1
theorem witness_1 : WitnessClaimed_1 := ⟨start1.p0, start1.e0, start1.about1, start1.theMethod, start1.args0, start1.below0, start1.atStart⟩
end Jvm.Pilot.@@N@@
