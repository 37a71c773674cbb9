import JvmDerived
import JvmDerived.Pilot.@@N@@Statement
import JvmDerived.Pilot.@@N@@Code
set_option linter.unusedVariables false
set_option linter.unusedSimpArgs false
namespace Jvm.RoadKit
open Sem ClassFile Op Lib Jvm.Stand Jvm.Free Jvm.LawKit
section New
variable {p : Program} {l : Launch} {e : Env} {R : Room} {s : State} {m : MethodId} {args : Array Value} {below : List Frame} {meth : Method} {c : Code} {T : State} {locs : List Loc} {cells slots : Nat}
theorem retI (X : Stand p l e R s m args below meth c T locs cells slots) (hx : p.tables.exec = Jvm.exec) {pc : Nat} {Ls : Array Slot} {z : Int32} {rest : List Value} (hret : meth.sig.returnType = some .int) (hd : decode c.code pc = .ok (.ireturn, 1)) {fs : List Frame}
    (hl : ∀ (f : JFrame) (acts : List Action), f.method = m → f.locked = none → f.entered = [] → (doReturn e (T.setTop f) acts (some (.int z))).1 = T.setFrames fs) : Steps p.tables e below (T.setTop (mkF m pc Ls (.int z :: rest))) (T.setFrames fs) :=
  retOut X hx hret rfl (Or.inl ⟨rfl, Or.inl rfl, _, rfl⟩) hd hl
def Elt (Z : State) (h : Heap) (a : Addr) (ty : FieldType) (j : Int32) (v : Value) : Prop := ∃ cl : Cell, Arr Z h a cl ty ∧ ¬ (j < 0 ∨ cl.slots.size ≤ j.toNatClampNeg) ∧ cl.slots[j.toNatClampNeg]? = some v
theorem Elt.of {Z : State} {h : Heap} {a : Addr} {k : ClassId} {ty : FieldType} {n j : Int32} {vs : List Value} {d v : Value} (F : Arv Z h a k ty n vs d) (q : ¬ j < 0 ∧ j < n) (u : vs.getD j.toNatClampNeg d = v) : Elt Z h a ty j v := by
  obtain ⟨c, A, _, S, _, H, _⟩ := F
  exact ⟨c, A, inb_of S q, H.at (inb_of S q) u⟩
def Goes (tb : Tables) (e : Env) (below : List Frame) (P : State → Outcome → Prop) (A : State) : Prop := ∃ s₂ o, Steps tb e below A s₂ ∧ P s₂ o
theorem Goes.start {tb : Tables} {e : Env} {below : List Frame} {P : State → Outcome → Prop} {A : State} (h : Goes tb e below P A) : ∃ s₂ o, Steps tb e below A s₂ ∧ P s₂ o := h
theorem Goes.by {tb : Tables} {e : Env} {below : List Frame} {P : State → Outcome → Prop} {A B : State} (h : ∀ t, Steps tb e below B t → Steps tb e below A t) (g : Goes tb e below P B) : Goes tb e below P A := by
  obtain ⟨s₂, o, h1, h2⟩ := g
  exact ⟨s₂, o, h _ h1, h2⟩
theorem Goes.mk {tb : Tables} {e : Env} {below : List Frame} {P : State → Outcome → Prop} {A : State} (s₂ : State) (o : Outcome) (h : Steps tb e below A s₂) (hp : P s₂ o) : Goes tb e below P A := ⟨s₂, o, h, hp⟩
end New
end Jvm.RoadKit
namespace Jvm.Pilot.@@N@@
open Jvm Jvm.ClassFile Sem Op Lib Jvm.Free Jvm.Stand Jvm.LawKit Jvm.RoadKit Bundle Jvm.Pilot.@@N@@.Jvm.D
theorem d2_0 : decode jdk_30_method_1_code 0 = .ok (.aload_n 0, 1) := by decide +kernel
theorem d2_1 : decode jdk_30_method_1_code 1 = .ok (.invokespecial 1, 3) := by decide +kernel
theorem d2_4 : decode jdk_30_method_1_code 4 = .ok (.return_, 1) := by decide +kernel
def Q2 (Z : State) (a0 : Addr) (h0 : Heap) (n0 : Nat) (v : Option Value) (h : Heap) (L : List Loc) : Prop := v = none ∧ Fr n0 L ∧ h = h0
theorem own_pn_java_lang_Record : plainName "java/lang/Record" = true := by first | (simp [plainName, overriddenIn]; done) | decide +kernel
theorem ef2 (m : MethodId) (x0 : Addr) : entryFrame m #[(.ref x0)] 1 = mkF m 0 #[.val (.ref x0)] [] := by first | (simp [entryFrame, mkF, argsToLocals, Value.category]; done) | rfl
set_option maxRecDepth 65536 in
set_option maxHeartbeats 40000000 in
theorem rm2 (l : Launch) (Z : State) (az : Array Value) (hw : ∀ d ∈ tables_1, d.before az Z = true) (ws : List Jvm.Cond) (a0 : Addr) (h0 : Heap) (n0 : Nat) (Z0 : n0 ≤ h0.size) :
    MetFree l (⟨"java/lang/Record", "<init>", "()V"⟩ : MethodName) (head1 (Jvm.Cond.code (⟨"java/lang/Record", "<init>", "()V"⟩ : MethodName) jdk_30_method_1_code 1 none :: ws) ({ frames := 1, cells := 0, slots := 0, locals := 12 } : Room)) (fun a U => a = #[(.ref a0)] ∧ Z.Warmed39 U.vm ∧ U.heap = h0) (fun _ _ _ _ _ => True) (fun _ U o U' => ∃ v L, o = .returned v ∧ Q2 Z a0 h0 n0 v U'.heap L ∧ FrameEnd U o U' L ({ frames := 1, cells := 0, slots := 0, locals := 12 } : Room).cells ({ frames := 1, cells := 0, slots := 0, locals := 12 } : Room).slots) := by
  refine MetFree.of_bodySF (plainFor_of_name own_pn_java_lang_Record) hisR ?_
  intro p e s m args below meth c s₁ Bd hml0 hP hK
  obtain ⟨rfl, hZ, hh⟩ := hP
  have hx := Bd.exec
  have hby := Bd.bytes
  have hml : c.maxLocals = 1 := hml0
  have hown : s.vm.findClass "java/lang/Record" = some m.cls := findClass_of_methodNamed Bd.named
  have hnm := (name_of_methodNamed Bd.named Bd.method).1
  have X0 : Stand p l e ({ frames := 1, cells := 0, slots := 0, locals := 12 } : Room) s m #[(.ref a0)] below meth c s₁ [] 0 0 := Stand.of_body Bd
  have e0 : s₁.heap = h0 := by rw [← hh, Bd.state]; rfl
  have N0 := Fr.nil n0
  have Kp0 : Keep h0 h0 [] := Keep.refl _ _
  refine Goes.start ?_
  refine Goes.by (B := s₁.setTop (mkF m 0 #[.val (.ref a0)] [])) (fun t k => castTop (ef2 m a0) k) ?_
  refine Goes.by (B := s₁.setTop (mkF m 1 #[.val (.ref a0)] [(.ref a0)])) (fun t k => ?_) ?_
  · show Steps p.tables e below (s₁.setTop (mkF m 0 #[.val (.ref a0)] [])) t
    refine XS.aloadN X0.here hx rfl (hb hby d2_0) rfl rfl ?_
    exact k
  obtain ⟨T1, X1, e1, st1⟩ := initO X0 hx hZ hown (hw _ (List.mem_of_getElem? (i := 11) rfl)) (hw _ (List.mem_of_getElem? (i := 12) rfl)) (hw _ (List.mem_of_getElem? (i := 13) rfl)) e0 (g := (mkF m 1 #[.val (.ref a0)] [(.ref a0)])) rfl (by rw [hml]; rfl) rfl (hb hby d2_1) (by decide) (W := 0) (by show 2 * 0 + _ ≤ _; exact Nat.le_of_eq rfl) (by decide)
  refine Goes.by st1 ?_
  show Goes p.tables e below _ (T1.setTop (mkF m 4 #[.val (.ref a0)] []))
  obtain ⟨fs, hr, hrun, hended, hW, hsame⟩ := X1.leave (v := none) (fun _ => rfl)
  refine Goes.mk _ _ ?_ ⟨hrun, hended, _, _, rfl, ?_, ⟨_, rfl⟩, hW, hsame.mono (by decide) (by decide)⟩
  · exact X1.returnOut hx Bd.returns (hb hby d2_4) hr
  · show Q2 Z a0 h0 n0 _ T1.heap _
    rw [e1]
    exact ⟨rfl, N0, rfl⟩
theorem d1_0 : decode prog_126_method_1_code 0 = .ok (.aload_n 0, 1) := by decide +kernel
theorem d1_1 : decode prog_126_method_1_code 1 = .ok (.invokespecial 1, 3) := by decide +kernel
theorem own_pd0 : parseMethodDescriptor "()V" = some ⟨[], none⟩ := by decide +kernel
theorem d1_4 : decode prog_126_method_1_code 4 = .ok (.aload_n 0, 1) := by decide +kernel
theorem d1_5 : decode prog_126_method_1_code 5 = .ok (.iload_n 1, 1) := by decide +kernel
theorem d1_6 : decode prog_126_method_1_code 6 = .ok (.putfield 7, 3) := by decide +kernel
theorem d1_9 : decode prog_126_method_1_code 9 = .ok (.aload_n 0, 1) := by decide +kernel
theorem d1_10 : decode prog_126_method_1_code 10 = .ok (.lload_n 2, 1) := by decide +kernel
theorem d1_11 : decode prog_126_method_1_code 11 = .ok (.putfield 13, 3) := by decide +kernel
theorem d1_14 : decode prog_126_method_1_code 14 = .ok (.return_, 1) := by decide +kernel
def Q1 (Z : State) (a0 : Addr) (p1 : Int32) (q2 : Int64) (h0 : Heap) (n0 : Nat) (v : Option Value) (h : Heap) (L : List Loc) : Prop := v = none ∧ Fr n0 L ∧ Keep h0 h [a0] ∧ Exa Z h a0 "com/example/lockstep/lockstep/server/DataDirectory$Apparent" ∧ Fld Z h a0 "com/example/lockstep/lockstep/server/DataDirectory$Apparent" "version" "I" (.int p1) ∧ Fld Z h a0 "com/example/lockstep/lockstep/server/DataDirectory$Apparent" "since" "J" (.long q2)
theorem own_pn_com_example_lockstep_lockstep_server_DataDirectory_Apparent : plainName "com/example/lockstep/lockstep/server/DataDirectory$Apparent" = true := by first | (simp [plainName, overriddenIn]; done) | decide +kernel
theorem ef1 (m : MethodId) (x0 : Addr) (x1 : Int32) (x2 : Int64) : entryFrame m #[(.ref x0), (.int x1), (.long x2)] 4 = mkF m 0 #[.val (.ref x0), .val (.int x1), .val (.long x2), .second] [] := by first | (simp [entryFrame, mkF, argsToLocals, Value.category]; done) | rfl
set_option maxRecDepth 65536 in
set_option maxHeartbeats 40000000 in
theorem rm1 (l : Launch) (Z : State) (az : Array Value) (hw : ∀ d ∈ tables_1, d.before az Z = true) (ws : List Jvm.Cond) (a0 : Addr) (p1 : Int32) (q2 : Int64) (h0 : Heap) (n0 : Nat) (Z0 : n0 ≤ h0.size) (F0 : Exa Z h0 a0 "com/example/lockstep/lockstep/server/DataDirectory$Apparent") (F1 : Fld Z h0 a0 "com/example/lockstep/lockstep/server/DataDirectory$Apparent" "version" "I" (.int (0 : Int32))) (F2 : Fld Z h0 a0 "com/example/lockstep/lockstep/server/DataDirectory$Apparent" "since" "J" (.long (0 : Int64))) (Ge0 : n0 ≤ a0) :
    MetFree l (⟨"com/example/lockstep/lockstep/server/DataDirectory$Apparent", "<init>", "(IJ)V"⟩ : MethodName) (head1 (Jvm.Cond.code (⟨"com/example/lockstep/lockstep/server/DataDirectory$Apparent", "<init>", "(IJ)V"⟩ : MethodName) prog_126_method_1_code 4 none :: ws) ({ frames := 2, cells := 0, slots := 0, locals := 24 } : Room)) (fun a U => a = #[(.ref a0), (.int p1), (.long q2)] ∧ Z.Warmed39 U.vm ∧ U.heap = h0) (fun _ _ _ _ _ => True) (fun _ U o U' => ∃ v L, o = .returned v ∧ Q1 Z a0 p1 q2 h0 n0 v U'.heap L ∧ FrameEnd U o U' L ({ frames := 2, cells := 0, slots := 0, locals := 24 } : Room).cells ({ frames := 2, cells := 0, slots := 0, locals := 24 } : Room).slots) := by
  refine MetFree.of_bodySF (plainFor_of_name own_pn_com_example_lockstep_lockstep_server_DataDirectory_Apparent) hisR ?_
  intro p e s m args below meth c s₁ Bd hml0 hP hK
  obtain ⟨rfl, hZ, hh⟩ := hP
  have hx := Bd.exec
  have hby := Bd.bytes
  have hml : c.maxLocals = 4 := hml0
  have hown : s.vm.findClass "com/example/lockstep/lockstep/server/DataDirectory$Apparent" = some m.cls := findClass_of_methodNamed Bd.named
  have hnm := (name_of_methodNamed Bd.named Bd.method).1
  have X0 : Stand p l e ({ frames := 2, cells := 0, slots := 0, locals := 24 } : Room) s m #[(.ref a0), (.int p1), (.long q2)] below meth c s₁ [] 0 0 := Stand.of_body Bd
  have e0 : s₁.heap = h0 := by rw [← hh, Bd.state]; rfl
  have N0 := Fr.nil n0
  have Kp0 : Keep h0 h0 [a0] := Keep.refl _ _
  refine Goes.start ?_
  refine Goes.by (B := s₁.setTop (mkF m 0 #[.val (.ref a0), .val (.int p1), .val (.long q2), .second] [])) (fun t k => castTop (ef1 m a0 p1 q2) k) ?_
  refine Goes.by (B := s₁.setTop (mkF m 1 #[.val (.ref a0), .val (.int p1), .val (.long q2), .second] [(.ref a0)])) (fun t k => ?_) ?_
  · show Steps p.tables e below (s₁.setTop (mkF m 0 #[.val (.ref a0), .val (.int p1), .val (.long q2), .second] [])) t
    refine XS.aloadN X0.here hx rfl (hb hby d1_0) rfl rfl ?_
    exact k
  obtain ⟨_, _, ⟨T1, L1, k1, n1⟩, -, X1, ⟨Lc1, hQ1, l1, y1, z1⟩, st1⟩ := X0.specialBack hx (y := (⟨"java/lang/Record", "<init>", "()V"⟩ : MethodName)) rfl hown (mvT hZ (hw _ (List.mem_of_getElem? (i := 6) rfl))) (mvT hZ (hw _ (List.mem_of_getElem? (i := 7) rfl))) (mvT hZ (hw _ (List.mem_of_getElem? (i := 10) rfl))) (by decide) (backOf (W := 0) (rm2 l Z az hw [] a0 h0 n0 Z0 ) hZ (hw _ (List.mem_of_getElem? (i := 10) rfl)) (hw _ (List.mem_of_getElem? (i := 9) rfl)) (by decide) (by decide)) (g := (mkF m 1 #[.val (.ref a0), .val (.int p1), .val (.long q2), .second] [(.ref a0)])) rfl (by rw [hml]; rfl) (Steps.refl _) (a := a0) (argsL := []) (rest := []) (lenOf own_pd0 rfl) rfl (by show 2 * 0 + _ ≤ _; exact Nat.le_of_eq rfl) (hb hby d1_1) (fun _ _ => ⟨rfl, e0, (by decide : 0 + 0 ≤ _), (by decide : 0 + 0 ≤ _)⟩)
  dsimp only [Pt.U, Pt.locs, Pt.cells, Pt.slots] at X1 l1 y1 z1 st1 hQ1
  subst l1 y1 z1
  obtain ⟨rfl, N1q, e1⟩ := hQ1
  have N2 := Fr.app N0 N1q
  refine Goes.by (fun _ k => st1.trans k) ?_
  show Goes p.tables e below _ (T1.setTop (mkF m 4 #[.val (.ref a0), .val (.int p1), .val (.long q2), .second] []))
  refine Goes.by (B := T1.setTop (mkF m 6 #[.val (.ref a0), .val (.int p1), .val (.long q2), .second] [(.int p1), (.ref a0)])) (fun t k => ?_) ?_
  · show Steps p.tables e below (T1.setTop (mkF m 4 #[.val (.ref a0), .val (.int p1), .val (.long q2), .second] [])) t
    refine XS.aloadN X1.here hx rfl (hb hby d1_4) rfl rfl ?_
    show Steps p.tables e below (T1.setTop (mkF m 5 #[.val (.ref a0), .val (.int p1), .val (.long q2), .second] [(.ref a0)])) t
    refine XS.iloadN X1.here hx rfl (hb hby d1_5) rfl ?_
    exact k
  obtain ⟨T3, h3, X3, e3, W3, st3⟩ := putF X1 hx hZ hown (host := "") (Or.inl (hw _ (List.mem_of_getElem? (i := 14) rfl))) Via.refl e1 F1 F0 (Or.inr ⟨(hw _ (List.mem_of_getElem? (i := 15) rfl)), rfl, hnm⟩) (hw _ (List.mem_of_getElem? (i := 1) rfl)) (ty := .int) (by decide) rfl rfl (g := (mkF m 6 #[.val (.ref a0), .val (.int p1), .val (.long q2), .second] [(.int p1), (.ref a0)])) rfl rfl (hb hby d1_6)
  have f4 : Exa Z h3 a0 "com/example/lockstep/lockstep/server/DataDirectory$Apparent" := F0.wr W3
  have f5 : Fld Z h3 a0 "com/example/lockstep/lockstep/server/DataDirectory$Apparent" "since" "J" (.long (0 : Int64)) := F2.other W3 (Or.inr (slot_ne (Or.inr (hw _ (List.mem_of_getElem? (i := 17) rfl))) (Or.inr (hw _ (List.mem_of_getElem? (i := 15) rfl))) (by decide) (t := .long) (t' := .int) (by decide) (by decide)))
  have f6 : Fld Z h3 a0 "com/example/lockstep/lockstep/server/DataDirectory$Apparent" "version" "I" (.int p1) := F1.same W3
  have Kp3 : Keep h0 h3 [a0] := Kp0.wr W3 (Or.inl (List.mem_of_getElem? (i := 0) rfl))
  have Z7 : n0 ≤ h3.size := Nat.le_trans Z0 (Nat.le_of_eq W3.size.symm)
  have N8 := Fr.snoc X3 N2 Ge0
  refine Goes.by st3 ?_
  show Goes p.tables e below _ (T3.setTop (mkF m 9 #[.val (.ref a0), .val (.int p1), .val (.long q2), .second] []))
  refine Goes.by (B := T3.setTop (mkF m 11 #[.val (.ref a0), .val (.int p1), .val (.long q2), .second] [(.long q2), (.ref a0)])) (fun t k => ?_) ?_
  · show Steps p.tables e below (T3.setTop (mkF m 9 #[.val (.ref a0), .val (.int p1), .val (.long q2), .second] [])) t
    refine XS.aloadN X3.here hx rfl (hb hby d1_9) rfl rfl ?_
    show Steps p.tables e below (T3.setTop (mkF m 10 #[.val (.ref a0), .val (.int p1), .val (.long q2), .second] [(.ref a0)])) t
    refine XS.lloadN X3.here hx rfl (hb hby d1_10) rfl ?_
    exact k
  obtain ⟨T9, h9, X9, e9, W9, st9⟩ := putF X3 hx hZ hown (host := "") (Or.inl (hw _ (List.mem_of_getElem? (i := 16) rfl))) Via.refl e3 f5 f4 (Or.inr ⟨(hw _ (List.mem_of_getElem? (i := 17) rfl)), rfl, hnm⟩) (hw _ (List.mem_of_getElem? (i := 1) rfl)) (ty := .long) (by decide) rfl rfl (g := (mkF m 11 #[.val (.ref a0), .val (.int p1), .val (.long q2), .second] [(.long q2), (.ref a0)])) rfl rfl (hb hby d1_11)
  have f10 : Exa Z h9 a0 "com/example/lockstep/lockstep/server/DataDirectory$Apparent" := f4.wr W9
  have f11 : Fld Z h9 a0 "com/example/lockstep/lockstep/server/DataDirectory$Apparent" "version" "I" (.int p1) := f6.other W9 (Or.inr (slot_ne (Or.inr (hw _ (List.mem_of_getElem? (i := 15) rfl))) (Or.inr (hw _ (List.mem_of_getElem? (i := 17) rfl))) (by decide) (t := .int) (t' := .long) (by decide) (by decide)))
  have f12 : Fld Z h9 a0 "com/example/lockstep/lockstep/server/DataDirectory$Apparent" "since" "J" (.long q2) := f5.same W9
  have Kp9 : Keep h0 h9 [a0] := Kp3.wr W9 (Or.inl (List.mem_of_getElem? (i := 0) rfl))
  have Z13 : n0 ≤ h9.size := Nat.le_trans Z7 (Nat.le_of_eq W9.size.symm)
  have N14 := Fr.snoc X9 N8 Ge0
  refine Goes.by st9 ?_
  show Goes p.tables e below _ (T9.setTop (mkF m 14 #[.val (.ref a0), .val (.int p1), .val (.long q2), .second] []))
  obtain ⟨fs, hr, hrun, hended, hW, hsame⟩ := X9.leave (v := none) (fun _ => rfl)
  refine Goes.mk _ _ ?_ ⟨hrun, hended, _, _, rfl, ?_, ⟨_, rfl⟩, hW, hsame.mono (by decide) (by decide)⟩
  · exact X9.returnOut hx Bd.returns (hb hby d1_14) hr
  · show Q1 Z a0 p1 q2 h0 n0 _ T9.heap _
    rw [e9]
    exact ⟨rfl, N14, Kp9, f10, f11, f12⟩
theorem d4_0 : decode prog_126_method_2_code 0 = .ok (.aload_n 0, 1) := by decide +kernel
theorem d4_1 : decode prog_126_method_2_code 1 = .ok (.getfield 7, 3) := by decide +kernel
theorem d4_4 : decode prog_126_method_2_code 4 = .ok (.iload_n 1, 1) := by decide +kernel
theorem d4_5 : decode prog_126_method_2_code 5 = .ok (.if_icmp .lt 7, 3) := by decide +kernel
theorem d4_12 : decode prog_126_method_2_code 12 = .ok (.iconst 0, 1) := by decide +kernel
theorem d4_13 : decode prog_126_method_2_code 13 = .ok (.ireturn, 1) := by decide +kernel
theorem d4_8 : decode prog_126_method_2_code 8 = .ok (.iconst 1, 1) := by decide +kernel
theorem d4_9 : decode prog_126_method_2_code 9 = .ok (.goto 4, 3) := by decide +kernel
def f4 (p1 : Int32) (w1 : Int32) : Int32 := (if w1 < p1 then (0 : Int32) else (1 : Int32))
def Q4 (Z : State) (a0 : Addr) (p1 : Int32) (w1 : Int32) (h0 : Heap) (n0 : Nat) (v : Option Value) (h : Heap) (L : List Loc) : Prop := v = some (.int (f4 p1 w1)) ∧ Fr n0 L ∧ h = h0
theorem ef4 (m : MethodId) (x0 : Addr) (x1 : Int32) : entryFrame m #[(.ref x0), (.int x1)] 2 = mkF m 0 #[.val (.ref x0), .val (.int x1)] [] := by first | (simp [entryFrame, mkF, argsToLocals, Value.category]; done) | rfl
set_option maxRecDepth 65536 in
set_option maxHeartbeats 40000000 in
theorem rm4 (l : Launch) (Z : State) (az : Array Value) (hw : ∀ d ∈ tables_1, d.before az Z = true) (ws : List Jvm.Cond) (a0 : Addr) (p1 : Int32) (w1 : Int32) (h0 : Heap) (n0 : Nat) (Z0 : n0 ≤ h0.size) (F0 : Fld Z h0 a0 "com/example/lockstep/lockstep/server/DataDirectory$Apparent" "version" "I" (.int w1)) :
    MetFree l (⟨"com/example/lockstep/lockstep/server/DataDirectory$Apparent", "brings", "(I)Z"⟩ : MethodName) (head1 (Jvm.Cond.code (⟨"com/example/lockstep/lockstep/server/DataDirectory$Apparent", "brings", "(I)Z"⟩ : MethodName) prog_126_method_2_code 2 (some .boolean) :: ws) ({ frames := 0, cells := 0, slots := 0, locals := 0 } : Room)) (fun a U => a = #[(.ref a0), (.int p1)] ∧ Z.Warmed39 U.vm ∧ U.heap = h0) (fun _ _ _ _ _ => True) (fun _ U o U' => ∃ v L, o = .returned v ∧ Q4 Z a0 p1 w1 h0 n0 v U'.heap L ∧ FrameEnd U o U' L ({ frames := 0, cells := 0, slots := 0, locals := 0 } : Room).cells ({ frames := 0, cells := 0, slots := 0, locals := 0 } : Room).slots) := by
  refine MetFree.of_bodySF (plainFor_of_name own_pn_com_example_lockstep_lockstep_server_DataDirectory_Apparent) hisR ?_
  intro p e s m args below meth c s₁ Bd hml0 hP hK
  obtain ⟨rfl, hZ, hh⟩ := hP
  have hx := Bd.exec
  have hby := Bd.bytes
  have hml : c.maxLocals = 2 := hml0
  have hown : s.vm.findClass "com/example/lockstep/lockstep/server/DataDirectory$Apparent" = some m.cls := findClass_of_methodNamed Bd.named
  have hnm := (name_of_methodNamed Bd.named Bd.method).1
  have X0 : Stand p l e ({ frames := 0, cells := 0, slots := 0, locals := 0 } : Room) s m #[(.ref a0), (.int p1)] below meth c s₁ [] 0 0 := Stand.of_body Bd
  have e0 : s₁.heap = h0 := by rw [← hh, Bd.state]; rfl
  have N0 := Fr.nil n0
  have Kp0 : Keep h0 h0 [] := Keep.refl _ _
  refine Goes.start ?_
  refine Goes.by (B := s₁.setTop (mkF m 0 #[.val (.ref a0), .val (.int p1)] [])) (fun t k => castTop (ef4 m a0 p1) k) ?_
  refine Goes.by (B := s₁.setTop (mkF m 1 #[.val (.ref a0), .val (.int p1)] [(.ref a0)])) (fun t k => ?_) ?_
  · show Steps p.tables e below (s₁.setTop (mkF m 0 #[.val (.ref a0), .val (.int p1)] [])) t
    refine XS.aloadN X0.here hx rfl (hb hby d4_0) rfl rfl ?_
    exact k
  obtain ⟨T1, X1, e1, st1⟩ := getF X0 hx hZ hown (host := "") (Or.inl (hw _ (List.mem_of_getElem? (i := 14) rfl))) Via.refl e0 F0 (g := (mkF m 1 #[.val (.ref a0), .val (.int p1)] [(.ref a0)])) rfl rfl (hb hby d4_1)
  refine Goes.by st1 ?_
  show Goes p.tables e below _ (T1.setTop (mkF m 4 #[.val (.ref a0), .val (.int p1)] [(.int w1)]))
  refine Goes.by (B := T1.setTop (mkF m 5 #[.val (.ref a0), .val (.int p1)] [(.int p1), (.int w1)])) (fun t k => ?_) ?_
  · show Steps p.tables e below (T1.setTop (mkF m 4 #[.val (.ref a0), .val (.int p1)] [(.int w1)])) t
    refine XS.iloadN X1.here hx rfl (hb hby d4_4) rfl ?_
    exact k
  by_cases hc2 : w1 < p1
  · refine Goes.by (B := T1.setTop (mkF m 13 #[.val (.ref a0), .val (.int p1)] [(.int (0 : Int32))])) (fun t k => ?_) ?_
    · show Steps p.tables e below (T1.setTop (mkF m 5 #[.val (.ref a0), .val (.int p1)] [(.int p1), (.int w1)])) t
      refine XS.icmpYes X1.here hx rfl (pc0 := 5) (pc' := 12) rfl (hb hby d4_5) rfl (tlt hc2).1 (by decide) (by decide) ?_
      show Steps p.tables e below (T1.setTop (mkF m 12 #[.val (.ref a0), .val (.int p1)] [])) t
      refine XS.iconst X1.here hx rfl (hb hby d4_12) ?_
      exact k
    obtain ⟨fs, hr, hrun, hended, hW, hsame⟩ := X1.leave (v := some (.int (0 : Int32))) (fun h => by rw [Bd.returns] at h; cases h)
    refine Goes.mk _ _ ?_ ⟨hrun, hended, _, _, rfl, ?_, ⟨_, rfl⟩, hW, hsame.mono (by decide) (by decide)⟩
    · exact retN X1 hx (t := .boolean) Bd.returns (by simp) (hb hby d4_13) hr
    · show Q4 Z a0 p1 w1 h0 n0 _ T1.heap _
      rw [e1]
      exact ⟨(by simp only [f4, if_pos hc2]), N0, rfl⟩
  · refine Goes.by (B := T1.setTop (mkF m 13 #[.val (.ref a0), .val (.int p1)] [(.int (1 : Int32))])) (fun t k => ?_) ?_
    · show Steps p.tables e below (T1.setTop (mkF m 5 #[.val (.ref a0), .val (.int p1)] [(.int p1), (.int w1)])) t
      refine XS.icmpNo X1.here hx rfl (hb hby d4_5) rfl (flt hc2).1 ?_
      show Steps p.tables e below (T1.setTop (mkF m 8 #[.val (.ref a0), .val (.int p1)] [])) t
      refine XS.iconst X1.here hx rfl (hb hby d4_8) ?_
      show Steps p.tables e below (T1.setTop (mkF m 9 #[.val (.ref a0), .val (.int p1)] [(.int (1 : Int32))])) t
      refine XS.goto X1.here hx rfl (pc0 := 9) (pc' := 13) rfl (hb hby d4_9) (by decide) (by decide) ?_
      exact k
    obtain ⟨fs, hr, hrun, hended, hW, hsame⟩ := X1.leave (v := some (.int (1 : Int32))) (fun h => by rw [Bd.returns] at h; cases h)
    refine Goes.mk _ _ ?_ ⟨hrun, hended, _, _, rfl, ?_, ⟨_, rfl⟩, hW, hsame.mono (by decide) (by decide)⟩
    · exact retN X1 hx (t := .boolean) Bd.returns (by simp) (hb hby d4_13) hr
    · show Q4 Z a0 p1 w1 h0 n0 _ T1.heap _
      rw [e1]
      exact ⟨(by simp only [f4, if_neg hc2]), N0, rfl⟩
theorem own_b0 (v : Int32) : ¬ (f4 v v = 0) := by
  have h : ¬ v < v := Int32.lt_irrefl
  simp only [f4, if_neg h]
  decide
theorem own_b1 (v : Int32) (h : ¬ (v = (2147483647 : Int32))) : f4 (v + (1 : Int32)) v = 0 := by
  have a := c_iadd v (1 : Int32)
  have r := rng32 (v + (1 : Int32))
  have r2 := rng32 v
  have l : (1 : Int32).toInt = 1 := by decide
  have e : v.toInt ≠ 2147483647 := fun q => h (Int32.toInt_inj.mp (q.trans (by decide)))
  have q : v < v + (1 : Int32) := by
    rw [Int32.lt_iff_toInt_lt]
    rw [l] at a
    omega
  simp only [f4, if_pos q]
theorem own_b2 (v : Int32) : ¬ (f4 (-2147483648 : Int32) v = 0) := by
  have r2 := rng32 v
  have l : (-2147483648 : Int32).toInt = -2147483648 := by decide
  have q : ¬ (v < (-2147483648 : Int32)) := by
    rw [Int32.lt_iff_toInt_lt, l]; omega
  simp only [f4, if_neg q]
  decide
theorem own_b3 (u v : Int32) (h : ¬ (v < u)) : f4 u v = 1 := by simp only [f4, if_neg h]
theorem own_b4 (u v : Int32) (h : v < u) : f4 u v = 0 := by simp only [f4, if_pos h]
theorem own_pd1 : parseMethodDescriptor "(IJ)V" = some ⟨[.int, .long], none⟩ := by decide +kernel
theorem own_pd2 : parseMethodDescriptor "(I)Z" = some ⟨[.int], some .boolean⟩ := by decide +kernel
def Q0 (Z : State) (p0 : Int32) (q1 : Int64) (p2 : Int32) (h0 : Heap) (n0 : Nat) (v : Option Value) (h : Heap) (L : List Loc) : Prop := v = some (.int 1) ∧ Fr n0 L
theorem own_pn_com_example_lockstep_lockstep_server_ApparentBringsPinLaw : plainName "com/example/lockstep/lockstep/server/ApparentBringsPinLaw" = true := by first | (simp [plainName, overriddenIn]; done) | decide +kernel
theorem ef0 (m : MethodId) (x0 : Int32) (x1 : Int64) (x2 : Int32) : entryFrame m #[(.int x0), (.long x1), (.int x2)] maxLocals = mkF m 0 #[.val (.int x0), .val (.long x1), .second, .val (.int x2), .unset, .unset, .unset, .unset, .unset] [] := by first | (simp [entryFrame, mkF, argsToLocals, Value.category, maxLocals]; done) | rfl
set_option maxRecDepth 65536 in
set_option maxHeartbeats 40000000 in
theorem rm0 (l : Launch) (Z : State) (az : Array Value) (hw : ∀ d ∈ tables_1, d.before az Z = true) (ws : List Jvm.Cond) (p0 : Int32) (q1 : Int64) (p2 : Int32) (h0 : Heap) (n0 : Nat) (Z0 : n0 ≤ h0.size) :
    MetFree l x (head1 (Jvm.Cond.code x code maxLocals ret :: ws) room_1) (fun a U => a = #[(.int p0), (.long q1), (.int p2)] ∧ Z.Warmed39 U.vm ∧ U.heap = h0) (fun _ _ _ _ _ => True) (fun _ U o U' => ∃ v L, o = .returned v ∧ Q0 Z p0 q1 p2 h0 n0 v U'.heap L ∧ FrameEnd U o U' L 1 2) := by
  refine MetFree.of_bodySF (plainFor_of_name own_pn_com_example_lockstep_lockstep_server_ApparentBringsPinLaw) hisR ?_
  intro p e s m args below meth c s₁ Bd hml0 hP hK
  obtain ⟨rfl, hZ, hh⟩ := hP
  have hx := Bd.exec
  have hby := Bd.bytes
  have hml : c.maxLocals = 9 := hml0
  have hown : s.vm.findClass "com/example/lockstep/lockstep/server/ApparentBringsPinLaw" = some m.cls := findClass_of_methodNamed Bd.named
  have hnm := (name_of_methodNamed Bd.named Bd.method).1
  have X0 : Stand p l e room_1 s m #[(.int p0), (.long q1), (.int p2)] below meth c s₁ [] 0 0 := Stand.of_body Bd
  have e0 : s₁.heap = h0 := by rw [← hh, Bd.state]; rfl
  have N0 := Fr.nil n0
  have Kp0 : Keep h0 h0 [] := Keep.refl _ _
  refine Goes.start ?_
  refine Goes.by (B := s₁.setTop (mkF m 0 #[.val (.int p0), .val (.long q1), .second, .val (.int p2), .unset, .unset, .unset, .unset, .unset] [])) (fun t k => castTop (ef0 m p0 q1 p2) k) ?_
  obtain ⟨T1, h1, X1, e1, E1, A1, D1, -, st1⟩ := newO X0 hx hZ hown (hw _ (List.mem_of_getElem? (i := 0) rfl)) (hw _ (List.mem_of_getElem? (i := 1) rfl)) (hw _ (List.mem_of_getElem? (i := 2) rfl)) e0 (g := (mkF m 0 #[.val (.int p0), .val (.long q1), .second, .val (.int p2), .unset, .unset, .unset, .unset, .unset] [])) rfl (hb hby at_0) (by decide) (by decide)
  obtain ⟨b2, g1⟩ : ∃ z, z = h0.size := ⟨_, rfl⟩
  rw [← g1] at A1 D1 st1
  have ge3 : n0 ≤ b2 := Nat.le_trans Z0 (Nat.le_of_eq g1.symm)
  have sz4 : h0.size ≤ b2 := Nat.le_trans Kp0.1 (Nat.le_of_eq g1.symm)
  have f5 : Fld Z h1 b2 "com/example/lockstep/lockstep/server/DataDirectory$Apparent" "version" "I" (.int (0 : Int32)) := D1 (Or.inr (hw _ (List.mem_of_getElem? (i := 15) rfl))) (ty := .int) (by decide)
  have f6 : Fld Z h1 b2 "com/example/lockstep/lockstep/server/DataDirectory$Apparent" "since" "J" (.long (0 : Int64)) := D1 (Or.inr (hw _ (List.mem_of_getElem? (i := 17) rfl))) (ty := .long) (by decide)
  have Kp1 : Keep h0 h1 [] := Kp0.ext E1
  have Z7 : n0 ≤ h1.size := Nat.le_trans Z0 E1.1
  refine Goes.by st1 ?_
  show Goes p.tables e below _ (T1.setTop (mkF m 3 #[.val (.int p0), .val (.long q1), .second, .val (.int p2), .unset, .unset, .unset, .unset, .unset] [(.ref b2)]))
  refine Goes.by (B := T1.setTop (mkF m 6 #[.val (.int p0), .val (.long q1), .second, .val (.int p2), .unset, .unset, .unset, .unset, .unset] [(.long q1), (.int p0), (.ref b2), (.ref b2)])) (fun t k => ?_) ?_
  · show Steps p.tables e below (T1.setTop (mkF m 3 #[.val (.int p0), .val (.long q1), .second, .val (.int p2), .unset, .unset, .unset, .unset, .unset] [(.ref b2)])) t
    refine XS.dup X1.here hx rfl (hb hby at_3) rfl rfl ?_
    show Steps p.tables e below (T1.setTop (mkF m 4 #[.val (.int p0), .val (.long q1), .second, .val (.int p2), .unset, .unset, .unset, .unset, .unset] [(.ref b2), (.ref b2)])) t
    refine XS.iloadN X1.here hx rfl (hb hby at_4) rfl ?_
    show Steps p.tables e below (T1.setTop (mkF m 5 #[.val (.int p0), .val (.long q1), .second, .val (.int p2), .unset, .unset, .unset, .unset, .unset] [(.int p0), (.ref b2), (.ref b2)])) t
    refine XS.lloadN X1.here hx rfl (hb hby at_5) rfl ?_
    exact k
  obtain ⟨_, _, ⟨T8, L8, k8, n8⟩, -, X8, ⟨Lc8, hQ8, l8, y8, z8⟩, st8⟩ := X1.specialBack hx (y := (⟨"com/example/lockstep/lockstep/server/DataDirectory$Apparent", "<init>", "(IJ)V"⟩ : MethodName)) rfl hown (mvT hZ (hw _ (List.mem_of_getElem? (i := 3) rfl))) (mvT hZ (hw _ (List.mem_of_getElem? (i := 4) rfl))) (mvT hZ (hw _ (List.mem_of_getElem? (i := 5) rfl))) (by decide) (backOf (W := 1) (rm1 l Z az hw [] b2 p0 q1 h1 n0 Z7 A1 f5 f6 ge3) hZ (hw _ (List.mem_of_getElem? (i := 5) rfl)) (hw _ (List.mem_of_getElem? (i := 2) rfl)) (by decide) (by decide)) (g := (mkF m 6 #[.val (.int p0), .val (.long q1), .second, .val (.int p2), .unset, .unset, .unset, .unset, .unset] [(.long q1), (.int p0), (.ref b2), (.ref b2)])) rfl (by rw [hml]; rfl) (Steps.refl _) (a := b2) (argsL := [(.int p0), (.long q1)]) (rest := [(.ref b2)]) (lenOf own_pd1 rfl) rfl (by show 2 * 0 + _ ≤ _; exact Nat.le_of_eq rfl) (hb hby at_6) (fun _ _ => ⟨rfl, e1, (by decide : 1 + 0 ≤ _), (by decide : 2 + 0 ≤ _)⟩)
  dsimp only [Pt.U, Pt.locs, Pt.cells, Pt.slots] at X8 l8 y8 z8 st8 hQ8
  subst l8 y8 z8
  obtain ⟨rfl, N8q, K8, f9, f10, f11⟩ := hQ8
  have f12 : Exa Z T8.heap b2 "com/example/lockstep/lockstep/server/DataDirectory$Apparent" := A1.keep K8
  have Kp8 : Keep h0 T8.heap [] := Kp1.trans K8 (allS (Or.inr sz4) all0)
  have Z13 : n0 ≤ T8.heap.size := Nat.le_trans Z7 K8.1
  have N14 := Fr.app N0 N8q
  refine Goes.by (fun _ k => st8.trans k) ?_
  show Goes p.tables e below _ (T8.setTop (mkF m 9 #[.val (.int p0), .val (.long q1), .second, .val (.int p2), .unset, .unset, .unset, .unset, .unset] [(.ref b2)]))
  refine Goes.by (B := T8.setTop (mkF m 14 #[.val (.int p0), .val (.long q1), .second, .val (.int p2), .val (.ref b2), .unset, .unset, .unset, .unset] [(.int p2), (.ref b2)])) (fun t k => ?_) ?_
  · show Steps p.tables e below (T8.setTop (mkF m 9 #[.val (.int p0), .val (.long q1), .second, .val (.int p2), .unset, .unset, .unset, .unset, .unset] [(.ref b2)])) t
    refine XS.astore X8.here hx rfl (hb hby at_9) rfl rfl (l' := #[.val (.int p0), .val (.long q1), .second, .val (.int p2), .val (.ref b2), .unset, .unset, .unset, .unset]) rfl ?_
    show Steps p.tables e below (T8.setTop (mkF m 11 #[.val (.int p0), .val (.long q1), .second, .val (.int p2), .val (.ref b2), .unset, .unset, .unset, .unset] [])) t
    refine XS.aload X8.here hx rfl (hb hby at_11) rfl rfl ?_
    show Steps p.tables e below (T8.setTop (mkF m 13 #[.val (.int p0), .val (.long q1), .second, .val (.int p2), .val (.ref b2), .unset, .unset, .unset, .unset] [(.ref b2)])) t
    refine XS.iloadN X8.here hx rfl (hb hby at_13) rfl ?_
    exact k
  obtain ⟨cq15, kq15, q15a, q15b, q15c⟩ := isOf hZ rfl f9
  obtain ⟨_, _, ⟨T15, L15, k15, n15⟩, -, X15, ⟨Lc15, hQ15, l15, y15, z15⟩, st15⟩ := X8.virtualBack hx (y := (⟨"com/example/lockstep/lockstep/server/DataDirectory$Apparent", "brings", "(I)Z"⟩ : MethodName)) (z := (⟨"com/example/lockstep/lockstep/server/DataDirectory$Apparent", "brings", "(I)Z"⟩ : MethodName)) hown (mvT hZ (hw _ (List.mem_of_getElem? (i := 18) rfl))) (mvT hZ (hw _ (List.mem_of_getElem? (i := 19) rfl))) (notFace_of_selects (args := #[]) (mvT hZ (hw _ (List.mem_of_getElem? (i := 21) rfl)))) (mvT hZ (hw _ (List.mem_of_getElem? (i := 21) rfl))) (mvT hZ (hw _ (List.mem_of_getElem? (i := 20) rfl))) (by decide) (backOf (W := 0) (rm4 l Z az hw [] b2 p2 p0 T8.heap n0 Z13 f10) hZ (hw _ (List.mem_of_getElem? (i := 22) rfl)) (hw _ (List.mem_of_getElem? (i := 2) rfl)) (by decide) (by decide)) q15a q15c (g := (mkF m 14 #[.val (.int p0), .val (.long q1), .second, .val (.int p2), .val (.ref b2), .unset, .unset, .unset, .unset] [(.int p2), (.ref b2)])) rfl (by rw [hml]; rfl) (Steps.refl _) (argsL := [(.int p2)]) (rest := []) (lenOf own_pd2 rfl) rfl (by show 2 * 0 + _ ≤ _; exact Nat.le_of_eq rfl) (hb hby at_14) (fun _ _ => ⟨rfl, rfl, (by decide : 1 + 0 ≤ _), (by decide : 2 + 0 ≤ _)⟩)
  dsimp only [Pt.U, Pt.locs, Pt.cells, Pt.slots] at X15 l15 y15 z15 st15 hQ15
  subst l15 y15 z15
  obtain ⟨rfl, N15q, e15⟩ := hQ15
  have N16 := Fr.app N14 N15q
  refine Goes.by (fun _ k => st15.trans k) ?_
  show Goes p.tables e below _ (T15.setTop (mkF m 17 #[.val (.int p0), .val (.long q1), .second, .val (.int p2), .val (.ref b2), .unset, .unset, .unset, .unset] [(.int (f4 p2 p0))]))
  refine Goes.by (B := T15.setTop (mkF m 22 #[.val (.int p0), .val (.long q1), .second, .val (.int p2), .val (.ref b2), .val (.int (f4 p2 p0)), .unset, .unset, .unset] [(.int p0), (.ref b2)])) (fun t k => ?_) ?_
  · show Steps p.tables e below (T15.setTop (mkF m 17 #[.val (.int p0), .val (.long q1), .second, .val (.int p2), .val (.ref b2), .unset, .unset, .unset, .unset] [(.int (f4 p2 p0))])) t
    refine XS.istore X15.here hx rfl (hb hby at_17) rfl (l' := #[.val (.int p0), .val (.long q1), .second, .val (.int p2), .val (.ref b2), .val (.int (f4 p2 p0)), .unset, .unset, .unset]) rfl ?_
    show Steps p.tables e below (T15.setTop (mkF m 19 #[.val (.int p0), .val (.long q1), .second, .val (.int p2), .val (.ref b2), .val (.int (f4 p2 p0)), .unset, .unset, .unset] [])) t
    refine XS.aload X15.here hx rfl (hb hby at_19) rfl rfl ?_
    show Steps p.tables e below (T15.setTop (mkF m 21 #[.val (.int p0), .val (.long q1), .second, .val (.int p2), .val (.ref b2), .val (.int (f4 p2 p0)), .unset, .unset, .unset] [(.ref b2)])) t
    refine XS.iloadN X15.here hx rfl (hb hby at_21) rfl ?_
    exact k
  obtain ⟨cq17, kq17, q17a, q17b, q17c⟩ := isOf hZ e15 f9
  obtain ⟨_, _, ⟨T17, L17, k17, n17⟩, -, X17, ⟨Lc17, hQ17, l17, y17, z17⟩, st17⟩ := X15.virtualBack hx (y := (⟨"com/example/lockstep/lockstep/server/DataDirectory$Apparent", "brings", "(I)Z"⟩ : MethodName)) (z := (⟨"com/example/lockstep/lockstep/server/DataDirectory$Apparent", "brings", "(I)Z"⟩ : MethodName)) hown (mvT hZ (hw _ (List.mem_of_getElem? (i := 18) rfl))) (mvT hZ (hw _ (List.mem_of_getElem? (i := 19) rfl))) (notFace_of_selects (args := #[]) (mvT hZ (hw _ (List.mem_of_getElem? (i := 21) rfl)))) (mvT hZ (hw _ (List.mem_of_getElem? (i := 21) rfl))) (mvT hZ (hw _ (List.mem_of_getElem? (i := 20) rfl))) (by decide) (backOf (W := 0) (rm4 l Z az hw [] b2 p0 p0 T8.heap n0 Z13 f10) hZ (hw _ (List.mem_of_getElem? (i := 22) rfl)) (hw _ (List.mem_of_getElem? (i := 2) rfl)) (by decide) (by decide)) q17a q17c (g := (mkF m 22 #[.val (.int p0), .val (.long q1), .second, .val (.int p2), .val (.ref b2), .val (.int (f4 p2 p0)), .unset, .unset, .unset] [(.int p0), (.ref b2)])) rfl (by rw [hml]; rfl) (Steps.refl _) (argsL := [(.int p0)]) (rest := []) (lenOf own_pd2 rfl) rfl (by show 2 * 0 + _ ≤ _; exact Nat.le_of_eq rfl) (hb hby at_22) (fun _ _ => ⟨rfl, e15, (by decide : 1 + 0 ≤ _), (by decide : 2 + 0 ≤ _)⟩)
  dsimp only [Pt.U, Pt.locs, Pt.cells, Pt.slots] at X17 l17 y17 z17 st17 hQ17
  subst l17 y17 z17
  obtain ⟨rfl, N17q, e17⟩ := hQ17
  have N18 := Fr.app N16 N17q
  refine Goes.by (fun _ k => st17.trans k) ?_
  show Goes p.tables e below _ (T17.setTop (mkF m 25 #[.val (.int p0), .val (.long q1), .second, .val (.int p2), .val (.ref b2), .val (.int (f4 p2 p0)), .unset, .unset, .unset] [(.int (f4 p0 p0))]))
  refine Goes.by (B := T17.setTop (mkF m 33 #[.val (.int p0), .val (.long q1), .second, .val (.int p2), .val (.ref b2), .val (.int (f4 p2 p0)), .val (.int (f4 p0 p0)), .val (.int (0 : Int32)), .unset] [(.int (2147483647 : Int32)), (.int p0)])) (fun t k => ?_) ?_
  · show Steps p.tables e below (T17.setTop (mkF m 25 #[.val (.int p0), .val (.long q1), .second, .val (.int p2), .val (.ref b2), .val (.int (f4 p2 p0)), .unset, .unset, .unset] [(.int (f4 p0 p0))])) t
    refine XS.istore X17.here hx rfl (hb hby at_25) rfl (l' := #[.val (.int p0), .val (.long q1), .second, .val (.int p2), .val (.ref b2), .val (.int (f4 p2 p0)), .val (.int (f4 p0 p0)), .unset, .unset]) rfl ?_
    show Steps p.tables e below (T17.setTop (mkF m 27 #[.val (.int p0), .val (.long q1), .second, .val (.int p2), .val (.ref b2), .val (.int (f4 p2 p0)), .val (.int (f4 p0 p0)), .unset, .unset] [])) t
    refine XS.iconst X17.here hx rfl (hb hby at_27) ?_
    show Steps p.tables e below (T17.setTop (mkF m 28 #[.val (.int p0), .val (.long q1), .second, .val (.int p2), .val (.ref b2), .val (.int (f4 p2 p0)), .val (.int (f4 p0 p0)), .unset, .unset] [(.int (0 : Int32))])) t
    refine XS.istore X17.here hx rfl (hb hby at_28) rfl (l' := #[.val (.int p0), .val (.long q1), .second, .val (.int p2), .val (.ref b2), .val (.int (f4 p2 p0)), .val (.int (f4 p0 p0)), .val (.int (0 : Int32)), .unset]) rfl ?_
    show Steps p.tables e below (T17.setTop (mkF m 30 #[.val (.int p0), .val (.long q1), .second, .val (.int p2), .val (.ref b2), .val (.int (f4 p2 p0)), .val (.int (f4 p0 p0)), .val (.int (0 : Int32)), .unset] [])) t
    refine XS.iloadN X17.here hx rfl (hb hby at_30) rfl ?_
    show Steps p.tables e below (T17.setTop (mkF m 31 #[.val (.int p0), .val (.long q1), .second, .val (.int p2), .val (.ref b2), .val (.int (f4 p2 p0)), .val (.int (f4 p0 p0)), .val (.int (0 : Int32)), .unset] [(.int p0)])) t
    refine X17.ldcInt hx hown (mvT hZ (hw _ (List.mem_of_getElem? (i := 23) rfl))) (g := (mkF m 31 #[.val (.int p0), .val (.long q1), .second, .val (.int p2), .val (.ref b2), .val (.int (f4 p2 p0)), .val (.int (f4 p0 p0)), .val (.int (0 : Int32)), .unset] [(.int p0)])) rfl (hb hby at_31) _ ?_
    exact k
  by_cases hc19 : p0 = (2147483647 : Int32)
  · refine Goes.by (B := T17.setTop (mkF m 50 #[.val (.int p0), .val (.long q1), .second, .val (.int p2), .val (.ref b2), .val (.int (f4 p2 p0)), .val (.int (f4 p0 p0)), .val (.int (0 : Int32)), .unset] [(.int (-2147483648 : Int32)), (.ref b2)])) (fun t k => ?_) ?_
    · show Steps p.tables e below (T17.setTop (mkF m 33 #[.val (.int p0), .val (.long q1), .second, .val (.int p2), .val (.ref b2), .val (.int (f4 p2 p0)), .val (.int (f4 p0 p0)), .val (.int (0 : Int32)), .unset] [(.int (2147483647 : Int32)), (.int p0)])) t
      refine XS.icmpYes X17.here hx rfl (pc0 := 33) (pc' := 46) rfl (hb hby at_33) rfl (teq hc19).1 (by decide) (by decide) ?_
      show Steps p.tables e below (T17.setTop (mkF m 46 #[.val (.int p0), .val (.long q1), .second, .val (.int p2), .val (.ref b2), .val (.int (f4 p2 p0)), .val (.int (f4 p0 p0)), .val (.int (0 : Int32)), .unset] [])) t
      refine XS.aload X17.here hx rfl (hb hby at_46) rfl rfl ?_
      show Steps p.tables e below (T17.setTop (mkF m 48 #[.val (.int p0), .val (.long q1), .second, .val (.int p2), .val (.ref b2), .val (.int (f4 p2 p0)), .val (.int (f4 p0 p0)), .val (.int (0 : Int32)), .unset] [(.ref b2)])) t
      refine X17.ldcInt hx hown (mvT hZ (hw _ (List.mem_of_getElem? (i := 24) rfl))) (g := (mkF m 48 #[.val (.int p0), .val (.long q1), .second, .val (.int p2), .val (.ref b2), .val (.int (f4 p2 p0)), .val (.int (f4 p0 p0)), .val (.int (0 : Int32)), .unset] [(.ref b2)])) rfl (hb hby at_48) _ ?_
      exact k
    obtain ⟨cq20, kq20, q20a, q20b, q20c⟩ := isOf hZ e17 f9
    obtain ⟨_, _, ⟨T20, L20, k20, n20⟩, -, X20, ⟨Lc20, hQ20, l20, y20, z20⟩, st20⟩ := X17.virtualBack hx (y := (⟨"com/example/lockstep/lockstep/server/DataDirectory$Apparent", "brings", "(I)Z"⟩ : MethodName)) (z := (⟨"com/example/lockstep/lockstep/server/DataDirectory$Apparent", "brings", "(I)Z"⟩ : MethodName)) hown (mvT hZ (hw _ (List.mem_of_getElem? (i := 18) rfl))) (mvT hZ (hw _ (List.mem_of_getElem? (i := 19) rfl))) (notFace_of_selects (args := #[]) (mvT hZ (hw _ (List.mem_of_getElem? (i := 21) rfl)))) (mvT hZ (hw _ (List.mem_of_getElem? (i := 21) rfl))) (mvT hZ (hw _ (List.mem_of_getElem? (i := 20) rfl))) (by decide) (backOf (W := 0) (rm4 l Z az hw [] b2 (-2147483648 : Int32) p0 T8.heap n0 Z13 f10) hZ (hw _ (List.mem_of_getElem? (i := 22) rfl)) (hw _ (List.mem_of_getElem? (i := 2) rfl)) (by decide) (by decide)) q20a q20c (g := (mkF m 50 #[.val (.int p0), .val (.long q1), .second, .val (.int p2), .val (.ref b2), .val (.int (f4 p2 p0)), .val (.int (f4 p0 p0)), .val (.int (0 : Int32)), .unset] [(.int (-2147483648 : Int32)), (.ref b2)])) rfl (by rw [hml]; rfl) (Steps.refl _) (argsL := [(.int (-2147483648 : Int32))]) (rest := []) (lenOf own_pd2 rfl) rfl (by show 2 * 0 + _ ≤ _; exact Nat.le_of_eq rfl) (hb hby at_50) (fun _ _ => ⟨rfl, e17, (by decide : 1 + 0 ≤ _), (by decide : 2 + 0 ≤ _)⟩)
    dsimp only [Pt.U, Pt.locs, Pt.cells, Pt.slots] at X20 l20 y20 z20 st20 hQ20
    subst l20 y20 z20
    obtain ⟨rfl, N20q, e20⟩ := hQ20
    have N21 := Fr.app N18 N20q
    refine Goes.by (fun _ k => st20.trans k) ?_
    show Goes p.tables e below _ (T20.setTop (mkF m 53 #[.val (.int p0), .val (.long q1), .second, .val (.int p2), .val (.ref b2), .val (.int (f4 p2 p0)), .val (.int (f4 p0 p0)), .val (.int (0 : Int32)), .unset] [(.int (f4 (-2147483648 : Int32) p0))]))
    refine Goes.by (B := T20.setTop (mkF m 74 #[.val (.int p0), .val (.long q1), .second, .val (.int p2), .val (.ref b2), .val (.int (f4 p2 p0)), .val (.int (f4 p0 p0)), .val (.int (0 : Int32)), .val (.int (f4 (-2147483648 : Int32) p0))] [(.int p0), (.int p2)])) (fun t k => ?_) ?_
    · show Steps p.tables e below (T20.setTop (mkF m 53 #[.val (.int p0), .val (.long q1), .second, .val (.int p2), .val (.ref b2), .val (.int (f4 p2 p0)), .val (.int (f4 p0 p0)), .val (.int (0 : Int32)), .unset] [(.int (f4 (-2147483648 : Int32) p0))])) t
      refine XS.istore X20.here hx rfl (hb hby at_53) rfl (l' := #[.val (.int p0), .val (.long q1), .second, .val (.int p2), .val (.ref b2), .val (.int (f4 p2 p0)), .val (.int (f4 p0 p0)), .val (.int (0 : Int32)), .val (.int (f4 (-2147483648 : Int32) p0))]) rfl ?_
      show Steps p.tables e below (T20.setTop (mkF m 55 #[.val (.int p0), .val (.long q1), .second, .val (.int p2), .val (.ref b2), .val (.int (f4 p2 p0)), .val (.int (f4 p0 p0)), .val (.int (0 : Int32)), .val (.int (f4 (-2147483648 : Int32) p0))] [])) t
      refine XS.iload X20.here hx rfl (hb hby at_55) rfl ?_
      show Steps p.tables e below (T20.setTop (mkF m 57 #[.val (.int p0), .val (.long q1), .second, .val (.int p2), .val (.ref b2), .val (.int (f4 p2 p0)), .val (.int (f4 p0 p0)), .val (.int (0 : Int32)), .val (.int (f4 (-2147483648 : Int32) p0))] [(.int (f4 p0 p0))])) t
      refine XS.ifNo X20.here hx rfl (hb hby at_57) rfl ((if0 _ _).trans (feq (own_b0 p0)).1) ?_
      show Steps p.tables e below (T20.setTop (mkF m 60 #[.val (.int p0), .val (.long q1), .second, .val (.int p2), .val (.ref b2), .val (.int (f4 p2 p0)), .val (.int (f4 p0 p0)), .val (.int (0 : Int32)), .val (.int (f4 (-2147483648 : Int32) p0))] [])) t
      refine XS.iload X20.here hx rfl (hb hby at_60) rfl ?_
      show Steps p.tables e below (T20.setTop (mkF m 62 #[.val (.int p0), .val (.long q1), .second, .val (.int p2), .val (.ref b2), .val (.int (f4 p2 p0)), .val (.int (f4 p0 p0)), .val (.int (0 : Int32)), .val (.int (f4 (-2147483648 : Int32) p0))] [(.int (0 : Int32))])) t
      refine XS.ifNo X20.here hx rfl (hb hby at_62) rfl ((if0 _ _).trans (teq (by decide : (0 : Int32) = (0 : Int32))).2) ?_
      show Steps p.tables e below (T20.setTop (mkF m 65 #[.val (.int p0), .val (.long q1), .second, .val (.int p2), .val (.ref b2), .val (.int (f4 p2 p0)), .val (.int (f4 p0 p0)), .val (.int (0 : Int32)), .val (.int (f4 (-2147483648 : Int32) p0))] [])) t
      refine XS.iload X20.here hx rfl (hb hby at_65) rfl ?_
      show Steps p.tables e below (T20.setTop (mkF m 67 #[.val (.int p0), .val (.long q1), .second, .val (.int p2), .val (.ref b2), .val (.int (f4 p2 p0)), .val (.int (f4 p0 p0)), .val (.int (0 : Int32)), .val (.int (f4 (-2147483648 : Int32) p0))] [(.int (f4 (-2147483648 : Int32) p0))])) t
      refine XS.ifYes X20.here hx rfl (pc0 := 67) (pc' := 72) rfl (hb hby at_67) rfl ((if0 _ _).trans (feq (own_b2 p0)).2) (by decide) (by decide) ?_
      show Steps p.tables e below (T20.setTop (mkF m 72 #[.val (.int p0), .val (.long q1), .second, .val (.int p2), .val (.ref b2), .val (.int (f4 p2 p0)), .val (.int (f4 p0 p0)), .val (.int (0 : Int32)), .val (.int (f4 (-2147483648 : Int32) p0))] [])) t
      refine XS.iloadN X20.here hx rfl (hb hby at_72) rfl ?_
      show Steps p.tables e below (T20.setTop (mkF m 73 #[.val (.int p0), .val (.long q1), .second, .val (.int p2), .val (.ref b2), .val (.int (f4 p2 p0)), .val (.int (f4 p0 p0)), .val (.int (0 : Int32)), .val (.int (f4 (-2147483648 : Int32) p0))] [(.int p2)])) t
      refine XS.iloadN X20.here hx rfl (hb hby at_73) rfl ?_
      exact k
    by_cases hc22 : p0 < p2
    · refine Goes.by (B := T20.setTop (mkF m 90 #[.val (.int p0), .val (.long q1), .second, .val (.int p2), .val (.ref b2), .val (.int (f4 p2 p0)), .val (.int (f4 p0 p0)), .val (.int (0 : Int32)), .val (.int (f4 (-2147483648 : Int32) p0))] [(.int (1 : Int32))])) (fun t k => ?_) ?_
      · show Steps p.tables e below (T20.setTop (mkF m 74 #[.val (.int p0), .val (.long q1), .second, .val (.int p2), .val (.ref b2), .val (.int (f4 p2 p0)), .val (.int (f4 p0 p0)), .val (.int (0 : Int32)), .val (.int (f4 (-2147483648 : Int32) p0))] [(.int p0), (.int p2)])) t
        refine XS.icmpYes X20.here hx rfl (pc0 := 74) (pc' := 80) rfl (hb hby at_74) rfl (tlt hc22).2.2.1 (by decide) (by decide) ?_
        show Steps p.tables e below (T20.setTop (mkF m 80 #[.val (.int p0), .val (.long q1), .second, .val (.int p2), .val (.ref b2), .val (.int (f4 p2 p0)), .val (.int (f4 p0 p0)), .val (.int (0 : Int32)), .val (.int (f4 (-2147483648 : Int32) p0))] [])) t
        refine XS.iload X20.here hx rfl (hb hby at_80) rfl ?_
        show Steps p.tables e below (T20.setTop (mkF m 82 #[.val (.int p0), .val (.long q1), .second, .val (.int p2), .val (.ref b2), .val (.int (f4 p2 p0)), .val (.int (f4 p0 p0)), .val (.int (0 : Int32)), .val (.int (f4 (-2147483648 : Int32) p0))] [(.int (f4 p2 p0))])) t
        refine XS.ifNo X20.here hx rfl (hb hby at_82) rfl ((if0 _ _).trans (teq (own_b4 p2 p0 hc22)).2) ?_
        show Steps p.tables e below (T20.setTop (mkF m 85 #[.val (.int p0), .val (.long q1), .second, .val (.int p2), .val (.ref b2), .val (.int (f4 p2 p0)), .val (.int (f4 p0 p0)), .val (.int (0 : Int32)), .val (.int (f4 (-2147483648 : Int32) p0))] [])) t
        refine XS.iconst X20.here hx rfl (hb hby at_85) ?_
        show Steps p.tables e below (T20.setTop (mkF m 86 #[.val (.int p0), .val (.long q1), .second, .val (.int p2), .val (.ref b2), .val (.int (f4 p2 p0)), .val (.int (f4 p0 p0)), .val (.int (0 : Int32)), .val (.int (f4 (-2147483648 : Int32) p0))] [(.int (1 : Int32))])) t
        refine XS.goto X20.here hx rfl (pc0 := 86) (pc' := 90) rfl (hb hby at_86) (by decide) (by decide) ?_
        exact k
      obtain ⟨fs, hr, hrun, hended, hW, hsame⟩ := X20.leave (v := some (.int (1 : Int32))) (fun h => by rw [Bd.returns] at h; cases h)
      refine Goes.mk _ _ ?_ ⟨hrun, hended, _, _, rfl, ?_, ⟨_, rfl⟩, hW, hsame.mono (by decide) (by decide)⟩
      · exact retN X20 hx (t := .boolean) Bd.returns (by simp) (hb hby at_90) hr
      · show Q0 Z p0 q1 p2 h0 n0 _ T20.heap _
        rw [e20]
        exact ⟨rfl, N21⟩
    · refine Goes.by (B := T20.setTop (mkF m 79 #[.val (.int p0), .val (.long q1), .second, .val (.int p2), .val (.ref b2), .val (.int (f4 p2 p0)), .val (.int (f4 p0 p0)), .val (.int (0 : Int32)), .val (.int (f4 (-2147483648 : Int32) p0))] [(.int (f4 p2 p0))])) (fun t k => ?_) ?_
      · show Steps p.tables e below (T20.setTop (mkF m 74 #[.val (.int p0), .val (.long q1), .second, .val (.int p2), .val (.ref b2), .val (.int (f4 p2 p0)), .val (.int (f4 p0 p0)), .val (.int (0 : Int32)), .val (.int (f4 (-2147483648 : Int32) p0))] [(.int p0), (.int p2)])) t
        refine XS.icmpNo X20.here hx rfl (hb hby at_74) rfl (flt hc22).2.2.1 ?_
        show Steps p.tables e below (T20.setTop (mkF m 77 #[.val (.int p0), .val (.long q1), .second, .val (.int p2), .val (.ref b2), .val (.int (f4 p2 p0)), .val (.int (f4 p0 p0)), .val (.int (0 : Int32)), .val (.int (f4 (-2147483648 : Int32) p0))] [])) t
        refine XS.iload X20.here hx rfl (hb hby at_77) rfl ?_
        exact k
      obtain ⟨fs, hr, hrun, hended, hW, hsame⟩ := X20.leave (v := some (.int (nar .boolean (f4 p2 p0)))) (fun h => by rw [Bd.returns] at h; cases h)
      refine Goes.mk _ _ ?_ ⟨hrun, hended, _, _, rfl, ?_, ⟨_, rfl⟩, hW, hsame.mono (by decide) (by decide)⟩
      · exact retN X20 hx (t := .boolean) Bd.returns (by simp) (hb hby at_79) hr
      · show Q0 Z p0 q1 p2 h0 n0 _ T20.heap _
        rw [e20]
        exact ⟨by rw [own_b3 p2 p0 hc22]; rfl, N21⟩
  · refine Goes.by (B := T17.setTop (mkF m 41 #[.val (.int p0), .val (.long q1), .second, .val (.int p2), .val (.ref b2), .val (.int (f4 p2 p0)), .val (.int (f4 p0 p0)), .val (.int (0 : Int32)), .unset] [(.int (p0 + (1 : Int32))), (.ref b2)])) (fun t k => ?_) ?_
    · show Steps p.tables e below (T17.setTop (mkF m 33 #[.val (.int p0), .val (.long q1), .second, .val (.int p2), .val (.ref b2), .val (.int (f4 p2 p0)), .val (.int (f4 p0 p0)), .val (.int (0 : Int32)), .unset] [(.int (2147483647 : Int32)), (.int p0)])) t
      refine XS.icmpNo X17.here hx rfl (hb hby at_33) rfl (feq hc19).1 ?_
      show Steps p.tables e below (T17.setTop (mkF m 36 #[.val (.int p0), .val (.long q1), .second, .val (.int p2), .val (.ref b2), .val (.int (f4 p2 p0)), .val (.int (f4 p0 p0)), .val (.int (0 : Int32)), .unset] [])) t
      refine XS.aload X17.here hx rfl (hb hby at_36) rfl rfl ?_
      show Steps p.tables e below (T17.setTop (mkF m 38 #[.val (.int p0), .val (.long q1), .second, .val (.int p2), .val (.ref b2), .val (.int (f4 p2 p0)), .val (.int (f4 p0 p0)), .val (.int (0 : Int32)), .unset] [(.ref b2)])) t
      refine XS.iloadN X17.here hx rfl (hb hby at_38) rfl ?_
      show Steps p.tables e below (T17.setTop (mkF m 39 #[.val (.int p0), .val (.long q1), .second, .val (.int p2), .val (.ref b2), .val (.int (f4 p2 p0)), .val (.int (f4 p0 p0)), .val (.int (0 : Int32)), .unset] [(.int p0), (.ref b2)])) t
      refine XS.iconst X17.here hx rfl (hb hby at_39) ?_
      show Steps p.tables e below (T17.setTop (mkF m 40 #[.val (.int p0), .val (.long q1), .second, .val (.int p2), .val (.ref b2), .val (.int (f4 p2 p0)), .val (.int (f4 p0 p0)), .val (.int (0 : Int32)), .unset] [(.int (1 : Int32)), (.int p0), (.ref b2)])) t
      refine XS.iadd X17.here hx rfl (hb hby at_40) rfl ?_
      exact k
    obtain ⟨cq23, kq23, q23a, q23b, q23c⟩ := isOf hZ e17 f9
    obtain ⟨_, _, ⟨T23, L23, k23, n23⟩, -, X23, ⟨Lc23, hQ23, l23, y23, z23⟩, st23⟩ := X17.virtualBack hx (y := (⟨"com/example/lockstep/lockstep/server/DataDirectory$Apparent", "brings", "(I)Z"⟩ : MethodName)) (z := (⟨"com/example/lockstep/lockstep/server/DataDirectory$Apparent", "brings", "(I)Z"⟩ : MethodName)) hown (mvT hZ (hw _ (List.mem_of_getElem? (i := 18) rfl))) (mvT hZ (hw _ (List.mem_of_getElem? (i := 19) rfl))) (notFace_of_selects (args := #[]) (mvT hZ (hw _ (List.mem_of_getElem? (i := 21) rfl)))) (mvT hZ (hw _ (List.mem_of_getElem? (i := 21) rfl))) (mvT hZ (hw _ (List.mem_of_getElem? (i := 20) rfl))) (by decide) (backOf (W := 0) (rm4 l Z az hw [] b2 (p0 + (1 : Int32)) p0 T8.heap n0 Z13 f10) hZ (hw _ (List.mem_of_getElem? (i := 22) rfl)) (hw _ (List.mem_of_getElem? (i := 2) rfl)) (by decide) (by decide)) q23a q23c (g := (mkF m 41 #[.val (.int p0), .val (.long q1), .second, .val (.int p2), .val (.ref b2), .val (.int (f4 p2 p0)), .val (.int (f4 p0 p0)), .val (.int (0 : Int32)), .unset] [(.int (p0 + (1 : Int32))), (.ref b2)])) rfl (by rw [hml]; rfl) (Steps.refl _) (argsL := [(.int (p0 + (1 : Int32)))]) (rest := []) (lenOf own_pd2 rfl) rfl (by show 2 * 0 + _ ≤ _; exact Nat.le_of_eq rfl) (hb hby at_41) (fun _ _ => ⟨rfl, e17, (by decide : 1 + 0 ≤ _), (by decide : 2 + 0 ≤ _)⟩)
    dsimp only [Pt.U, Pt.locs, Pt.cells, Pt.slots] at X23 l23 y23 z23 st23 hQ23
    subst l23 y23 z23
    obtain ⟨rfl, N23q, e23⟩ := hQ23
    have N24 := Fr.app N18 N23q
    refine Goes.by (fun _ k => st23.trans k) ?_
    show Goes p.tables e below _ (T23.setTop (mkF m 44 #[.val (.int p0), .val (.long q1), .second, .val (.int p2), .val (.ref b2), .val (.int (f4 p2 p0)), .val (.int (f4 p0 p0)), .val (.int (0 : Int32)), .unset] [(.int (f4 (p0 + (1 : Int32)) p0))]))
    refine Goes.by (B := T23.setTop (mkF m 50 #[.val (.int p0), .val (.long q1), .second, .val (.int p2), .val (.ref b2), .val (.int (f4 p2 p0)), .val (.int (f4 p0 p0)), .val (.int (f4 (p0 + (1 : Int32)) p0)), .unset] [(.int (-2147483648 : Int32)), (.ref b2)])) (fun t k => ?_) ?_
    · show Steps p.tables e below (T23.setTop (mkF m 44 #[.val (.int p0), .val (.long q1), .second, .val (.int p2), .val (.ref b2), .val (.int (f4 p2 p0)), .val (.int (f4 p0 p0)), .val (.int (0 : Int32)), .unset] [(.int (f4 (p0 + (1 : Int32)) p0))])) t
      refine XS.istore X23.here hx rfl (hb hby at_44) rfl (l' := #[.val (.int p0), .val (.long q1), .second, .val (.int p2), .val (.ref b2), .val (.int (f4 p2 p0)), .val (.int (f4 p0 p0)), .val (.int (f4 (p0 + (1 : Int32)) p0)), .unset]) rfl ?_
      show Steps p.tables e below (T23.setTop (mkF m 46 #[.val (.int p0), .val (.long q1), .second, .val (.int p2), .val (.ref b2), .val (.int (f4 p2 p0)), .val (.int (f4 p0 p0)), .val (.int (f4 (p0 + (1 : Int32)) p0)), .unset] [])) t
      refine XS.aload X23.here hx rfl (hb hby at_46) rfl rfl ?_
      show Steps p.tables e below (T23.setTop (mkF m 48 #[.val (.int p0), .val (.long q1), .second, .val (.int p2), .val (.ref b2), .val (.int (f4 p2 p0)), .val (.int (f4 p0 p0)), .val (.int (f4 (p0 + (1 : Int32)) p0)), .unset] [(.ref b2)])) t
      refine X23.ldcInt hx hown (mvT hZ (hw _ (List.mem_of_getElem? (i := 24) rfl))) (g := (mkF m 48 #[.val (.int p0), .val (.long q1), .second, .val (.int p2), .val (.ref b2), .val (.int (f4 p2 p0)), .val (.int (f4 p0 p0)), .val (.int (f4 (p0 + (1 : Int32)) p0)), .unset] [(.ref b2)])) rfl (hb hby at_48) _ ?_
      exact k
    obtain ⟨cq25, kq25, q25a, q25b, q25c⟩ := isOf hZ e23 f9
    obtain ⟨_, _, ⟨T25, L25, k25, n25⟩, -, X25, ⟨Lc25, hQ25, l25, y25, z25⟩, st25⟩ := X23.virtualBack hx (y := (⟨"com/example/lockstep/lockstep/server/DataDirectory$Apparent", "brings", "(I)Z"⟩ : MethodName)) (z := (⟨"com/example/lockstep/lockstep/server/DataDirectory$Apparent", "brings", "(I)Z"⟩ : MethodName)) hown (mvT hZ (hw _ (List.mem_of_getElem? (i := 18) rfl))) (mvT hZ (hw _ (List.mem_of_getElem? (i := 19) rfl))) (notFace_of_selects (args := #[]) (mvT hZ (hw _ (List.mem_of_getElem? (i := 21) rfl)))) (mvT hZ (hw _ (List.mem_of_getElem? (i := 21) rfl))) (mvT hZ (hw _ (List.mem_of_getElem? (i := 20) rfl))) (by decide) (backOf (W := 0) (rm4 l Z az hw [] b2 (-2147483648 : Int32) p0 T8.heap n0 Z13 f10) hZ (hw _ (List.mem_of_getElem? (i := 22) rfl)) (hw _ (List.mem_of_getElem? (i := 2) rfl)) (by decide) (by decide)) q25a q25c (g := (mkF m 50 #[.val (.int p0), .val (.long q1), .second, .val (.int p2), .val (.ref b2), .val (.int (f4 p2 p0)), .val (.int (f4 p0 p0)), .val (.int (f4 (p0 + (1 : Int32)) p0)), .unset] [(.int (-2147483648 : Int32)), (.ref b2)])) rfl (by rw [hml]; rfl) (Steps.refl _) (argsL := [(.int (-2147483648 : Int32))]) (rest := []) (lenOf own_pd2 rfl) rfl (by show 2 * 0 + _ ≤ _; exact Nat.le_of_eq rfl) (hb hby at_50) (fun _ _ => ⟨rfl, e23, (by decide : 1 + 0 ≤ _), (by decide : 2 + 0 ≤ _)⟩)
    dsimp only [Pt.U, Pt.locs, Pt.cells, Pt.slots] at X25 l25 y25 z25 st25 hQ25
    subst l25 y25 z25
    obtain ⟨rfl, N25q, e25⟩ := hQ25
    have N26 := Fr.app N24 N25q
    refine Goes.by (fun _ k => st25.trans k) ?_
    show Goes p.tables e below _ (T25.setTop (mkF m 53 #[.val (.int p0), .val (.long q1), .second, .val (.int p2), .val (.ref b2), .val (.int (f4 p2 p0)), .val (.int (f4 p0 p0)), .val (.int (f4 (p0 + (1 : Int32)) p0)), .unset] [(.int (f4 (-2147483648 : Int32) p0))]))
    refine Goes.by (B := T25.setTop (mkF m 74 #[.val (.int p0), .val (.long q1), .second, .val (.int p2), .val (.ref b2), .val (.int (f4 p2 p0)), .val (.int (f4 p0 p0)), .val (.int (f4 (p0 + (1 : Int32)) p0)), .val (.int (f4 (-2147483648 : Int32) p0))] [(.int p0), (.int p2)])) (fun t k => ?_) ?_
    · show Steps p.tables e below (T25.setTop (mkF m 53 #[.val (.int p0), .val (.long q1), .second, .val (.int p2), .val (.ref b2), .val (.int (f4 p2 p0)), .val (.int (f4 p0 p0)), .val (.int (f4 (p0 + (1 : Int32)) p0)), .unset] [(.int (f4 (-2147483648 : Int32) p0))])) t
      refine XS.istore X25.here hx rfl (hb hby at_53) rfl (l' := #[.val (.int p0), .val (.long q1), .second, .val (.int p2), .val (.ref b2), .val (.int (f4 p2 p0)), .val (.int (f4 p0 p0)), .val (.int (f4 (p0 + (1 : Int32)) p0)), .val (.int (f4 (-2147483648 : Int32) p0))]) rfl ?_
      show Steps p.tables e below (T25.setTop (mkF m 55 #[.val (.int p0), .val (.long q1), .second, .val (.int p2), .val (.ref b2), .val (.int (f4 p2 p0)), .val (.int (f4 p0 p0)), .val (.int (f4 (p0 + (1 : Int32)) p0)), .val (.int (f4 (-2147483648 : Int32) p0))] [])) t
      refine XS.iload X25.here hx rfl (hb hby at_55) rfl ?_
      show Steps p.tables e below (T25.setTop (mkF m 57 #[.val (.int p0), .val (.long q1), .second, .val (.int p2), .val (.ref b2), .val (.int (f4 p2 p0)), .val (.int (f4 p0 p0)), .val (.int (f4 (p0 + (1 : Int32)) p0)), .val (.int (f4 (-2147483648 : Int32) p0))] [(.int (f4 p0 p0))])) t
      refine XS.ifNo X25.here hx rfl (hb hby at_57) rfl ((if0 _ _).trans (feq (own_b0 p0)).1) ?_
      show Steps p.tables e below (T25.setTop (mkF m 60 #[.val (.int p0), .val (.long q1), .second, .val (.int p2), .val (.ref b2), .val (.int (f4 p2 p0)), .val (.int (f4 p0 p0)), .val (.int (f4 (p0 + (1 : Int32)) p0)), .val (.int (f4 (-2147483648 : Int32) p0))] [])) t
      refine XS.iload X25.here hx rfl (hb hby at_60) rfl ?_
      show Steps p.tables e below (T25.setTop (mkF m 62 #[.val (.int p0), .val (.long q1), .second, .val (.int p2), .val (.ref b2), .val (.int (f4 p2 p0)), .val (.int (f4 p0 p0)), .val (.int (f4 (p0 + (1 : Int32)) p0)), .val (.int (f4 (-2147483648 : Int32) p0))] [(.int (f4 (p0 + (1 : Int32)) p0))])) t
      refine XS.ifNo X25.here hx rfl (hb hby at_62) rfl ((if0 _ _).trans (teq (own_b1 p0 hc19)).2) ?_
      show Steps p.tables e below (T25.setTop (mkF m 65 #[.val (.int p0), .val (.long q1), .second, .val (.int p2), .val (.ref b2), .val (.int (f4 p2 p0)), .val (.int (f4 p0 p0)), .val (.int (f4 (p0 + (1 : Int32)) p0)), .val (.int (f4 (-2147483648 : Int32) p0))] [])) t
      refine XS.iload X25.here hx rfl (hb hby at_65) rfl ?_
      show Steps p.tables e below (T25.setTop (mkF m 67 #[.val (.int p0), .val (.long q1), .second, .val (.int p2), .val (.ref b2), .val (.int (f4 p2 p0)), .val (.int (f4 p0 p0)), .val (.int (f4 (p0 + (1 : Int32)) p0)), .val (.int (f4 (-2147483648 : Int32) p0))] [(.int (f4 (-2147483648 : Int32) p0))])) t
      refine XS.ifYes X25.here hx rfl (pc0 := 67) (pc' := 72) rfl (hb hby at_67) rfl ((if0 _ _).trans (feq (own_b2 p0)).2) (by decide) (by decide) ?_
      show Steps p.tables e below (T25.setTop (mkF m 72 #[.val (.int p0), .val (.long q1), .second, .val (.int p2), .val (.ref b2), .val (.int (f4 p2 p0)), .val (.int (f4 p0 p0)), .val (.int (f4 (p0 + (1 : Int32)) p0)), .val (.int (f4 (-2147483648 : Int32) p0))] [])) t
      refine XS.iloadN X25.here hx rfl (hb hby at_72) rfl ?_
      show Steps p.tables e below (T25.setTop (mkF m 73 #[.val (.int p0), .val (.long q1), .second, .val (.int p2), .val (.ref b2), .val (.int (f4 p2 p0)), .val (.int (f4 p0 p0)), .val (.int (f4 (p0 + (1 : Int32)) p0)), .val (.int (f4 (-2147483648 : Int32) p0))] [(.int p2)])) t
      refine XS.iloadN X25.here hx rfl (hb hby at_73) rfl ?_
      exact k
    by_cases hc27 : p0 < p2
    · refine Goes.by (B := T25.setTop (mkF m 90 #[.val (.int p0), .val (.long q1), .second, .val (.int p2), .val (.ref b2), .val (.int (f4 p2 p0)), .val (.int (f4 p0 p0)), .val (.int (f4 (p0 + (1 : Int32)) p0)), .val (.int (f4 (-2147483648 : Int32) p0))] [(.int (1 : Int32))])) (fun t k => ?_) ?_
      · show Steps p.tables e below (T25.setTop (mkF m 74 #[.val (.int p0), .val (.long q1), .second, .val (.int p2), .val (.ref b2), .val (.int (f4 p2 p0)), .val (.int (f4 p0 p0)), .val (.int (f4 (p0 + (1 : Int32)) p0)), .val (.int (f4 (-2147483648 : Int32) p0))] [(.int p0), (.int p2)])) t
        refine XS.icmpYes X25.here hx rfl (pc0 := 74) (pc' := 80) rfl (hb hby at_74) rfl (tlt hc27).2.2.1 (by decide) (by decide) ?_
        show Steps p.tables e below (T25.setTop (mkF m 80 #[.val (.int p0), .val (.long q1), .second, .val (.int p2), .val (.ref b2), .val (.int (f4 p2 p0)), .val (.int (f4 p0 p0)), .val (.int (f4 (p0 + (1 : Int32)) p0)), .val (.int (f4 (-2147483648 : Int32) p0))] [])) t
        refine XS.iload X25.here hx rfl (hb hby at_80) rfl ?_
        show Steps p.tables e below (T25.setTop (mkF m 82 #[.val (.int p0), .val (.long q1), .second, .val (.int p2), .val (.ref b2), .val (.int (f4 p2 p0)), .val (.int (f4 p0 p0)), .val (.int (f4 (p0 + (1 : Int32)) p0)), .val (.int (f4 (-2147483648 : Int32) p0))] [(.int (f4 p2 p0))])) t
        refine XS.ifNo X25.here hx rfl (hb hby at_82) rfl ((if0 _ _).trans (teq (own_b4 p2 p0 hc27)).2) ?_
        show Steps p.tables e below (T25.setTop (mkF m 85 #[.val (.int p0), .val (.long q1), .second, .val (.int p2), .val (.ref b2), .val (.int (f4 p2 p0)), .val (.int (f4 p0 p0)), .val (.int (f4 (p0 + (1 : Int32)) p0)), .val (.int (f4 (-2147483648 : Int32) p0))] [])) t
        refine XS.iconst X25.here hx rfl (hb hby at_85) ?_
        show Steps p.tables e below (T25.setTop (mkF m 86 #[.val (.int p0), .val (.long q1), .second, .val (.int p2), .val (.ref b2), .val (.int (f4 p2 p0)), .val (.int (f4 p0 p0)), .val (.int (f4 (p0 + (1 : Int32)) p0)), .val (.int (f4 (-2147483648 : Int32) p0))] [(.int (1 : Int32))])) t
        refine XS.goto X25.here hx rfl (pc0 := 86) (pc' := 90) rfl (hb hby at_86) (by decide) (by decide) ?_
        exact k
      obtain ⟨fs, hr, hrun, hended, hW, hsame⟩ := X25.leave (v := some (.int (1 : Int32))) (fun h => by rw [Bd.returns] at h; cases h)
      refine Goes.mk _ _ ?_ ⟨hrun, hended, _, _, rfl, ?_, ⟨_, rfl⟩, hW, hsame.mono (by decide) (by decide)⟩
      · exact retN X25 hx (t := .boolean) Bd.returns (by simp) (hb hby at_90) hr
      · show Q0 Z p0 q1 p2 h0 n0 _ T25.heap _
        rw [e25]
        exact ⟨rfl, N26⟩
    · refine Goes.by (B := T25.setTop (mkF m 79 #[.val (.int p0), .val (.long q1), .second, .val (.int p2), .val (.ref b2), .val (.int (f4 p2 p0)), .val (.int (f4 p0 p0)), .val (.int (f4 (p0 + (1 : Int32)) p0)), .val (.int (f4 (-2147483648 : Int32) p0))] [(.int (f4 p2 p0))])) (fun t k => ?_) ?_
      · show Steps p.tables e below (T25.setTop (mkF m 74 #[.val (.int p0), .val (.long q1), .second, .val (.int p2), .val (.ref b2), .val (.int (f4 p2 p0)), .val (.int (f4 p0 p0)), .val (.int (f4 (p0 + (1 : Int32)) p0)), .val (.int (f4 (-2147483648 : Int32) p0))] [(.int p0), (.int p2)])) t
        refine XS.icmpNo X25.here hx rfl (hb hby at_74) rfl (flt hc27).2.2.1 ?_
        show Steps p.tables e below (T25.setTop (mkF m 77 #[.val (.int p0), .val (.long q1), .second, .val (.int p2), .val (.ref b2), .val (.int (f4 p2 p0)), .val (.int (f4 p0 p0)), .val (.int (f4 (p0 + (1 : Int32)) p0)), .val (.int (f4 (-2147483648 : Int32) p0))] [])) t
        refine XS.iload X25.here hx rfl (hb hby at_77) rfl ?_
        exact k
      obtain ⟨fs, hr, hrun, hended, hW, hsame⟩ := X25.leave (v := some (.int (nar .boolean (f4 p2 p0)))) (fun h => by rw [Bd.returns] at h; cases h)
      refine Goes.mk _ _ ?_ ⟨hrun, hended, _, _, rfl, ?_, ⟨_, rfl⟩, hW, hsame.mono (by decide) (by decide)⟩
      · exact retN X25 hx (t := .boolean) Bd.returns (by simp) (hb hby at_79) hr
      · show Q0 Z p0 q1 p2 h0 n0 _ T25.heap _
        rw [e25]
        exact ⟨by rw [own_b3 p2 p0 hc27]; rfl, N26⟩
set_option maxRecDepth 65536 in
set_option maxHeartbeats 40000000 in
theorem comes_1 {Post : Tables → Env → Array Value → State → Outcome → State → Prop} (hpost : ∀ tb e args s v u, (limb_1_1.after args s (.returned v) u = true ∧ limb_1_2.after args s (.returned v) u = true ∧ True) → FrameEnd s (.returned v) u (Jvm.fieldLocs frame_1_writes args s ++ Jvm.arrayLocs frame_1_arrays args s ++ Jvm.staticLocs frame_1_statics s) 16 128 → Post tb e args s (.returned v) u) :
    ArmFor flags0 classFile x code maxLocals ret World_1 tables_1 room_1 Calls_1 rest_1 Pre_1 Post := by
  intro l hfl _ _ p e ha hc hk s m args below hf hA hF happ hP
  obtain ⟨hcalls, hrest, hpre⟩ := hP
  obtain ⟨-, -, -, hnamed, -, -, -, hat⟩ := (Spec.applies_iff hf).mp happ
  obtain ⟨hg, hn⟩ := and_e (Cond.before_iff.mp (show (Jvm.Cond.and given_1 narrow_1).before args s = true from hpre))
  obtain ⟨gg1, gg2⟩ := and_e hg
  obtain ⟨gg3, gg4⟩ := and_e gg2
  obtain ⟨gg5, gg6⟩ := and_e gg4
  obtain ⟨w0, w1, w2, rfl⟩ : ∃ w0 w1 w2 : Value, args = #[w0, w1, w2] := by
    have hs : args.size = 3 := by simpa [Cond.value, given_1] using gg1
    obtain ⟨L⟩ := args
    match L, hs with
    | [w0, w1, w2], _ => exact ⟨w0, w1, w2, rfl⟩
  have hw := fun d (hd : d ∈ tables_1) => atoms_spec (ws := Jvm.Cond.code x code maxLocals ret :: tables_1) hat d (List.mem_cons_of_mem _ hd)
  have hfit : Fit s := fun {y c} hc i hi => by
    obtain ⟨ha, rfl⟩ := Array.getElem?_eq_some_iff.mp hc
    have q := List.all_eq_true.mp ((Array.all_eq_true_iff_forall_mem.mp hF) _ (Array.getElem_mem ha)) i (List.mem_range.mpr hi)
    simpa [Array.getElem?_eq_getElem hi] using q
  obtain ⟨i0, ei0⟩ := is_v gg3
  obtain rfl : w0 = (.int i0) := Option.some.inj ei0
  obtain ⟨i1, ei1⟩ := isL_v gg5
  obtain rfl : w1 = (.long i1) := Option.some.inj ei1
  obtain ⟨i2, ei2⟩ := is_v gg6
  obtain rfl : w2 = (.int i2) := Option.some.inj ei2
  obtain ⟨n, o, h1, h2, h3, _, L, rfl, ⟨rfl, N⟩, hq⟩ := rm0 l s _ hw tables_1 i0 i1 i2 s.heap s.heap.size (Nat.le_refl _)  p e ha hc hk s m _ below hf ((Spec.applies_iff_loose hf).mp happ).1 ⟨rfl, State.Warmed39.refl s, rfl⟩ trivial
  refine ⟨n, _, h1, h2, h3, hpost _ _ _ _ _ _ ⟨Cond.after_iff.mpr rfl, Cond.after_iff.mpr (eq_i res_at (Term.int_eval (1)) rfl), trivial⟩ ⟨hq.1, hq.2.1, (hq.2.2.sift fun y hy => Or.inr (N y hy)).mono (by decide) (by decide)⟩⟩
theorem main_1_1 : Claimed_1_1 := comes_1 fun _ _ _ _ _ _ h hF => ⟨h.1, hF⟩
theorem main_1_2 : Claimed_1_2 := comes_1 fun _ _ _ _ _ _ h hF => ⟨h.2.1, hF⟩
end Jvm.Pilot.@@N@@
namespace Jvm.Pilot.@@N@@
open Jvm Jvm.ClassFile Sem Op Lib Jvm.Free Jvm.Stand Jvm.Pilot.@@N@@.Jvm.D
/-! MADE BY PROGRAM (witnessworld.py) out of the Statement's table words and the real class files: 10 classes; the members and pool entries that the words name. The judged class is class 1, her method 1. -/
namespace start1
open Jvm.ClassFile
def u (s : String) : CpInfo := .utf8 (stringToUtf16 s)
/-- a pool by its gaps: so many unusable entries, then the entry; so many at the end -/
def gap : Nat → List CpInfo → List CpInfo
  | 0, r => r
  | n + 1, r => .unusable :: gap n r
def poolList (es : List (Nat × CpInfo)) (last : Nat) : List CpInfo := es.foldr (fun e r => gap e.1 (e.2 :: r)) (gap last [])
def pool (es : List (Nat × CpInfo)) (last : Nat) : Array CpInfo := ⟨poolList es last⟩
def fileOf (pool : Array CpInfo) (this : Nat) (attrs : Array Attribute := #[]) (ms : Array MethodInfo := #[]) (fl : Nat := 33) (sup : Nat := 0) (ifs : Array Nat := #[]) (fds : Array FieldInfo := #[]) : ClassFile where
  minorVersion := 0
  majorVersion := 65
  constantPool := pool
  accessFlags := fl
  thisClass := this
  superClass := sup
  interfaces := ifs
  fields := fds
  methods := ms
  attributes := attrs
def plain (name : String) (sup : Option ClassId) : Class where
  name := name
  kind := .ordinary
  loader := none
  accessFlags := 33
  super := sup
  interfaces := #[]
  cf := none
  fields := #[]
  methods := #[]
  instanceTypes := #[]
  staticTypes := #[]
  resolved := #[]
  callSites := []
  init := .initialized
  statics := none
  mirror := none

def pool0 : Array CpInfo := pool [(5, u "<init>"), (0, u "()V"), (1, .class_ 10), (1, u "java/lang/Object")] 113

def k0c0 : Code := { maxStack := 0, maxLocals := 1, code := object_method_1_code, exceptionTable := #[], attributes := #[] }
def k0m0 : Method := { name := "<init>", desc := "()V", sig := { parameters := [], returnType := none }, accessFlags := 1, code := some k0c0 }
/-- java/lang/Object -/
def k0 : Class := { plain "java/lang/Object" none with
  accessFlags := 33
  interfaces := #[]
  cf := some (fileOf pool0 8 #[] #[{ accessFlags := 1, nameIndex := 5, descriptorIndex := 6, attributes := #[] }] 33 0 #[] #[])
  fields := #[]
  methods := #[k0m0]
  instanceTypes := #[]
  staticTypes := #[]
  resolved := Array.replicate 124 none
  statics := none }

def pool1 : Array CpInfo := pool [(2, .class_ 4), (1, u "java/lang/Object"), (0, u "<init>"), (0, u "()V"), (0, .class_ 8), (0, u "com/example/lockstep/lockstep/server/DataDirectory$Apparent"), (0, .methodref 7 10), (0, .nameAndType 5 11), (0, u "(IJ)V"), (0, .methodref 7 13), (0, .nameAndType 14 15), (0, u "brings"), (0, u "(I)Z"), (2, .integer 2147483647), (0, .integer 2147483648), (0, .class_ 21), (0, u "com/example/lockstep/lockstep/server/ApparentBringsPinLaw"), (2, u "law"), (0, u "(IJI)Z")] 7

def k1m0 : Method := { name := "<init>", desc := "()V", sig := { parameters := [], returnType := none }, accessFlags := 2, code := none }
def k1c1 : Code := { maxStack := 5, maxLocals := 9, code := code, exceptionTable := #[], attributes := #[] }
def k1m1 : Method := { name := "law", desc := "(IJI)Z", sig := { parameters := [.int, .long, .int], returnType := some .boolean }, accessFlags := 9, code := some k1c1 }
/-- com/example/lockstep/lockstep/server/ApparentBringsPinLaw -/
def k1 : Class := { plain "com/example/lockstep/lockstep/server/ApparentBringsPinLaw" (some 0) with
  accessFlags := 49
  interfaces := #[]
  cf := some (fileOf pool1 20 #[] #[{ accessFlags := 2, nameIndex := 5, descriptorIndex := 6, attributes := #[] }, { accessFlags := 9, nameIndex := 24, descriptorIndex := 25, attributes := #[] }] 49 2 #[] #[])
  fields := #[]
  methods := #[k1m0, k1m1]
  instanceTypes := #[]
  staticTypes := #[]
  resolved := Array.replicate 33 none
  statics := none }

def pool2 : Array CpInfo := pool [(1, .methodref 2 3), (0, .class_ 4), (0, .nameAndType 5 6), (0, u "java/lang/Object"), (0, u "<init>"), (0, u "()V"), (0, .class_ 8), (0, u "java/lang/Record")] 13

def k2c0 : Code := { maxStack := 1, maxLocals := 1, code := jdk_30_method_1_code, exceptionTable := #[], attributes := #[] }
def k2m0 : Method := { name := "<init>", desc := "()V", sig := { parameters := [], returnType := none }, accessFlags := 4, code := some k2c0 }
/-- java/lang/Record -/
def k2 : Class := { plain "java/lang/Record" (some 0) with
  accessFlags := 1057
  interfaces := #[]
  cf := some (fileOf pool2 7 #[] #[{ accessFlags := 4, nameIndex := 5, descriptorIndex := 6, attributes := #[] }] 1057 2 #[] #[])
  fields := #[]
  methods := #[k2m0]
  instanceTypes := #[]
  staticTypes := #[]
  resolved := Array.replicate 22 none
  statics := none }

def pool3 : Array CpInfo := pool [(1, .methodref 2 3), (0, .class_ 4), (0, .nameAndType 5 6), (0, u "java/lang/Record"), (0, u "<init>"), (0, u "()V"), (0, .fieldref 8 9), (0, .class_ 10), (0, .nameAndType 11 12), (0, u "com/example/lockstep/lockstep/server/DataDirectory$Apparent"), (0, u "version"), (0, u "I"), (0, .fieldref 8 14), (0, .nameAndType 15 16), (0, u "since"), (0, u "J"), (12, u "(IJ)V"), (3, u "brings"), (0, u "(I)Z"), (8, .class_ 44), (0, u "com/example/lockstep/lockstep/server/DataDirectory")] 20

def k3c0 : Code := { maxStack := 3, maxLocals := 4, code := prog_126_method_1_code, exceptionTable := #[], attributes := #[] }
def k3m0 : Method := { name := "<init>", desc := "(IJ)V", sig := { parameters := [.int, .long], returnType := none }, accessFlags := 0, code := some k3c0 }
def k3c1 : Code := { maxStack := 2, maxLocals := 2, code := prog_126_method_2_code, exceptionTable := #[], attributes := #[] }
def k3m1 : Method := { name := "brings", desc := "(I)Z", sig := { parameters := [.int], returnType := some .boolean }, accessFlags := 0, code := some k3c1 }
/-- com/example/lockstep/lockstep/server/DataDirectory$Apparent -/
def k3 : Class := { plain "com/example/lockstep/lockstep/server/DataDirectory$Apparent" (some 2) with
  accessFlags := 48
  interfaces := #[]
  cf := some (fileOf pool3 8 #[.nestHost 43] #[{ accessFlags := 0, nameIndex := 5, descriptorIndex := 29, attributes := #[] }, { accessFlags := 0, nameIndex := 33, descriptorIndex := 34, attributes := #[] }] 48 2 #[] #[{ accessFlags := 18, nameIndex := 11, descriptorIndex := 12, attributes := #[] }, { accessFlags := 18, nameIndex := 15, descriptorIndex := 16, attributes := #[] }])
  fields := #[{ name := "version", type := .int, accessFlags := 18, slot := 0, constantValue := 0 }, { name := "since", type := .long, accessFlags := 18, slot := 1, constantValue := 0 }]
  methods := #[k3m0, k3m1]
  instanceTypes := #[.int, .long]
  staticTypes := #[]
  resolved := Array.replicate 65 none
  statics := none }

def pool4 : Array CpInfo := pool [(1, u "java/lang/Cloneable"), (0, .class_ 1), (0, u "java/lang/Object"), (0, .class_ 3)] 3

/-- java/lang/Cloneable -/
def k4 : Class := { plain "java/lang/Cloneable" (some 0) with
  accessFlags := 1537
  interfaces := #[]
  cf := some (fileOf pool4 2 #[] #[] 1537 4 #[] #[])
  fields := #[]
  methods := #[]
  instanceTypes := #[]
  staticTypes := #[]
  resolved := Array.replicate 8 none
  statics := none }

def pool5 : Array CpInfo := pool [(1, u "java/io/Serializable"), (0, .class_ 1), (0, u "java/lang/Object"), (0, .class_ 3)] 3

/-- java/io/Serializable -/
def k5 : Class := { plain "java/io/Serializable" (some 0) with
  accessFlags := 1537
  interfaces := #[]
  cf := some (fileOf pool5 2 #[] #[] 1537 4 #[] #[])
  fields := #[]
  methods := #[]
  instanceTypes := #[]
  staticTypes := #[]
  resolved := Array.replicate 8 none
  statics := none }

/-- the primitive byte -/
def k6 : Class := { plain "byte" none with kind := .primitive 'B', accessFlags := 0x411 }
/-- [B -/
def k7 : Class := { plain "[B" (some 0) with kind := .array 6 .byte, interfaces := #[4, 5], accessFlags := 1041 }

/-- the primitive int -/
def k8 : Class := { plain "int" none with kind := .primitive 'I', accessFlags := 0x411 }
/-- [I -/
def k9 : Class := { plain "[I" (some 0) with kind := .array 8 .int, interfaces := #[4, 5], accessFlags := 1041 }

def heap : Heap := #[]
def classes : Array Class := #[k0, k1, k2, k3, k4, k5, k6, k7, k8, k9]
def interned : List (Array UInt16 × Addr) := []
def slotsUsed : Nat := 0
def theMethod : MethodId := ⟨1, 1⟩
def args0 : Array Value := #[.int 5, .long 7, .int 5]
def aboutOver (below : List Frame) : State where
  vm := { classes := classes, interned := interned.toArray }
  heap := heap
  slotsUsed := slotsUsed
  threads := #[{ frames := .invoking theMethod args0 :: below }]
def below0 : List Frame := [.native { method := ⟨0, 0⟩, args := #[] }]
def about1 : State := aboutOver below0
def p0 : Program := .bare "" "" ""
def e0 : Env := launch0.env 0 0 0
theorem w_frames : about1.frames = Frame.invoking theMethod args0 :: below0 := rfl
set_option maxRecDepth 65536 in
theorem w_args : argsFit about1.vm theMethod args0 = true := by decide +kernel
set_option maxRecDepth 65536 in
theorem w_heap : heapFits about1 = true := by decide +kernel
set_option maxRecDepth 65536 in
theorem w_runnable : about1.curStatus? = some .runnable := by decide +kernel
set_option maxRecDepth 65536 in
theorem w_alone : about1.alone = true := by decide +kernel
set_option maxRecDepth 65536 in
theorem w_named : about1.methodNamed? x = some theMethod := by decide +kernel
set_option maxRecDepth 65536 in
theorem w_hears : about1.hears theMethod below0 = true := by decide +kernel
set_option maxRecDepth 65536 in
theorem w_ripe : about1.ripe theMethod args0 below0 = true := by decide +kernel
theorem w_running : about1.status = .running := rfl
set_option maxRecDepth 65536 in
theorem w_room : about1.hasRoom e0.platform room_1 = true :=
  launch0.hasRoom_least _ room_1 (by decide +kernel) (by decide +kernel) (by decide +kernel) (by decide +kernel) (by decide +kernel) (by decide +kernel)
theorem allAtoms_all (ts : List Jvm.Cond) (a : Array Jvm.Value) (st : Jvm.State) : (allAtoms ts).before a st = ts.all (fun c => c.before a st) := by
  induction ts with
  | nil => rfl
  | cons c t ih =>
    show (Jvm.Cond.and c (allAtoms t)).before a st = _
    rw [Jvm.Cond.before_and, ih, List.all_cons]
def words1 : List Jvm.Cond := Jvm.Cond.code x code maxLocals ret :: tables_1
/-- a 'code' word, met by the world's own term for the bytes: nothing is compared byte by byte -/
theorem code_word {y : MethodName} {bytes : ByteArray} {mx : Nat} {rt : Option FieldType} {a : Array Value} {s : State} {m : MethodId} {meth : Method} {c : Code} (h1 : s.methodNamed? y = some m) (h2 : s.vm.method? m = some meth) (h3 : meth.code = some c) (h4 : c.code = bytes)
    (h5 : (c.maxLocals == mx && c.exceptionTable.isEmpty && decide (c.maxStack ≤ mostOperands) && decide (meth.sig.returnType = rt) && !meth.locks && decide (parseMethodDescriptor y.desc = some meth.sig)) = true) : (Jvm.Cond.code y bytes mx rt).before a s = true := by
  simp only [Bool.and_eq_true, beq_iff_eq, Bool.not_eq_true', decide_eq_true_eq] at h5
  obtain ⟨⟨⟨⟨⟨g1, g2⟩, g3⟩, g4⟩, g5⟩, g6⟩ := h5
  simp [Cond.before, Cond.holds, Cond.value, h1, h2, h3, h4, g1, g2, g3, g4, g5, g6]
def isCode : Jvm.Cond → Bool
  | .code _ _ _ _ => true
  | _ => false
theorem all_split {L : List Jvm.Cond} {P : Jvm.Cond → Bool} (h1 : L.all (fun c => isCode c || P c) = true) (h2 : ∀ c ∈ L.filter isCode, P c = true) : L.all P = true := by
  refine List.all_eq_true.mpr fun c hc => ?_
  have h := List.all_eq_true.mp h1 c hc
  rcases Bool.eq_false_or_eq_true (isCode c) with hi | hi
  · exact h2 c (List.mem_filter.mpr ⟨hc, hi⟩)
  · simpa [hi] using h
set_option maxRecDepth 65536 in
theorem w_c0 : (Jvm.Cond.code x code maxLocals ret).before args0 about1 = true := code_word (m := ⟨1, 1⟩) (meth := k1m1) (c := k1c1) (by decide +kernel) rfl rfl rfl (by decide +kernel)
set_option maxRecDepth 65536 in
theorem w_c1 : (Jvm.Cond.code ({ cls := "com/example/lockstep/lockstep/server/DataDirectory$Apparent", name := "<init>", desc := "(IJ)V" } : Jvm.MethodName) prog_126_method_1_code (4 : Nat) (Option.none : Option Jvm.ClassFile.FieldType)).before args0 about1 = true := code_word (m := ⟨3, 0⟩) (meth := k3m0) (c := k3c0) (by decide +kernel) rfl rfl rfl (by decide +kernel)
set_option maxRecDepth 65536 in
theorem w_c2 : (Jvm.Cond.code ({ cls := "java/lang/Record", name := "<init>", desc := "()V" } : Jvm.MethodName) jdk_30_method_1_code (1 : Nat) (Option.none : Option Jvm.ClassFile.FieldType)).before args0 about1 = true := code_word (m := ⟨2, 0⟩) (meth := k2m0) (c := k2c0) (by decide +kernel) rfl rfl rfl (by decide +kernel)
set_option maxRecDepth 65536 in
theorem w_c3 : (Jvm.Cond.code ({ cls := "java/lang/Object", name := "<init>", desc := "()V" } : Jvm.MethodName) object_method_1_code (1 : Nat) (Option.none : Option Jvm.ClassFile.FieldType)).before args0 about1 = true := code_word (m := ⟨0, 0⟩) (meth := k0m0) (c := k0c0) (by decide +kernel) rfl rfl rfl (by decide +kernel)
set_option maxRecDepth 65536 in
theorem w_c4 : (Jvm.Cond.code ({ cls := "com/example/lockstep/lockstep/server/DataDirectory$Apparent", name := "brings", desc := "(I)Z" } : Jvm.MethodName) prog_126_method_2_code (2 : Nat) (Option.some Jvm.ClassFile.FieldType.boolean)).before args0 about1 = true := code_word (m := ⟨3, 1⟩) (meth := k3m1) (c := k3c1) (by decide +kernel) rfl rfl rfl (by decide +kernel)
def codes1 : List Jvm.Cond := [Jvm.Cond.code x code maxLocals ret, Jvm.Cond.code ({ cls := "com/example/lockstep/lockstep/server/DataDirectory$Apparent", name := "<init>", desc := "(IJ)V" } : Jvm.MethodName) prog_126_method_1_code (4 : Nat) (Option.none : Option Jvm.ClassFile.FieldType), Jvm.Cond.code ({ cls := "java/lang/Record", name := "<init>", desc := "()V" } : Jvm.MethodName) jdk_30_method_1_code (1 : Nat) (Option.none : Option Jvm.ClassFile.FieldType), Jvm.Cond.code ({ cls := "java/lang/Object", name := "<init>", desc := "()V" } : Jvm.MethodName) object_method_1_code (1 : Nat) (Option.none : Option Jvm.ClassFile.FieldType), Jvm.Cond.code ({ cls := "com/example/lockstep/lockstep/server/DataDirectory$Apparent", name := "brings", desc := "(I)Z" } : Jvm.MethodName) prog_126_method_2_code (2 : Nat) (Option.some Jvm.ClassFile.FieldType.boolean)]
set_option maxRecDepth 65536 in
theorem codes_eq : words1.filter isCode = codes1 := rfl
theorem w_codes : ∀ c ∈ words1.filter isCode, c.before args0 about1 = true := by
  rw [codes_eq]
  intro c hc
  simp only [codes1, List.mem_cons, List.not_mem_nil, or_false] at hc
  rcases hc with rfl | rfl | rfl | rfl | rfl
  · exact w_c0
  · exact w_c1
  · exact w_c2
  · exact w_c3
  · exact w_c4
set_option maxRecDepth 65536 in
theorem w_t1 : (words1.take 24).all (fun c => isCode c || c.before args0 about1) = true := by decide +kernel
set_option maxRecDepth 65536 in
theorem w_t2 : (words1.drop 24).all (fun c => isCode c || c.before args0 about1) = true := by decide +kernel
theorem w_tables : (allAtoms (Jvm.Cond.code x code maxLocals ret :: tables_1)).before args0 about1 = true := by
  rw [allAtoms_all]
  show words1.all (fun c => c.before args0 about1) = true
  refine all_split ?_ w_codes
  rw [← List.take_append_drop 24 words1, List.all_append, w_t1, w_t2]
  rfl
set_option maxRecDepth 65536 in
theorem w_case : (Jvm.Cond.and given_1 narrow_1).before args0 about1 = true := by decide +kernel
theorem w_applies : (headSpec (Jvm.Cond.code x code maxLocals ret :: tables_1) room_1).applies x e0.platform about1 = true :=
  (Spec.applies_iff w_frames).mpr ⟨w_running, w_runnable, w_alone, w_named, w_hears, w_ripe, w_room, w_tables⟩
theorem atStart : AtStart classFile x code maxLocals ret World_1 tables_1 room_1 Calls_1 rest_1 Pre_1 launch0 p0 e0 about1 theMethod args0 below0 :=
  ⟨lists_1, trivial, launch0.admits_env _ _ _, launch0.least_env, fairChoices_fair.cas, fairChoices_fair.clock, w_frames, w_args, w_heap, w_applies, trivial, trivial, w_case⟩
end start1
theorem witness_1 : WitnessClaimed_1 := ⟨start1.p0, start1.e0, start1.about1, start1.theMethod, start1.args0, start1.below0, start1.atStart⟩
end Jvm.Pilot.@@N@@
