import JvmDerived
import JvmDerived.Pilot.@@N@@Statement
import JvmDerived.Pilot.@@N@@Code
set_option linter.unusedVariables false
set_option linter.unusedSimpArgs false
namespace Jvm.RoadKit
open Sem ClassFile Op Lib Jvm.Stand Jvm.Free Jvm.LawKit
section New
variable {p : Program} {l : Launch} {e : Env} {R : Room} {s : State} {m : MethodId} {args : Array Value} {below : List Frame} {meth : Method} {c : Code} {T : State} {locs : List Loc} {cells slots : Nat}
theorem retI (X : Stand p l e R s m args below meth c T locs cells slots) (hx : p.tables.exec = Jvm.exec) {pc : Nat} {Ls : Array Slot} {z : Int32} {rest : List Value} (hret : meth.sig.returnType = some .int) (hd : decode c.code pc = .ok (.ireturn, 1)) {fs : List Frame}
    (hl : ∀ (f : JFrame) (acts : List Action), f.method = m → f.locked = none → f.entered = [] → (doReturn e (T.setTop f) acts (some (.int z))).1 = T.setFrames fs) : Steps p.tables e below (T.setTop (mkF m pc Ls (.int z :: rest))) (T.setFrames fs) :=
  retOut X hx hret rfl (Or.inl ⟨rfl, Or.inl rfl, _, rfl⟩) hd hl
def Elt (Z : State) (h : Heap) (a : Addr) (ty : FieldType) (j : Int32) (v : Value) : Prop := ∃ cl : Cell, Arr Z h a cl ty ∧ ¬ (j < 0 ∨ cl.slots.size ≤ j.toNatClampNeg) ∧ cl.slots[j.toNatClampNeg]? = some v
theorem Elt.of {Z : State} {h : Heap} {a : Addr} {k : ClassId} {ty : FieldType} {n j : Int32} {vs : List Value} {d v : Value} (F : Arv Z h a k ty n vs d) (q : ¬ j < 0 ∧ j < n) (u : vs.getD j.toNatClampNeg d = v) : Elt Z h a ty j v := by
  obtain ⟨c, A, _, S, _, H, _⟩ := F
  exact ⟨c, A, inb_of S q, H.at (inb_of S q) u⟩
def Goes (tb : Tables) (e : Env) (below : List Frame) (P : State → Outcome → Prop) (A : State) : Prop := ∃ s₂ o, Steps tb e below A s₂ ∧ P s₂ o
theorem Goes.start {tb : Tables} {e : Env} {below : List Frame} {P : State → Outcome → Prop} {A : State} (h : Goes tb e below P A) : ∃ s₂ o, Steps tb e below A s₂ ∧ P s₂ o := h
theorem Goes.by {tb : Tables} {e : Env} {below : List Frame} {P : State → Outcome → Prop} {A B : State} (h : ∀ t, Steps tb e below B t → Steps tb e below A t) (g : Goes tb e below P B) : Goes tb e below P A := by
  obtain ⟨s₂, o, h1, h2⟩ := g
  exact ⟨s₂, o, h _ h1, h2⟩
theorem Goes.mk {tb : Tables} {e : Env} {below : List Frame} {P : State → Outcome → Prop} {A : State} (s₂ : State) (o : Outcome) (h : Steps tb e below A s₂) (hp : P s₂ o) : Goes tb e below P A := ⟨s₂, o, h, hp⟩
end New
end Jvm.RoadKit
namespace Jvm.Pilot.@@N@@
open Jvm Jvm.ClassFile Sem Op Lib Jvm.Free Jvm.Stand Jvm.LawKit Jvm.RoadKit Bundle Jvm.Pilot.@@N@@.Jvm.D
theorem d3_0 : decode prog_1_method_2_code 0 = .ok (.iload_n 0, 1) := by decide +kernel
theorem d3_1 : decode prog_1_method_2_code 1 = .ok (.bipush 48, 2) := by decide +kernel
theorem d3_3 : decode prog_1_method_2_code 3 = .ok (.if_icmp .lt 13, 3) := by decide +kernel
theorem d3_16 : decode prog_1_method_2_code 16 = .ok (.iconst 0, 1) := by decide +kernel
theorem d3_17 : decode prog_1_method_2_code 17 = .ok (.ireturn, 1) := by decide +kernel
theorem d3_6 : decode prog_1_method_2_code 6 = .ok (.iload_n 0, 1) := by decide +kernel
theorem d3_7 : decode prog_1_method_2_code 7 = .ok (.bipush 57, 2) := by decide +kernel
theorem d3_9 : decode prog_1_method_2_code 9 = .ok (.if_icmp .gt 7, 3) := by decide +kernel
theorem d3_12 : decode prog_1_method_2_code 12 = .ok (.iconst 1, 1) := by decide +kernel
theorem d3_13 : decode prog_1_method_2_code 13 = .ok (.goto 4, 3) := by decide +kernel
def f3 (p0 : Int32) : Int32 := (if p0 < (48 : Int32) then (0 : Int32) else (if (57 : Int32) < p0 then (0 : Int32) else (1 : Int32)))
def Q3 (Z : State) (p0 : Int32) (h0 : Heap) (n0 : Nat) (v : Option Value) (h : Heap) (L : List Loc) : Prop := v = some (.int (f3 p0)) ∧ Fr n0 L ∧ h = h0
theorem own_pn_com_example_strict_ledger_strictledger_model_Ascii : plainName "com/example/strict_ledger/strictledger/model/Ascii" = true := by first | (simp [plainName, overriddenIn]; done) | decide +kernel
theorem ef3 (m : MethodId) (x0 : Int32) : entryFrame m #[(.int x0)] 1 = mkF m 0 #[.val (.int x0)] [] := by first | (simp [entryFrame, mkF, argsToLocals, Value.category]; done) | rfl
set_option maxRecDepth 65536 in
set_option maxHeartbeats 40000000 in
theorem rm3 (l : Launch) (Z : State) (a0 : Array Value) (hw : ∀ d ∈ tables_1, d.before a0 Z = true) (ws : List Jvm.Cond) (p0 : Int32) (h0 : Heap) (n0 : Nat) (Z0 : n0 ≤ h0.size) :
    MetFree l (⟨"com/example/strict_ledger/strictledger/model/Ascii", "isDigit", "(I)Z"⟩ : MethodName) (head1 (Jvm.Cond.code (⟨"com/example/strict_ledger/strictledger/model/Ascii", "isDigit", "(I)Z"⟩ : MethodName) prog_1_method_2_code 1 (some .boolean) :: ws) ({ frames := 0, cells := 0, slots := 0, locals := 0 } : Room)) (fun a U => a = #[(.int p0)] ∧ Z.Warmed39 U.vm ∧ U.heap = h0) (fun _ _ _ _ _ => True) (fun _ U o U' => ∃ v L, o = .returned v ∧ Q3 Z p0 h0 n0 v U'.heap L ∧ FrameEnd U o U' L ({ frames := 0, cells := 0, slots := 0, locals := 0 } : Room).cells ({ frames := 0, cells := 0, slots := 0, locals := 0 } : Room).slots) := by
  refine MetFree.of_bodySF (plainFor_of_name own_pn_com_example_strict_ledger_strictledger_model_Ascii) hisR ?_
  intro p e s m args below meth c s₁ Bd hml0 hP hK
  obtain ⟨rfl, hZ, hh⟩ := hP
  have hx := Bd.exec
  have hby := Bd.bytes
  have hml : c.maxLocals = 1 := hml0
  have hown : s.vm.findClass "com/example/strict_ledger/strictledger/model/Ascii" = some m.cls := findClass_of_methodNamed Bd.named
  have hnm := (name_of_methodNamed Bd.named Bd.method).1
  have X0 : Stand p l e ({ frames := 0, cells := 0, slots := 0, locals := 0 } : Room) s m #[(.int p0)] below meth c s₁ [] 0 0 := Stand.of_body Bd
  have e0 : s₁.heap = h0 := by rw [← hh, Bd.state]; rfl
  have N0 := Fr.nil n0
  have Kp0 : Keep h0 h0 [] := Keep.refl _ _
  refine Goes.start ?_
  refine Goes.by (B := s₁.setTop (mkF m 0 #[.val (.int p0)] [])) (fun t k => castTop (ef3 m p0) k) ?_
  refine Goes.by (B := s₁.setTop (mkF m 3 #[.val (.int p0)] [(.int (48 : Int32)), (.int p0)])) (fun t k => ?_) ?_
  · show Steps p.tables e below (s₁.setTop (mkF m 0 #[.val (.int p0)] [])) t
    refine XS.iloadN X0.here hx rfl (hb hby d3_0) rfl ?_
    show Steps p.tables e below (s₁.setTop (mkF m 1 #[.val (.int p0)] [(.int p0)])) t
    refine XS.bipush X0.here hx rfl (hb hby d3_1) ?_
    exact k
  by_cases hc1 : p0 < (48 : Int32)
  · refine Goes.by (B := s₁.setTop (mkF m 17 #[.val (.int p0)] [(.int (0 : Int32))])) (fun t k => ?_) ?_
    · show Steps p.tables e below (s₁.setTop (mkF m 3 #[.val (.int p0)] [(.int (48 : Int32)), (.int p0)])) t
      refine XS.icmpYes X0.here hx rfl (pc0 := 3) (pc' := 16) rfl (hb hby d3_3) rfl (tlt hc1).1 (by decide) (by decide) ?_
      show Steps p.tables e below (s₁.setTop (mkF m 16 #[.val (.int p0)] [])) t
      refine XS.iconst X0.here hx rfl (hb hby d3_16) ?_
      exact k
    obtain ⟨fs, hr, hrun, hended, hW, hsame⟩ := X0.leave (v := some (.int (0 : Int32))) (fun h => by rw [Bd.returns] at h; cases h)
    refine Goes.mk _ _ ?_ ⟨hrun, hended, _, _, rfl, ?_, ⟨_, rfl⟩, hW, hsame.mono (by decide) (by decide)⟩
    · exact retN X0 hx (t := .boolean) Bd.returns (by simp) (hb hby d3_17) hr
    · show Q3 Z p0 h0 n0 _ s₁.heap _
      rw [e0]
      exact ⟨(by simp only [f3, if_pos hc1]), N0, rfl⟩
  · refine Goes.by (B := s₁.setTop (mkF m 9 #[.val (.int p0)] [(.int (57 : Int32)), (.int p0)])) (fun t k => ?_) ?_
    · show Steps p.tables e below (s₁.setTop (mkF m 3 #[.val (.int p0)] [(.int (48 : Int32)), (.int p0)])) t
      refine XS.icmpNo X0.here hx rfl (hb hby d3_3) rfl (flt hc1).1 ?_
      show Steps p.tables e below (s₁.setTop (mkF m 6 #[.val (.int p0)] [])) t
      refine XS.iloadN X0.here hx rfl (hb hby d3_6) rfl ?_
      show Steps p.tables e below (s₁.setTop (mkF m 7 #[.val (.int p0)] [(.int p0)])) t
      refine XS.bipush X0.here hx rfl (hb hby d3_7) ?_
      exact k
    by_cases hc2 : (57 : Int32) < p0
    · refine Goes.by (B := s₁.setTop (mkF m 17 #[.val (.int p0)] [(.int (0 : Int32))])) (fun t k => ?_) ?_
      · show Steps p.tables e below (s₁.setTop (mkF m 9 #[.val (.int p0)] [(.int (57 : Int32)), (.int p0)])) t
        refine XS.icmpYes X0.here hx rfl (pc0 := 9) (pc' := 16) rfl (hb hby d3_9) rfl (tlt hc2).2.2.1 (by decide) (by decide) ?_
        show Steps p.tables e below (s₁.setTop (mkF m 16 #[.val (.int p0)] [])) t
        refine XS.iconst X0.here hx rfl (hb hby d3_16) ?_
        exact k
      obtain ⟨fs, hr, hrun, hended, hW, hsame⟩ := X0.leave (v := some (.int (0 : Int32))) (fun h => by rw [Bd.returns] at h; cases h)
      refine Goes.mk _ _ ?_ ⟨hrun, hended, _, _, rfl, ?_, ⟨_, rfl⟩, hW, hsame.mono (by decide) (by decide)⟩
      · exact retN X0 hx (t := .boolean) Bd.returns (by simp) (hb hby d3_17) hr
      · show Q3 Z p0 h0 n0 _ s₁.heap _
        rw [e0]
        exact ⟨(by simp only [f3, if_neg hc1, if_pos hc2]), N0, rfl⟩
    · refine Goes.by (B := s₁.setTop (mkF m 17 #[.val (.int p0)] [(.int (1 : Int32))])) (fun t k => ?_) ?_
      · show Steps p.tables e below (s₁.setTop (mkF m 9 #[.val (.int p0)] [(.int (57 : Int32)), (.int p0)])) t
        refine XS.icmpNo X0.here hx rfl (hb hby d3_9) rfl (flt hc2).2.2.1 ?_
        show Steps p.tables e below (s₁.setTop (mkF m 12 #[.val (.int p0)] [])) t
        refine XS.iconst X0.here hx rfl (hb hby d3_12) ?_
        show Steps p.tables e below (s₁.setTop (mkF m 13 #[.val (.int p0)] [(.int (1 : Int32))])) t
        refine XS.goto X0.here hx rfl (pc0 := 13) (pc' := 17) rfl (hb hby d3_13) (by decide) (by decide) ?_
        exact k
      obtain ⟨fs, hr, hrun, hended, hW, hsame⟩ := X0.leave (v := some (.int (1 : Int32))) (fun h => by rw [Bd.returns] at h; cases h)
      refine Goes.mk _ _ ?_ ⟨hrun, hended, _, _, rfl, ?_, ⟨_, rfl⟩, hW, hsame.mono (by decide) (by decide)⟩
      · exact retN X0 hx (t := .boolean) Bd.returns (by simp) (hb hby d3_17) hr
      · show Q3 Z p0 h0 n0 _ s₁.heap _
        rw [e0]
        exact ⟨(by simp only [f3, if_neg hc1, if_neg hc2]), N0, rfl⟩
theorem d2_0 : decode prog_1_method_4_code 0 = .ok (.iload_n 0, 1) := by decide +kernel
theorem d2_1 : decode prog_1_method_4_code 1 = .ok (.invokestatic 7, 3) := by decide +kernel
theorem own_pd0 : parseMethodDescriptor "(I)Z" = some ⟨[.int], some .boolean⟩ := by decide +kernel
theorem d2_4 : decode prog_1_method_4_code 4 = .ok (.ifCond .ne 27, 3) := by decide +kernel
theorem d2_7 : decode prog_1_method_4_code 7 = .ok (.iload_n 0, 1) := by decide +kernel
theorem d2_8 : decode prog_1_method_4_code 8 = .ok (.bipush 97, 2) := by decide +kernel
theorem d2_10 : decode prog_1_method_4_code 10 = .ok (.if_icmp .lt 9, 3) := by decide +kernel
theorem d2_19 : decode prog_1_method_4_code 19 = .ok (.iload_n 0, 1) := by decide +kernel
theorem d2_20 : decode prog_1_method_4_code 20 = .ok (.bipush 65, 2) := by decide +kernel
theorem d2_22 : decode prog_1_method_4_code 22 = .ok (.if_icmp .lt 13, 3) := by decide +kernel
theorem d2_35 : decode prog_1_method_4_code 35 = .ok (.iconst 0, 1) := by decide +kernel
theorem d2_36 : decode prog_1_method_4_code 36 = .ok (.ireturn, 1) := by decide +kernel
theorem d2_25 : decode prog_1_method_4_code 25 = .ok (.iload_n 0, 1) := by decide +kernel
theorem d2_26 : decode prog_1_method_4_code 26 = .ok (.bipush 70, 2) := by decide +kernel
theorem d2_28 : decode prog_1_method_4_code 28 = .ok (.if_icmp .gt 7, 3) := by decide +kernel
theorem d2_31 : decode prog_1_method_4_code 31 = .ok (.iconst 1, 1) := by decide +kernel
theorem d2_32 : decode prog_1_method_4_code 32 = .ok (.goto 4, 3) := by decide +kernel
theorem d2_13 : decode prog_1_method_4_code 13 = .ok (.iload_n 0, 1) := by decide +kernel
theorem d2_14 : decode prog_1_method_4_code 14 = .ok (.bipush 102, 2) := by decide +kernel
theorem d2_16 : decode prog_1_method_4_code 16 = .ok (.if_icmp .le 15, 3) := by decide +kernel
def f2 (p0 : Int32) : Int32 := (if (f3 p0) = (0 : Int32) then (if p0 < (97 : Int32) then (if p0 < (65 : Int32) then (0 : Int32) else (if (70 : Int32) < p0 then (0 : Int32) else (1 : Int32))) else (if (102 : Int32) < p0 then (if p0 < (65 : Int32) then (0 : Int32) else (if (70 : Int32) < p0 then (0 : Int32) else (1 : Int32))) else (1 : Int32))) else (1 : Int32))
def Q2 (Z : State) (p0 : Int32) (h0 : Heap) (n0 : Nat) (v : Option Value) (h : Heap) (L : List Loc) : Prop := v = some (.int (f2 p0)) ∧ Fr n0 L ∧ h = h0
theorem ef2 (m : MethodId) (x0 : Int32) : entryFrame m #[(.int x0)] 1 = mkF m 0 #[.val (.int x0)] [] := by first | (simp [entryFrame, mkF, argsToLocals, Value.category]; done) | rfl
set_option maxRecDepth 65536 in
set_option maxHeartbeats 40000000 in
theorem rm2 (l : Launch) (Z : State) (a0 : Array Value) (hw : ∀ d ∈ tables_1, d.before a0 Z = true) (ws : List Jvm.Cond) (p0 : Int32) (h0 : Heap) (n0 : Nat) (Z0 : n0 ≤ h0.size) :
    MetFree l (⟨"com/example/strict_ledger/strictledger/model/Ascii", "isHexDigit", "(I)Z"⟩ : MethodName) (head1 (Jvm.Cond.code (⟨"com/example/strict_ledger/strictledger/model/Ascii", "isHexDigit", "(I)Z"⟩ : MethodName) prog_1_method_4_code 1 (some .boolean) :: ws) ({ frames := 1, cells := 0, slots := 0, locals := 12 } : Room)) (fun a U => a = #[(.int p0)] ∧ Z.Warmed39 U.vm ∧ U.heap = h0) (fun _ _ _ _ _ => True) (fun _ U o U' => ∃ v L, o = .returned v ∧ Q2 Z p0 h0 n0 v U'.heap L ∧ FrameEnd U o U' L ({ frames := 1, cells := 0, slots := 0, locals := 12 } : Room).cells ({ frames := 1, cells := 0, slots := 0, locals := 12 } : Room).slots) := by
  refine MetFree.of_bodySF (plainFor_of_name own_pn_com_example_strict_ledger_strictledger_model_Ascii) hisR ?_
  intro p e s m args below meth c s₁ Bd hml0 hP hK
  obtain ⟨rfl, hZ, hh⟩ := hP
  have hx := Bd.exec
  have hby := Bd.bytes
  have hml : c.maxLocals = 1 := hml0
  have hown : s.vm.findClass "com/example/strict_ledger/strictledger/model/Ascii" = some m.cls := findClass_of_methodNamed Bd.named
  have hnm := (name_of_methodNamed Bd.named Bd.method).1
  have X0 : Stand p l e ({ frames := 1, cells := 0, slots := 0, locals := 12 } : Room) s m #[(.int p0)] below meth c s₁ [] 0 0 := Stand.of_body Bd
  have e0 : s₁.heap = h0 := by rw [← hh, Bd.state]; rfl
  have N0 := Fr.nil n0
  have Kp0 : Keep h0 h0 [] := Keep.refl _ _
  refine Goes.start ?_
  refine Goes.by (B := s₁.setTop (mkF m 0 #[.val (.int p0)] [])) (fun t k => castTop (ef2 m p0) k) ?_
  refine Goes.by (B := s₁.setTop (mkF m 1 #[.val (.int p0)] [(.int p0)])) (fun t k => ?_) ?_
  · show Steps p.tables e below (s₁.setTop (mkF m 0 #[.val (.int p0)] [])) t
    refine XS.iloadN X0.here hx rfl (hb hby d2_0) rfl ?_
    exact k
  obtain ⟨_, _, ⟨T1, L1, k1, n1⟩, -, X1, ⟨Lc1, hQ1, l1, y1, z1⟩, st1⟩ := Jvm.LawKit.callS X0 hx (y := (⟨"com/example/strict_ledger/strictledger/model/Ascii", "isDigit", "(I)Z"⟩ : MethodName)) hown (mvT hZ (hw _ (List.mem_of_getElem? (i := 8) rfl))) (mvT hZ (hw _ (List.mem_of_getElem? (i := 9) rfl))) (mvT hZ (hw _ (List.mem_of_getElem? (i := 6) rfl))) (mvT hZ (hw _ (List.mem_of_getElem? (i := 10) rfl))) (by decide) (backOf (W := 0) (rm3 l Z a0 hw [] p0 h0 n0 Z0 ) hZ (hw _ (List.mem_of_getElem? (i := 10) rfl)) (hw _ (List.mem_of_getElem? (i := 6) rfl)) (by decide) (by decide)) (g := (mkF m 1 #[.val (.int p0)] [(.int p0)])) rfl (by rw [hml]; rfl) (argsL := [(.int p0)]) (rest := []) (lenOf own_pd0 rfl) rfl (by show 2 * 0 + _ ≤ _; exact Nat.le_of_eq rfl) (hb hby d2_1) (fun _ _ => ⟨rfl, e0, (by decide : 0 + 0 ≤ _), (by decide : 0 + 0 ≤ _)⟩)
  dsimp only [Pt.U, Pt.locs, Pt.cells, Pt.slots] at X1 l1 y1 z1 st1 hQ1
  subst l1 y1 z1
  obtain ⟨rfl, N1q, e1⟩ := hQ1
  have N2 := Fr.app N0 N1q
  refine Goes.by st1 ?_
  show Goes p.tables e below _ (T1.setTop (mkF m 4 #[.val (.int p0)] [(.int (f3 p0))]))
  by_cases hc3 : (f3 p0) = (0 : Int32)
  · refine Goes.by (B := T1.setTop (mkF m 10 #[.val (.int p0)] [(.int (97 : Int32)), (.int p0)])) (fun t k => ?_) ?_
    · show Steps p.tables e below (T1.setTop (mkF m 4 #[.val (.int p0)] [(.int (f3 p0))])) t
      refine XS.ifNo X1.here hx rfl (hb hby d2_4) rfl ((if0 _ _).trans (teq hc3).2) ?_
      show Steps p.tables e below (T1.setTop (mkF m 7 #[.val (.int p0)] [])) t
      refine XS.iloadN X1.here hx rfl (hb hby d2_7) rfl ?_
      show Steps p.tables e below (T1.setTop (mkF m 8 #[.val (.int p0)] [(.int p0)])) t
      refine XS.bipush X1.here hx rfl (hb hby d2_8) ?_
      exact k
    by_cases hc4 : p0 < (97 : Int32)
    · refine Goes.by (B := T1.setTop (mkF m 22 #[.val (.int p0)] [(.int (65 : Int32)), (.int p0)])) (fun t k => ?_) ?_
      · show Steps p.tables e below (T1.setTop (mkF m 10 #[.val (.int p0)] [(.int (97 : Int32)), (.int p0)])) t
        refine XS.icmpYes X1.here hx rfl (pc0 := 10) (pc' := 19) rfl (hb hby d2_10) rfl (tlt hc4).1 (by decide) (by decide) ?_
        show Steps p.tables e below (T1.setTop (mkF m 19 #[.val (.int p0)] [])) t
        refine XS.iloadN X1.here hx rfl (hb hby d2_19) rfl ?_
        show Steps p.tables e below (T1.setTop (mkF m 20 #[.val (.int p0)] [(.int p0)])) t
        refine XS.bipush X1.here hx rfl (hb hby d2_20) ?_
        exact k
      by_cases hc5 : p0 < (65 : Int32)
      · refine Goes.by (B := T1.setTop (mkF m 36 #[.val (.int p0)] [(.int (0 : Int32))])) (fun t k => ?_) ?_
        · show Steps p.tables e below (T1.setTop (mkF m 22 #[.val (.int p0)] [(.int (65 : Int32)), (.int p0)])) t
          refine XS.icmpYes X1.here hx rfl (pc0 := 22) (pc' := 35) rfl (hb hby d2_22) rfl (tlt hc5).1 (by decide) (by decide) ?_
          show Steps p.tables e below (T1.setTop (mkF m 35 #[.val (.int p0)] [])) t
          refine XS.iconst X1.here hx rfl (hb hby d2_35) ?_
          exact k
        obtain ⟨fs, hr, hrun, hended, hW, hsame⟩ := X1.leave (v := some (.int (0 : Int32))) (fun h => by rw [Bd.returns] at h; cases h)
        refine Goes.mk _ _ ?_ ⟨hrun, hended, _, _, rfl, ?_, ⟨_, rfl⟩, hW, hsame.mono (by decide) (by decide)⟩
        · exact retN X1 hx (t := .boolean) Bd.returns (by simp) (hb hby d2_36) hr
        · show Q2 Z p0 h0 n0 _ T1.heap _
          rw [e1]
          exact ⟨(by simp only [f2, if_pos hc3, if_pos hc4, if_pos hc5]), N2, rfl⟩
      · refine Goes.by (B := T1.setTop (mkF m 28 #[.val (.int p0)] [(.int (70 : Int32)), (.int p0)])) (fun t k => ?_) ?_
        · show Steps p.tables e below (T1.setTop (mkF m 22 #[.val (.int p0)] [(.int (65 : Int32)), (.int p0)])) t
          refine XS.icmpNo X1.here hx rfl (hb hby d2_22) rfl (flt hc5).1 ?_
          show Steps p.tables e below (T1.setTop (mkF m 25 #[.val (.int p0)] [])) t
          refine XS.iloadN X1.here hx rfl (hb hby d2_25) rfl ?_
          show Steps p.tables e below (T1.setTop (mkF m 26 #[.val (.int p0)] [(.int p0)])) t
          refine XS.bipush X1.here hx rfl (hb hby d2_26) ?_
          exact k
        by_cases hc6 : (70 : Int32) < p0
        · refine Goes.by (B := T1.setTop (mkF m 36 #[.val (.int p0)] [(.int (0 : Int32))])) (fun t k => ?_) ?_
          · show Steps p.tables e below (T1.setTop (mkF m 28 #[.val (.int p0)] [(.int (70 : Int32)), (.int p0)])) t
            refine XS.icmpYes X1.here hx rfl (pc0 := 28) (pc' := 35) rfl (hb hby d2_28) rfl (tlt hc6).2.2.1 (by decide) (by decide) ?_
            show Steps p.tables e below (T1.setTop (mkF m 35 #[.val (.int p0)] [])) t
            refine XS.iconst X1.here hx rfl (hb hby d2_35) ?_
            exact k
          obtain ⟨fs, hr, hrun, hended, hW, hsame⟩ := X1.leave (v := some (.int (0 : Int32))) (fun h => by rw [Bd.returns] at h; cases h)
          refine Goes.mk _ _ ?_ ⟨hrun, hended, _, _, rfl, ?_, ⟨_, rfl⟩, hW, hsame.mono (by decide) (by decide)⟩
          · exact retN X1 hx (t := .boolean) Bd.returns (by simp) (hb hby d2_36) hr
          · show Q2 Z p0 h0 n0 _ T1.heap _
            rw [e1]
            exact ⟨(by simp only [f2, if_pos hc3, if_pos hc4, if_neg hc5, if_pos hc6]), N2, rfl⟩
        · refine Goes.by (B := T1.setTop (mkF m 36 #[.val (.int p0)] [(.int (1 : Int32))])) (fun t k => ?_) ?_
          · show Steps p.tables e below (T1.setTop (mkF m 28 #[.val (.int p0)] [(.int (70 : Int32)), (.int p0)])) t
            refine XS.icmpNo X1.here hx rfl (hb hby d2_28) rfl (flt hc6).2.2.1 ?_
            show Steps p.tables e below (T1.setTop (mkF m 31 #[.val (.int p0)] [])) t
            refine XS.iconst X1.here hx rfl (hb hby d2_31) ?_
            show Steps p.tables e below (T1.setTop (mkF m 32 #[.val (.int p0)] [(.int (1 : Int32))])) t
            refine XS.goto X1.here hx rfl (pc0 := 32) (pc' := 36) rfl (hb hby d2_32) (by decide) (by decide) ?_
            exact k
          obtain ⟨fs, hr, hrun, hended, hW, hsame⟩ := X1.leave (v := some (.int (1 : Int32))) (fun h => by rw [Bd.returns] at h; cases h)
          refine Goes.mk _ _ ?_ ⟨hrun, hended, _, _, rfl, ?_, ⟨_, rfl⟩, hW, hsame.mono (by decide) (by decide)⟩
          · exact retN X1 hx (t := .boolean) Bd.returns (by simp) (hb hby d2_36) hr
          · show Q2 Z p0 h0 n0 _ T1.heap _
            rw [e1]
            exact ⟨(by simp only [f2, if_pos hc3, if_pos hc4, if_neg hc5, if_neg hc6]), N2, rfl⟩
    · refine Goes.by (B := T1.setTop (mkF m 16 #[.val (.int p0)] [(.int (102 : Int32)), (.int p0)])) (fun t k => ?_) ?_
      · show Steps p.tables e below (T1.setTop (mkF m 10 #[.val (.int p0)] [(.int (97 : Int32)), (.int p0)])) t
        refine XS.icmpNo X1.here hx rfl (hb hby d2_10) rfl (flt hc4).1 ?_
        show Steps p.tables e below (T1.setTop (mkF m 13 #[.val (.int p0)] [])) t
        refine XS.iloadN X1.here hx rfl (hb hby d2_13) rfl ?_
        show Steps p.tables e below (T1.setTop (mkF m 14 #[.val (.int p0)] [(.int p0)])) t
        refine XS.bipush X1.here hx rfl (hb hby d2_14) ?_
        exact k
      by_cases hc7 : (102 : Int32) < p0
      · refine Goes.by (B := T1.setTop (mkF m 22 #[.val (.int p0)] [(.int (65 : Int32)), (.int p0)])) (fun t k => ?_) ?_
        · show Steps p.tables e below (T1.setTop (mkF m 16 #[.val (.int p0)] [(.int (102 : Int32)), (.int p0)])) t
          refine XS.icmpNo X1.here hx rfl (hb hby d2_16) rfl (tlt hc7).2.2.2 ?_
          show Steps p.tables e below (T1.setTop (mkF m 19 #[.val (.int p0)] [])) t
          refine XS.iloadN X1.here hx rfl (hb hby d2_19) rfl ?_
          show Steps p.tables e below (T1.setTop (mkF m 20 #[.val (.int p0)] [(.int p0)])) t
          refine XS.bipush X1.here hx rfl (hb hby d2_20) ?_
          exact k
        by_cases hc8 : p0 < (65 : Int32)
        · refine Goes.by (B := T1.setTop (mkF m 36 #[.val (.int p0)] [(.int (0 : Int32))])) (fun t k => ?_) ?_
          · show Steps p.tables e below (T1.setTop (mkF m 22 #[.val (.int p0)] [(.int (65 : Int32)), (.int p0)])) t
            refine XS.icmpYes X1.here hx rfl (pc0 := 22) (pc' := 35) rfl (hb hby d2_22) rfl (tlt hc8).1 (by decide) (by decide) ?_
            show Steps p.tables e below (T1.setTop (mkF m 35 #[.val (.int p0)] [])) t
            refine XS.iconst X1.here hx rfl (hb hby d2_35) ?_
            exact k
          obtain ⟨fs, hr, hrun, hended, hW, hsame⟩ := X1.leave (v := some (.int (0 : Int32))) (fun h => by rw [Bd.returns] at h; cases h)
          refine Goes.mk _ _ ?_ ⟨hrun, hended, _, _, rfl, ?_, ⟨_, rfl⟩, hW, hsame.mono (by decide) (by decide)⟩
          · exact retN X1 hx (t := .boolean) Bd.returns (by simp) (hb hby d2_36) hr
          · show Q2 Z p0 h0 n0 _ T1.heap _
            rw [e1]
            exact ⟨(by simp only [f2, if_pos hc3, if_neg hc4, if_pos hc7, if_pos hc8]), N2, rfl⟩
        · refine Goes.by (B := T1.setTop (mkF m 28 #[.val (.int p0)] [(.int (70 : Int32)), (.int p0)])) (fun t k => ?_) ?_
          · show Steps p.tables e below (T1.setTop (mkF m 22 #[.val (.int p0)] [(.int (65 : Int32)), (.int p0)])) t
            refine XS.icmpNo X1.here hx rfl (hb hby d2_22) rfl (flt hc8).1 ?_
            show Steps p.tables e below (T1.setTop (mkF m 25 #[.val (.int p0)] [])) t
            refine XS.iloadN X1.here hx rfl (hb hby d2_25) rfl ?_
            show Steps p.tables e below (T1.setTop (mkF m 26 #[.val (.int p0)] [(.int p0)])) t
            refine XS.bipush X1.here hx rfl (hb hby d2_26) ?_
            exact k
          by_cases hc9 : (70 : Int32) < p0
          · refine Goes.by (B := T1.setTop (mkF m 36 #[.val (.int p0)] [(.int (0 : Int32))])) (fun t k => ?_) ?_
            · show Steps p.tables e below (T1.setTop (mkF m 28 #[.val (.int p0)] [(.int (70 : Int32)), (.int p0)])) t
              refine XS.icmpYes X1.here hx rfl (pc0 := 28) (pc' := 35) rfl (hb hby d2_28) rfl (tlt hc9).2.2.1 (by decide) (by decide) ?_
              show Steps p.tables e below (T1.setTop (mkF m 35 #[.val (.int p0)] [])) t
              refine XS.iconst X1.here hx rfl (hb hby d2_35) ?_
              exact k
            obtain ⟨fs, hr, hrun, hended, hW, hsame⟩ := X1.leave (v := some (.int (0 : Int32))) (fun h => by rw [Bd.returns] at h; cases h)
            refine Goes.mk _ _ ?_ ⟨hrun, hended, _, _, rfl, ?_, ⟨_, rfl⟩, hW, hsame.mono (by decide) (by decide)⟩
            · exact retN X1 hx (t := .boolean) Bd.returns (by simp) (hb hby d2_36) hr
            · show Q2 Z p0 h0 n0 _ T1.heap _
              rw [e1]
              exact ⟨(by simp only [f2, if_pos hc3, if_neg hc4, if_pos hc7, if_neg hc8, if_pos hc9]), N2, rfl⟩
          · refine Goes.by (B := T1.setTop (mkF m 36 #[.val (.int p0)] [(.int (1 : Int32))])) (fun t k => ?_) ?_
            · show Steps p.tables e below (T1.setTop (mkF m 28 #[.val (.int p0)] [(.int (70 : Int32)), (.int p0)])) t
              refine XS.icmpNo X1.here hx rfl (hb hby d2_28) rfl (flt hc9).2.2.1 ?_
              show Steps p.tables e below (T1.setTop (mkF m 31 #[.val (.int p0)] [])) t
              refine XS.iconst X1.here hx rfl (hb hby d2_31) ?_
              show Steps p.tables e below (T1.setTop (mkF m 32 #[.val (.int p0)] [(.int (1 : Int32))])) t
              refine XS.goto X1.here hx rfl (pc0 := 32) (pc' := 36) rfl (hb hby d2_32) (by decide) (by decide) ?_
              exact k
            obtain ⟨fs, hr, hrun, hended, hW, hsame⟩ := X1.leave (v := some (.int (1 : Int32))) (fun h => by rw [Bd.returns] at h; cases h)
            refine Goes.mk _ _ ?_ ⟨hrun, hended, _, _, rfl, ?_, ⟨_, rfl⟩, hW, hsame.mono (by decide) (by decide)⟩
            · exact retN X1 hx (t := .boolean) Bd.returns (by simp) (hb hby d2_36) hr
            · show Q2 Z p0 h0 n0 _ T1.heap _
              rw [e1]
              exact ⟨(by simp only [f2, if_pos hc3, if_neg hc4, if_pos hc7, if_neg hc8, if_neg hc9]), N2, rfl⟩
      · refine Goes.by (B := T1.setTop (mkF m 36 #[.val (.int p0)] [(.int (1 : Int32))])) (fun t k => ?_) ?_
        · show Steps p.tables e below (T1.setTop (mkF m 16 #[.val (.int p0)] [(.int (102 : Int32)), (.int p0)])) t
          refine XS.icmpYes X1.here hx rfl (pc0 := 16) (pc' := 31) rfl (hb hby d2_16) rfl (flt hc7).2.2.2 (by decide) (by decide) ?_
          show Steps p.tables e below (T1.setTop (mkF m 31 #[.val (.int p0)] [])) t
          refine XS.iconst X1.here hx rfl (hb hby d2_31) ?_
          show Steps p.tables e below (T1.setTop (mkF m 32 #[.val (.int p0)] [(.int (1 : Int32))])) t
          refine XS.goto X1.here hx rfl (pc0 := 32) (pc' := 36) rfl (hb hby d2_32) (by decide) (by decide) ?_
          exact k
        obtain ⟨fs, hr, hrun, hended, hW, hsame⟩ := X1.leave (v := some (.int (1 : Int32))) (fun h => by rw [Bd.returns] at h; cases h)
        refine Goes.mk _ _ ?_ ⟨hrun, hended, _, _, rfl, ?_, ⟨_, rfl⟩, hW, hsame.mono (by decide) (by decide)⟩
        · exact retN X1 hx (t := .boolean) Bd.returns (by simp) (hb hby d2_36) hr
        · show Q2 Z p0 h0 n0 _ T1.heap _
          rw [e1]
          exact ⟨(by simp only [f2, if_pos hc3, if_neg hc4, if_neg hc7]), N2, rfl⟩
  · refine Goes.by (B := T1.setTop (mkF m 36 #[.val (.int p0)] [(.int (1 : Int32))])) (fun t k => ?_) ?_
    · show Steps p.tables e below (T1.setTop (mkF m 4 #[.val (.int p0)] [(.int (f3 p0))])) t
      refine XS.ifYes X1.here hx rfl (pc0 := 4) (pc' := 31) rfl (hb hby d2_4) rfl ((if0 _ _).trans (feq hc3).2) (by decide) (by decide) ?_
      show Steps p.tables e below (T1.setTop (mkF m 31 #[.val (.int p0)] [])) t
      refine XS.iconst X1.here hx rfl (hb hby d2_31) ?_
      show Steps p.tables e below (T1.setTop (mkF m 32 #[.val (.int p0)] [(.int (1 : Int32))])) t
      refine XS.goto X1.here hx rfl (pc0 := 32) (pc' := 36) rfl (hb hby d2_32) (by decide) (by decide) ?_
      exact k
    obtain ⟨fs, hr, hrun, hended, hW, hsame⟩ := X1.leave (v := some (.int (1 : Int32))) (fun h => by rw [Bd.returns] at h; cases h)
    refine Goes.mk _ _ ?_ ⟨hrun, hended, _, _, rfl, ?_, ⟨_, rfl⟩, hW, hsame.mono (by decide) (by decide)⟩
    · exact retN X1 hx (t := .boolean) Bd.returns (by simp) (hb hby d2_36) hr
    · show Q2 Z p0 h0 n0 _ T1.heap _
      rw [e1]
      exact ⟨(by simp only [f2, if_neg hc3]), N2, rfl⟩
theorem d4_0 : decode method_4_code 0 = .ok (.iload_n 0, 1) := by decide +kernel
theorem d4_1 : decode method_4_code 1 = .ok (.i2l, 1) := by decide +kernel
theorem d4_2 : decode method_4_code 2 = .ok (.ldc2_w 21, 3) := by decide +kernel
theorem d4_5 : decode method_4_code 5 = .ok (.lsub, 1) := by decide +kernel
theorem d4_6 : decode method_4_code 6 = .ok (.lstore_n 1, 1) := by decide +kernel
theorem d4_7 : decode method_4_code 7 = .ok (.iload_n 0, 1) := by decide +kernel
theorem d4_8 : decode method_4_code 8 = .ok (.bipush 32, 2) := by decide +kernel
theorem d4_10 : decode method_4_code 10 = .ok (.ior, 1) := by decide +kernel
theorem d4_11 : decode method_4_code 11 = .ok (.i2l, 1) := by decide +kernel
theorem d4_12 : decode method_4_code 12 = .ok (.ldc2_w 23, 3) := by decide +kernel
theorem d4_15 : decode method_4_code 15 = .ok (.lsub, 1) := by decide +kernel
theorem d4_16 : decode method_4_code 16 = .ok (.lstore_n 3, 1) := by decide +kernel
theorem d4_17 : decode method_4_code 17 = .ok (.lload_n 1, 1) := by decide +kernel
theorem d4_18 : decode method_4_code 18 = .ok (.lconst 0, 1) := by decide +kernel
theorem d4_19 : decode method_4_code 19 = .ok (.lcmp, 1) := by decide +kernel
theorem d4_20 : decode method_4_code 20 = .ok (.ifCond .lt 11, 3) := by decide +kernel
theorem d4_31 : decode method_4_code 31 = .ok (.lload_n 3, 1) := by decide +kernel
theorem d4_32 : decode method_4_code 32 = .ok (.lconst 0, 1) := by decide +kernel
theorem d4_33 : decode method_4_code 33 = .ok (.lcmp, 1) := by decide +kernel
theorem d4_34 : decode method_4_code 34 = .ok (.ifCond .lt 15, 3) := by decide +kernel
theorem d4_49 : decode method_4_code 49 = .ok (.iconst 0, 1) := by decide +kernel
theorem d4_50 : decode method_4_code 50 = .ok (.ireturn, 1) := by decide +kernel
theorem d4_37 : decode method_4_code 37 = .ok (.lload_n 3, 1) := by decide +kernel
theorem d4_38 : decode method_4_code 38 = .ok (.ldc2_w 27, 3) := by decide +kernel
theorem d4_41 : decode method_4_code 41 = .ok (.lcmp, 1) := by decide +kernel
theorem d4_42 : decode method_4_code 42 = .ok (.ifCond .ge 7, 3) := by decide +kernel
theorem d4_45 : decode method_4_code 45 = .ok (.iconst 1, 1) := by decide +kernel
theorem d4_46 : decode method_4_code 46 = .ok (.goto 4, 3) := by decide +kernel
theorem d4_23 : decode method_4_code 23 = .ok (.lload_n 1, 1) := by decide +kernel
theorem d4_24 : decode method_4_code 24 = .ok (.ldc2_w 25, 3) := by decide +kernel
theorem d4_27 : decode method_4_code 27 = .ok (.lcmp, 1) := by decide +kernel
theorem d4_28 : decode method_4_code 28 = .ok (.ifCond .lt 17, 3) := by decide +kernel
def f4 (p0 : Int32) : Int32 := (if ((p0.toInt64) - (48 : Int64)) < (0 : Int64) then (if (((p0 ||| (32 : Int32)).toInt64) - (97 : Int64)) < (0 : Int64) then (0 : Int32) else (if (((p0 ||| (32 : Int32)).toInt64) - (97 : Int64)) < (6 : Int64) then (1 : Int32) else (0 : Int32))) else (if ((p0.toInt64) - (48 : Int64)) < (10 : Int64) then (1 : Int32) else (if (((p0 ||| (32 : Int32)).toInt64) - (97 : Int64)) < (0 : Int64) then (0 : Int32) else (if (((p0 ||| (32 : Int32)).toInt64) - (97 : Int64)) < (6 : Int64) then (1 : Int32) else (0 : Int32)))))
def Q4 (Z : State) (p0 : Int32) (h0 : Heap) (n0 : Nat) (v : Option Value) (h : Heap) (L : List Loc) : Prop := v = some (.int (f4 p0)) ∧ Fr n0 L ∧ h = h0
theorem own_pn_com_example_strict_ledger_strictledger_model_AsciiIsHexDigitPinLaw : plainName "com/example/strict_ledger/strictledger/model/AsciiIsHexDigitPinLaw" = true := by first | (simp [plainName, overriddenIn]; done) | decide +kernel
theorem ef4 (m : MethodId) (x0 : Int32) : entryFrame m #[(.int x0)] 5 = mkF m 0 #[.val (.int x0), .unset, .unset, .unset, .unset] [] := by first | (simp [entryFrame, mkF, argsToLocals, Value.category]; done) | rfl
set_option maxRecDepth 65536 in
set_option maxHeartbeats 40000000 in
theorem rm4 (l : Launch) (Z : State) (a0 : Array Value) (hw : ∀ d ∈ tables_1, d.before a0 Z = true) (ws : List Jvm.Cond) (p0 : Int32) (h0 : Heap) (n0 : Nat) (Z0 : n0 ≤ h0.size) :
    MetFree l (⟨"com/example/strict_ledger/strictledger/model/AsciiIsHexDigitPinLaw", "reference", "(I)Z"⟩ : MethodName) (head1 (Jvm.Cond.code (⟨"com/example/strict_ledger/strictledger/model/AsciiIsHexDigitPinLaw", "reference", "(I)Z"⟩ : MethodName) method_4_code 5 (some .boolean) :: ws) ({ frames := 0, cells := 0, slots := 0, locals := 0 } : Room)) (fun a U => a = #[(.int p0)] ∧ Z.Warmed39 U.vm ∧ U.heap = h0) (fun _ _ _ _ _ => True) (fun _ U o U' => ∃ v L, o = .returned v ∧ Q4 Z p0 h0 n0 v U'.heap L ∧ FrameEnd U o U' L ({ frames := 0, cells := 0, slots := 0, locals := 0 } : Room).cells ({ frames := 0, cells := 0, slots := 0, locals := 0 } : Room).slots) := by
  refine MetFree.of_bodySF (plainFor_of_name own_pn_com_example_strict_ledger_strictledger_model_AsciiIsHexDigitPinLaw) hisR ?_
  intro p e s m args below meth c s₁ Bd hml0 hP hK
  obtain ⟨rfl, hZ, hh⟩ := hP
  have hx := Bd.exec
  have hby := Bd.bytes
  have hml : c.maxLocals = 5 := hml0
  have hown : s.vm.findClass "com/example/strict_ledger/strictledger/model/AsciiIsHexDigitPinLaw" = some m.cls := findClass_of_methodNamed Bd.named
  have hnm := (name_of_methodNamed Bd.named Bd.method).1
  have X0 : Stand p l e ({ frames := 0, cells := 0, slots := 0, locals := 0 } : Room) s m #[(.int p0)] below meth c s₁ [] 0 0 := Stand.of_body Bd
  have e0 : s₁.heap = h0 := by rw [← hh, Bd.state]; rfl
  have N0 := Fr.nil n0
  have Kp0 : Keep h0 h0 [] := Keep.refl _ _
  refine Goes.start ?_
  refine Goes.by (B := s₁.setTop (mkF m 0 #[.val (.int p0), .unset, .unset, .unset, .unset] [])) (fun t k => castTop (ef4 m p0) k) ?_
  refine Goes.by (B := s₁.setTop (mkF m 20 #[.val (.int p0), .val (.long ((p0.toInt64) - (48 : Int64))), .second, .val (.long (((p0 ||| (32 : Int32)).toInt64) - (97 : Int64))), .second] [(.int (lcmpW ((p0.toInt64) - (48 : Int64)) (0 : Int64)))])) (fun t k => ?_) ?_
  · show Steps p.tables e below (s₁.setTop (mkF m 0 #[.val (.int p0), .unset, .unset, .unset, .unset] [])) t
    refine XS.iloadN X0.here hx rfl (hb hby d4_0) rfl ?_
    show Steps p.tables e below (s₁.setTop (mkF m 1 #[.val (.int p0), .unset, .unset, .unset, .unset] [(.int p0)])) t
    refine XS.i2l X0.here hx rfl (hb hby d4_1) rfl ?_
    show Steps p.tables e below (s₁.setTop (mkF m 2 #[.val (.int p0), .unset, .unset, .unset, .unset] [(.long (p0.toInt64))])) t
    refine X0.ldc2Long hx hown (mvT hZ (hw _ (List.mem_of_getElem? (i := 14) rfl))) (g := (mkF m 2 #[.val (.int p0), .unset, .unset, .unset, .unset] [(.long (p0.toInt64))])) rfl (hb hby d4_2) _ ?_
    show Steps p.tables e below (s₁.setTop (mkF m 5 #[.val (.int p0), .unset, .unset, .unset, .unset] [(.long (48 : Int64)), (.long (p0.toInt64))])) t
    refine XS.lsub X0.here hx rfl (hb hby d4_5) rfl ?_
    show Steps p.tables e below (s₁.setTop (mkF m 6 #[.val (.int p0), .unset, .unset, .unset, .unset] [(.long ((p0.toInt64) - (48 : Int64)))])) t
    refine XS.lstoreN X0.here hx rfl (hb hby d4_6) rfl (l' := #[.val (.int p0), .val (.long ((p0.toInt64) - (48 : Int64))), .second, .unset, .unset]) rfl ?_
    show Steps p.tables e below (s₁.setTop (mkF m 7 #[.val (.int p0), .val (.long ((p0.toInt64) - (48 : Int64))), .second, .unset, .unset] [])) t
    refine XS.iloadN X0.here hx rfl (hb hby d4_7) rfl ?_
    show Steps p.tables e below (s₁.setTop (mkF m 8 #[.val (.int p0), .val (.long ((p0.toInt64) - (48 : Int64))), .second, .unset, .unset] [(.int p0)])) t
    refine XS.bipush X0.here hx rfl (hb hby d4_8) ?_
    show Steps p.tables e below (s₁.setTop (mkF m 10 #[.val (.int p0), .val (.long ((p0.toInt64) - (48 : Int64))), .second, .unset, .unset] [(.int (32 : Int32)), (.int p0)])) t
    refine XS.ior X0.here hx rfl (hb hby d4_10) rfl ?_
    show Steps p.tables e below (s₁.setTop (mkF m 11 #[.val (.int p0), .val (.long ((p0.toInt64) - (48 : Int64))), .second, .unset, .unset] [(.int (p0 ||| (32 : Int32)))])) t
    refine XS.i2l X0.here hx rfl (hb hby d4_11) rfl ?_
    show Steps p.tables e below (s₁.setTop (mkF m 12 #[.val (.int p0), .val (.long ((p0.toInt64) - (48 : Int64))), .second, .unset, .unset] [(.long ((p0 ||| (32 : Int32)).toInt64))])) t
    refine X0.ldc2Long hx hown (mvT hZ (hw _ (List.mem_of_getElem? (i := 15) rfl))) (g := (mkF m 12 #[.val (.int p0), .val (.long ((p0.toInt64) - (48 : Int64))), .second, .unset, .unset] [(.long ((p0 ||| (32 : Int32)).toInt64))])) rfl (hb hby d4_12) _ ?_
    show Steps p.tables e below (s₁.setTop (mkF m 15 #[.val (.int p0), .val (.long ((p0.toInt64) - (48 : Int64))), .second, .unset, .unset] [(.long (97 : Int64)), (.long ((p0 ||| (32 : Int32)).toInt64))])) t
    refine XS.lsub X0.here hx rfl (hb hby d4_15) rfl ?_
    show Steps p.tables e below (s₁.setTop (mkF m 16 #[.val (.int p0), .val (.long ((p0.toInt64) - (48 : Int64))), .second, .unset, .unset] [(.long (((p0 ||| (32 : Int32)).toInt64) - (97 : Int64)))])) t
    refine XS.lstoreN X0.here hx rfl (hb hby d4_16) rfl (l' := #[.val (.int p0), .val (.long ((p0.toInt64) - (48 : Int64))), .second, .val (.long (((p0 ||| (32 : Int32)).toInt64) - (97 : Int64))), .second]) rfl ?_
    show Steps p.tables e below (s₁.setTop (mkF m 17 #[.val (.int p0), .val (.long ((p0.toInt64) - (48 : Int64))), .second, .val (.long (((p0 ||| (32 : Int32)).toInt64) - (97 : Int64))), .second] [])) t
    refine XS.lloadN X0.here hx rfl (hb hby d4_17) rfl ?_
    show Steps p.tables e below (s₁.setTop (mkF m 18 #[.val (.int p0), .val (.long ((p0.toInt64) - (48 : Int64))), .second, .val (.long (((p0 ||| (32 : Int32)).toInt64) - (97 : Int64))), .second] [(.long ((p0.toInt64) - (48 : Int64)))])) t
    refine XS.lconst X0.here hx rfl (hb hby d4_18) ?_
    show Steps p.tables e below (s₁.setTop (mkF m 19 #[.val (.int p0), .val (.long ((p0.toInt64) - (48 : Int64))), .second, .val (.long (((p0 ||| (32 : Int32)).toInt64) - (97 : Int64))), .second] [(.long (0 : Int64)), (.long ((p0.toInt64) - (48 : Int64)))])) t
    refine XS.lcmp X0.here hx rfl (hb hby d4_19) rfl ?_
    exact k
  by_cases hc1 : ((p0.toInt64) - (48 : Int64)) < (0 : Int64)
  · refine Goes.by (B := s₁.setTop (mkF m 34 #[.val (.int p0), .val (.long ((p0.toInt64) - (48 : Int64))), .second, .val (.long (((p0 ||| (32 : Int32)).toInt64) - (97 : Int64))), .second] [(.int (lcmpW (((p0 ||| (32 : Int32)).toInt64) - (97 : Int64)) (0 : Int64)))])) (fun t k => ?_) ?_
    · show Steps p.tables e below (s₁.setTop (mkF m 20 #[.val (.int p0), .val (.long ((p0.toInt64) - (48 : Int64))), .second, .val (.long (((p0 ||| (32 : Int32)).toInt64) - (97 : Int64))), .second] [(.int (lcmpW ((p0.toInt64) - (48 : Int64)) (0 : Int64)))])) t
      refine XS.ifYes X0.here hx rfl (pc0 := 20) (pc' := 31) rfl (hb hby d4_20) rfl ((if0 _ _).trans (tlt ((lw_lt ((p0.toInt64) - (48 : Int64)) (0 : Int64)).mpr hc1)).1) (by decide) (by decide) ?_
      show Steps p.tables e below (s₁.setTop (mkF m 31 #[.val (.int p0), .val (.long ((p0.toInt64) - (48 : Int64))), .second, .val (.long (((p0 ||| (32 : Int32)).toInt64) - (97 : Int64))), .second] [])) t
      refine XS.lloadN X0.here hx rfl (hb hby d4_31) rfl ?_
      show Steps p.tables e below (s₁.setTop (mkF m 32 #[.val (.int p0), .val (.long ((p0.toInt64) - (48 : Int64))), .second, .val (.long (((p0 ||| (32 : Int32)).toInt64) - (97 : Int64))), .second] [(.long (((p0 ||| (32 : Int32)).toInt64) - (97 : Int64)))])) t
      refine XS.lconst X0.here hx rfl (hb hby d4_32) ?_
      show Steps p.tables e below (s₁.setTop (mkF m 33 #[.val (.int p0), .val (.long ((p0.toInt64) - (48 : Int64))), .second, .val (.long (((p0 ||| (32 : Int32)).toInt64) - (97 : Int64))), .second] [(.long (0 : Int64)), (.long (((p0 ||| (32 : Int32)).toInt64) - (97 : Int64)))])) t
      refine XS.lcmp X0.here hx rfl (hb hby d4_33) rfl ?_
      exact k
    by_cases hc2 : (((p0 ||| (32 : Int32)).toInt64) - (97 : Int64)) < (0 : Int64)
    · refine Goes.by (B := s₁.setTop (mkF m 50 #[.val (.int p0), .val (.long ((p0.toInt64) - (48 : Int64))), .second, .val (.long (((p0 ||| (32 : Int32)).toInt64) - (97 : Int64))), .second] [(.int (0 : Int32))])) (fun t k => ?_) ?_
      · show Steps p.tables e below (s₁.setTop (mkF m 34 #[.val (.int p0), .val (.long ((p0.toInt64) - (48 : Int64))), .second, .val (.long (((p0 ||| (32 : Int32)).toInt64) - (97 : Int64))), .second] [(.int (lcmpW (((p0 ||| (32 : Int32)).toInt64) - (97 : Int64)) (0 : Int64)))])) t
        refine XS.ifYes X0.here hx rfl (pc0 := 34) (pc' := 49) rfl (hb hby d4_34) rfl ((if0 _ _).trans (tlt ((lw_lt (((p0 ||| (32 : Int32)).toInt64) - (97 : Int64)) (0 : Int64)).mpr hc2)).1) (by decide) (by decide) ?_
        show Steps p.tables e below (s₁.setTop (mkF m 49 #[.val (.int p0), .val (.long ((p0.toInt64) - (48 : Int64))), .second, .val (.long (((p0 ||| (32 : Int32)).toInt64) - (97 : Int64))), .second] [])) t
        refine XS.iconst X0.here hx rfl (hb hby d4_49) ?_
        exact k
      obtain ⟨fs, hr, hrun, hended, hW, hsame⟩ := X0.leave (v := some (.int (0 : Int32))) (fun h => by rw [Bd.returns] at h; cases h)
      refine Goes.mk _ _ ?_ ⟨hrun, hended, _, _, rfl, ?_, ⟨_, rfl⟩, hW, hsame.mono (by decide) (by decide)⟩
      · exact retN X0 hx (t := .boolean) Bd.returns (by simp) (hb hby d4_50) hr
      · show Q4 Z p0 h0 n0 _ s₁.heap _
        rw [e0]
        exact ⟨(by simp only [f4, if_pos hc1, if_pos hc2]), N0, rfl⟩
    · refine Goes.by (B := s₁.setTop (mkF m 42 #[.val (.int p0), .val (.long ((p0.toInt64) - (48 : Int64))), .second, .val (.long (((p0 ||| (32 : Int32)).toInt64) - (97 : Int64))), .second] [(.int (lcmpW (((p0 ||| (32 : Int32)).toInt64) - (97 : Int64)) (6 : Int64)))])) (fun t k => ?_) ?_
      · show Steps p.tables e below (s₁.setTop (mkF m 34 #[.val (.int p0), .val (.long ((p0.toInt64) - (48 : Int64))), .second, .val (.long (((p0 ||| (32 : Int32)).toInt64) - (97 : Int64))), .second] [(.int (lcmpW (((p0 ||| (32 : Int32)).toInt64) - (97 : Int64)) (0 : Int64)))])) t
        refine XS.ifNo X0.here hx rfl (hb hby d4_34) rfl ((if0 _ _).trans (flt (fun z => hc2 ((lw_lt (((p0 ||| (32 : Int32)).toInt64) - (97 : Int64)) (0 : Int64)).mp z))).1) ?_
        show Steps p.tables e below (s₁.setTop (mkF m 37 #[.val (.int p0), .val (.long ((p0.toInt64) - (48 : Int64))), .second, .val (.long (((p0 ||| (32 : Int32)).toInt64) - (97 : Int64))), .second] [])) t
        refine XS.lloadN X0.here hx rfl (hb hby d4_37) rfl ?_
        show Steps p.tables e below (s₁.setTop (mkF m 38 #[.val (.int p0), .val (.long ((p0.toInt64) - (48 : Int64))), .second, .val (.long (((p0 ||| (32 : Int32)).toInt64) - (97 : Int64))), .second] [(.long (((p0 ||| (32 : Int32)).toInt64) - (97 : Int64)))])) t
        refine X0.ldc2Long hx hown (mvT hZ (hw _ (List.mem_of_getElem? (i := 17) rfl))) (g := (mkF m 38 #[.val (.int p0), .val (.long ((p0.toInt64) - (48 : Int64))), .second, .val (.long (((p0 ||| (32 : Int32)).toInt64) - (97 : Int64))), .second] [(.long (((p0 ||| (32 : Int32)).toInt64) - (97 : Int64)))])) rfl (hb hby d4_38) _ ?_
        show Steps p.tables e below (s₁.setTop (mkF m 41 #[.val (.int p0), .val (.long ((p0.toInt64) - (48 : Int64))), .second, .val (.long (((p0 ||| (32 : Int32)).toInt64) - (97 : Int64))), .second] [(.long (6 : Int64)), (.long (((p0 ||| (32 : Int32)).toInt64) - (97 : Int64)))])) t
        refine XS.lcmp X0.here hx rfl (hb hby d4_41) rfl ?_
        exact k
      by_cases hc3 : (((p0 ||| (32 : Int32)).toInt64) - (97 : Int64)) < (6 : Int64)
      · refine Goes.by (B := s₁.setTop (mkF m 50 #[.val (.int p0), .val (.long ((p0.toInt64) - (48 : Int64))), .second, .val (.long (((p0 ||| (32 : Int32)).toInt64) - (97 : Int64))), .second] [(.int (1 : Int32))])) (fun t k => ?_) ?_
        · show Steps p.tables e below (s₁.setTop (mkF m 42 #[.val (.int p0), .val (.long ((p0.toInt64) - (48 : Int64))), .second, .val (.long (((p0 ||| (32 : Int32)).toInt64) - (97 : Int64))), .second] [(.int (lcmpW (((p0 ||| (32 : Int32)).toInt64) - (97 : Int64)) (6 : Int64)))])) t
          refine XS.ifNo X0.here hx rfl (hb hby d4_42) rfl ((if0 _ _).trans (tlt ((lw_lt (((p0 ||| (32 : Int32)).toInt64) - (97 : Int64)) (6 : Int64)).mpr hc3)).2.1) ?_
          show Steps p.tables e below (s₁.setTop (mkF m 45 #[.val (.int p0), .val (.long ((p0.toInt64) - (48 : Int64))), .second, .val (.long (((p0 ||| (32 : Int32)).toInt64) - (97 : Int64))), .second] [])) t
          refine XS.iconst X0.here hx rfl (hb hby d4_45) ?_
          show Steps p.tables e below (s₁.setTop (mkF m 46 #[.val (.int p0), .val (.long ((p0.toInt64) - (48 : Int64))), .second, .val (.long (((p0 ||| (32 : Int32)).toInt64) - (97 : Int64))), .second] [(.int (1 : Int32))])) t
          refine XS.goto X0.here hx rfl (pc0 := 46) (pc' := 50) rfl (hb hby d4_46) (by decide) (by decide) ?_
          exact k
        obtain ⟨fs, hr, hrun, hended, hW, hsame⟩ := X0.leave (v := some (.int (1 : Int32))) (fun h => by rw [Bd.returns] at h; cases h)
        refine Goes.mk _ _ ?_ ⟨hrun, hended, _, _, rfl, ?_, ⟨_, rfl⟩, hW, hsame.mono (by decide) (by decide)⟩
        · exact retN X0 hx (t := .boolean) Bd.returns (by simp) (hb hby d4_50) hr
        · show Q4 Z p0 h0 n0 _ s₁.heap _
          rw [e0]
          exact ⟨(by simp only [f4, if_pos hc1, if_neg hc2, if_pos hc3]), N0, rfl⟩
      · refine Goes.by (B := s₁.setTop (mkF m 50 #[.val (.int p0), .val (.long ((p0.toInt64) - (48 : Int64))), .second, .val (.long (((p0 ||| (32 : Int32)).toInt64) - (97 : Int64))), .second] [(.int (0 : Int32))])) (fun t k => ?_) ?_
        · show Steps p.tables e below (s₁.setTop (mkF m 42 #[.val (.int p0), .val (.long ((p0.toInt64) - (48 : Int64))), .second, .val (.long (((p0 ||| (32 : Int32)).toInt64) - (97 : Int64))), .second] [(.int (lcmpW (((p0 ||| (32 : Int32)).toInt64) - (97 : Int64)) (6 : Int64)))])) t
          refine XS.ifYes X0.here hx rfl (pc0 := 42) (pc' := 49) rfl (hb hby d4_42) rfl ((if0 _ _).trans (flt (fun z => hc3 ((lw_lt (((p0 ||| (32 : Int32)).toInt64) - (97 : Int64)) (6 : Int64)).mp z))).2.1) (by decide) (by decide) ?_
          show Steps p.tables e below (s₁.setTop (mkF m 49 #[.val (.int p0), .val (.long ((p0.toInt64) - (48 : Int64))), .second, .val (.long (((p0 ||| (32 : Int32)).toInt64) - (97 : Int64))), .second] [])) t
          refine XS.iconst X0.here hx rfl (hb hby d4_49) ?_
          exact k
        obtain ⟨fs, hr, hrun, hended, hW, hsame⟩ := X0.leave (v := some (.int (0 : Int32))) (fun h => by rw [Bd.returns] at h; cases h)
        refine Goes.mk _ _ ?_ ⟨hrun, hended, _, _, rfl, ?_, ⟨_, rfl⟩, hW, hsame.mono (by decide) (by decide)⟩
        · exact retN X0 hx (t := .boolean) Bd.returns (by simp) (hb hby d4_50) hr
        · show Q4 Z p0 h0 n0 _ s₁.heap _
          rw [e0]
          exact ⟨(by simp only [f4, if_pos hc1, if_neg hc2, if_neg hc3]), N0, rfl⟩
  · refine Goes.by (B := s₁.setTop (mkF m 28 #[.val (.int p0), .val (.long ((p0.toInt64) - (48 : Int64))), .second, .val (.long (((p0 ||| (32 : Int32)).toInt64) - (97 : Int64))), .second] [(.int (lcmpW ((p0.toInt64) - (48 : Int64)) (10 : Int64)))])) (fun t k => ?_) ?_
    · show Steps p.tables e below (s₁.setTop (mkF m 20 #[.val (.int p0), .val (.long ((p0.toInt64) - (48 : Int64))), .second, .val (.long (((p0 ||| (32 : Int32)).toInt64) - (97 : Int64))), .second] [(.int (lcmpW ((p0.toInt64) - (48 : Int64)) (0 : Int64)))])) t
      refine XS.ifNo X0.here hx rfl (hb hby d4_20) rfl ((if0 _ _).trans (flt (fun z => hc1 ((lw_lt ((p0.toInt64) - (48 : Int64)) (0 : Int64)).mp z))).1) ?_
      show Steps p.tables e below (s₁.setTop (mkF m 23 #[.val (.int p0), .val (.long ((p0.toInt64) - (48 : Int64))), .second, .val (.long (((p0 ||| (32 : Int32)).toInt64) - (97 : Int64))), .second] [])) t
      refine XS.lloadN X0.here hx rfl (hb hby d4_23) rfl ?_
      show Steps p.tables e below (s₁.setTop (mkF m 24 #[.val (.int p0), .val (.long ((p0.toInt64) - (48 : Int64))), .second, .val (.long (((p0 ||| (32 : Int32)).toInt64) - (97 : Int64))), .second] [(.long ((p0.toInt64) - (48 : Int64)))])) t
      refine X0.ldc2Long hx hown (mvT hZ (hw _ (List.mem_of_getElem? (i := 16) rfl))) (g := (mkF m 24 #[.val (.int p0), .val (.long ((p0.toInt64) - (48 : Int64))), .second, .val (.long (((p0 ||| (32 : Int32)).toInt64) - (97 : Int64))), .second] [(.long ((p0.toInt64) - (48 : Int64)))])) rfl (hb hby d4_24) _ ?_
      show Steps p.tables e below (s₁.setTop (mkF m 27 #[.val (.int p0), .val (.long ((p0.toInt64) - (48 : Int64))), .second, .val (.long (((p0 ||| (32 : Int32)).toInt64) - (97 : Int64))), .second] [(.long (10 : Int64)), (.long ((p0.toInt64) - (48 : Int64)))])) t
      refine XS.lcmp X0.here hx rfl (hb hby d4_27) rfl ?_
      exact k
    by_cases hc4 : ((p0.toInt64) - (48 : Int64)) < (10 : Int64)
    · refine Goes.by (B := s₁.setTop (mkF m 50 #[.val (.int p0), .val (.long ((p0.toInt64) - (48 : Int64))), .second, .val (.long (((p0 ||| (32 : Int32)).toInt64) - (97 : Int64))), .second] [(.int (1 : Int32))])) (fun t k => ?_) ?_
      · show Steps p.tables e below (s₁.setTop (mkF m 28 #[.val (.int p0), .val (.long ((p0.toInt64) - (48 : Int64))), .second, .val (.long (((p0 ||| (32 : Int32)).toInt64) - (97 : Int64))), .second] [(.int (lcmpW ((p0.toInt64) - (48 : Int64)) (10 : Int64)))])) t
        refine XS.ifYes X0.here hx rfl (pc0 := 28) (pc' := 45) rfl (hb hby d4_28) rfl ((if0 _ _).trans (tlt ((lw_lt ((p0.toInt64) - (48 : Int64)) (10 : Int64)).mpr hc4)).1) (by decide) (by decide) ?_
        show Steps p.tables e below (s₁.setTop (mkF m 45 #[.val (.int p0), .val (.long ((p0.toInt64) - (48 : Int64))), .second, .val (.long (((p0 ||| (32 : Int32)).toInt64) - (97 : Int64))), .second] [])) t
        refine XS.iconst X0.here hx rfl (hb hby d4_45) ?_
        show Steps p.tables e below (s₁.setTop (mkF m 46 #[.val (.int p0), .val (.long ((p0.toInt64) - (48 : Int64))), .second, .val (.long (((p0 ||| (32 : Int32)).toInt64) - (97 : Int64))), .second] [(.int (1 : Int32))])) t
        refine XS.goto X0.here hx rfl (pc0 := 46) (pc' := 50) rfl (hb hby d4_46) (by decide) (by decide) ?_
        exact k
      obtain ⟨fs, hr, hrun, hended, hW, hsame⟩ := X0.leave (v := some (.int (1 : Int32))) (fun h => by rw [Bd.returns] at h; cases h)
      refine Goes.mk _ _ ?_ ⟨hrun, hended, _, _, rfl, ?_, ⟨_, rfl⟩, hW, hsame.mono (by decide) (by decide)⟩
      · exact retN X0 hx (t := .boolean) Bd.returns (by simp) (hb hby d4_50) hr
      · show Q4 Z p0 h0 n0 _ s₁.heap _
        rw [e0]
        exact ⟨(by simp only [f4, if_neg hc1, if_pos hc4]), N0, rfl⟩
    · refine Goes.by (B := s₁.setTop (mkF m 34 #[.val (.int p0), .val (.long ((p0.toInt64) - (48 : Int64))), .second, .val (.long (((p0 ||| (32 : Int32)).toInt64) - (97 : Int64))), .second] [(.int (lcmpW (((p0 ||| (32 : Int32)).toInt64) - (97 : Int64)) (0 : Int64)))])) (fun t k => ?_) ?_
      · show Steps p.tables e below (s₁.setTop (mkF m 28 #[.val (.int p0), .val (.long ((p0.toInt64) - (48 : Int64))), .second, .val (.long (((p0 ||| (32 : Int32)).toInt64) - (97 : Int64))), .second] [(.int (lcmpW ((p0.toInt64) - (48 : Int64)) (10 : Int64)))])) t
        refine XS.ifNo X0.here hx rfl (hb hby d4_28) rfl ((if0 _ _).trans (flt (fun z => hc4 ((lw_lt ((p0.toInt64) - (48 : Int64)) (10 : Int64)).mp z))).1) ?_
        show Steps p.tables e below (s₁.setTop (mkF m 31 #[.val (.int p0), .val (.long ((p0.toInt64) - (48 : Int64))), .second, .val (.long (((p0 ||| (32 : Int32)).toInt64) - (97 : Int64))), .second] [])) t
        refine XS.lloadN X0.here hx rfl (hb hby d4_31) rfl ?_
        show Steps p.tables e below (s₁.setTop (mkF m 32 #[.val (.int p0), .val (.long ((p0.toInt64) - (48 : Int64))), .second, .val (.long (((p0 ||| (32 : Int32)).toInt64) - (97 : Int64))), .second] [(.long (((p0 ||| (32 : Int32)).toInt64) - (97 : Int64)))])) t
        refine XS.lconst X0.here hx rfl (hb hby d4_32) ?_
        show Steps p.tables e below (s₁.setTop (mkF m 33 #[.val (.int p0), .val (.long ((p0.toInt64) - (48 : Int64))), .second, .val (.long (((p0 ||| (32 : Int32)).toInt64) - (97 : Int64))), .second] [(.long (0 : Int64)), (.long (((p0 ||| (32 : Int32)).toInt64) - (97 : Int64)))])) t
        refine XS.lcmp X0.here hx rfl (hb hby d4_33) rfl ?_
        exact k
      by_cases hc5 : (((p0 ||| (32 : Int32)).toInt64) - (97 : Int64)) < (0 : Int64)
      · refine Goes.by (B := s₁.setTop (mkF m 50 #[.val (.int p0), .val (.long ((p0.toInt64) - (48 : Int64))), .second, .val (.long (((p0 ||| (32 : Int32)).toInt64) - (97 : Int64))), .second] [(.int (0 : Int32))])) (fun t k => ?_) ?_
        · show Steps p.tables e below (s₁.setTop (mkF m 34 #[.val (.int p0), .val (.long ((p0.toInt64) - (48 : Int64))), .second, .val (.long (((p0 ||| (32 : Int32)).toInt64) - (97 : Int64))), .second] [(.int (lcmpW (((p0 ||| (32 : Int32)).toInt64) - (97 : Int64)) (0 : Int64)))])) t
          refine XS.ifYes X0.here hx rfl (pc0 := 34) (pc' := 49) rfl (hb hby d4_34) rfl ((if0 _ _).trans (tlt ((lw_lt (((p0 ||| (32 : Int32)).toInt64) - (97 : Int64)) (0 : Int64)).mpr hc5)).1) (by decide) (by decide) ?_
          show Steps p.tables e below (s₁.setTop (mkF m 49 #[.val (.int p0), .val (.long ((p0.toInt64) - (48 : Int64))), .second, .val (.long (((p0 ||| (32 : Int32)).toInt64) - (97 : Int64))), .second] [])) t
          refine XS.iconst X0.here hx rfl (hb hby d4_49) ?_
          exact k
        obtain ⟨fs, hr, hrun, hended, hW, hsame⟩ := X0.leave (v := some (.int (0 : Int32))) (fun h => by rw [Bd.returns] at h; cases h)
        refine Goes.mk _ _ ?_ ⟨hrun, hended, _, _, rfl, ?_, ⟨_, rfl⟩, hW, hsame.mono (by decide) (by decide)⟩
        · exact retN X0 hx (t := .boolean) Bd.returns (by simp) (hb hby d4_50) hr
        · show Q4 Z p0 h0 n0 _ s₁.heap _
          rw [e0]
          exact ⟨(by simp only [f4, if_neg hc1, if_neg hc4, if_pos hc5]), N0, rfl⟩
      · refine Goes.by (B := s₁.setTop (mkF m 42 #[.val (.int p0), .val (.long ((p0.toInt64) - (48 : Int64))), .second, .val (.long (((p0 ||| (32 : Int32)).toInt64) - (97 : Int64))), .second] [(.int (lcmpW (((p0 ||| (32 : Int32)).toInt64) - (97 : Int64)) (6 : Int64)))])) (fun t k => ?_) ?_
        · show Steps p.tables e below (s₁.setTop (mkF m 34 #[.val (.int p0), .val (.long ((p0.toInt64) - (48 : Int64))), .second, .val (.long (((p0 ||| (32 : Int32)).toInt64) - (97 : Int64))), .second] [(.int (lcmpW (((p0 ||| (32 : Int32)).toInt64) - (97 : Int64)) (0 : Int64)))])) t
          refine XS.ifNo X0.here hx rfl (hb hby d4_34) rfl ((if0 _ _).trans (flt (fun z => hc5 ((lw_lt (((p0 ||| (32 : Int32)).toInt64) - (97 : Int64)) (0 : Int64)).mp z))).1) ?_
          show Steps p.tables e below (s₁.setTop (mkF m 37 #[.val (.int p0), .val (.long ((p0.toInt64) - (48 : Int64))), .second, .val (.long (((p0 ||| (32 : Int32)).toInt64) - (97 : Int64))), .second] [])) t
          refine XS.lloadN X0.here hx rfl (hb hby d4_37) rfl ?_
          show Steps p.tables e below (s₁.setTop (mkF m 38 #[.val (.int p0), .val (.long ((p0.toInt64) - (48 : Int64))), .second, .val (.long (((p0 ||| (32 : Int32)).toInt64) - (97 : Int64))), .second] [(.long (((p0 ||| (32 : Int32)).toInt64) - (97 : Int64)))])) t
          refine X0.ldc2Long hx hown (mvT hZ (hw _ (List.mem_of_getElem? (i := 17) rfl))) (g := (mkF m 38 #[.val (.int p0), .val (.long ((p0.toInt64) - (48 : Int64))), .second, .val (.long (((p0 ||| (32 : Int32)).toInt64) - (97 : Int64))), .second] [(.long (((p0 ||| (32 : Int32)).toInt64) - (97 : Int64)))])) rfl (hb hby d4_38) _ ?_
          show Steps p.tables e below (s₁.setTop (mkF m 41 #[.val (.int p0), .val (.long ((p0.toInt64) - (48 : Int64))), .second, .val (.long (((p0 ||| (32 : Int32)).toInt64) - (97 : Int64))), .second] [(.long (6 : Int64)), (.long (((p0 ||| (32 : Int32)).toInt64) - (97 : Int64)))])) t
          refine XS.lcmp X0.here hx rfl (hb hby d4_41) rfl ?_
          exact k
        by_cases hc6 : (((p0 ||| (32 : Int32)).toInt64) - (97 : Int64)) < (6 : Int64)
        · refine Goes.by (B := s₁.setTop (mkF m 50 #[.val (.int p0), .val (.long ((p0.toInt64) - (48 : Int64))), .second, .val (.long (((p0 ||| (32 : Int32)).toInt64) - (97 : Int64))), .second] [(.int (1 : Int32))])) (fun t k => ?_) ?_
          · show Steps p.tables e below (s₁.setTop (mkF m 42 #[.val (.int p0), .val (.long ((p0.toInt64) - (48 : Int64))), .second, .val (.long (((p0 ||| (32 : Int32)).toInt64) - (97 : Int64))), .second] [(.int (lcmpW (((p0 ||| (32 : Int32)).toInt64) - (97 : Int64)) (6 : Int64)))])) t
            refine XS.ifNo X0.here hx rfl (hb hby d4_42) rfl ((if0 _ _).trans (tlt ((lw_lt (((p0 ||| (32 : Int32)).toInt64) - (97 : Int64)) (6 : Int64)).mpr hc6)).2.1) ?_
            show Steps p.tables e below (s₁.setTop (mkF m 45 #[.val (.int p0), .val (.long ((p0.toInt64) - (48 : Int64))), .second, .val (.long (((p0 ||| (32 : Int32)).toInt64) - (97 : Int64))), .second] [])) t
            refine XS.iconst X0.here hx rfl (hb hby d4_45) ?_
            show Steps p.tables e below (s₁.setTop (mkF m 46 #[.val (.int p0), .val (.long ((p0.toInt64) - (48 : Int64))), .second, .val (.long (((p0 ||| (32 : Int32)).toInt64) - (97 : Int64))), .second] [(.int (1 : Int32))])) t
            refine XS.goto X0.here hx rfl (pc0 := 46) (pc' := 50) rfl (hb hby d4_46) (by decide) (by decide) ?_
            exact k
          obtain ⟨fs, hr, hrun, hended, hW, hsame⟩ := X0.leave (v := some (.int (1 : Int32))) (fun h => by rw [Bd.returns] at h; cases h)
          refine Goes.mk _ _ ?_ ⟨hrun, hended, _, _, rfl, ?_, ⟨_, rfl⟩, hW, hsame.mono (by decide) (by decide)⟩
          · exact retN X0 hx (t := .boolean) Bd.returns (by simp) (hb hby d4_50) hr
          · show Q4 Z p0 h0 n0 _ s₁.heap _
            rw [e0]
            exact ⟨(by simp only [f4, if_neg hc1, if_neg hc4, if_neg hc5, if_pos hc6]), N0, rfl⟩
        · refine Goes.by (B := s₁.setTop (mkF m 50 #[.val (.int p0), .val (.long ((p0.toInt64) - (48 : Int64))), .second, .val (.long (((p0 ||| (32 : Int32)).toInt64) - (97 : Int64))), .second] [(.int (0 : Int32))])) (fun t k => ?_) ?_
          · show Steps p.tables e below (s₁.setTop (mkF m 42 #[.val (.int p0), .val (.long ((p0.toInt64) - (48 : Int64))), .second, .val (.long (((p0 ||| (32 : Int32)).toInt64) - (97 : Int64))), .second] [(.int (lcmpW (((p0 ||| (32 : Int32)).toInt64) - (97 : Int64)) (6 : Int64)))])) t
            refine XS.ifYes X0.here hx rfl (pc0 := 42) (pc' := 49) rfl (hb hby d4_42) rfl ((if0 _ _).trans (flt (fun z => hc6 ((lw_lt (((p0 ||| (32 : Int32)).toInt64) - (97 : Int64)) (6 : Int64)).mp z))).2.1) (by decide) (by decide) ?_
            show Steps p.tables e below (s₁.setTop (mkF m 49 #[.val (.int p0), .val (.long ((p0.toInt64) - (48 : Int64))), .second, .val (.long (((p0 ||| (32 : Int32)).toInt64) - (97 : Int64))), .second] [])) t
            refine XS.iconst X0.here hx rfl (hb hby d4_49) ?_
            exact k
          obtain ⟨fs, hr, hrun, hended, hW, hsame⟩ := X0.leave (v := some (.int (0 : Int32))) (fun h => by rw [Bd.returns] at h; cases h)
          refine Goes.mk _ _ ?_ ⟨hrun, hended, _, _, rfl, ?_, ⟨_, rfl⟩, hW, hsame.mono (by decide) (by decide)⟩
          · exact retN X0 hx (t := .boolean) Bd.returns (by simp) (hb hby d4_50) hr
          · show Q4 Z p0 h0 n0 _ s₁.heap _
            rw [e0]
            exact ⟨(by simp only [f4, if_neg hc1, if_neg hc4, if_neg hc5, if_neg hc6]), N0, rfl⟩
theorem own_ext32 {x y : Int32} (h : (x.toInt - y.toInt) % 4294967296 = 0) : x = y := by
  have h1 := rng32 x
  have h2 := rng32 y
  exact Int32.toInt_inj.mp (by omega)
theorem own_ext64 {x y : Int64} (h : (x.toInt - y.toInt) % 18446744073709551616 = 0) : x = y := by
  have h1 := rng64 x
  have h2 := rng64 y
  exact Int64.toInt_inj.mp (by omega)
theorem own_nat32 (x : Int32) : x.toBitVec.toNat < 4294967296 ∧ ((x.toInt = x.toBitVec.toNat ∧ x.toBitVec.toNat < 2147483648) ∨ (x.toInt = x.toBitVec.toNat - 4294967296 ∧ 2147483648 ≤ x.toBitVec.toNat)) := by
  have h := x.toBitVec.isLt
  refine ⟨h, ?_⟩
  have q : x.toInt = x.toBitVec.toInt := rfl
  rw [q, BitVec.toInt_eq_toNat_cond]
  split <;> omega
theorem own_or32 (c : Int32) : (32 ≤ c.toInt % 64 → (c ||| (32 : Int32)).toInt = c.toInt) ∧ (c.toInt % 64 < 32 → (c ||| (32 : Int32)).toInt = c.toInt + 32) := by
  have e : (c ||| (32 : Int32)).toBitVec.toNat = c.toBitVec.toNat ||| 32 := by
    show (c.toBitVec ||| (32 : Int32).toBitVec).toNat = _
    rw [BitVec.toNat_or]; rfl
  have h1 : (c.toBitVec.toNat ||| 32) % 64 = (c.toBitVec.toNat % 64 ||| 32) := Nat.or_mod_two_pow (a := c.toBitVec.toNat) (b := 32) (n := 6)
  have h2 : (c.toBitVec.toNat ||| 32) / 64 = c.toBitVec.toNat / 64 := (Nat.or_div_two_pow (a := c.toBitVec.toNat) (b := 32) (n := 6)).trans (Nat.or_zero _)
  have h3 : ∀ r : Fin 64, (r.val ||| 32) = if 32 ≤ r.val then r.val else r.val + 32 := by decide
  have h4 := h3 ⟨c.toBitVec.toNat % 64, Nat.mod_lt _ (by decide)⟩
  have n1 := own_nat32 c
  have n2 := own_nat32 (c ||| (32 : Int32))
  rw [e] at n2
  dsimp only at h4
  rw [← h1] at h4
  split at h4 <;> constructor <;> intro q <;> omega
theorem own_dig (c : Int32) : (f3 c = 0) = (c.toInt < 48 ∨ 57 < c.toInt) := by
  have l1 : (48 : Int32).toInt = 48 := by decide
  have l2 : (57 : Int32).toInt = 57 := by decide
  simp only [f3, Int32.lt_iff_toInt_lt, l1, l2]
  apply propext
  constructor
  · intro h
    split at h
    · exact Or.inl (by assumption)
    · split at h
      · exact Or.inr (by assumption)
      · exact absurd h (by decide)
  · intro h
    split
    · rfl
    · split
      · rfl
      · exfalso; omega
theorem own_law (c : Int32) : f2 c = f4 c := by
  have h := own_or32 c
  have d1 := c_lsub c.toInt64 (48 : Int64)
  have d2 := c_lsub (c ||| (32 : Int32)).toInt64 (97 : Int64)
  have r1 := rng64 (c.toInt64 - (48 : Int64))
  have r2 := rng64 ((c ||| (32 : Int32)).toInt64 - (97 : Int64))
  have r3 := rng32 c
  have r4 := rng32 (c ||| (32 : Int32))
  have l1 : (97 : Int32).toInt = 97 := by decide
  have l2 : (102 : Int32).toInt = 102 := by decide
  have l3 : (65 : Int32).toInt = 65 := by decide
  have l4 : (70 : Int32).toInt = 70 := by decide
  have k1 : (48 : Int64).toInt = 48 := by decide
  have k2 : (97 : Int64).toInt = 97 := by decide
  have k3 : (0 : Int64).toInt = 0 := by decide
  have k4 : (10 : Int64).toInt = 10 := by decide
  have k5 : (6 : Int64).toInt = 6 := by decide
  rw [c_i2l, k1] at d1
  rw [c_i2l, k2] at d2
  simp only [f2, f4, own_dig, Int32.lt_iff_toInt_lt, Int64.lt_iff_toInt_lt, l1, l2, l3, l4, k3, k4, k5]
  generalize ((c ||| (32 : Int32)).toInt64 - (97 : Int64)).toInt = u at *
  generalize (c.toInt64 - (48 : Int64)).toInt = v at *
  generalize (c ||| (32 : Int32)).toInt = o at *
  generalize c.toInt = z at *
  repeat' split
  all_goals first | rfl | (exfalso; omega)
theorem d1_0 : decode method_3_code 0 = .ok (.iload_n 0, 1) := by decide +kernel
theorem d1_1 : decode method_3_code 1 = .ok (.invokestatic 13, 3) := by decide +kernel
theorem d1_4 : decode method_3_code 4 = .ok (.iload_n 0, 1) := by decide +kernel
theorem d1_5 : decode method_3_code 5 = .ok (.invokestatic 18, 3) := by decide +kernel
theorem d1_8 : decode method_3_code 8 = .ok (.if_icmp .ne 7, 3) := by decide +kernel
theorem d1_11 : decode method_3_code 11 = .ok (.iconst 1, 1) := by decide +kernel
theorem d1_12 : decode method_3_code 12 = .ok (.goto 4, 3) := by decide +kernel
theorem d1_16 : decode method_3_code 16 = .ok (.ireturn, 1) := by decide +kernel
def Q1 (Z : State) (p0 : Int32) (h0 : Heap) (n0 : Nat) (v : Option Value) (h : Heap) (L : List Loc) : Prop := v = some (.int (1 : Int32)) ∧ Fr n0 L ∧ h = h0
theorem ef1 (m : MethodId) (x0 : Int32) : entryFrame m #[(.int x0)] 1 = mkF m 0 #[.val (.int x0)] [] := by first | (simp [entryFrame, mkF, argsToLocals, Value.category]; done) | rfl
set_option maxRecDepth 65536 in
set_option maxHeartbeats 40000000 in
theorem rm1 (l : Launch) (Z : State) (a0 : Array Value) (hw : ∀ d ∈ tables_1, d.before a0 Z = true) (ws : List Jvm.Cond) (p0 : Int32) (h0 : Heap) (n0 : Nat) (Z0 : n0 ≤ h0.size) :
    MetFree l (⟨"com/example/strict_ledger/strictledger/model/AsciiIsHexDigitPinLaw", "agrees", "(I)Z"⟩ : MethodName) (head1 (Jvm.Cond.code (⟨"com/example/strict_ledger/strictledger/model/AsciiIsHexDigitPinLaw", "agrees", "(I)Z"⟩ : MethodName) method_3_code 1 (some .boolean) :: ws) ({ frames := 2, cells := 0, slots := 0, locals := 24 } : Room)) (fun a U => a = #[(.int p0)] ∧ Z.Warmed39 U.vm ∧ U.heap = h0) (fun _ _ _ _ _ => True) (fun _ U o U' => ∃ v L, o = .returned v ∧ Q1 Z p0 h0 n0 v U'.heap L ∧ FrameEnd U o U' L ({ frames := 2, cells := 0, slots := 0, locals := 24 } : Room).cells ({ frames := 2, cells := 0, slots := 0, locals := 24 } : Room).slots) := by
  refine MetFree.of_bodySF (plainFor_of_name own_pn_com_example_strict_ledger_strictledger_model_AsciiIsHexDigitPinLaw) hisR ?_
  intro p e s m args below meth c s₁ Bd hml0 hP hK
  obtain ⟨rfl, hZ, hh⟩ := hP
  have hx := Bd.exec
  have hby := Bd.bytes
  have hml : c.maxLocals = 1 := hml0
  have hown : s.vm.findClass "com/example/strict_ledger/strictledger/model/AsciiIsHexDigitPinLaw" = some m.cls := findClass_of_methodNamed Bd.named
  have hnm := (name_of_methodNamed Bd.named Bd.method).1
  have X0 : Stand p l e ({ frames := 2, cells := 0, slots := 0, locals := 24 } : Room) s m #[(.int p0)] below meth c s₁ [] 0 0 := Stand.of_body Bd
  have e0 : s₁.heap = h0 := by rw [← hh, Bd.state]; rfl
  have N0 := Fr.nil n0
  have Kp0 : Keep h0 h0 [] := Keep.refl _ _
  refine Goes.start ?_
  refine Goes.by (B := s₁.setTop (mkF m 0 #[.val (.int p0)] [])) (fun t k => castTop (ef1 m p0) k) ?_
  refine Goes.by (B := s₁.setTop (mkF m 1 #[.val (.int p0)] [(.int p0)])) (fun t k => ?_) ?_
  · show Steps p.tables e below (s₁.setTop (mkF m 0 #[.val (.int p0)] [])) t
    refine XS.iloadN X0.here hx rfl (hb hby d1_0) rfl ?_
    exact k
  obtain ⟨_, _, ⟨T1, L1, k1, n1⟩, -, X1, ⟨Lc1, hQ1, l1, y1, z1⟩, st1⟩ := Jvm.LawKit.callS X0 hx (y := (⟨"com/example/strict_ledger/strictledger/model/Ascii", "isHexDigit", "(I)Z"⟩ : MethodName)) hown (mvT hZ (hw _ (List.mem_of_getElem? (i := 4) rfl))) (mvT hZ (hw _ (List.mem_of_getElem? (i := 5) rfl))) (mvT hZ (hw _ (List.mem_of_getElem? (i := 6) rfl))) (mvT hZ (hw _ (List.mem_of_getElem? (i := 7) rfl))) (by decide) (backOf (W := 0) (rm2 l Z a0 hw [] p0 h0 n0 Z0 ) hZ (hw _ (List.mem_of_getElem? (i := 7) rfl)) (hw _ (List.mem_of_getElem? (i := 6) rfl)) (by decide) (by decide)) (g := (mkF m 1 #[.val (.int p0)] [(.int p0)])) rfl (by rw [hml]; rfl) (argsL := [(.int p0)]) (rest := []) (lenOf own_pd0 rfl) rfl (by show 2 * 0 + _ ≤ _; exact Nat.le_of_eq rfl) (hb hby d1_1) (fun _ _ => ⟨rfl, e0, (by decide : 0 + 0 ≤ _), (by decide : 0 + 0 ≤ _)⟩)
  dsimp only [Pt.U, Pt.locs, Pt.cells, Pt.slots] at X1 l1 y1 z1 st1 hQ1
  subst l1 y1 z1
  obtain ⟨rfl, N1q, e1⟩ := hQ1
  have N2 := Fr.app N0 N1q
  refine Goes.by st1 ?_
  show Goes p.tables e below _ (T1.setTop (mkF m 4 #[.val (.int p0)] [(.int (f2 p0))]))
  refine Goes.by (B := T1.setTop (mkF m 5 #[.val (.int p0)] [(.int p0), (.int (f2 p0))])) (fun t k => ?_) ?_
  · show Steps p.tables e below (T1.setTop (mkF m 4 #[.val (.int p0)] [(.int (f2 p0))])) t
    refine XS.iloadN X1.here hx rfl (hb hby d1_4) rfl ?_
    exact k
  obtain ⟨_, _, ⟨T3, L3, k3, n3⟩, -, X3, ⟨Lc3, hQ3, l3, y3, z3⟩, st3⟩ := Jvm.LawKit.callS X1 hx (y := (⟨"com/example/strict_ledger/strictledger/model/AsciiIsHexDigitPinLaw", "reference", "(I)Z"⟩ : MethodName)) hown (mvT hZ (hw _ (List.mem_of_getElem? (i := 11) rfl))) (mvT hZ (hw _ (List.mem_of_getElem? (i := 12) rfl))) (mvT hZ (hw _ (List.mem_of_getElem? (i := 2) rfl))) (mvT hZ (hw _ (List.mem_of_getElem? (i := 13) rfl))) (by decide) (backOf (W := 1) (rm4 l Z a0 hw [] p0 h0 n0 Z0 ) hZ (hw _ (List.mem_of_getElem? (i := 13) rfl)) (hw _ (List.mem_of_getElem? (i := 2) rfl)) (by decide) (by decide)) (g := (mkF m 5 #[.val (.int p0)] [(.int p0), (.int (f2 p0))])) rfl (by rw [hml]; rfl) (argsL := [(.int p0)]) (rest := [(.int (f2 p0))]) (lenOf own_pd0 rfl) rfl (by show 2 * 0 + _ ≤ _; exact Nat.le_of_eq rfl) (hb hby d1_5) (fun _ _ => ⟨rfl, e1, (by decide : 0 + 0 ≤ _), (by decide : 0 + 0 ≤ _)⟩)
  dsimp only [Pt.U, Pt.locs, Pt.cells, Pt.slots] at X3 l3 y3 z3 st3 hQ3
  subst l3 y3 z3
  obtain ⟨rfl, N3q, e3⟩ := hQ3
  have N4 := Fr.app N2 N3q
  refine Goes.by st3 ?_
  show Goes p.tables e below _ (T3.setTop (mkF m 8 #[.val (.int p0)] [(.int (f4 p0)), (.int (f2 p0))]))
  refine Goes.by (B := T3.setTop (mkF m 16 #[.val (.int p0)] [(.int (1 : Int32))])) (fun t k => ?_) ?_
  · show Steps p.tables e below (T3.setTop (mkF m 8 #[.val (.int p0)] [(.int (f4 p0)), (.int (f2 p0))])) t
    refine XS.icmpNo X3.here hx rfl (hb hby d1_8) rfl (teq (own_law p0)).2 ?_
    show Steps p.tables e below (T3.setTop (mkF m 11 #[.val (.int p0)] [])) t
    refine XS.iconst X3.here hx rfl (hb hby d1_11) ?_
    show Steps p.tables e below (T3.setTop (mkF m 12 #[.val (.int p0)] [(.int (1 : Int32))])) t
    refine XS.goto X3.here hx rfl (pc0 := 12) (pc' := 16) rfl (hb hby d1_12) (by decide) (by decide) ?_
    exact k
  obtain ⟨fs, hr, hrun, hended, hW, hsame⟩ := X3.leave (v := some (.int (1 : Int32))) (fun h => by rw [Bd.returns] at h; cases h)
  refine Goes.mk _ _ ?_ ⟨hrun, hended, _, _, rfl, ?_, ⟨_, rfl⟩, hW, hsame.mono (by decide) (by decide)⟩
  · exact retN X3 hx (t := .boolean) Bd.returns (by simp) (hb hby d1_16) hr
  · show Q1 Z p0 h0 n0 _ T3.heap _
    rw [e3]
    exact ⟨rfl, N4, rfl⟩
def Q0 (Z : State) (p0 : Int32) (h0 : Heap) (n0 : Nat) (v : Option Value) (h : Heap) (L : List Loc) : Prop := v = some (.int 1) ∧ Fr n0 L ∧ h = h0
theorem ef0 (m : MethodId) (x0 : Int32) : entryFrame m #[(.int x0)] maxLocals = mkF m 0 #[.val (.int x0)] [] := by first | (simp [entryFrame, mkF, argsToLocals, Value.category, maxLocals]; done) | rfl
set_option maxRecDepth 65536 in
set_option maxHeartbeats 40000000 in
theorem rm0 (l : Launch) (Z : State) (a0 : Array Value) (hw : ∀ d ∈ tables_1, d.before a0 Z = true) (ws : List Jvm.Cond) (p0 : Int32) (h0 : Heap) (n0 : Nat) (Z0 : n0 ≤ h0.size) :
    MetFree l x (head1 (Jvm.Cond.code x code maxLocals ret :: ws) room_1) (fun a U => a = #[(.int p0)] ∧ Z.Warmed39 U.vm ∧ U.heap = h0) (fun _ _ _ _ _ => True) (fun _ U o U' => ∃ v L, o = .returned v ∧ Q0 Z p0 h0 n0 v U'.heap L ∧ FrameEnd U o U' L 0 0) := by
  refine MetFree.of_bodySF (plainFor_of_name own_pn_com_example_strict_ledger_strictledger_model_AsciiIsHexDigitPinLaw) hisR ?_
  intro p e s m args below meth c s₁ Bd hml0 hP hK
  obtain ⟨rfl, hZ, hh⟩ := hP
  have hx := Bd.exec
  have hby := Bd.bytes
  have hml : c.maxLocals = 1 := hml0
  have hown : s.vm.findClass "com/example/strict_ledger/strictledger/model/AsciiIsHexDigitPinLaw" = some m.cls := findClass_of_methodNamed Bd.named
  have hnm := (name_of_methodNamed Bd.named Bd.method).1
  have X0 : Stand p l e room_1 s m #[(.int p0)] below meth c s₁ [] 0 0 := Stand.of_body Bd
  have e0 : s₁.heap = h0 := by rw [← hh, Bd.state]; rfl
  have N0 := Fr.nil n0
  have Kp0 : Keep h0 h0 [] := Keep.refl _ _
  refine Goes.start ?_
  refine Goes.by (B := s₁.setTop (mkF m 0 #[.val (.int p0)] [])) (fun t k => castTop (ef0 m p0) k) ?_
  refine Goes.by (B := s₁.setTop (mkF m 1 #[.val (.int p0)] [(.int p0)])) (fun t k => ?_) ?_
  · show Steps p.tables e below (s₁.setTop (mkF m 0 #[.val (.int p0)] [])) t
    refine XS.iloadN X0.here hx rfl (hb hby at_0) rfl ?_
    exact k
  obtain ⟨_, _, ⟨T1, L1, k1, n1⟩, -, X1, ⟨Lc1, hQ1, l1, y1, z1⟩, st1⟩ := Jvm.LawKit.callS X0 hx (y := (⟨"com/example/strict_ledger/strictledger/model/AsciiIsHexDigitPinLaw", "agrees", "(I)Z"⟩ : MethodName)) hown (mvT hZ (hw _ (List.mem_of_getElem? (i := 0) rfl))) (mvT hZ (hw _ (List.mem_of_getElem? (i := 1) rfl))) (mvT hZ (hw _ (List.mem_of_getElem? (i := 2) rfl))) (mvT hZ (hw _ (List.mem_of_getElem? (i := 3) rfl))) (by decide) (backOf (W := 0) (rm1 l Z a0 hw [] p0 h0 n0 Z0 ) hZ (hw _ (List.mem_of_getElem? (i := 3) rfl)) (hw _ (List.mem_of_getElem? (i := 2) rfl)) (by decide) (by decide)) (g := (mkF m 1 #[.val (.int p0)] [(.int p0)])) rfl (by rw [hml]; rfl) (argsL := [(.int p0)]) (rest := []) (lenOf own_pd0 rfl) rfl (by show 2 * 0 + _ ≤ _; exact Nat.le_of_eq rfl) (hb hby at_1) (fun _ _ => ⟨rfl, e0, (by decide : 0 + 0 ≤ _), (by decide : 0 + 0 ≤ _)⟩)
  dsimp only [Pt.U, Pt.locs, Pt.cells, Pt.slots] at X1 l1 y1 z1 st1 hQ1
  subst l1 y1 z1
  obtain ⟨rfl, N1q, e1⟩ := hQ1
  have N2 := Fr.app N0 N1q
  refine Goes.by st1 ?_
  show Goes p.tables e below _ (T1.setTop (mkF m 4 #[.val (.int p0)] [(.int (1 : Int32))]))
  refine Goes.by (B := T1.setTop (mkF m 11 #[.val (.int p0)] [(.int (p0 &&& (127 : Int32)))])) (fun t k => ?_) ?_
  · show Steps p.tables e below (T1.setTop (mkF m 4 #[.val (.int p0)] [(.int (1 : Int32))])) t
    refine XS.ifNo X1.here hx rfl (hb hby at_4) rfl ((if0 _ _).trans (feq (by decide : ¬ ((1 : Int32) = (0 : Int32)))).1) ?_
    show Steps p.tables e below (T1.setTop (mkF m 7 #[.val (.int p0)] [])) t
    refine XS.iloadN X1.here hx rfl (hb hby at_7) rfl ?_
    show Steps p.tables e below (T1.setTop (mkF m 8 #[.val (.int p0)] [(.int p0)])) t
    refine XS.bipush X1.here hx rfl (hb hby at_8) ?_
    show Steps p.tables e below (T1.setTop (mkF m 10 #[.val (.int p0)] [(.int (127 : Int32)), (.int p0)])) t
    refine XS.iand X1.here hx rfl (hb hby at_10) rfl ?_
    exact k
  obtain ⟨_, _, ⟨T3, L3, k3, n3⟩, -, X3, ⟨Lc3, hQ3, l3, y3, z3⟩, st3⟩ := Jvm.LawKit.callS X1 hx (y := (⟨"com/example/strict_ledger/strictledger/model/AsciiIsHexDigitPinLaw", "agrees", "(I)Z"⟩ : MethodName)) hown (mvT hZ (hw _ (List.mem_of_getElem? (i := 0) rfl))) (mvT hZ (hw _ (List.mem_of_getElem? (i := 1) rfl))) (mvT hZ (hw _ (List.mem_of_getElem? (i := 2) rfl))) (mvT hZ (hw _ (List.mem_of_getElem? (i := 3) rfl))) (by decide) (backOf (W := 0) (rm1 l Z a0 hw [] (p0 &&& (127 : Int32)) h0 n0 Z0 ) hZ (hw _ (List.mem_of_getElem? (i := 3) rfl)) (hw _ (List.mem_of_getElem? (i := 2) rfl)) (by decide) (by decide)) (g := (mkF m 11 #[.val (.int p0)] [(.int (p0 &&& (127 : Int32)))])) rfl (by rw [hml]; rfl) (argsL := [(.int (p0 &&& (127 : Int32)))]) (rest := []) (lenOf own_pd0 rfl) rfl (by show 2 * 0 + _ ≤ _; exact Nat.le_of_eq rfl) (hb hby at_11) (fun _ _ => ⟨rfl, e1, (by decide : 0 + 0 ≤ _), (by decide : 0 + 0 ≤ _)⟩)
  dsimp only [Pt.U, Pt.locs, Pt.cells, Pt.slots] at X3 l3 y3 z3 st3 hQ3
  subst l3 y3 z3
  obtain ⟨rfl, N3q, e3⟩ := hQ3
  have N4 := Fr.app N2 N3q
  refine Goes.by st3 ?_
  show Goes p.tables e below _ (T3.setTop (mkF m 14 #[.val (.int p0)] [(.int (1 : Int32))]))
  refine Goes.by (B := T3.setTop (mkF m 22 #[.val (.int p0)] [(.int (1 : Int32))])) (fun t k => ?_) ?_
  · show Steps p.tables e below (T3.setTop (mkF m 14 #[.val (.int p0)] [(.int (1 : Int32))])) t
    refine XS.ifNo X3.here hx rfl (hb hby at_14) rfl ((if0 _ _).trans (feq (by decide : ¬ ((1 : Int32) = (0 : Int32)))).1) ?_
    show Steps p.tables e below (T3.setTop (mkF m 17 #[.val (.int p0)] [])) t
    refine XS.iconst X3.here hx rfl (hb hby at_17) ?_
    show Steps p.tables e below (T3.setTop (mkF m 18 #[.val (.int p0)] [(.int (1 : Int32))])) t
    refine XS.goto X3.here hx rfl (pc0 := 18) (pc' := 22) rfl (hb hby at_18) (by decide) (by decide) ?_
    exact k
  obtain ⟨fs, hr, hrun, hended, hW, hsame⟩ := X3.leave (v := some (.int (1 : Int32))) (fun h => by rw [Bd.returns] at h; cases h)
  refine Goes.mk _ _ ?_ ⟨hrun, hended, _, _, rfl, ?_, ⟨_, rfl⟩, hW, hsame.mono (by decide) (by decide)⟩
  · exact retN X3 hx (t := .boolean) Bd.returns (by simp) (hb hby at_22) hr
  · show Q0 Z p0 h0 n0 _ T3.heap _
    rw [e3]
    exact ⟨rfl, N4, rfl⟩
set_option maxRecDepth 65536 in
set_option maxHeartbeats 40000000 in
theorem comes_1 {Post : Tables → Env → Array Value → State → Outcome → State → Prop} (hpost : ∀ tb e args s v u, (limb_1_1.after args s (.returned v) u = true ∧ limb_1_2.after args s (.returned v) u = true ∧ True) → FrameEnd s (.returned v) u (Jvm.fieldLocs frame_1_writes args s ++ Jvm.arrayLocs frame_1_arrays args s ++ Jvm.staticLocs frame_1_statics s) 0 0 → Post tb e args s (.returned v) u) :
    ArmFor flags0 classFile x code maxLocals ret World_1 tables_1 room_1 Calls_1 rest_1 Pre_1 Post := by
  intro l hfl _ _ p e ha hc hk s m args below hf hA hF happ hP
  obtain ⟨hcalls, hrest, hpre⟩ := hP
  obtain ⟨-, -, -, hnamed, -, -, -, hat⟩ := (Spec.applies_iff hf).mp happ
  obtain ⟨hg, hn⟩ := and_e (Cond.before_iff.mp (show (Jvm.Cond.and given_1 narrow_1).before args s = true from hpre))
  obtain ⟨gg1, gg2⟩ := and_e hg
  obtain ⟨w0, rfl⟩ : ∃ w0 : Value, args = #[w0] := by
    have hs : args.size = 1 := by simpa [Cond.value, given_1] using gg1
    obtain ⟨L⟩ := args
    match L, hs with
    | [w0], _ => exact ⟨w0, rfl⟩
  have hw := fun d (hd : d ∈ tables_1) => atoms_spec (ws := Jvm.Cond.code x code maxLocals ret :: tables_1) hat d (List.mem_cons_of_mem _ hd)
  have hfit : Fit s := fun {y c} hc i hi => by
    obtain ⟨ha, rfl⟩ := Array.getElem?_eq_some_iff.mp hc
    have q := List.all_eq_true.mp ((Array.all_eq_true_iff_forall_mem.mp hF) _ (Array.getElem_mem ha)) i (List.mem_range.mpr hi)
    simpa [Array.getElem?_eq_getElem hi] using q
  obtain ⟨i0, ei0⟩ := is_v gg2
  obtain rfl : w0 = (.int i0) := Option.some.inj ei0
  obtain ⟨n, o, h1, h2, h3, _, L, rfl, ⟨rfl, N, -⟩, hq⟩ := rm0 l s _ hw tables_1 i0 s.heap s.heap.size (Nat.le_refl _)  p e ha hc hk s m _ below hf ((Spec.applies_iff_loose hf).mp happ).1 ⟨rfl, State.Warmed39.refl s, rfl⟩ trivial
  refine ⟨n, _, h1, h2, h3, hpost _ _ _ _ _ _ ⟨Cond.after_iff.mpr rfl, Cond.after_iff.mpr (eq_i res_at (Term.int_eval (1)) rfl), trivial⟩ ⟨hq.1, hq.2.1, (hq.2.2.sift fun y hy => Or.inr (N y hy)).mono (by decide) (by decide)⟩⟩
theorem main_1_1 : Claimed_1_1 := comes_1 fun _ _ _ _ _ _ h hF => ⟨h.1, hF⟩
theorem main_1_2 : Claimed_1_2 := comes_1 fun _ _ _ _ _ _ h hF => ⟨h.2.1, hF⟩
end Jvm.Pilot.@@N@@
namespace Jvm.Pilot.@@N@@
open Jvm Jvm.ClassFile Sem Op Lib Jvm.Free Jvm.Stand Jvm.Pilot.@@N@@.Jvm.D
/-! MADE BY PROGRAM (witnessworld.py) out of the Statement's table words and the real class files: 9 classes; the members and pool entries that the words name. The judged class is class 1, her method 1. -/
namespace start1
open Jvm.ClassFile
def u (s : String) : CpInfo := .utf8 (stringToUtf16 s)
/-- a pool by its gaps: so many unusable entries, then the entry; so many at the end -/
def gap : Nat → List CpInfo → List CpInfo
  | 0, r => r
  | n + 1, r => .unusable :: gap n r
def poolList (es : List (Nat × CpInfo)) (last : Nat) : List CpInfo := es.foldr (fun e r => gap e.1 (e.2 :: r)) (gap last [])
def pool (es : List (Nat × CpInfo)) (last : Nat) : Array CpInfo := ⟨poolList es last⟩
def fileOf (pool : Array CpInfo) (this : Nat) (attrs : Array Attribute := #[]) (ms : Array MethodInfo := #[]) (fl : Nat := 33) (sup : Nat := 0) (ifs : Array Nat := #[]) (fds : Array FieldInfo := #[]) : ClassFile where
  minorVersion := 0
  majorVersion := 65
  constantPool := pool
  accessFlags := fl
  thisClass := this
  superClass := sup
  interfaces := ifs
  fields := fds
  methods := ms
  attributes := attrs
def plain (name : String) (sup : Option ClassId) : Class where
  name := name
  kind := .ordinary
  loader := none
  accessFlags := 33
  super := sup
  interfaces := #[]
  cf := none
  fields := #[]
  methods := #[]
  instanceTypes := #[]
  staticTypes := #[]
  resolved := #[]
  callSites := []
  init := .initialized
  statics := none
  mirror := none

def pool0 : Array CpInfo := pool [(5, u "<init>"), (0, u "()V"), (1, .class_ 10), (1, u "java/lang/Object")] 113

def k0m0 : Method := { name := "<init>", desc := "()V", sig := { parameters := [], returnType := none }, accessFlags := 1, code := none }
/-- java/lang/Object -/
def k0 : Class := { plain "java/lang/Object" none with
  accessFlags := 33
  interfaces := #[]
  cf := some (fileOf pool0 8 #[] #[{ accessFlags := 1, nameIndex := 5, descriptorIndex := 6, attributes := #[] }] 33 0 #[] #[])
  fields := #[]
  methods := #[k0m0]
  instanceTypes := #[]
  staticTypes := #[]
  resolved := Array.replicate 124 none
  statics := none }

def pool1 : Array CpInfo := pool [(2, .class_ 4), (1, u "java/lang/Object"), (0, u "<init>"), (0, u "()V"), (0, .methodref 8 9), (0, .class_ 10), (0, .nameAndType 11 12), (0, u "com/example/strict_ledger/strictledger/model/AsciiIsHexDigitPinLaw"), (0, u "agrees"), (0, u "(I)Z"), (0, .methodref 14 15), (0, .class_ 16), (0, .nameAndType 17 12), (0, u "com/example/strict_ledger/strictledger/model/Ascii"), (0, u "isHexDigit"), (0, .methodref 8 19), (0, .nameAndType 20 12), (0, u "reference"), (0, .long 48), (1, .long 97), (1, .long 10), (1, .long 6), (3, u "law")] 3

def k1m0 : Method := { name := "<init>", desc := "()V", sig := { parameters := [], returnType := none }, accessFlags := 2, code := none }
def k1c1 : Code := { maxStack := 2, maxLocals := 1, code := code, exceptionTable := #[], attributes := #[] }
def k1m1 : Method := { name := "law", desc := "(I)Z", sig := { parameters := [.int], returnType := some .boolean }, accessFlags := 9, code := some k1c1 }
def k1c2 : Code := { maxStack := 2, maxLocals := 1, code := method_3_code, exceptionTable := #[], attributes := #[] }
def k1m2 : Method := { name := "agrees", desc := "(I)Z", sig := { parameters := [.int], returnType := some .boolean }, accessFlags := 10, code := some k1c2 }
def k1c3 : Code := { maxStack := 4, maxLocals := 5, code := method_4_code, exceptionTable := #[], attributes := #[] }
def k1m3 : Method := { name := "reference", desc := "(I)Z", sig := { parameters := [.int], returnType := some .boolean }, accessFlags := 10, code := some k1c3 }
/-- com/example/strict_ledger/strictledger/model/AsciiIsHexDigitPinLaw -/
def k1 : Class := { plain "com/example/strict_ledger/strictledger/model/AsciiIsHexDigitPinLaw" (some 0) with
  accessFlags := 49
  interfaces := #[]
  cf := some (fileOf pool1 8 #[] #[{ accessFlags := 2, nameIndex := 5, descriptorIndex := 6, attributes := #[] }, { accessFlags := 9, nameIndex := 31, descriptorIndex := 12, attributes := #[] }, { accessFlags := 10, nameIndex := 11, descriptorIndex := 12, attributes := #[] }, { accessFlags := 10, nameIndex := 20, descriptorIndex := 12, attributes := #[] }] 49 2 #[] #[])
  fields := #[]
  methods := #[k1m0, k1m1, k1m2, k1m3]
  instanceTypes := #[]
  staticTypes := #[]
  resolved := Array.replicate 35 none
  statics := none }

def pool2 : Array CpInfo := pool [(2, .class_ 4), (1, u "java/lang/Object"), (0, u "<init>"), (0, u "()V"), (0, .methodref 8 9), (0, .class_ 10), (0, .nameAndType 11 12), (0, u "com/example/strict_ledger/strictledger/model/Ascii"), (0, u "isDigit"), (0, u "(I)Z"), (15, u "isHexDigit")] 8

def k2m0 : Method := { name := "<init>", desc := "()V", sig := { parameters := [], returnType := none }, accessFlags := 2, code := none }
def k2c1 : Code := { maxStack := 2, maxLocals := 1, code := prog_1_method_2_code, exceptionTable := #[], attributes := #[] }
def k2m1 : Method := { name := "isDigit", desc := "(I)Z", sig := { parameters := [.int], returnType := some .boolean }, accessFlags := 8, code := some k2c1 }
def k2c2 : Code := { maxStack := 2, maxLocals := 1, code := prog_1_method_4_code, exceptionTable := #[], attributes := #[] }
def k2m2 : Method := { name := "isHexDigit", desc := "(I)Z", sig := { parameters := [.int], returnType := some .boolean }, accessFlags := 8, code := some k2c2 }
/-- com/example/strict_ledger/strictledger/model/Ascii -/
def k2 : Class := { plain "com/example/strict_ledger/strictledger/model/Ascii" (some 0) with
  accessFlags := 48
  interfaces := #[]
  cf := some (fileOf pool2 8 #[] #[{ accessFlags := 2, nameIndex := 5, descriptorIndex := 6, attributes := #[] }, { accessFlags := 8, nameIndex := 11, descriptorIndex := 12, attributes := #[] }, { accessFlags := 8, nameIndex := 28, descriptorIndex := 12, attributes := #[] }] 48 2 #[] #[])
  fields := #[]
  methods := #[k2m0, k2m1, k2m2]
  instanceTypes := #[]
  staticTypes := #[]
  resolved := Array.replicate 37 none
  statics := none }

def pool3 : Array CpInfo := pool [(1, u "java/lang/Cloneable"), (0, .class_ 1), (0, u "java/lang/Object"), (0, .class_ 3)] 3

/-- java/lang/Cloneable -/
def k3 : Class := { plain "java/lang/Cloneable" (some 0) with
  accessFlags := 1537
  interfaces := #[]
  cf := some (fileOf pool3 2 #[] #[] 1537 4 #[] #[])
  fields := #[]
  methods := #[]
  instanceTypes := #[]
  staticTypes := #[]
  resolved := Array.replicate 8 none
  statics := none }

def pool4 : Array CpInfo := pool [(1, u "java/io/Serializable"), (0, .class_ 1), (0, u "java/lang/Object"), (0, .class_ 3)] 3

/-- java/io/Serializable -/
def k4 : Class := { plain "java/io/Serializable" (some 0) with
  accessFlags := 1537
  interfaces := #[]
  cf := some (fileOf pool4 2 #[] #[] 1537 4 #[] #[])
  fields := #[]
  methods := #[]
  instanceTypes := #[]
  staticTypes := #[]
  resolved := Array.replicate 8 none
  statics := none }

/-- the primitive byte -/
def k5 : Class := { plain "byte" none with kind := .primitive 'B', accessFlags := 0x411 }
/-- [B -/
def k6 : Class := { plain "[B" (some 0) with kind := .array 5 .byte, interfaces := #[3, 4], accessFlags := 1041 }

/-- the primitive int -/
def k7 : Class := { plain "int" none with kind := .primitive 'I', accessFlags := 0x411 }
/-- [I -/
def k8 : Class := { plain "[I" (some 0) with kind := .array 7 .int, interfaces := #[3, 4], accessFlags := 1041 }

def heap : Heap := #[]
def classes : Array Class := #[k0, k1, k2, k3, k4, k5, k6, k7, k8]
def interned : List (Array UInt16 × Addr) := []
def slotsUsed : Nat := 0
def theMethod : MethodId := ⟨1, 1⟩
def args0 : Array Value := #[.int 5]
def aboutOver (below : List Frame) : State where
  vm := { classes := classes, interned := interned.toArray }
  heap := heap
  slotsUsed := slotsUsed
  threads := #[{ frames := .invoking theMethod args0 :: below }]
def below0 : List Frame := [.native { method := ⟨0, 0⟩, args := #[] }]
def about1 : State := aboutOver below0
def p0 : Program := .bare "" "" ""
def e0 : Env := launch0.env 0 0 0
theorem w_frames : about1.frames = Frame.invoking theMethod args0 :: below0 := rfl
set_option maxRecDepth 65536 in
theorem w_args : argsFit about1.vm theMethod args0 = true := by decide +kernel
set_option maxRecDepth 65536 in
theorem w_heap : heapFits about1 = true := by decide +kernel
set_option maxRecDepth 65536 in
theorem w_runnable : about1.curStatus? = some .runnable := by decide +kernel
set_option maxRecDepth 65536 in
theorem w_alone : about1.alone = true := by decide +kernel
set_option maxRecDepth 65536 in
theorem w_named : about1.methodNamed? x = some theMethod := by decide +kernel
set_option maxRecDepth 65536 in
theorem w_hears : about1.hears theMethod below0 = true := by decide +kernel
set_option maxRecDepth 65536 in
theorem w_ripe : about1.ripe theMethod args0 below0 = true := by decide +kernel
theorem w_running : about1.status = .running := rfl
set_option maxRecDepth 65536 in
theorem w_room : about1.hasRoom e0.platform room_1 = true :=
  launch0.hasRoom_least _ room_1 (by decide +kernel) (by decide +kernel) (by decide +kernel) (by decide +kernel) (by decide +kernel) (by decide +kernel)
theorem allAtoms_all (ts : List Jvm.Cond) (a : Array Jvm.Value) (st : Jvm.State) : (allAtoms ts).before a st = ts.all (fun c => c.before a st) := by
  induction ts with
  | nil => rfl
  | cons c t ih =>
    show (Jvm.Cond.and c (allAtoms t)).before a st = _
    rw [Jvm.Cond.before_and, ih, List.all_cons]
def words1 : List Jvm.Cond := Jvm.Cond.code x code maxLocals ret :: tables_1
/-- a 'code' word, met by the world's own term for the bytes: nothing is compared byte by byte -/
theorem code_word {y : MethodName} {bytes : ByteArray} {mx : Nat} {rt : Option FieldType} {a : Array Value} {s : State} {m : MethodId} {meth : Method} {c : Code} (h1 : s.methodNamed? y = some m) (h2 : s.vm.method? m = some meth) (h3 : meth.code = some c) (h4 : c.code = bytes)
    (h5 : (c.maxLocals == mx && c.exceptionTable.isEmpty && decide (c.maxStack ≤ mostOperands) && decide (meth.sig.returnType = rt) && !meth.locks && decide (parseMethodDescriptor y.desc = some meth.sig)) = true) : (Jvm.Cond.code y bytes mx rt).before a s = true := by
  simp only [Bool.and_eq_true, beq_iff_eq, Bool.not_eq_true', decide_eq_true_eq] at h5
  obtain ⟨⟨⟨⟨⟨g1, g2⟩, g3⟩, g4⟩, g5⟩, g6⟩ := h5
  simp [Cond.before, Cond.holds, Cond.value, h1, h2, h3, h4, g1, g2, g3, g4, g5, g6]
def isCode : Jvm.Cond → Bool
  | .code _ _ _ _ => true
  | _ => false
theorem all_split {L : List Jvm.Cond} {P : Jvm.Cond → Bool} (h1 : L.all (fun c => isCode c || P c) = true) (h2 : ∀ c ∈ L.filter isCode, P c = true) : L.all P = true := by
  refine List.all_eq_true.mpr fun c hc => ?_
  have h := List.all_eq_true.mp h1 c hc
  rcases Bool.eq_false_or_eq_true (isCode c) with hi | hi
  · exact h2 c (List.mem_filter.mpr ⟨hc, hi⟩)
  · simpa [hi] using h
set_option maxRecDepth 65536 in
theorem w_c0 : (Jvm.Cond.code x code maxLocals ret).before args0 about1 = true := code_word (m := ⟨1, 1⟩) (meth := k1m1) (c := k1c1) (by decide +kernel) rfl rfl rfl (by decide +kernel)
set_option maxRecDepth 65536 in
theorem w_c1 : (Jvm.Cond.code ({ cls := "com/example/strict_ledger/strictledger/model/AsciiIsHexDigitPinLaw", name := "agrees", desc := "(I)Z" } : Jvm.MethodName) method_3_code (1 : Nat) (Option.some Jvm.ClassFile.FieldType.boolean)).before args0 about1 = true := code_word (m := ⟨1, 2⟩) (meth := k1m2) (c := k1c2) (by decide +kernel) rfl rfl rfl (by decide +kernel)
set_option maxRecDepth 65536 in
theorem w_c2 : (Jvm.Cond.code ({ cls := "com/example/strict_ledger/strictledger/model/Ascii", name := "isHexDigit", desc := "(I)Z" } : Jvm.MethodName) prog_1_method_4_code (1 : Nat) (Option.some Jvm.ClassFile.FieldType.boolean)).before args0 about1 = true := code_word (m := ⟨2, 2⟩) (meth := k2m2) (c := k2c2) (by decide +kernel) rfl rfl rfl (by decide +kernel)
set_option maxRecDepth 65536 in
theorem w_c3 : (Jvm.Cond.code ({ cls := "com/example/strict_ledger/strictledger/model/Ascii", name := "isDigit", desc := "(I)Z" } : Jvm.MethodName) prog_1_method_2_code (1 : Nat) (Option.some Jvm.ClassFile.FieldType.boolean)).before args0 about1 = true := code_word (m := ⟨2, 1⟩) (meth := k2m1) (c := k2c1) (by decide +kernel) rfl rfl rfl (by decide +kernel)
set_option maxRecDepth 65536 in
theorem w_c4 : (Jvm.Cond.code ({ cls := "com/example/strict_ledger/strictledger/model/AsciiIsHexDigitPinLaw", name := "reference", desc := "(I)Z" } : Jvm.MethodName) method_4_code (5 : Nat) (Option.some Jvm.ClassFile.FieldType.boolean)).before args0 about1 = true := code_word (m := ⟨1, 3⟩) (meth := k1m3) (c := k1c3) (by decide +kernel) rfl rfl rfl (by decide +kernel)
def codes1 : List Jvm.Cond := [Jvm.Cond.code x code maxLocals ret, Jvm.Cond.code ({ cls := "com/example/strict_ledger/strictledger/model/AsciiIsHexDigitPinLaw", name := "agrees", desc := "(I)Z" } : Jvm.MethodName) method_3_code (1 : Nat) (Option.some Jvm.ClassFile.FieldType.boolean), Jvm.Cond.code ({ cls := "com/example/strict_ledger/strictledger/model/Ascii", name := "isHexDigit", desc := "(I)Z" } : Jvm.MethodName) prog_1_method_4_code (1 : Nat) (Option.some Jvm.ClassFile.FieldType.boolean), Jvm.Cond.code ({ cls := "com/example/strict_ledger/strictledger/model/Ascii", name := "isDigit", desc := "(I)Z" } : Jvm.MethodName) prog_1_method_2_code (1 : Nat) (Option.some Jvm.ClassFile.FieldType.boolean), Jvm.Cond.code ({ cls := "com/example/strict_ledger/strictledger/model/AsciiIsHexDigitPinLaw", name := "reference", desc := "(I)Z" } : Jvm.MethodName) method_4_code (5 : Nat) (Option.some Jvm.ClassFile.FieldType.boolean)]
set_option maxRecDepth 65536 in
theorem codes_eq : words1.filter isCode = codes1 := rfl
theorem w_codes : ∀ c ∈ words1.filter isCode, c.before args0 about1 = true := by
  rw [codes_eq]
  intro c hc
  simp only [codes1, List.mem_cons, List.not_mem_nil, or_false] at hc
  rcases hc with rfl | rfl | rfl | rfl | rfl
  · exact w_c0
  · exact w_c1
  · exact w_c2
  · exact w_c3
  · exact w_c4
set_option maxRecDepth 65536 in
theorem w_t1 : words1.all (fun c => isCode c || c.before args0 about1) = true := by decide +kernel
theorem w_tables : (allAtoms (Jvm.Cond.code x code maxLocals ret :: tables_1)).before args0 about1 = true := by
  rw [allAtoms_all]
  show words1.all (fun c => c.before args0 about1) = true
  refine all_split ?_ w_codes
  rw [w_t1]
set_option maxRecDepth 65536 in
theorem w_case : (Jvm.Cond.and given_1 narrow_1).before args0 about1 = true := by decide +kernel
theorem w_applies : (headSpec (Jvm.Cond.code x code maxLocals ret :: tables_1) room_1).applies x e0.platform about1 = true :=
  (Spec.applies_iff w_frames).mpr ⟨w_running, w_runnable, w_alone, w_named, w_hears, w_ripe, w_room, w_tables⟩
theorem atStart : AtStart classFile x code maxLocals ret World_1 tables_1 room_1 Calls_1 rest_1 Pre_1 launch0 p0 e0 about1 theMethod args0 below0 :=
  ⟨lists_1, trivial, launch0.admits_env _ _ _, launch0.least_env, fairChoices_fair.cas, fairChoices_fair.clock, w_frames, w_args, w_heap, w_applies, trivial, trivial, w_case⟩
end start1
theorem witness_1 : WitnessClaimed_1 := ⟨start1.p0, start1.e0, start1.about1, start1.theMethod, start1.args0, start1.below0, start1.atStart⟩
end Jvm.Pilot.@@N@@
