import JvmDerived
import JvmDerived.Pilot.@@N@@Statement
import JvmDerived.Pilot.@@N@@Code
set_option linter.unusedVariables false
set_option linter.unusedSimpArgs false
namespace Jvm.RoadKit
open Sem ClassFile Op Lib Jvm.Stand Jvm.Free Jvm.LawKit
section New
variable {p : Program} {l : Launch} {e : Env} {R : Room} {s : State} {m : MethodId} {args : Array Value} {below : List Frame} {meth : Method} {c : Code} {T : State} {locs : List Loc} {cells slots : Nat}
theorem retI (X : Stand p l e R s m args below meth c T locs cells slots) (hx : p.tables.exec = Jvm.exec) {pc : Nat} {Ls : Array Slot} {z : Int32} {rest : List Value} (hret : meth.sig.returnType = some .int) (hd : decode c.code pc = .ok (.ireturn, 1)) {fs : List Frame}
    (hl : ∀ (f : JFrame) (acts : List Action), f.method = m → f.locked = none → f.entered = [] → (doReturn e (T.setTop f) acts (some (.int z))).1 = T.setFrames fs) : Steps p.tables e below (T.setTop (mkF m pc Ls (.int z :: rest))) (T.setFrames fs) :=
  retOut X hx hret rfl (Or.inl ⟨rfl, Or.inl rfl, _, rfl⟩) hd hl
def Elt (Z : State) (h : Heap) (a : Addr) (ty : FieldType) (j : Int32) (v : Value) : Prop := ∃ cl : Cell, Arr Z h a cl ty ∧ ¬ (j < 0 ∨ cl.slots.size ≤ j.toNatClampNeg) ∧ cl.slots[j.toNatClampNeg]? = some v
theorem Elt.of {Z : State} {h : Heap} {a : Addr} {k : ClassId} {ty : FieldType} {n j : Int32} {vs : List Value} {d v : Value} (F : Arv Z h a k ty n vs d) (q : ¬ j < 0 ∧ j < n) (u : vs.getD j.toNatClampNeg d = v) : Elt Z h a ty j v := by
  obtain ⟨c, A, _, S, _, H, _⟩ := F
  exact ⟨c, A, inb_of S q, H.at (inb_of S q) u⟩
def Goes (tb : Tables) (e : Env) (below : List Frame) (P : State → Outcome → Prop) (A : State) : Prop := ∃ s₂ o, Steps tb e below A s₂ ∧ P s₂ o
theorem Goes.start {tb : Tables} {e : Env} {below : List Frame} {P : State → Outcome → Prop} {A : State} (h : Goes tb e below P A) : ∃ s₂ o, Steps tb e below A s₂ ∧ P s₂ o := h
theorem Goes.by {tb : Tables} {e : Env} {below : List Frame} {P : State → Outcome → Prop} {A B : State} (h : ∀ t, Steps tb e below B t → Steps tb e below A t) (g : Goes tb e below P B) : Goes tb e below P A := by
  obtain ⟨s₂, o, h1, h2⟩ := g
  exact ⟨s₂, o, h _ h1, h2⟩
theorem Goes.mk {tb : Tables} {e : Env} {below : List Frame} {P : State → Outcome → Prop} {A : State} (s₂ : State) (o : Outcome) (h : Steps tb e below A s₂) (hp : P s₂ o) : Goes tb e below P A := ⟨s₂, o, h, hp⟩
end New
end Jvm.RoadKit
namespace Jvm.Pilot.@@N@@
open Jvm Jvm.ClassFile Sem Op Lib Jvm.Free Jvm.Stand Jvm.LawKit Jvm.RoadKit Bundle Jvm.Pilot.@@N@@.Jvm.D
theorem d1_0 : decode prog_20_method_28_code 0 = .ok (.iload_n 0, 1) := by decide +kernel
theorem d1_1 : decode prog_20_method_28_code 1 = .ok (.bipush 16, 2) := by decide +kernel
theorem d1_3 : decode prog_20_method_28_code 3 = .ok (.iushr, 1) := by decide +kernel
theorem d1_4 : decode prog_20_method_28_code 4 = .ok (.istore_n 1, 1) := by decide +kernel
theorem d1_5 : decode prog_20_method_28_code 5 = .ok (.iload_n 0, 1) := by decide +kernel
theorem d1_6 : decode prog_20_method_28_code 6 = .ok (.ldc 153, 2) := by decide +kernel
theorem d1_8 : decode prog_20_method_28_code 8 = .ok (.iand, 1) := by decide +kernel
theorem d1_9 : decode prog_20_method_28_code 9 = .ok (.ldc 154, 2) := by decide +kernel
theorem d1_11 : decode prog_20_method_28_code 11 = .ok (.if_icmp .ne 25, 3) := by decide +kernel
theorem d1_14 : decode prog_20_method_28_code 14 = .ok (.iload_n 1, 1) := by decide +kernel
theorem d1_15 : decode prog_20_method_28_code 15 = .ok (.ldc 155, 2) := by decide +kernel
theorem d1_17 : decode prog_20_method_28_code 17 = .ok (.if_icmp .lt 19, 3) := by decide +kernel
theorem d1_36 : decode prog_20_method_28_code 36 = .ok (.iconst 0, 1) := by decide +kernel
theorem d1_37 : decode prog_20_method_28_code 37 = .ok (.ireturn, 1) := by decide +kernel
theorem d1_20 : decode prog_20_method_28_code 20 = .ok (.iload_n 1, 1) := by decide +kernel
theorem d1_21 : decode prog_20_method_28_code 21 = .ok (.ldc 156, 2) := by decide +kernel
theorem d1_23 : decode prog_20_method_28_code 23 = .ok (.if_icmp .lt 9, 3) := by decide +kernel
theorem d1_32 : decode prog_20_method_28_code 32 = .ok (.iconst 1, 1) := by decide +kernel
theorem d1_33 : decode prog_20_method_28_code 33 = .ok (.goto 4, 3) := by decide +kernel
theorem d1_26 : decode prog_20_method_28_code 26 = .ok (.iload_n 1, 1) := by decide +kernel
theorem d1_27 : decode prog_20_method_28_code 27 = .ok (.ldc 157, 2) := by decide +kernel
theorem d1_29 : decode prog_20_method_28_code 29 = .ok (.if_icmp .lt 7, 3) := by decide +kernel
def f1 (p0 : Int32) : Int32 := (if (p0 &&& (-255803392 : Int32)) = (-528449536 : Int32) then (if ((p0.toUInt32 >>> ((16 : Int32) &&& 31).toUInt32).toInt32) < (57504 : Int32) then (0 : Int32) else (if ((p0.toUInt32 >>> ((16 : Int32) &&& 31).toUInt32).toInt32) < (60832 : Int32) then (1 : Int32) else (if ((p0.toUInt32 >>> ((16 : Int32) &&& 31).toUInt32).toInt32) < (60928 : Int32) then (0 : Int32) else (1 : Int32)))) else (0 : Int32))
def Q1 (Z : State) (p0 : Int32) (h0 : Heap) (n0 : Nat) (v : Option Value) (h : Heap) (L : List Loc) : Prop := v = some (.int (f1 p0)) ∧ Fr n0 L ∧ h = h0
theorem own_pn_com_example_bare_octets_bareoctets_codec_WellFormedSequences : plainName "com/example/bare_octets/bareoctets/codec/WellFormedSequences" = true := by first | (simp [plainName, overriddenIn]; done) | decide +kernel
theorem ef1 (m : MethodId) (x0 : Int32) : entryFrame m #[(.int x0)] 2 = mkF m 0 #[.val (.int x0), .unset] [] := by first | (simp [entryFrame, mkF, argsToLocals, Value.category]; done) | rfl
set_option maxRecDepth 65536 in
set_option maxHeartbeats 40000000 in
theorem rm1 (l : Launch) (Z : State) (az : Array Value) (hw : ∀ d ∈ tables_1, d.before az Z = true) (ws : List Jvm.Cond) (p0 : Int32) (h0 : Heap) (n0 : Nat) (Z0 : n0 ≤ h0.size) :
    MetFree l (⟨"com/example/bare_octets/bareoctets/codec/WellFormedSequences", "isCommonThreeByteForm", "(I)Z"⟩ : MethodName) (head1 (Jvm.Cond.code (⟨"com/example/bare_octets/bareoctets/codec/WellFormedSequences", "isCommonThreeByteForm", "(I)Z"⟩ : MethodName) prog_20_method_28_code 2 (some .boolean) :: ws) ({ frames := 0, cells := 0, slots := 0, locals := 0 } : Room)) (fun a U => a = #[(.int p0)] ∧ Z.Warmed39 U.vm ∧ U.heap = h0) (fun _ _ _ _ _ => True) (fun _ U o U' => ∃ v L, o = .returned v ∧ Q1 Z p0 h0 n0 v U'.heap L ∧ FrameEnd U o U' L ({ frames := 0, cells := 0, slots := 0, locals := 0 } : Room).cells ({ frames := 0, cells := 0, slots := 0, locals := 0 } : Room).slots) := by
  refine MetFree.of_bodySF (plainFor_of_name own_pn_com_example_bare_octets_bareoctets_codec_WellFormedSequences) hisR ?_
  intro p e s m args below meth c s₁ Bd hml0 hP hK
  obtain ⟨rfl, hZ, hh⟩ := hP
  have hx := Bd.exec
  have hby := Bd.bytes
  have hml : c.maxLocals = 2 := hml0
  have hown : s.vm.findClass "com/example/bare_octets/bareoctets/codec/WellFormedSequences" = some m.cls := findClass_of_methodNamed Bd.named
  have hnm := (name_of_methodNamed Bd.named Bd.method).1
  have X0 : Stand p l e ({ frames := 0, cells := 0, slots := 0, locals := 0 } : Room) s m #[(.int p0)] below meth c s₁ [] 0 0 := Stand.of_body Bd
  have e0 : s₁.heap = h0 := by rw [← hh, Bd.state]; rfl
  have N0 := Fr.nil n0
  have Kp0 : Keep h0 h0 [] := Keep.refl _ _
  refine Goes.start ?_
  refine Goes.by (B := s₁.setTop (mkF m 0 #[.val (.int p0), .unset] [])) (fun t k => castTop (ef1 m p0) k) ?_
  refine Goes.by (B := s₁.setTop (mkF m 11 #[.val (.int p0), .val (.int ((p0.toUInt32 >>> ((16 : Int32) &&& 31).toUInt32).toInt32))] [(.int (-528449536 : Int32)), (.int (p0 &&& (-255803392 : Int32)))])) (fun t k => ?_) ?_
  · show Steps p.tables e below (s₁.setTop (mkF m 0 #[.val (.int p0), .unset] [])) t
    refine XS.iloadN X0.here hx rfl (hb hby d1_0) rfl ?_
    show Steps p.tables e below (s₁.setTop (mkF m 1 #[.val (.int p0), .unset] [(.int p0)])) t
    refine XS.bipush X0.here hx rfl (hb hby d1_1) ?_
    show Steps p.tables e below (s₁.setTop (mkF m 3 #[.val (.int p0), .unset] [(.int (16 : Int32)), (.int p0)])) t
    refine XS.iushr X0.here hx rfl (hb hby d1_3) rfl ?_
    show Steps p.tables e below (s₁.setTop (mkF m 4 #[.val (.int p0), .unset] [(.int ((p0.toUInt32 >>> ((16 : Int32) &&& 31).toUInt32).toInt32))])) t
    refine XS.istoreN X0.here hx rfl (hb hby d1_4) rfl (l' := #[.val (.int p0), .val (.int ((p0.toUInt32 >>> ((16 : Int32) &&& 31).toUInt32).toInt32))]) rfl ?_
    show Steps p.tables e below (s₁.setTop (mkF m 5 #[.val (.int p0), .val (.int ((p0.toUInt32 >>> ((16 : Int32) &&& 31).toUInt32).toInt32))] [])) t
    refine XS.iloadN X0.here hx rfl (hb hby d1_5) rfl ?_
    show Steps p.tables e below (s₁.setTop (mkF m 6 #[.val (.int p0), .val (.int ((p0.toUInt32 >>> ((16 : Int32) &&& 31).toUInt32).toInt32))] [(.int p0)])) t
    refine X0.ldcInt hx hown (mvT hZ (hw _ (List.mem_of_getElem? (i := 4) rfl))) (g := (mkF m 6 #[.val (.int p0), .val (.int ((p0.toUInt32 >>> ((16 : Int32) &&& 31).toUInt32).toInt32))] [(.int p0)])) rfl (hb hby d1_6) _ ?_
    show Steps p.tables e below (s₁.setTop (mkF m 8 #[.val (.int p0), .val (.int ((p0.toUInt32 >>> ((16 : Int32) &&& 31).toUInt32).toInt32))] [(.int (-255803392 : Int32)), (.int p0)])) t
    refine XS.iand X0.here hx rfl (hb hby d1_8) rfl ?_
    show Steps p.tables e below (s₁.setTop (mkF m 9 #[.val (.int p0), .val (.int ((p0.toUInt32 >>> ((16 : Int32) &&& 31).toUInt32).toInt32))] [(.int (p0 &&& (-255803392 : Int32)))])) t
    refine X0.ldcInt hx hown (mvT hZ (hw _ (List.mem_of_getElem? (i := 5) rfl))) (g := (mkF m 9 #[.val (.int p0), .val (.int ((p0.toUInt32 >>> ((16 : Int32) &&& 31).toUInt32).toInt32))] [(.int (p0 &&& (-255803392 : Int32)))])) rfl (hb hby d1_9) _ ?_
    exact k
  by_cases hc1 : (p0 &&& (-255803392 : Int32)) = (-528449536 : Int32)
  · refine Goes.by (B := s₁.setTop (mkF m 17 #[.val (.int p0), .val (.int ((p0.toUInt32 >>> ((16 : Int32) &&& 31).toUInt32).toInt32))] [(.int (57504 : Int32)), (.int ((p0.toUInt32 >>> ((16 : Int32) &&& 31).toUInt32).toInt32))])) (fun t k => ?_) ?_
    · show Steps p.tables e below (s₁.setTop (mkF m 11 #[.val (.int p0), .val (.int ((p0.toUInt32 >>> ((16 : Int32) &&& 31).toUInt32).toInt32))] [(.int (-528449536 : Int32)), (.int (p0 &&& (-255803392 : Int32)))])) t
      refine XS.icmpNo X0.here hx rfl (hb hby d1_11) rfl (teq hc1).2 ?_
      show Steps p.tables e below (s₁.setTop (mkF m 14 #[.val (.int p0), .val (.int ((p0.toUInt32 >>> ((16 : Int32) &&& 31).toUInt32).toInt32))] [])) t
      refine XS.iloadN X0.here hx rfl (hb hby d1_14) rfl ?_
      show Steps p.tables e below (s₁.setTop (mkF m 15 #[.val (.int p0), .val (.int ((p0.toUInt32 >>> ((16 : Int32) &&& 31).toUInt32).toInt32))] [(.int ((p0.toUInt32 >>> ((16 : Int32) &&& 31).toUInt32).toInt32))])) t
      refine X0.ldcInt hx hown (mvT hZ (hw _ (List.mem_of_getElem? (i := 13) rfl))) (g := (mkF m 15 #[.val (.int p0), .val (.int ((p0.toUInt32 >>> ((16 : Int32) &&& 31).toUInt32).toInt32))] [(.int ((p0.toUInt32 >>> ((16 : Int32) &&& 31).toUInt32).toInt32))])) rfl (hb hby d1_15) _ ?_
      exact k
    by_cases hc2 : ((p0.toUInt32 >>> ((16 : Int32) &&& 31).toUInt32).toInt32) < (57504 : Int32)
    · refine Goes.by (B := s₁.setTop (mkF m 37 #[.val (.int p0), .val (.int ((p0.toUInt32 >>> ((16 : Int32) &&& 31).toUInt32).toInt32))] [(.int (0 : Int32))])) (fun t k => ?_) ?_
      · show Steps p.tables e below (s₁.setTop (mkF m 17 #[.val (.int p0), .val (.int ((p0.toUInt32 >>> ((16 : Int32) &&& 31).toUInt32).toInt32))] [(.int (57504 : Int32)), (.int ((p0.toUInt32 >>> ((16 : Int32) &&& 31).toUInt32).toInt32))])) t
        refine XS.icmpYes X0.here hx rfl (pc0 := 17) (pc' := 36) rfl (hb hby d1_17) rfl (tlt hc2).1 (by decide) (by decide) ?_
        show Steps p.tables e below (s₁.setTop (mkF m 36 #[.val (.int p0), .val (.int ((p0.toUInt32 >>> ((16 : Int32) &&& 31).toUInt32).toInt32))] [])) t
        refine XS.iconst X0.here hx rfl (hb hby d1_36) ?_
        exact k
      obtain ⟨fs, hr, hrun, hended, hW, hsame⟩ := X0.leave (v := some (.int (0 : Int32))) (fun h => by rw [Bd.returns] at h; cases h)
      refine Goes.mk _ _ ?_ ⟨hrun, hended, _, _, rfl, ?_, ⟨_, rfl⟩, hW, hsame.mono (by decide) (by decide)⟩
      · exact retN X0 hx (t := .boolean) Bd.returns (by simp) (hb hby d1_37) hr
      · show Q1 Z p0 h0 n0 _ s₁.heap _
        rw [e0]
        exact ⟨(by simp only [f1, if_pos hc1, if_pos hc2]), N0, rfl⟩
    · refine Goes.by (B := s₁.setTop (mkF m 23 #[.val (.int p0), .val (.int ((p0.toUInt32 >>> ((16 : Int32) &&& 31).toUInt32).toInt32))] [(.int (60832 : Int32)), (.int ((p0.toUInt32 >>> ((16 : Int32) &&& 31).toUInt32).toInt32))])) (fun t k => ?_) ?_
      · show Steps p.tables e below (s₁.setTop (mkF m 17 #[.val (.int p0), .val (.int ((p0.toUInt32 >>> ((16 : Int32) &&& 31).toUInt32).toInt32))] [(.int (57504 : Int32)), (.int ((p0.toUInt32 >>> ((16 : Int32) &&& 31).toUInt32).toInt32))])) t
        refine XS.icmpNo X0.here hx rfl (hb hby d1_17) rfl (flt hc2).1 ?_
        show Steps p.tables e below (s₁.setTop (mkF m 20 #[.val (.int p0), .val (.int ((p0.toUInt32 >>> ((16 : Int32) &&& 31).toUInt32).toInt32))] [])) t
        refine XS.iloadN X0.here hx rfl (hb hby d1_20) rfl ?_
        show Steps p.tables e below (s₁.setTop (mkF m 21 #[.val (.int p0), .val (.int ((p0.toUInt32 >>> ((16 : Int32) &&& 31).toUInt32).toInt32))] [(.int ((p0.toUInt32 >>> ((16 : Int32) &&& 31).toUInt32).toInt32))])) t
        refine X0.ldcInt hx hown (mvT hZ (hw _ (List.mem_of_getElem? (i := 14) rfl))) (g := (mkF m 21 #[.val (.int p0), .val (.int ((p0.toUInt32 >>> ((16 : Int32) &&& 31).toUInt32).toInt32))] [(.int ((p0.toUInt32 >>> ((16 : Int32) &&& 31).toUInt32).toInt32))])) rfl (hb hby d1_21) _ ?_
        exact k
      by_cases hc3 : ((p0.toUInt32 >>> ((16 : Int32) &&& 31).toUInt32).toInt32) < (60832 : Int32)
      · refine Goes.by (B := s₁.setTop (mkF m 37 #[.val (.int p0), .val (.int ((p0.toUInt32 >>> ((16 : Int32) &&& 31).toUInt32).toInt32))] [(.int (1 : Int32))])) (fun t k => ?_) ?_
        · show Steps p.tables e below (s₁.setTop (mkF m 23 #[.val (.int p0), .val (.int ((p0.toUInt32 >>> ((16 : Int32) &&& 31).toUInt32).toInt32))] [(.int (60832 : Int32)), (.int ((p0.toUInt32 >>> ((16 : Int32) &&& 31).toUInt32).toInt32))])) t
          refine XS.icmpYes X0.here hx rfl (pc0 := 23) (pc' := 32) rfl (hb hby d1_23) rfl (tlt hc3).1 (by decide) (by decide) ?_
          show Steps p.tables e below (s₁.setTop (mkF m 32 #[.val (.int p0), .val (.int ((p0.toUInt32 >>> ((16 : Int32) &&& 31).toUInt32).toInt32))] [])) t
          refine XS.iconst X0.here hx rfl (hb hby d1_32) ?_
          show Steps p.tables e below (s₁.setTop (mkF m 33 #[.val (.int p0), .val (.int ((p0.toUInt32 >>> ((16 : Int32) &&& 31).toUInt32).toInt32))] [(.int (1 : Int32))])) t
          refine XS.goto X0.here hx rfl (pc0 := 33) (pc' := 37) rfl (hb hby d1_33) (by decide) (by decide) ?_
          exact k
        obtain ⟨fs, hr, hrun, hended, hW, hsame⟩ := X0.leave (v := some (.int (1 : Int32))) (fun h => by rw [Bd.returns] at h; cases h)
        refine Goes.mk _ _ ?_ ⟨hrun, hended, _, _, rfl, ?_, ⟨_, rfl⟩, hW, hsame.mono (by decide) (by decide)⟩
        · exact retN X0 hx (t := .boolean) Bd.returns (by simp) (hb hby d1_37) hr
        · show Q1 Z p0 h0 n0 _ s₁.heap _
          rw [e0]
          exact ⟨(by simp only [f1, if_pos hc1, if_neg hc2, if_pos hc3]), N0, rfl⟩
      · refine Goes.by (B := s₁.setTop (mkF m 29 #[.val (.int p0), .val (.int ((p0.toUInt32 >>> ((16 : Int32) &&& 31).toUInt32).toInt32))] [(.int (60928 : Int32)), (.int ((p0.toUInt32 >>> ((16 : Int32) &&& 31).toUInt32).toInt32))])) (fun t k => ?_) ?_
        · show Steps p.tables e below (s₁.setTop (mkF m 23 #[.val (.int p0), .val (.int ((p0.toUInt32 >>> ((16 : Int32) &&& 31).toUInt32).toInt32))] [(.int (60832 : Int32)), (.int ((p0.toUInt32 >>> ((16 : Int32) &&& 31).toUInt32).toInt32))])) t
          refine XS.icmpNo X0.here hx rfl (hb hby d1_23) rfl (flt hc3).1 ?_
          show Steps p.tables e below (s₁.setTop (mkF m 26 #[.val (.int p0), .val (.int ((p0.toUInt32 >>> ((16 : Int32) &&& 31).toUInt32).toInt32))] [])) t
          refine XS.iloadN X0.here hx rfl (hb hby d1_26) rfl ?_
          show Steps p.tables e below (s₁.setTop (mkF m 27 #[.val (.int p0), .val (.int ((p0.toUInt32 >>> ((16 : Int32) &&& 31).toUInt32).toInt32))] [(.int ((p0.toUInt32 >>> ((16 : Int32) &&& 31).toUInt32).toInt32))])) t
          refine X0.ldcInt hx hown (mvT hZ (hw _ (List.mem_of_getElem? (i := 15) rfl))) (g := (mkF m 27 #[.val (.int p0), .val (.int ((p0.toUInt32 >>> ((16 : Int32) &&& 31).toUInt32).toInt32))] [(.int ((p0.toUInt32 >>> ((16 : Int32) &&& 31).toUInt32).toInt32))])) rfl (hb hby d1_27) _ ?_
          exact k
        by_cases hc4 : ((p0.toUInt32 >>> ((16 : Int32) &&& 31).toUInt32).toInt32) < (60928 : Int32)
        · refine Goes.by (B := s₁.setTop (mkF m 37 #[.val (.int p0), .val (.int ((p0.toUInt32 >>> ((16 : Int32) &&& 31).toUInt32).toInt32))] [(.int (0 : Int32))])) (fun t k => ?_) ?_
          · show Steps p.tables e below (s₁.setTop (mkF m 29 #[.val (.int p0), .val (.int ((p0.toUInt32 >>> ((16 : Int32) &&& 31).toUInt32).toInt32))] [(.int (60928 : Int32)), (.int ((p0.toUInt32 >>> ((16 : Int32) &&& 31).toUInt32).toInt32))])) t
            refine XS.icmpYes X0.here hx rfl (pc0 := 29) (pc' := 36) rfl (hb hby d1_29) rfl (tlt hc4).1 (by decide) (by decide) ?_
            show Steps p.tables e below (s₁.setTop (mkF m 36 #[.val (.int p0), .val (.int ((p0.toUInt32 >>> ((16 : Int32) &&& 31).toUInt32).toInt32))] [])) t
            refine XS.iconst X0.here hx rfl (hb hby d1_36) ?_
            exact k
          obtain ⟨fs, hr, hrun, hended, hW, hsame⟩ := X0.leave (v := some (.int (0 : Int32))) (fun h => by rw [Bd.returns] at h; cases h)
          refine Goes.mk _ _ ?_ ⟨hrun, hended, _, _, rfl, ?_, ⟨_, rfl⟩, hW, hsame.mono (by decide) (by decide)⟩
          · exact retN X0 hx (t := .boolean) Bd.returns (by simp) (hb hby d1_37) hr
          · show Q1 Z p0 h0 n0 _ s₁.heap _
            rw [e0]
            exact ⟨(by simp only [f1, if_pos hc1, if_neg hc2, if_neg hc3, if_pos hc4]), N0, rfl⟩
        · refine Goes.by (B := s₁.setTop (mkF m 37 #[.val (.int p0), .val (.int ((p0.toUInt32 >>> ((16 : Int32) &&& 31).toUInt32).toInt32))] [(.int (1 : Int32))])) (fun t k => ?_) ?_
          · show Steps p.tables e below (s₁.setTop (mkF m 29 #[.val (.int p0), .val (.int ((p0.toUInt32 >>> ((16 : Int32) &&& 31).toUInt32).toInt32))] [(.int (60928 : Int32)), (.int ((p0.toUInt32 >>> ((16 : Int32) &&& 31).toUInt32).toInt32))])) t
            refine XS.icmpNo X0.here hx rfl (hb hby d1_29) rfl (flt hc4).1 ?_
            show Steps p.tables e below (s₁.setTop (mkF m 32 #[.val (.int p0), .val (.int ((p0.toUInt32 >>> ((16 : Int32) &&& 31).toUInt32).toInt32))] [])) t
            refine XS.iconst X0.here hx rfl (hb hby d1_32) ?_
            show Steps p.tables e below (s₁.setTop (mkF m 33 #[.val (.int p0), .val (.int ((p0.toUInt32 >>> ((16 : Int32) &&& 31).toUInt32).toInt32))] [(.int (1 : Int32))])) t
            refine XS.goto X0.here hx rfl (pc0 := 33) (pc' := 37) rfl (hb hby d1_33) (by decide) (by decide) ?_
            exact k
          obtain ⟨fs, hr, hrun, hended, hW, hsame⟩ := X0.leave (v := some (.int (1 : Int32))) (fun h => by rw [Bd.returns] at h; cases h)
          refine Goes.mk _ _ ?_ ⟨hrun, hended, _, _, rfl, ?_, ⟨_, rfl⟩, hW, hsame.mono (by decide) (by decide)⟩
          · exact retN X0 hx (t := .boolean) Bd.returns (by simp) (hb hby d1_37) hr
          · show Q1 Z p0 h0 n0 _ s₁.heap _
            rw [e0]
            exact ⟨(by simp only [f1, if_pos hc1, if_neg hc2, if_neg hc3, if_neg hc4]), N0, rfl⟩
  · refine Goes.by (B := s₁.setTop (mkF m 37 #[.val (.int p0), .val (.int ((p0.toUInt32 >>> ((16 : Int32) &&& 31).toUInt32).toInt32))] [(.int (0 : Int32))])) (fun t k => ?_) ?_
    · show Steps p.tables e below (s₁.setTop (mkF m 11 #[.val (.int p0), .val (.int ((p0.toUInt32 >>> ((16 : Int32) &&& 31).toUInt32).toInt32))] [(.int (-528449536 : Int32)), (.int (p0 &&& (-255803392 : Int32)))])) t
      refine XS.icmpYes X0.here hx rfl (pc0 := 11) (pc' := 36) rfl (hb hby d1_11) rfl (feq hc1).2 (by decide) (by decide) ?_
      show Steps p.tables e below (s₁.setTop (mkF m 36 #[.val (.int p0), .val (.int ((p0.toUInt32 >>> ((16 : Int32) &&& 31).toUInt32).toInt32))] [])) t
      refine XS.iconst X0.here hx rfl (hb hby d1_36) ?_
      exact k
    obtain ⟨fs, hr, hrun, hended, hW, hsame⟩ := X0.leave (v := some (.int (0 : Int32))) (fun h => by rw [Bd.returns] at h; cases h)
    refine Goes.mk _ _ ?_ ⟨hrun, hended, _, _, rfl, ?_, ⟨_, rfl⟩, hW, hsame.mono (by decide) (by decide)⟩
    · exact retN X0 hx (t := .boolean) Bd.returns (by simp) (hb hby d1_37) hr
    · show Q1 Z p0 h0 n0 _ s₁.heap _
      rw [e0]
      exact ⟨(by simp only [f1, if_neg hc1]), N0, rfl⟩
theorem d3_0 : decode method_3_code 0 = .ok (.iload_n 0, 1) := by decide +kernel
theorem d3_1 : decode method_3_code 1 = .ok (.iload_n 1, 1) := by decide +kernel
theorem d3_2 : decode method_3_code 2 = .ok (.if_icmp .lt 12, 3) := by decide +kernel
theorem d3_14 : decode method_3_code 14 = .ok (.iconst 0, 1) := by decide +kernel
theorem d3_15 : decode method_3_code 15 = .ok (.ireturn, 1) := by decide +kernel
theorem d3_5 : decode method_3_code 5 = .ok (.iload_n 0, 1) := by decide +kernel
theorem d3_6 : decode method_3_code 6 = .ok (.iload_n 2, 1) := by decide +kernel
theorem d3_7 : decode method_3_code 7 = .ok (.if_icmp .gt 7, 3) := by decide +kernel
theorem d3_10 : decode method_3_code 10 = .ok (.iconst 1, 1) := by decide +kernel
theorem d3_11 : decode method_3_code 11 = .ok (.goto 4, 3) := by decide +kernel
def f3 (p0 : Int32) (p1 : Int32) (p2 : Int32) : Int32 := (if p0 < p1 then (0 : Int32) else (if p2 < p0 then (0 : Int32) else (1 : Int32)))
def Q3 (Z : State) (p0 : Int32) (p1 : Int32) (p2 : Int32) (h0 : Heap) (n0 : Nat) (v : Option Value) (h : Heap) (L : List Loc) : Prop := v = some (.int (f3 p0 p1 p2)) ∧ Fr n0 L ∧ h = h0
theorem own_pn_com_example_bare_octets_bareoctets_codec_WellFormedSequencesIsCommonThreeByteFormPinLaw : plainName "com/example/bare_octets/bareoctets/codec/WellFormedSequencesIsCommonThreeByteFormPinLaw" = true := by first | (simp [plainName, overriddenIn]; done) | decide +kernel
theorem ef3 (m : MethodId) (x0 : Int32) (x1 : Int32) (x2 : Int32) : entryFrame m #[(.int x0), (.int x1), (.int x2)] 3 = mkF m 0 #[.val (.int x0), .val (.int x1), .val (.int x2)] [] := by first | (simp [entryFrame, mkF, argsToLocals, Value.category]; done) | rfl
set_option maxRecDepth 65536 in
set_option maxHeartbeats 40000000 in
theorem rm3 (l : Launch) (Z : State) (az : Array Value) (hw : ∀ d ∈ tables_1, d.before az Z = true) (ws : List Jvm.Cond) (p0 : Int32) (p1 : Int32) (p2 : Int32) (h0 : Heap) (n0 : Nat) (Z0 : n0 ≤ h0.size) :
    MetFree l (⟨"com/example/bare_octets/bareoctets/codec/WellFormedSequencesIsCommonThreeByteFormPinLaw", "inRange", "(III)Z"⟩ : MethodName) (head1 (Jvm.Cond.code (⟨"com/example/bare_octets/bareoctets/codec/WellFormedSequencesIsCommonThreeByteFormPinLaw", "inRange", "(III)Z"⟩ : MethodName) method_3_code 3 (some .boolean) :: ws) ({ frames := 0, cells := 0, slots := 0, locals := 0 } : Room)) (fun a U => a = #[(.int p0), (.int p1), (.int p2)] ∧ Z.Warmed39 U.vm ∧ U.heap = h0) (fun _ _ _ _ _ => True) (fun _ U o U' => ∃ v L, o = .returned v ∧ Q3 Z p0 p1 p2 h0 n0 v U'.heap L ∧ FrameEnd U o U' L ({ frames := 0, cells := 0, slots := 0, locals := 0 } : Room).cells ({ frames := 0, cells := 0, slots := 0, locals := 0 } : Room).slots) := by
  refine MetFree.of_bodySF (plainFor_of_name own_pn_com_example_bare_octets_bareoctets_codec_WellFormedSequencesIsCommonThreeByteFormPinLaw) hisR ?_
  intro p e s m args below meth c s₁ Bd hml0 hP hK
  obtain ⟨rfl, hZ, hh⟩ := hP
  have hx := Bd.exec
  have hby := Bd.bytes
  have hml : c.maxLocals = 3 := hml0
  have hown : s.vm.findClass "com/example/bare_octets/bareoctets/codec/WellFormedSequencesIsCommonThreeByteFormPinLaw" = some m.cls := findClass_of_methodNamed Bd.named
  have hnm := (name_of_methodNamed Bd.named Bd.method).1
  have X0 : Stand p l e ({ frames := 0, cells := 0, slots := 0, locals := 0 } : Room) s m #[(.int p0), (.int p1), (.int p2)] below meth c s₁ [] 0 0 := Stand.of_body Bd
  have e0 : s₁.heap = h0 := by rw [← hh, Bd.state]; rfl
  have N0 := Fr.nil n0
  have Kp0 : Keep h0 h0 [] := Keep.refl _ _
  refine Goes.start ?_
  refine Goes.by (B := s₁.setTop (mkF m 0 #[.val (.int p0), .val (.int p1), .val (.int p2)] [])) (fun t k => castTop (ef3 m p0 p1 p2) k) ?_
  refine Goes.by (B := s₁.setTop (mkF m 2 #[.val (.int p0), .val (.int p1), .val (.int p2)] [(.int p1), (.int p0)])) (fun t k => ?_) ?_
  · show Steps p.tables e below (s₁.setTop (mkF m 0 #[.val (.int p0), .val (.int p1), .val (.int p2)] [])) t
    refine XS.iloadN X0.here hx rfl (hb hby d3_0) rfl ?_
    show Steps p.tables e below (s₁.setTop (mkF m 1 #[.val (.int p0), .val (.int p1), .val (.int p2)] [(.int p0)])) t
    refine XS.iloadN X0.here hx rfl (hb hby d3_1) rfl ?_
    exact k
  by_cases hc1 : p0 < p1
  · refine Goes.by (B := s₁.setTop (mkF m 15 #[.val (.int p0), .val (.int p1), .val (.int p2)] [(.int (0 : Int32))])) (fun t k => ?_) ?_
    · show Steps p.tables e below (s₁.setTop (mkF m 2 #[.val (.int p0), .val (.int p1), .val (.int p2)] [(.int p1), (.int p0)])) t
      refine XS.icmpYes X0.here hx rfl (pc0 := 2) (pc' := 14) rfl (hb hby d3_2) rfl (tlt hc1).1 (by decide) (by decide) ?_
      show Steps p.tables e below (s₁.setTop (mkF m 14 #[.val (.int p0), .val (.int p1), .val (.int p2)] [])) t
      refine XS.iconst X0.here hx rfl (hb hby d3_14) ?_
      exact k
    obtain ⟨fs, hr, hrun, hended, hW, hsame⟩ := X0.leave (v := some (.int (0 : Int32))) (fun h => by rw [Bd.returns] at h; cases h)
    refine Goes.mk _ _ ?_ ⟨hrun, hended, _, _, rfl, ?_, ⟨_, rfl⟩, hW, hsame.mono (by decide) (by decide)⟩
    · exact retN X0 hx (t := .boolean) Bd.returns (by simp) (hb hby d3_15) hr
    · show Q3 Z p0 p1 p2 h0 n0 _ s₁.heap _
      rw [e0]
      exact ⟨(by simp only [f3, if_pos hc1]), N0, rfl⟩
  · refine Goes.by (B := s₁.setTop (mkF m 7 #[.val (.int p0), .val (.int p1), .val (.int p2)] [(.int p2), (.int p0)])) (fun t k => ?_) ?_
    · show Steps p.tables e below (s₁.setTop (mkF m 2 #[.val (.int p0), .val (.int p1), .val (.int p2)] [(.int p1), (.int p0)])) t
      refine XS.icmpNo X0.here hx rfl (hb hby d3_2) rfl (flt hc1).1 ?_
      show Steps p.tables e below (s₁.setTop (mkF m 5 #[.val (.int p0), .val (.int p1), .val (.int p2)] [])) t
      refine XS.iloadN X0.here hx rfl (hb hby d3_5) rfl ?_
      show Steps p.tables e below (s₁.setTop (mkF m 6 #[.val (.int p0), .val (.int p1), .val (.int p2)] [(.int p0)])) t
      refine XS.iloadN X0.here hx rfl (hb hby d3_6) rfl ?_
      exact k
    by_cases hc2 : p2 < p0
    · refine Goes.by (B := s₁.setTop (mkF m 15 #[.val (.int p0), .val (.int p1), .val (.int p2)] [(.int (0 : Int32))])) (fun t k => ?_) ?_
      · show Steps p.tables e below (s₁.setTop (mkF m 7 #[.val (.int p0), .val (.int p1), .val (.int p2)] [(.int p2), (.int p0)])) t
        refine XS.icmpYes X0.here hx rfl (pc0 := 7) (pc' := 14) rfl (hb hby d3_7) rfl (tlt hc2).2.2.1 (by decide) (by decide) ?_
        show Steps p.tables e below (s₁.setTop (mkF m 14 #[.val (.int p0), .val (.int p1), .val (.int p2)] [])) t
        refine XS.iconst X0.here hx rfl (hb hby d3_14) ?_
        exact k
      obtain ⟨fs, hr, hrun, hended, hW, hsame⟩ := X0.leave (v := some (.int (0 : Int32))) (fun h => by rw [Bd.returns] at h; cases h)
      refine Goes.mk _ _ ?_ ⟨hrun, hended, _, _, rfl, ?_, ⟨_, rfl⟩, hW, hsame.mono (by decide) (by decide)⟩
      · exact retN X0 hx (t := .boolean) Bd.returns (by simp) (hb hby d3_15) hr
      · show Q3 Z p0 p1 p2 h0 n0 _ s₁.heap _
        rw [e0]
        exact ⟨(by simp only [f3, if_neg hc1, if_pos hc2]), N0, rfl⟩
    · refine Goes.by (B := s₁.setTop (mkF m 15 #[.val (.int p0), .val (.int p1), .val (.int p2)] [(.int (1 : Int32))])) (fun t k => ?_) ?_
      · show Steps p.tables e below (s₁.setTop (mkF m 7 #[.val (.int p0), .val (.int p1), .val (.int p2)] [(.int p2), (.int p0)])) t
        refine XS.icmpNo X0.here hx rfl (hb hby d3_7) rfl (flt hc2).2.2.1 ?_
        show Steps p.tables e below (s₁.setTop (mkF m 10 #[.val (.int p0), .val (.int p1), .val (.int p2)] [])) t
        refine XS.iconst X0.here hx rfl (hb hby d3_10) ?_
        show Steps p.tables e below (s₁.setTop (mkF m 11 #[.val (.int p0), .val (.int p1), .val (.int p2)] [(.int (1 : Int32))])) t
        refine XS.goto X0.here hx rfl (pc0 := 11) (pc' := 15) rfl (hb hby d3_11) (by decide) (by decide) ?_
        exact k
      obtain ⟨fs, hr, hrun, hended, hW, hsame⟩ := X0.leave (v := some (.int (1 : Int32))) (fun h => by rw [Bd.returns] at h; cases h)
      refine Goes.mk _ _ ?_ ⟨hrun, hended, _, _, rfl, ?_, ⟨_, rfl⟩, hW, hsame.mono (by decide) (by decide)⟩
      · exact retN X0 hx (t := .boolean) Bd.returns (by simp) (hb hby d3_15) hr
      · show Q3 Z p0 p1 p2 h0 n0 _ s₁.heap _
        rw [e0]
        exact ⟨(by simp only [f3, if_neg hc1, if_neg hc2]), N0, rfl⟩
theorem d2_0 : decode method_4_code 0 = .ok (.iload_n 0, 1) := by decide +kernel
theorem d2_1 : decode method_4_code 1 = .ok (.bipush 24, 2) := by decide +kernel
theorem d2_3 : decode method_4_code 3 = .ok (.iushr, 1) := by decide +kernel
theorem d2_4 : decode method_4_code 4 = .ok (.sipush 255, 3) := by decide +kernel
theorem d2_7 : decode method_4_code 7 = .ok (.iand, 1) := by decide +kernel
theorem d2_8 : decode method_4_code 8 = .ok (.istore_n 1, 1) := by decide +kernel
theorem d2_9 : decode method_4_code 9 = .ok (.iload_n 0, 1) := by decide +kernel
theorem d2_10 : decode method_4_code 10 = .ok (.bipush 16, 2) := by decide +kernel
theorem d2_12 : decode method_4_code 12 = .ok (.iushr, 1) := by decide +kernel
theorem d2_13 : decode method_4_code 13 = .ok (.sipush 255, 3) := by decide +kernel
theorem d2_16 : decode method_4_code 16 = .ok (.iand, 1) := by decide +kernel
theorem d2_17 : decode method_4_code 17 = .ok (.istore_n 2, 1) := by decide +kernel
theorem d2_18 : decode method_4_code 18 = .ok (.iload_n 0, 1) := by decide +kernel
theorem d2_19 : decode method_4_code 19 = .ok (.bipush 8, 2) := by decide +kernel
theorem d2_21 : decode method_4_code 21 = .ok (.iushr, 1) := by decide +kernel
theorem d2_22 : decode method_4_code 22 = .ok (.sipush 255, 3) := by decide +kernel
theorem d2_25 : decode method_4_code 25 = .ok (.iand, 1) := by decide +kernel
theorem d2_26 : decode method_4_code 26 = .ok (.istore_n 3, 1) := by decide +kernel
theorem d2_27 : decode method_4_code 27 = .ok (.iload_n 1, 1) := by decide +kernel
theorem d2_28 : decode method_4_code 28 = .ok (.sipush 224, 3) := by decide +kernel
theorem d2_31 : decode method_4_code 31 = .ok (.if_icmp .ne 18, 3) := by decide +kernel
theorem d2_34 : decode method_4_code 34 = .ok (.iload_n 2, 1) := by decide +kernel
theorem d2_35 : decode method_4_code 35 = .ok (.sipush 160, 3) := by decide +kernel
theorem d2_38 : decode method_4_code 38 = .ok (.sipush 191, 3) := by decide +kernel
theorem d2_41 : decode method_4_code 41 = .ok (.invokestatic 18, 3) := by decide +kernel
theorem own_pd0 : parseMethodDescriptor "(III)Z" = some ⟨[.int, .int, .int], some .boolean⟩ := by decide +kernel
theorem d2_44 : decode method_4_code 44 = .ok (.istore 4, 2) := by decide +kernel
theorem d2_46 : decode method_4_code 46 = .ok (.goto 85, 3) := by decide +kernel
theorem d2_131 : decode method_4_code 131 = .ok (.iload 4, 2) := by decide +kernel
theorem d2_133 : decode method_4_code 133 = .ok (.ifCond .eq 20, 3) := by decide +kernel
theorem d2_153 : decode method_4_code 153 = .ok (.iconst 0, 1) := by decide +kernel
theorem d2_154 : decode method_4_code 154 = .ok (.ireturn, 1) := by decide +kernel
theorem d2_136 : decode method_4_code 136 = .ok (.iload_n 3, 1) := by decide +kernel
theorem d2_137 : decode method_4_code 137 = .ok (.sipush 128, 3) := by decide +kernel
theorem d2_140 : decode method_4_code 140 = .ok (.sipush 191, 3) := by decide +kernel
theorem d2_143 : decode method_4_code 143 = .ok (.invokestatic 18, 3) := by decide +kernel
theorem d2_146 : decode method_4_code 146 = .ok (.ifCond .eq 7, 3) := by decide +kernel
theorem d2_149 : decode method_4_code 149 = .ok (.iconst 1, 1) := by decide +kernel
theorem d2_150 : decode method_4_code 150 = .ok (.goto 4, 3) := by decide +kernel
theorem d2_49 : decode method_4_code 49 = .ok (.iload_n 1, 1) := by decide +kernel
theorem d2_50 : decode method_4_code 50 = .ok (.sipush 225, 3) := by decide +kernel
theorem d2_53 : decode method_4_code 53 = .ok (.sipush 236, 3) := by decide +kernel
theorem d2_56 : decode method_4_code 56 = .ok (.invokestatic 18, 3) := by decide +kernel
theorem d2_59 : decode method_4_code 59 = .ok (.ifCond .eq 18, 3) := by decide +kernel
theorem d2_77 : decode method_4_code 77 = .ok (.iload_n 1, 1) := by decide +kernel
theorem d2_78 : decode method_4_code 78 = .ok (.sipush 237, 3) := by decide +kernel
theorem d2_81 : decode method_4_code 81 = .ok (.if_icmp .ne 18, 3) := by decide +kernel
theorem d2_84 : decode method_4_code 84 = .ok (.iload_n 2, 1) := by decide +kernel
theorem d2_85 : decode method_4_code 85 = .ok (.sipush 128, 3) := by decide +kernel
theorem d2_88 : decode method_4_code 88 = .ok (.sipush 159, 3) := by decide +kernel
theorem d2_91 : decode method_4_code 91 = .ok (.invokestatic 18, 3) := by decide +kernel
theorem d2_94 : decode method_4_code 94 = .ok (.istore 4, 2) := by decide +kernel
theorem d2_96 : decode method_4_code 96 = .ok (.goto 35, 3) := by decide +kernel
theorem d2_99 : decode method_4_code 99 = .ok (.iload_n 1, 1) := by decide +kernel
theorem d2_100 : decode method_4_code 100 = .ok (.sipush 238, 3) := by decide +kernel
theorem d2_103 : decode method_4_code 103 = .ok (.if_icmp .eq 10, 3) := by decide +kernel
theorem d2_113 : decode method_4_code 113 = .ok (.iload_n 2, 1) := by decide +kernel
theorem d2_114 : decode method_4_code 114 = .ok (.sipush 128, 3) := by decide +kernel
theorem d2_117 : decode method_4_code 117 = .ok (.sipush 191, 3) := by decide +kernel
theorem d2_120 : decode method_4_code 120 = .ok (.invokestatic 18, 3) := by decide +kernel
theorem d2_123 : decode method_4_code 123 = .ok (.istore 4, 2) := by decide +kernel
theorem d2_125 : decode method_4_code 125 = .ok (.goto 6, 3) := by decide +kernel
theorem d2_106 : decode method_4_code 106 = .ok (.iload_n 1, 1) := by decide +kernel
theorem d2_107 : decode method_4_code 107 = .ok (.sipush 239, 3) := by decide +kernel
theorem d2_110 : decode method_4_code 110 = .ok (.if_icmp .ne 18, 3) := by decide +kernel
theorem d2_128 : decode method_4_code 128 = .ok (.iconst 0, 1) := by decide +kernel
theorem d2_129 : decode method_4_code 129 = .ok (.istore 4, 2) := by decide +kernel
theorem d2_62 : decode method_4_code 62 = .ok (.iload_n 2, 1) := by decide +kernel
theorem d2_63 : decode method_4_code 63 = .ok (.sipush 128, 3) := by decide +kernel
theorem d2_66 : decode method_4_code 66 = .ok (.sipush 191, 3) := by decide +kernel
theorem d2_69 : decode method_4_code 69 = .ok (.invokestatic 18, 3) := by decide +kernel
theorem d2_72 : decode method_4_code 72 = .ok (.istore 4, 2) := by decide +kernel
theorem d2_74 : decode method_4_code 74 = .ok (.goto 57, 3) := by decide +kernel
def f2 (p0 : Int32) : Int32 := (if (((p0.toUInt32 >>> ((24 : Int32) &&& 31).toUInt32).toInt32) &&& (255 : Int32)) = (224 : Int32) then (if (f3 (((p0.toUInt32 >>> ((16 : Int32) &&& 31).toUInt32).toInt32) &&& (255 : Int32)) (160 : Int32) (191 : Int32)) = (0 : Int32) then (0 : Int32) else (if (f3 (((p0.toUInt32 >>> ((8 : Int32) &&& 31).toUInt32).toInt32) &&& (255 : Int32)) (128 : Int32) (191 : Int32)) = (0 : Int32) then (0 : Int32) else (1 : Int32))) else (if (f3 (((p0.toUInt32 >>> ((24 : Int32) &&& 31).toUInt32).toInt32) &&& (255 : Int32)) (225 : Int32) (236 : Int32)) = (0 : Int32) then (if (((p0.toUInt32 >>> ((24 : Int32) &&& 31).toUInt32).toInt32) &&& (255 : Int32)) = (237 : Int32) then (if (f3 (((p0.toUInt32 >>> ((16 : Int32) &&& 31).toUInt32).toInt32) &&& (255 : Int32)) (128 : Int32) (159 : Int32)) = (0 : Int32) then (0 : Int32) else (if (f3 (((p0.toUInt32 >>> ((8 : Int32) &&& 31).toUInt32).toInt32) &&& (255 : Int32)) (128 : Int32) (191 : Int32)) = (0 : Int32) then (0 : Int32) else (1 : Int32))) else (if (((p0.toUInt32 >>> ((24 : Int32) &&& 31).toUInt32).toInt32) &&& (255 : Int32)) = (238 : Int32) then (if (f3 (((p0.toUInt32 >>> ((16 : Int32) &&& 31).toUInt32).toInt32) &&& (255 : Int32)) (128 : Int32) (191 : Int32)) = (0 : Int32) then (0 : Int32) else (if (f3 (((p0.toUInt32 >>> ((8 : Int32) &&& 31).toUInt32).toInt32) &&& (255 : Int32)) (128 : Int32) (191 : Int32)) = (0 : Int32) then (0 : Int32) else (1 : Int32))) else (if (((p0.toUInt32 >>> ((24 : Int32) &&& 31).toUInt32).toInt32) &&& (255 : Int32)) = (239 : Int32) then (if (f3 (((p0.toUInt32 >>> ((16 : Int32) &&& 31).toUInt32).toInt32) &&& (255 : Int32)) (128 : Int32) (191 : Int32)) = (0 : Int32) then (0 : Int32) else (if (f3 (((p0.toUInt32 >>> ((8 : Int32) &&& 31).toUInt32).toInt32) &&& (255 : Int32)) (128 : Int32) (191 : Int32)) = (0 : Int32) then (0 : Int32) else (1 : Int32))) else (0 : Int32)))) else (if (f3 (((p0.toUInt32 >>> ((16 : Int32) &&& 31).toUInt32).toInt32) &&& (255 : Int32)) (128 : Int32) (191 : Int32)) = (0 : Int32) then (0 : Int32) else (if (f3 (((p0.toUInt32 >>> ((8 : Int32) &&& 31).toUInt32).toInt32) &&& (255 : Int32)) (128 : Int32) (191 : Int32)) = (0 : Int32) then (0 : Int32) else (1 : Int32)))))
def Q2 (Z : State) (p0 : Int32) (h0 : Heap) (n0 : Nat) (v : Option Value) (h : Heap) (L : List Loc) : Prop := v = some (.int (f2 p0)) ∧ Fr n0 L ∧ h = h0
theorem ef2 (m : MethodId) (x0 : Int32) : entryFrame m #[(.int x0)] 5 = mkF m 0 #[.val (.int x0), .unset, .unset, .unset, .unset] [] := by first | (simp [entryFrame, mkF, argsToLocals, Value.category]; done) | rfl
set_option maxRecDepth 65536 in
set_option maxHeartbeats 40000000 in
theorem rm2 (l : Launch) (Z : State) (az : Array Value) (hw : ∀ d ∈ tables_1, d.before az Z = true) (ws : List Jvm.Cond) (p0 : Int32) (h0 : Heap) (n0 : Nat) (Z0 : n0 ≤ h0.size) :
    MetFree l (⟨"com/example/bare_octets/bareoctets/codec/WellFormedSequencesIsCommonThreeByteFormPinLaw", "expected", "(I)Z"⟩ : MethodName) (head1 (Jvm.Cond.code (⟨"com/example/bare_octets/bareoctets/codec/WellFormedSequencesIsCommonThreeByteFormPinLaw", "expected", "(I)Z"⟩ : MethodName) method_4_code 5 (some .boolean) :: ws) ({ frames := 1, cells := 0, slots := 0, locals := 14 } : Room)) (fun a U => a = #[(.int p0)] ∧ Z.Warmed39 U.vm ∧ U.heap = h0) (fun _ _ _ _ _ => True) (fun _ U o U' => ∃ v L, o = .returned v ∧ Q2 Z p0 h0 n0 v U'.heap L ∧ FrameEnd U o U' L ({ frames := 1, cells := 0, slots := 0, locals := 14 } : Room).cells ({ frames := 1, cells := 0, slots := 0, locals := 14 } : Room).slots) := by
  refine MetFree.of_bodySF (plainFor_of_name own_pn_com_example_bare_octets_bareoctets_codec_WellFormedSequencesIsCommonThreeByteFormPinLaw) hisR ?_
  intro p e s m args below meth c s₁ Bd hml0 hP hK
  obtain ⟨rfl, hZ, hh⟩ := hP
  have hx := Bd.exec
  have hby := Bd.bytes
  have hml : c.maxLocals = 5 := hml0
  have hown : s.vm.findClass "com/example/bare_octets/bareoctets/codec/WellFormedSequencesIsCommonThreeByteFormPinLaw" = some m.cls := findClass_of_methodNamed Bd.named
  have hnm := (name_of_methodNamed Bd.named Bd.method).1
  have X0 : Stand p l e ({ frames := 1, cells := 0, slots := 0, locals := 14 } : Room) s m #[(.int p0)] below meth c s₁ [] 0 0 := Stand.of_body Bd
  have e0 : s₁.heap = h0 := by rw [← hh, Bd.state]; rfl
  have N0 := Fr.nil n0
  have Kp0 : Keep h0 h0 [] := Keep.refl _ _
  refine Goes.start ?_
  refine Goes.by (B := s₁.setTop (mkF m 0 #[.val (.int p0), .unset, .unset, .unset, .unset] [])) (fun t k => castTop (ef2 m p0) k) ?_
  refine Goes.by (B := s₁.setTop (mkF m 31 #[.val (.int p0), .val (.int (((p0.toUInt32 >>> ((24 : Int32) &&& 31).toUInt32).toInt32) &&& (255 : Int32))), .val (.int (((p0.toUInt32 >>> ((16 : Int32) &&& 31).toUInt32).toInt32) &&& (255 : Int32))), .val (.int (((p0.toUInt32 >>> ((8 : Int32) &&& 31).toUInt32).toInt32) &&& (255 : Int32))), .unset] [(.int (224 : Int32)), (.int (((p0.toUInt32 >>> ((24 : Int32) &&& 31).toUInt32).toInt32) &&& (255 : Int32)))])) (fun t k => ?_) ?_
  · show Steps p.tables e below (s₁.setTop (mkF m 0 #[.val (.int p0), .unset, .unset, .unset, .unset] [])) t
    refine XS.iloadN X0.here hx rfl (hb hby d2_0) rfl ?_
    show Steps p.tables e below (s₁.setTop (mkF m 1 #[.val (.int p0), .unset, .unset, .unset, .unset] [(.int p0)])) t
    refine XS.bipush X0.here hx rfl (hb hby d2_1) ?_
    show Steps p.tables e below (s₁.setTop (mkF m 3 #[.val (.int p0), .unset, .unset, .unset, .unset] [(.int (24 : Int32)), (.int p0)])) t
    refine XS.iushr X0.here hx rfl (hb hby d2_3) rfl ?_
    show Steps p.tables e below (s₁.setTop (mkF m 4 #[.val (.int p0), .unset, .unset, .unset, .unset] [(.int ((p0.toUInt32 >>> ((24 : Int32) &&& 31).toUInt32).toInt32))])) t
    refine XS.sipush X0.here hx rfl (hb hby d2_4) ?_
    show Steps p.tables e below (s₁.setTop (mkF m 7 #[.val (.int p0), .unset, .unset, .unset, .unset] [(.int (255 : Int32)), (.int ((p0.toUInt32 >>> ((24 : Int32) &&& 31).toUInt32).toInt32))])) t
    refine XS.iand X0.here hx rfl (hb hby d2_7) rfl ?_
    show Steps p.tables e below (s₁.setTop (mkF m 8 #[.val (.int p0), .unset, .unset, .unset, .unset] [(.int (((p0.toUInt32 >>> ((24 : Int32) &&& 31).toUInt32).toInt32) &&& (255 : Int32)))])) t
    refine XS.istoreN X0.here hx rfl (hb hby d2_8) rfl (l' := #[.val (.int p0), .val (.int (((p0.toUInt32 >>> ((24 : Int32) &&& 31).toUInt32).toInt32) &&& (255 : Int32))), .unset, .unset, .unset]) rfl ?_
    show Steps p.tables e below (s₁.setTop (mkF m 9 #[.val (.int p0), .val (.int (((p0.toUInt32 >>> ((24 : Int32) &&& 31).toUInt32).toInt32) &&& (255 : Int32))), .unset, .unset, .unset] [])) t
    refine XS.iloadN X0.here hx rfl (hb hby d2_9) rfl ?_
    show Steps p.tables e below (s₁.setTop (mkF m 10 #[.val (.int p0), .val (.int (((p0.toUInt32 >>> ((24 : Int32) &&& 31).toUInt32).toInt32) &&& (255 : Int32))), .unset, .unset, .unset] [(.int p0)])) t
    refine XS.bipush X0.here hx rfl (hb hby d2_10) ?_
    show Steps p.tables e below (s₁.setTop (mkF m 12 #[.val (.int p0), .val (.int (((p0.toUInt32 >>> ((24 : Int32) &&& 31).toUInt32).toInt32) &&& (255 : Int32))), .unset, .unset, .unset] [(.int (16 : Int32)), (.int p0)])) t
    refine XS.iushr X0.here hx rfl (hb hby d2_12) rfl ?_
    show Steps p.tables e below (s₁.setTop (mkF m 13 #[.val (.int p0), .val (.int (((p0.toUInt32 >>> ((24 : Int32) &&& 31).toUInt32).toInt32) &&& (255 : Int32))), .unset, .unset, .unset] [(.int ((p0.toUInt32 >>> ((16 : Int32) &&& 31).toUInt32).toInt32))])) t
    refine XS.sipush X0.here hx rfl (hb hby d2_13) ?_
    show Steps p.tables e below (s₁.setTop (mkF m 16 #[.val (.int p0), .val (.int (((p0.toUInt32 >>> ((24 : Int32) &&& 31).toUInt32).toInt32) &&& (255 : Int32))), .unset, .unset, .unset] [(.int (255 : Int32)), (.int ((p0.toUInt32 >>> ((16 : Int32) &&& 31).toUInt32).toInt32))])) t
    refine XS.iand X0.here hx rfl (hb hby d2_16) rfl ?_
    show Steps p.tables e below (s₁.setTop (mkF m 17 #[.val (.int p0), .val (.int (((p0.toUInt32 >>> ((24 : Int32) &&& 31).toUInt32).toInt32) &&& (255 : Int32))), .unset, .unset, .unset] [(.int (((p0.toUInt32 >>> ((16 : Int32) &&& 31).toUInt32).toInt32) &&& (255 : Int32)))])) t
    refine XS.istoreN X0.here hx rfl (hb hby d2_17) rfl (l' := #[.val (.int p0), .val (.int (((p0.toUInt32 >>> ((24 : Int32) &&& 31).toUInt32).toInt32) &&& (255 : Int32))), .val (.int (((p0.toUInt32 >>> ((16 : Int32) &&& 31).toUInt32).toInt32) &&& (255 : Int32))), .unset, .unset]) rfl ?_
    show Steps p.tables e below (s₁.setTop (mkF m 18 #[.val (.int p0), .val (.int (((p0.toUInt32 >>> ((24 : Int32) &&& 31).toUInt32).toInt32) &&& (255 : Int32))), .val (.int (((p0.toUInt32 >>> ((16 : Int32) &&& 31).toUInt32).toInt32) &&& (255 : Int32))), .unset, .unset] [])) t
    refine XS.iloadN X0.here hx rfl (hb hby d2_18) rfl ?_
    show Steps p.tables e below (s₁.setTop (mkF m 19 #[.val (.int p0), .val (.int (((p0.toUInt32 >>> ((24 : Int32) &&& 31).toUInt32).toInt32) &&& (255 : Int32))), .val (.int (((p0.toUInt32 >>> ((16 : Int32) &&& 31).toUInt32).toInt32) &&& (255 : Int32))), .unset, .unset] [(.int p0)])) t
    refine XS.bipush X0.here hx rfl (hb hby d2_19) ?_
    show Steps p.tables e below (s₁.setTop (mkF m 21 #[.val (.int p0), .val (.int (((p0.toUInt32 >>> ((24 : Int32) &&& 31).toUInt32).toInt32) &&& (255 : Int32))), .val (.int (((p0.toUInt32 >>> ((16 : Int32) &&& 31).toUInt32).toInt32) &&& (255 : Int32))), .unset, .unset] [(.int (8 : Int32)), (.int p0)])) t
    refine XS.iushr X0.here hx rfl (hb hby d2_21) rfl ?_
    show Steps p.tables e below (s₁.setTop (mkF m 22 #[.val (.int p0), .val (.int (((p0.toUInt32 >>> ((24 : Int32) &&& 31).toUInt32).toInt32) &&& (255 : Int32))), .val (.int (((p0.toUInt32 >>> ((16 : Int32) &&& 31).toUInt32).toInt32) &&& (255 : Int32))), .unset, .unset] [(.int ((p0.toUInt32 >>> ((8 : Int32) &&& 31).toUInt32).toInt32))])) t
    refine XS.sipush X0.here hx rfl (hb hby d2_22) ?_
    show Steps p.tables e below (s₁.setTop (mkF m 25 #[.val (.int p0), .val (.int (((p0.toUInt32 >>> ((24 : Int32) &&& 31).toUInt32).toInt32) &&& (255 : Int32))), .val (.int (((p0.toUInt32 >>> ((16 : Int32) &&& 31).toUInt32).toInt32) &&& (255 : Int32))), .unset, .unset] [(.int (255 : Int32)), (.int ((p0.toUInt32 >>> ((8 : Int32) &&& 31).toUInt32).toInt32))])) t
    refine XS.iand X0.here hx rfl (hb hby d2_25) rfl ?_
    show Steps p.tables e below (s₁.setTop (mkF m 26 #[.val (.int p0), .val (.int (((p0.toUInt32 >>> ((24 : Int32) &&& 31).toUInt32).toInt32) &&& (255 : Int32))), .val (.int (((p0.toUInt32 >>> ((16 : Int32) &&& 31).toUInt32).toInt32) &&& (255 : Int32))), .unset, .unset] [(.int (((p0.toUInt32 >>> ((8 : Int32) &&& 31).toUInt32).toInt32) &&& (255 : Int32)))])) t
    refine XS.istoreN X0.here hx rfl (hb hby d2_26) rfl (l' := #[.val (.int p0), .val (.int (((p0.toUInt32 >>> ((24 : Int32) &&& 31).toUInt32).toInt32) &&& (255 : Int32))), .val (.int (((p0.toUInt32 >>> ((16 : Int32) &&& 31).toUInt32).toInt32) &&& (255 : Int32))), .val (.int (((p0.toUInt32 >>> ((8 : Int32) &&& 31).toUInt32).toInt32) &&& (255 : Int32))), .unset]) rfl ?_
    show Steps p.tables e below (s₁.setTop (mkF m 27 #[.val (.int p0), .val (.int (((p0.toUInt32 >>> ((24 : Int32) &&& 31).toUInt32).toInt32) &&& (255 : Int32))), .val (.int (((p0.toUInt32 >>> ((16 : Int32) &&& 31).toUInt32).toInt32) &&& (255 : Int32))), .val (.int (((p0.toUInt32 >>> ((8 : Int32) &&& 31).toUInt32).toInt32) &&& (255 : Int32))), .unset] [])) t
    refine XS.iloadN X0.here hx rfl (hb hby d2_27) rfl ?_
    show Steps p.tables e below (s₁.setTop (mkF m 28 #[.val (.int p0), .val (.int (((p0.toUInt32 >>> ((24 : Int32) &&& 31).toUInt32).toInt32) &&& (255 : Int32))), .val (.int (((p0.toUInt32 >>> ((16 : Int32) &&& 31).toUInt32).toInt32) &&& (255 : Int32))), .val (.int (((p0.toUInt32 >>> ((8 : Int32) &&& 31).toUInt32).toInt32) &&& (255 : Int32))), .unset] [(.int (((p0.toUInt32 >>> ((24 : Int32) &&& 31).toUInt32).toInt32) &&& (255 : Int32)))])) t
    refine XS.sipush X0.here hx rfl (hb hby d2_28) ?_
    exact k
  by_cases hc1 : (((p0.toUInt32 >>> ((24 : Int32) &&& 31).toUInt32).toInt32) &&& (255 : Int32)) = (224 : Int32)
  · refine Goes.by (B := s₁.setTop (mkF m 41 #[.val (.int p0), .val (.int (((p0.toUInt32 >>> ((24 : Int32) &&& 31).toUInt32).toInt32) &&& (255 : Int32))), .val (.int (((p0.toUInt32 >>> ((16 : Int32) &&& 31).toUInt32).toInt32) &&& (255 : Int32))), .val (.int (((p0.toUInt32 >>> ((8 : Int32) &&& 31).toUInt32).toInt32) &&& (255 : Int32))), .unset] [(.int (191 : Int32)), (.int (160 : Int32)), (.int (((p0.toUInt32 >>> ((16 : Int32) &&& 31).toUInt32).toInt32) &&& (255 : Int32)))])) (fun t k => ?_) ?_
    · show Steps p.tables e below (s₁.setTop (mkF m 31 #[.val (.int p0), .val (.int (((p0.toUInt32 >>> ((24 : Int32) &&& 31).toUInt32).toInt32) &&& (255 : Int32))), .val (.int (((p0.toUInt32 >>> ((16 : Int32) &&& 31).toUInt32).toInt32) &&& (255 : Int32))), .val (.int (((p0.toUInt32 >>> ((8 : Int32) &&& 31).toUInt32).toInt32) &&& (255 : Int32))), .unset] [(.int (224 : Int32)), (.int (((p0.toUInt32 >>> ((24 : Int32) &&& 31).toUInt32).toInt32) &&& (255 : Int32)))])) t
      refine XS.icmpNo X0.here hx rfl (hb hby d2_31) rfl (teq hc1).2 ?_
      show Steps p.tables e below (s₁.setTop (mkF m 34 #[.val (.int p0), .val (.int (((p0.toUInt32 >>> ((24 : Int32) &&& 31).toUInt32).toInt32) &&& (255 : Int32))), .val (.int (((p0.toUInt32 >>> ((16 : Int32) &&& 31).toUInt32).toInt32) &&& (255 : Int32))), .val (.int (((p0.toUInt32 >>> ((8 : Int32) &&& 31).toUInt32).toInt32) &&& (255 : Int32))), .unset] [])) t
      refine XS.iloadN X0.here hx rfl (hb hby d2_34) rfl ?_
      show Steps p.tables e below (s₁.setTop (mkF m 35 #[.val (.int p0), .val (.int (((p0.toUInt32 >>> ((24 : Int32) &&& 31).toUInt32).toInt32) &&& (255 : Int32))), .val (.int (((p0.toUInt32 >>> ((16 : Int32) &&& 31).toUInt32).toInt32) &&& (255 : Int32))), .val (.int (((p0.toUInt32 >>> ((8 : Int32) &&& 31).toUInt32).toInt32) &&& (255 : Int32))), .unset] [(.int (((p0.toUInt32 >>> ((16 : Int32) &&& 31).toUInt32).toInt32) &&& (255 : Int32)))])) t
      refine XS.sipush X0.here hx rfl (hb hby d2_35) ?_
      show Steps p.tables e below (s₁.setTop (mkF m 38 #[.val (.int p0), .val (.int (((p0.toUInt32 >>> ((24 : Int32) &&& 31).toUInt32).toInt32) &&& (255 : Int32))), .val (.int (((p0.toUInt32 >>> ((16 : Int32) &&& 31).toUInt32).toInt32) &&& (255 : Int32))), .val (.int (((p0.toUInt32 >>> ((8 : Int32) &&& 31).toUInt32).toInt32) &&& (255 : Int32))), .unset] [(.int (160 : Int32)), (.int (((p0.toUInt32 >>> ((16 : Int32) &&& 31).toUInt32).toInt32) &&& (255 : Int32)))])) t
      refine XS.sipush X0.here hx rfl (hb hby d2_38) ?_
      exact k
    obtain ⟨_, _, ⟨T2, L2, k2, n2⟩, -, X2, ⟨Lc2, hQ2, l2, y2, z2⟩, st2⟩ := Jvm.LawKit.callS X0 hx (y := (⟨"com/example/bare_octets/bareoctets/codec/WellFormedSequencesIsCommonThreeByteFormPinLaw", "inRange", "(III)Z"⟩ : MethodName)) hown (mvT hZ (hw _ (List.mem_of_getElem? (i := 10) rfl))) (mvT hZ (hw _ (List.mem_of_getElem? (i := 11) rfl))) (mvT hZ (hw _ (List.mem_of_getElem? (i := 8) rfl))) (mvT hZ (hw _ (List.mem_of_getElem? (i := 12) rfl))) (by decide) (backOf (W := 0) (rm3 l Z az hw [] (((p0.toUInt32 >>> ((16 : Int32) &&& 31).toUInt32).toInt32) &&& (255 : Int32)) (160 : Int32) (191 : Int32) h0 n0 Z0 ) hZ (hw _ (List.mem_of_getElem? (i := 12) rfl)) (hw _ (List.mem_of_getElem? (i := 8) rfl)) (by decide) (by decide)) (g := (mkF m 41 #[.val (.int p0), .val (.int (((p0.toUInt32 >>> ((24 : Int32) &&& 31).toUInt32).toInt32) &&& (255 : Int32))), .val (.int (((p0.toUInt32 >>> ((16 : Int32) &&& 31).toUInt32).toInt32) &&& (255 : Int32))), .val (.int (((p0.toUInt32 >>> ((8 : Int32) &&& 31).toUInt32).toInt32) &&& (255 : Int32))), .unset] [(.int (191 : Int32)), (.int (160 : Int32)), (.int (((p0.toUInt32 >>> ((16 : Int32) &&& 31).toUInt32).toInt32) &&& (255 : Int32)))])) rfl (by rw [hml]; rfl) (argsL := [(.int (((p0.toUInt32 >>> ((16 : Int32) &&& 31).toUInt32).toInt32) &&& (255 : Int32))), (.int (160 : Int32)), (.int (191 : Int32))]) (rest := []) (lenOf own_pd0 rfl) rfl (by show 2 * 0 + _ ≤ _; exact Nat.le_of_eq rfl) (hb hby d2_41) (fun _ _ => ⟨rfl, e0, (by decide : 0 + 0 ≤ _), (by decide : 0 + 0 ≤ _)⟩)
    dsimp only [Pt.U, Pt.locs, Pt.cells, Pt.slots] at X2 l2 y2 z2 st2 hQ2
    subst l2 y2 z2
    obtain ⟨rfl, N2q, e2⟩ := hQ2
    have N3 := Fr.app N0 N2q
    refine Goes.by st2 ?_
    show Goes p.tables e below _ (T2.setTop (mkF m 44 #[.val (.int p0), .val (.int (((p0.toUInt32 >>> ((24 : Int32) &&& 31).toUInt32).toInt32) &&& (255 : Int32))), .val (.int (((p0.toUInt32 >>> ((16 : Int32) &&& 31).toUInt32).toInt32) &&& (255 : Int32))), .val (.int (((p0.toUInt32 >>> ((8 : Int32) &&& 31).toUInt32).toInt32) &&& (255 : Int32))), .unset] [(.int (f3 (((p0.toUInt32 >>> ((16 : Int32) &&& 31).toUInt32).toInt32) &&& (255 : Int32)) (160 : Int32) (191 : Int32)))]))
    refine Goes.by (B := T2.setTop (mkF m 133 #[.val (.int p0), .val (.int (((p0.toUInt32 >>> ((24 : Int32) &&& 31).toUInt32).toInt32) &&& (255 : Int32))), .val (.int (((p0.toUInt32 >>> ((16 : Int32) &&& 31).toUInt32).toInt32) &&& (255 : Int32))), .val (.int (((p0.toUInt32 >>> ((8 : Int32) &&& 31).toUInt32).toInt32) &&& (255 : Int32))), .val (.int (f3 (((p0.toUInt32 >>> ((16 : Int32) &&& 31).toUInt32).toInt32) &&& (255 : Int32)) (160 : Int32) (191 : Int32)))] [(.int (f3 (((p0.toUInt32 >>> ((16 : Int32) &&& 31).toUInt32).toInt32) &&& (255 : Int32)) (160 : Int32) (191 : Int32)))])) (fun t k => ?_) ?_
    · show Steps p.tables e below (T2.setTop (mkF m 44 #[.val (.int p0), .val (.int (((p0.toUInt32 >>> ((24 : Int32) &&& 31).toUInt32).toInt32) &&& (255 : Int32))), .val (.int (((p0.toUInt32 >>> ((16 : Int32) &&& 31).toUInt32).toInt32) &&& (255 : Int32))), .val (.int (((p0.toUInt32 >>> ((8 : Int32) &&& 31).toUInt32).toInt32) &&& (255 : Int32))), .unset] [(.int (f3 (((p0.toUInt32 >>> ((16 : Int32) &&& 31).toUInt32).toInt32) &&& (255 : Int32)) (160 : Int32) (191 : Int32)))])) t
      refine XS.istore X2.here hx rfl (hb hby d2_44) rfl (l' := #[.val (.int p0), .val (.int (((p0.toUInt32 >>> ((24 : Int32) &&& 31).toUInt32).toInt32) &&& (255 : Int32))), .val (.int (((p0.toUInt32 >>> ((16 : Int32) &&& 31).toUInt32).toInt32) &&& (255 : Int32))), .val (.int (((p0.toUInt32 >>> ((8 : Int32) &&& 31).toUInt32).toInt32) &&& (255 : Int32))), .val (.int (f3 (((p0.toUInt32 >>> ((16 : Int32) &&& 31).toUInt32).toInt32) &&& (255 : Int32)) (160 : Int32) (191 : Int32)))]) rfl ?_
      show Steps p.tables e below (T2.setTop (mkF m 46 #[.val (.int p0), .val (.int (((p0.toUInt32 >>> ((24 : Int32) &&& 31).toUInt32).toInt32) &&& (255 : Int32))), .val (.int (((p0.toUInt32 >>> ((16 : Int32) &&& 31).toUInt32).toInt32) &&& (255 : Int32))), .val (.int (((p0.toUInt32 >>> ((8 : Int32) &&& 31).toUInt32).toInt32) &&& (255 : Int32))), .val (.int (f3 (((p0.toUInt32 >>> ((16 : Int32) &&& 31).toUInt32).toInt32) &&& (255 : Int32)) (160 : Int32) (191 : Int32)))] [])) t
      refine XS.goto X2.here hx rfl (pc0 := 46) (pc' := 131) rfl (hb hby d2_46) (by decide) (by decide) ?_
      show Steps p.tables e below (T2.setTop (mkF m 131 #[.val (.int p0), .val (.int (((p0.toUInt32 >>> ((24 : Int32) &&& 31).toUInt32).toInt32) &&& (255 : Int32))), .val (.int (((p0.toUInt32 >>> ((16 : Int32) &&& 31).toUInt32).toInt32) &&& (255 : Int32))), .val (.int (((p0.toUInt32 >>> ((8 : Int32) &&& 31).toUInt32).toInt32) &&& (255 : Int32))), .val (.int (f3 (((p0.toUInt32 >>> ((16 : Int32) &&& 31).toUInt32).toInt32) &&& (255 : Int32)) (160 : Int32) (191 : Int32)))] [])) t
      refine XS.iload X2.here hx rfl (hb hby d2_131) rfl ?_
      exact k
    by_cases hc4 : (f3 (((p0.toUInt32 >>> ((16 : Int32) &&& 31).toUInt32).toInt32) &&& (255 : Int32)) (160 : Int32) (191 : Int32)) = (0 : Int32)
    · refine Goes.by (B := T2.setTop (mkF m 154 #[.val (.int p0), .val (.int (((p0.toUInt32 >>> ((24 : Int32) &&& 31).toUInt32).toInt32) &&& (255 : Int32))), .val (.int (((p0.toUInt32 >>> ((16 : Int32) &&& 31).toUInt32).toInt32) &&& (255 : Int32))), .val (.int (((p0.toUInt32 >>> ((8 : Int32) &&& 31).toUInt32).toInt32) &&& (255 : Int32))), .val (.int (f3 (((p0.toUInt32 >>> ((16 : Int32) &&& 31).toUInt32).toInt32) &&& (255 : Int32)) (160 : Int32) (191 : Int32)))] [(.int (0 : Int32))])) (fun t k => ?_) ?_
      · show Steps p.tables e below (T2.setTop (mkF m 133 #[.val (.int p0), .val (.int (((p0.toUInt32 >>> ((24 : Int32) &&& 31).toUInt32).toInt32) &&& (255 : Int32))), .val (.int (((p0.toUInt32 >>> ((16 : Int32) &&& 31).toUInt32).toInt32) &&& (255 : Int32))), .val (.int (((p0.toUInt32 >>> ((8 : Int32) &&& 31).toUInt32).toInt32) &&& (255 : Int32))), .val (.int (f3 (((p0.toUInt32 >>> ((16 : Int32) &&& 31).toUInt32).toInt32) &&& (255 : Int32)) (160 : Int32) (191 : Int32)))] [(.int (f3 (((p0.toUInt32 >>> ((16 : Int32) &&& 31).toUInt32).toInt32) &&& (255 : Int32)) (160 : Int32) (191 : Int32)))])) t
        refine XS.ifYes X2.here hx rfl (pc0 := 133) (pc' := 153) rfl (hb hby d2_133) rfl ((if0 _ _).trans (teq hc4).1) (by decide) (by decide) ?_
        show Steps p.tables e below (T2.setTop (mkF m 153 #[.val (.int p0), .val (.int (((p0.toUInt32 >>> ((24 : Int32) &&& 31).toUInt32).toInt32) &&& (255 : Int32))), .val (.int (((p0.toUInt32 >>> ((16 : Int32) &&& 31).toUInt32).toInt32) &&& (255 : Int32))), .val (.int (((p0.toUInt32 >>> ((8 : Int32) &&& 31).toUInt32).toInt32) &&& (255 : Int32))), .val (.int (f3 (((p0.toUInt32 >>> ((16 : Int32) &&& 31).toUInt32).toInt32) &&& (255 : Int32)) (160 : Int32) (191 : Int32)))] [])) t
        refine XS.iconst X2.here hx rfl (hb hby d2_153) ?_
        exact k
      obtain ⟨fs, hr, hrun, hended, hW, hsame⟩ := X2.leave (v := some (.int (0 : Int32))) (fun h => by rw [Bd.returns] at h; cases h)
      refine Goes.mk _ _ ?_ ⟨hrun, hended, _, _, rfl, ?_, ⟨_, rfl⟩, hW, hsame.mono (by decide) (by decide)⟩
      · exact retN X2 hx (t := .boolean) Bd.returns (by simp) (hb hby d2_154) hr
      · show Q2 Z p0 h0 n0 _ T2.heap _
        rw [e2]
        exact ⟨(by simp only [f2, if_pos hc1, if_pos hc4]), N3, rfl⟩
    · refine Goes.by (B := T2.setTop (mkF m 143 #[.val (.int p0), .val (.int (((p0.toUInt32 >>> ((24 : Int32) &&& 31).toUInt32).toInt32) &&& (255 : Int32))), .val (.int (((p0.toUInt32 >>> ((16 : Int32) &&& 31).toUInt32).toInt32) &&& (255 : Int32))), .val (.int (((p0.toUInt32 >>> ((8 : Int32) &&& 31).toUInt32).toInt32) &&& (255 : Int32))), .val (.int (f3 (((p0.toUInt32 >>> ((16 : Int32) &&& 31).toUInt32).toInt32) &&& (255 : Int32)) (160 : Int32) (191 : Int32)))] [(.int (191 : Int32)), (.int (128 : Int32)), (.int (((p0.toUInt32 >>> ((8 : Int32) &&& 31).toUInt32).toInt32) &&& (255 : Int32)))])) (fun t k => ?_) ?_
      · show Steps p.tables e below (T2.setTop (mkF m 133 #[.val (.int p0), .val (.int (((p0.toUInt32 >>> ((24 : Int32) &&& 31).toUInt32).toInt32) &&& (255 : Int32))), .val (.int (((p0.toUInt32 >>> ((16 : Int32) &&& 31).toUInt32).toInt32) &&& (255 : Int32))), .val (.int (((p0.toUInt32 >>> ((8 : Int32) &&& 31).toUInt32).toInt32) &&& (255 : Int32))), .val (.int (f3 (((p0.toUInt32 >>> ((16 : Int32) &&& 31).toUInt32).toInt32) &&& (255 : Int32)) (160 : Int32) (191 : Int32)))] [(.int (f3 (((p0.toUInt32 >>> ((16 : Int32) &&& 31).toUInt32).toInt32) &&& (255 : Int32)) (160 : Int32) (191 : Int32)))])) t
        refine XS.ifNo X2.here hx rfl (hb hby d2_133) rfl ((if0 _ _).trans (feq hc4).1) ?_
        show Steps p.tables e below (T2.setTop (mkF m 136 #[.val (.int p0), .val (.int (((p0.toUInt32 >>> ((24 : Int32) &&& 31).toUInt32).toInt32) &&& (255 : Int32))), .val (.int (((p0.toUInt32 >>> ((16 : Int32) &&& 31).toUInt32).toInt32) &&& (255 : Int32))), .val (.int (((p0.toUInt32 >>> ((8 : Int32) &&& 31).toUInt32).toInt32) &&& (255 : Int32))), .val (.int (f3 (((p0.toUInt32 >>> ((16 : Int32) &&& 31).toUInt32).toInt32) &&& (255 : Int32)) (160 : Int32) (191 : Int32)))] [])) t
        refine XS.iloadN X2.here hx rfl (hb hby d2_136) rfl ?_
        show Steps p.tables e below (T2.setTop (mkF m 137 #[.val (.int p0), .val (.int (((p0.toUInt32 >>> ((24 : Int32) &&& 31).toUInt32).toInt32) &&& (255 : Int32))), .val (.int (((p0.toUInt32 >>> ((16 : Int32) &&& 31).toUInt32).toInt32) &&& (255 : Int32))), .val (.int (((p0.toUInt32 >>> ((8 : Int32) &&& 31).toUInt32).toInt32) &&& (255 : Int32))), .val (.int (f3 (((p0.toUInt32 >>> ((16 : Int32) &&& 31).toUInt32).toInt32) &&& (255 : Int32)) (160 : Int32) (191 : Int32)))] [(.int (((p0.toUInt32 >>> ((8 : Int32) &&& 31).toUInt32).toInt32) &&& (255 : Int32)))])) t
        refine XS.sipush X2.here hx rfl (hb hby d2_137) ?_
        show Steps p.tables e below (T2.setTop (mkF m 140 #[.val (.int p0), .val (.int (((p0.toUInt32 >>> ((24 : Int32) &&& 31).toUInt32).toInt32) &&& (255 : Int32))), .val (.int (((p0.toUInt32 >>> ((16 : Int32) &&& 31).toUInt32).toInt32) &&& (255 : Int32))), .val (.int (((p0.toUInt32 >>> ((8 : Int32) &&& 31).toUInt32).toInt32) &&& (255 : Int32))), .val (.int (f3 (((p0.toUInt32 >>> ((16 : Int32) &&& 31).toUInt32).toInt32) &&& (255 : Int32)) (160 : Int32) (191 : Int32)))] [(.int (128 : Int32)), (.int (((p0.toUInt32 >>> ((8 : Int32) &&& 31).toUInt32).toInt32) &&& (255 : Int32)))])) t
        refine XS.sipush X2.here hx rfl (hb hby d2_140) ?_
        exact k
      obtain ⟨_, _, ⟨T5, L5, k5, n5⟩, -, X5, ⟨Lc5, hQ5, l5, y5, z5⟩, st5⟩ := Jvm.LawKit.callS X2 hx (y := (⟨"com/example/bare_octets/bareoctets/codec/WellFormedSequencesIsCommonThreeByteFormPinLaw", "inRange", "(III)Z"⟩ : MethodName)) hown (mvT hZ (hw _ (List.mem_of_getElem? (i := 10) rfl))) (mvT hZ (hw _ (List.mem_of_getElem? (i := 11) rfl))) (mvT hZ (hw _ (List.mem_of_getElem? (i := 8) rfl))) (mvT hZ (hw _ (List.mem_of_getElem? (i := 12) rfl))) (by decide) (backOf (W := 0) (rm3 l Z az hw [] (((p0.toUInt32 >>> ((8 : Int32) &&& 31).toUInt32).toInt32) &&& (255 : Int32)) (128 : Int32) (191 : Int32) h0 n0 Z0 ) hZ (hw _ (List.mem_of_getElem? (i := 12) rfl)) (hw _ (List.mem_of_getElem? (i := 8) rfl)) (by decide) (by decide)) (g := (mkF m 143 #[.val (.int p0), .val (.int (((p0.toUInt32 >>> ((24 : Int32) &&& 31).toUInt32).toInt32) &&& (255 : Int32))), .val (.int (((p0.toUInt32 >>> ((16 : Int32) &&& 31).toUInt32).toInt32) &&& (255 : Int32))), .val (.int (((p0.toUInt32 >>> ((8 : Int32) &&& 31).toUInt32).toInt32) &&& (255 : Int32))), .val (.int (f3 (((p0.toUInt32 >>> ((16 : Int32) &&& 31).toUInt32).toInt32) &&& (255 : Int32)) (160 : Int32) (191 : Int32)))] [(.int (191 : Int32)), (.int (128 : Int32)), (.int (((p0.toUInt32 >>> ((8 : Int32) &&& 31).toUInt32).toInt32) &&& (255 : Int32)))])) rfl (by rw [hml]; rfl) (argsL := [(.int (((p0.toUInt32 >>> ((8 : Int32) &&& 31).toUInt32).toInt32) &&& (255 : Int32))), (.int (128 : Int32)), (.int (191 : Int32))]) (rest := []) (lenOf own_pd0 rfl) rfl (by show 2 * 0 + _ ≤ _; exact Nat.le_of_eq rfl) (hb hby d2_143) (fun _ _ => ⟨rfl, e2, (by decide : 0 + 0 ≤ _), (by decide : 0 + 0 ≤ _)⟩)
      dsimp only [Pt.U, Pt.locs, Pt.cells, Pt.slots] at X5 l5 y5 z5 st5 hQ5
      subst l5 y5 z5
      obtain ⟨rfl, N5q, e5⟩ := hQ5
      have N6 := Fr.app N3 N5q
      refine Goes.by st5 ?_
      show Goes p.tables e below _ (T5.setTop (mkF m 146 #[.val (.int p0), .val (.int (((p0.toUInt32 >>> ((24 : Int32) &&& 31).toUInt32).toInt32) &&& (255 : Int32))), .val (.int (((p0.toUInt32 >>> ((16 : Int32) &&& 31).toUInt32).toInt32) &&& (255 : Int32))), .val (.int (((p0.toUInt32 >>> ((8 : Int32) &&& 31).toUInt32).toInt32) &&& (255 : Int32))), .val (.int (f3 (((p0.toUInt32 >>> ((16 : Int32) &&& 31).toUInt32).toInt32) &&& (255 : Int32)) (160 : Int32) (191 : Int32)))] [(.int (f3 (((p0.toUInt32 >>> ((8 : Int32) &&& 31).toUInt32).toInt32) &&& (255 : Int32)) (128 : Int32) (191 : Int32)))]))
      by_cases hc7 : (f3 (((p0.toUInt32 >>> ((8 : Int32) &&& 31).toUInt32).toInt32) &&& (255 : Int32)) (128 : Int32) (191 : Int32)) = (0 : Int32)
      · refine Goes.by (B := T5.setTop (mkF m 154 #[.val (.int p0), .val (.int (((p0.toUInt32 >>> ((24 : Int32) &&& 31).toUInt32).toInt32) &&& (255 : Int32))), .val (.int (((p0.toUInt32 >>> ((16 : Int32) &&& 31).toUInt32).toInt32) &&& (255 : Int32))), .val (.int (((p0.toUInt32 >>> ((8 : Int32) &&& 31).toUInt32).toInt32) &&& (255 : Int32))), .val (.int (f3 (((p0.toUInt32 >>> ((16 : Int32) &&& 31).toUInt32).toInt32) &&& (255 : Int32)) (160 : Int32) (191 : Int32)))] [(.int (0 : Int32))])) (fun t k => ?_) ?_
        · show Steps p.tables e below (T5.setTop (mkF m 146 #[.val (.int p0), .val (.int (((p0.toUInt32 >>> ((24 : Int32) &&& 31).toUInt32).toInt32) &&& (255 : Int32))), .val (.int (((p0.toUInt32 >>> ((16 : Int32) &&& 31).toUInt32).toInt32) &&& (255 : Int32))), .val (.int (((p0.toUInt32 >>> ((8 : Int32) &&& 31).toUInt32).toInt32) &&& (255 : Int32))), .val (.int (f3 (((p0.toUInt32 >>> ((16 : Int32) &&& 31).toUInt32).toInt32) &&& (255 : Int32)) (160 : Int32) (191 : Int32)))] [(.int (f3 (((p0.toUInt32 >>> ((8 : Int32) &&& 31).toUInt32).toInt32) &&& (255 : Int32)) (128 : Int32) (191 : Int32)))])) t
          refine XS.ifYes X5.here hx rfl (pc0 := 146) (pc' := 153) rfl (hb hby d2_146) rfl ((if0 _ _).trans (teq hc7).1) (by decide) (by decide) ?_
          show Steps p.tables e below (T5.setTop (mkF m 153 #[.val (.int p0), .val (.int (((p0.toUInt32 >>> ((24 : Int32) &&& 31).toUInt32).toInt32) &&& (255 : Int32))), .val (.int (((p0.toUInt32 >>> ((16 : Int32) &&& 31).toUInt32).toInt32) &&& (255 : Int32))), .val (.int (((p0.toUInt32 >>> ((8 : Int32) &&& 31).toUInt32).toInt32) &&& (255 : Int32))), .val (.int (f3 (((p0.toUInt32 >>> ((16 : Int32) &&& 31).toUInt32).toInt32) &&& (255 : Int32)) (160 : Int32) (191 : Int32)))] [])) t
          refine XS.iconst X5.here hx rfl (hb hby d2_153) ?_
          exact k
        obtain ⟨fs, hr, hrun, hended, hW, hsame⟩ := X5.leave (v := some (.int (0 : Int32))) (fun h => by rw [Bd.returns] at h; cases h)
        refine Goes.mk _ _ ?_ ⟨hrun, hended, _, _, rfl, ?_, ⟨_, rfl⟩, hW, hsame.mono (by decide) (by decide)⟩
        · exact retN X5 hx (t := .boolean) Bd.returns (by simp) (hb hby d2_154) hr
        · show Q2 Z p0 h0 n0 _ T5.heap _
          rw [e5]
          exact ⟨(by simp only [f2, if_pos hc1, if_neg hc4, if_pos hc7]), N6, rfl⟩
      · refine Goes.by (B := T5.setTop (mkF m 154 #[.val (.int p0), .val (.int (((p0.toUInt32 >>> ((24 : Int32) &&& 31).toUInt32).toInt32) &&& (255 : Int32))), .val (.int (((p0.toUInt32 >>> ((16 : Int32) &&& 31).toUInt32).toInt32) &&& (255 : Int32))), .val (.int (((p0.toUInt32 >>> ((8 : Int32) &&& 31).toUInt32).toInt32) &&& (255 : Int32))), .val (.int (f3 (((p0.toUInt32 >>> ((16 : Int32) &&& 31).toUInt32).toInt32) &&& (255 : Int32)) (160 : Int32) (191 : Int32)))] [(.int (1 : Int32))])) (fun t k => ?_) ?_
        · show Steps p.tables e below (T5.setTop (mkF m 146 #[.val (.int p0), .val (.int (((p0.toUInt32 >>> ((24 : Int32) &&& 31).toUInt32).toInt32) &&& (255 : Int32))), .val (.int (((p0.toUInt32 >>> ((16 : Int32) &&& 31).toUInt32).toInt32) &&& (255 : Int32))), .val (.int (((p0.toUInt32 >>> ((8 : Int32) &&& 31).toUInt32).toInt32) &&& (255 : Int32))), .val (.int (f3 (((p0.toUInt32 >>> ((16 : Int32) &&& 31).toUInt32).toInt32) &&& (255 : Int32)) (160 : Int32) (191 : Int32)))] [(.int (f3 (((p0.toUInt32 >>> ((8 : Int32) &&& 31).toUInt32).toInt32) &&& (255 : Int32)) (128 : Int32) (191 : Int32)))])) t
          refine XS.ifNo X5.here hx rfl (hb hby d2_146) rfl ((if0 _ _).trans (feq hc7).1) ?_
          show Steps p.tables e below (T5.setTop (mkF m 149 #[.val (.int p0), .val (.int (((p0.toUInt32 >>> ((24 : Int32) &&& 31).toUInt32).toInt32) &&& (255 : Int32))), .val (.int (((p0.toUInt32 >>> ((16 : Int32) &&& 31).toUInt32).toInt32) &&& (255 : Int32))), .val (.int (((p0.toUInt32 >>> ((8 : Int32) &&& 31).toUInt32).toInt32) &&& (255 : Int32))), .val (.int (f3 (((p0.toUInt32 >>> ((16 : Int32) &&& 31).toUInt32).toInt32) &&& (255 : Int32)) (160 : Int32) (191 : Int32)))] [])) t
          refine XS.iconst X5.here hx rfl (hb hby d2_149) ?_
          show Steps p.tables e below (T5.setTop (mkF m 150 #[.val (.int p0), .val (.int (((p0.toUInt32 >>> ((24 : Int32) &&& 31).toUInt32).toInt32) &&& (255 : Int32))), .val (.int (((p0.toUInt32 >>> ((16 : Int32) &&& 31).toUInt32).toInt32) &&& (255 : Int32))), .val (.int (((p0.toUInt32 >>> ((8 : Int32) &&& 31).toUInt32).toInt32) &&& (255 : Int32))), .val (.int (f3 (((p0.toUInt32 >>> ((16 : Int32) &&& 31).toUInt32).toInt32) &&& (255 : Int32)) (160 : Int32) (191 : Int32)))] [(.int (1 : Int32))])) t
          refine XS.goto X5.here hx rfl (pc0 := 150) (pc' := 154) rfl (hb hby d2_150) (by decide) (by decide) ?_
          exact k
        obtain ⟨fs, hr, hrun, hended, hW, hsame⟩ := X5.leave (v := some (.int (1 : Int32))) (fun h => by rw [Bd.returns] at h; cases h)
        refine Goes.mk _ _ ?_ ⟨hrun, hended, _, _, rfl, ?_, ⟨_, rfl⟩, hW, hsame.mono (by decide) (by decide)⟩
        · exact retN X5 hx (t := .boolean) Bd.returns (by simp) (hb hby d2_154) hr
        · show Q2 Z p0 h0 n0 _ T5.heap _
          rw [e5]
          exact ⟨(by simp only [f2, if_pos hc1, if_neg hc4, if_neg hc7]), N6, rfl⟩
  · refine Goes.by (B := s₁.setTop (mkF m 56 #[.val (.int p0), .val (.int (((p0.toUInt32 >>> ((24 : Int32) &&& 31).toUInt32).toInt32) &&& (255 : Int32))), .val (.int (((p0.toUInt32 >>> ((16 : Int32) &&& 31).toUInt32).toInt32) &&& (255 : Int32))), .val (.int (((p0.toUInt32 >>> ((8 : Int32) &&& 31).toUInt32).toInt32) &&& (255 : Int32))), .unset] [(.int (236 : Int32)), (.int (225 : Int32)), (.int (((p0.toUInt32 >>> ((24 : Int32) &&& 31).toUInt32).toInt32) &&& (255 : Int32)))])) (fun t k => ?_) ?_
    · show Steps p.tables e below (s₁.setTop (mkF m 31 #[.val (.int p0), .val (.int (((p0.toUInt32 >>> ((24 : Int32) &&& 31).toUInt32).toInt32) &&& (255 : Int32))), .val (.int (((p0.toUInt32 >>> ((16 : Int32) &&& 31).toUInt32).toInt32) &&& (255 : Int32))), .val (.int (((p0.toUInt32 >>> ((8 : Int32) &&& 31).toUInt32).toInt32) &&& (255 : Int32))), .unset] [(.int (224 : Int32)), (.int (((p0.toUInt32 >>> ((24 : Int32) &&& 31).toUInt32).toInt32) &&& (255 : Int32)))])) t
      refine XS.icmpYes X0.here hx rfl (pc0 := 31) (pc' := 49) rfl (hb hby d2_31) rfl (feq hc1).2 (by decide) (by decide) ?_
      show Steps p.tables e below (s₁.setTop (mkF m 49 #[.val (.int p0), .val (.int (((p0.toUInt32 >>> ((24 : Int32) &&& 31).toUInt32).toInt32) &&& (255 : Int32))), .val (.int (((p0.toUInt32 >>> ((16 : Int32) &&& 31).toUInt32).toInt32) &&& (255 : Int32))), .val (.int (((p0.toUInt32 >>> ((8 : Int32) &&& 31).toUInt32).toInt32) &&& (255 : Int32))), .unset] [])) t
      refine XS.iloadN X0.here hx rfl (hb hby d2_49) rfl ?_
      show Steps p.tables e below (s₁.setTop (mkF m 50 #[.val (.int p0), .val (.int (((p0.toUInt32 >>> ((24 : Int32) &&& 31).toUInt32).toInt32) &&& (255 : Int32))), .val (.int (((p0.toUInt32 >>> ((16 : Int32) &&& 31).toUInt32).toInt32) &&& (255 : Int32))), .val (.int (((p0.toUInt32 >>> ((8 : Int32) &&& 31).toUInt32).toInt32) &&& (255 : Int32))), .unset] [(.int (((p0.toUInt32 >>> ((24 : Int32) &&& 31).toUInt32).toInt32) &&& (255 : Int32)))])) t
      refine XS.sipush X0.here hx rfl (hb hby d2_50) ?_
      show Steps p.tables e below (s₁.setTop (mkF m 53 #[.val (.int p0), .val (.int (((p0.toUInt32 >>> ((24 : Int32) &&& 31).toUInt32).toInt32) &&& (255 : Int32))), .val (.int (((p0.toUInt32 >>> ((16 : Int32) &&& 31).toUInt32).toInt32) &&& (255 : Int32))), .val (.int (((p0.toUInt32 >>> ((8 : Int32) &&& 31).toUInt32).toInt32) &&& (255 : Int32))), .unset] [(.int (225 : Int32)), (.int (((p0.toUInt32 >>> ((24 : Int32) &&& 31).toUInt32).toInt32) &&& (255 : Int32)))])) t
      refine XS.sipush X0.here hx rfl (hb hby d2_53) ?_
      exact k
    obtain ⟨_, _, ⟨T8, L8, k8, n8⟩, -, X8, ⟨Lc8, hQ8, l8, y8, z8⟩, st8⟩ := Jvm.LawKit.callS X0 hx (y := (⟨"com/example/bare_octets/bareoctets/codec/WellFormedSequencesIsCommonThreeByteFormPinLaw", "inRange", "(III)Z"⟩ : MethodName)) hown (mvT hZ (hw _ (List.mem_of_getElem? (i := 10) rfl))) (mvT hZ (hw _ (List.mem_of_getElem? (i := 11) rfl))) (mvT hZ (hw _ (List.mem_of_getElem? (i := 8) rfl))) (mvT hZ (hw _ (List.mem_of_getElem? (i := 12) rfl))) (by decide) (backOf (W := 0) (rm3 l Z az hw [] (((p0.toUInt32 >>> ((24 : Int32) &&& 31).toUInt32).toInt32) &&& (255 : Int32)) (225 : Int32) (236 : Int32) h0 n0 Z0 ) hZ (hw _ (List.mem_of_getElem? (i := 12) rfl)) (hw _ (List.mem_of_getElem? (i := 8) rfl)) (by decide) (by decide)) (g := (mkF m 56 #[.val (.int p0), .val (.int (((p0.toUInt32 >>> ((24 : Int32) &&& 31).toUInt32).toInt32) &&& (255 : Int32))), .val (.int (((p0.toUInt32 >>> ((16 : Int32) &&& 31).toUInt32).toInt32) &&& (255 : Int32))), .val (.int (((p0.toUInt32 >>> ((8 : Int32) &&& 31).toUInt32).toInt32) &&& (255 : Int32))), .unset] [(.int (236 : Int32)), (.int (225 : Int32)), (.int (((p0.toUInt32 >>> ((24 : Int32) &&& 31).toUInt32).toInt32) &&& (255 : Int32)))])) rfl (by rw [hml]; rfl) (argsL := [(.int (((p0.toUInt32 >>> ((24 : Int32) &&& 31).toUInt32).toInt32) &&& (255 : Int32))), (.int (225 : Int32)), (.int (236 : Int32))]) (rest := []) (lenOf own_pd0 rfl) rfl (by show 2 * 0 + _ ≤ _; exact Nat.le_of_eq rfl) (hb hby d2_56) (fun _ _ => ⟨rfl, e0, (by decide : 0 + 0 ≤ _), (by decide : 0 + 0 ≤ _)⟩)
    dsimp only [Pt.U, Pt.locs, Pt.cells, Pt.slots] at X8 l8 y8 z8 st8 hQ8
    subst l8 y8 z8
    obtain ⟨rfl, N8q, e8⟩ := hQ8
    have N9 := Fr.app N0 N8q
    refine Goes.by st8 ?_
    show Goes p.tables e below _ (T8.setTop (mkF m 59 #[.val (.int p0), .val (.int (((p0.toUInt32 >>> ((24 : Int32) &&& 31).toUInt32).toInt32) &&& (255 : Int32))), .val (.int (((p0.toUInt32 >>> ((16 : Int32) &&& 31).toUInt32).toInt32) &&& (255 : Int32))), .val (.int (((p0.toUInt32 >>> ((8 : Int32) &&& 31).toUInt32).toInt32) &&& (255 : Int32))), .unset] [(.int (f3 (((p0.toUInt32 >>> ((24 : Int32) &&& 31).toUInt32).toInt32) &&& (255 : Int32)) (225 : Int32) (236 : Int32)))]))
    by_cases hc10 : (f3 (((p0.toUInt32 >>> ((24 : Int32) &&& 31).toUInt32).toInt32) &&& (255 : Int32)) (225 : Int32) (236 : Int32)) = (0 : Int32)
    · refine Goes.by (B := T8.setTop (mkF m 81 #[.val (.int p0), .val (.int (((p0.toUInt32 >>> ((24 : Int32) &&& 31).toUInt32).toInt32) &&& (255 : Int32))), .val (.int (((p0.toUInt32 >>> ((16 : Int32) &&& 31).toUInt32).toInt32) &&& (255 : Int32))), .val (.int (((p0.toUInt32 >>> ((8 : Int32) &&& 31).toUInt32).toInt32) &&& (255 : Int32))), .unset] [(.int (237 : Int32)), (.int (((p0.toUInt32 >>> ((24 : Int32) &&& 31).toUInt32).toInt32) &&& (255 : Int32)))])) (fun t k => ?_) ?_
      · show Steps p.tables e below (T8.setTop (mkF m 59 #[.val (.int p0), .val (.int (((p0.toUInt32 >>> ((24 : Int32) &&& 31).toUInt32).toInt32) &&& (255 : Int32))), .val (.int (((p0.toUInt32 >>> ((16 : Int32) &&& 31).toUInt32).toInt32) &&& (255 : Int32))), .val (.int (((p0.toUInt32 >>> ((8 : Int32) &&& 31).toUInt32).toInt32) &&& (255 : Int32))), .unset] [(.int (f3 (((p0.toUInt32 >>> ((24 : Int32) &&& 31).toUInt32).toInt32) &&& (255 : Int32)) (225 : Int32) (236 : Int32)))])) t
        refine XS.ifYes X8.here hx rfl (pc0 := 59) (pc' := 77) rfl (hb hby d2_59) rfl ((if0 _ _).trans (teq hc10).1) (by decide) (by decide) ?_
        show Steps p.tables e below (T8.setTop (mkF m 77 #[.val (.int p0), .val (.int (((p0.toUInt32 >>> ((24 : Int32) &&& 31).toUInt32).toInt32) &&& (255 : Int32))), .val (.int (((p0.toUInt32 >>> ((16 : Int32) &&& 31).toUInt32).toInt32) &&& (255 : Int32))), .val (.int (((p0.toUInt32 >>> ((8 : Int32) &&& 31).toUInt32).toInt32) &&& (255 : Int32))), .unset] [])) t
        refine XS.iloadN X8.here hx rfl (hb hby d2_77) rfl ?_
        show Steps p.tables e below (T8.setTop (mkF m 78 #[.val (.int p0), .val (.int (((p0.toUInt32 >>> ((24 : Int32) &&& 31).toUInt32).toInt32) &&& (255 : Int32))), .val (.int (((p0.toUInt32 >>> ((16 : Int32) &&& 31).toUInt32).toInt32) &&& (255 : Int32))), .val (.int (((p0.toUInt32 >>> ((8 : Int32) &&& 31).toUInt32).toInt32) &&& (255 : Int32))), .unset] [(.int (((p0.toUInt32 >>> ((24 : Int32) &&& 31).toUInt32).toInt32) &&& (255 : Int32)))])) t
        refine XS.sipush X8.here hx rfl (hb hby d2_78) ?_
        exact k
      by_cases hc11 : (((p0.toUInt32 >>> ((24 : Int32) &&& 31).toUInt32).toInt32) &&& (255 : Int32)) = (237 : Int32)
      · refine Goes.by (B := T8.setTop (mkF m 91 #[.val (.int p0), .val (.int (((p0.toUInt32 >>> ((24 : Int32) &&& 31).toUInt32).toInt32) &&& (255 : Int32))), .val (.int (((p0.toUInt32 >>> ((16 : Int32) &&& 31).toUInt32).toInt32) &&& (255 : Int32))), .val (.int (((p0.toUInt32 >>> ((8 : Int32) &&& 31).toUInt32).toInt32) &&& (255 : Int32))), .unset] [(.int (159 : Int32)), (.int (128 : Int32)), (.int (((p0.toUInt32 >>> ((16 : Int32) &&& 31).toUInt32).toInt32) &&& (255 : Int32)))])) (fun t k => ?_) ?_
        · show Steps p.tables e below (T8.setTop (mkF m 81 #[.val (.int p0), .val (.int (((p0.toUInt32 >>> ((24 : Int32) &&& 31).toUInt32).toInt32) &&& (255 : Int32))), .val (.int (((p0.toUInt32 >>> ((16 : Int32) &&& 31).toUInt32).toInt32) &&& (255 : Int32))), .val (.int (((p0.toUInt32 >>> ((8 : Int32) &&& 31).toUInt32).toInt32) &&& (255 : Int32))), .unset] [(.int (237 : Int32)), (.int (((p0.toUInt32 >>> ((24 : Int32) &&& 31).toUInt32).toInt32) &&& (255 : Int32)))])) t
          refine XS.icmpNo X8.here hx rfl (hb hby d2_81) rfl (teq hc11).2 ?_
          show Steps p.tables e below (T8.setTop (mkF m 84 #[.val (.int p0), .val (.int (((p0.toUInt32 >>> ((24 : Int32) &&& 31).toUInt32).toInt32) &&& (255 : Int32))), .val (.int (((p0.toUInt32 >>> ((16 : Int32) &&& 31).toUInt32).toInt32) &&& (255 : Int32))), .val (.int (((p0.toUInt32 >>> ((8 : Int32) &&& 31).toUInt32).toInt32) &&& (255 : Int32))), .unset] [])) t
          refine XS.iloadN X8.here hx rfl (hb hby d2_84) rfl ?_
          show Steps p.tables e below (T8.setTop (mkF m 85 #[.val (.int p0), .val (.int (((p0.toUInt32 >>> ((24 : Int32) &&& 31).toUInt32).toInt32) &&& (255 : Int32))), .val (.int (((p0.toUInt32 >>> ((16 : Int32) &&& 31).toUInt32).toInt32) &&& (255 : Int32))), .val (.int (((p0.toUInt32 >>> ((8 : Int32) &&& 31).toUInt32).toInt32) &&& (255 : Int32))), .unset] [(.int (((p0.toUInt32 >>> ((16 : Int32) &&& 31).toUInt32).toInt32) &&& (255 : Int32)))])) t
          refine XS.sipush X8.here hx rfl (hb hby d2_85) ?_
          show Steps p.tables e below (T8.setTop (mkF m 88 #[.val (.int p0), .val (.int (((p0.toUInt32 >>> ((24 : Int32) &&& 31).toUInt32).toInt32) &&& (255 : Int32))), .val (.int (((p0.toUInt32 >>> ((16 : Int32) &&& 31).toUInt32).toInt32) &&& (255 : Int32))), .val (.int (((p0.toUInt32 >>> ((8 : Int32) &&& 31).toUInt32).toInt32) &&& (255 : Int32))), .unset] [(.int (128 : Int32)), (.int (((p0.toUInt32 >>> ((16 : Int32) &&& 31).toUInt32).toInt32) &&& (255 : Int32)))])) t
          refine XS.sipush X8.here hx rfl (hb hby d2_88) ?_
          exact k
        obtain ⟨_, _, ⟨T12, L12, k12, n12⟩, -, X12, ⟨Lc12, hQ12, l12, y12, z12⟩, st12⟩ := Jvm.LawKit.callS X8 hx (y := (⟨"com/example/bare_octets/bareoctets/codec/WellFormedSequencesIsCommonThreeByteFormPinLaw", "inRange", "(III)Z"⟩ : MethodName)) hown (mvT hZ (hw _ (List.mem_of_getElem? (i := 10) rfl))) (mvT hZ (hw _ (List.mem_of_getElem? (i := 11) rfl))) (mvT hZ (hw _ (List.mem_of_getElem? (i := 8) rfl))) (mvT hZ (hw _ (List.mem_of_getElem? (i := 12) rfl))) (by decide) (backOf (W := 0) (rm3 l Z az hw [] (((p0.toUInt32 >>> ((16 : Int32) &&& 31).toUInt32).toInt32) &&& (255 : Int32)) (128 : Int32) (159 : Int32) h0 n0 Z0 ) hZ (hw _ (List.mem_of_getElem? (i := 12) rfl)) (hw _ (List.mem_of_getElem? (i := 8) rfl)) (by decide) (by decide)) (g := (mkF m 91 #[.val (.int p0), .val (.int (((p0.toUInt32 >>> ((24 : Int32) &&& 31).toUInt32).toInt32) &&& (255 : Int32))), .val (.int (((p0.toUInt32 >>> ((16 : Int32) &&& 31).toUInt32).toInt32) &&& (255 : Int32))), .val (.int (((p0.toUInt32 >>> ((8 : Int32) &&& 31).toUInt32).toInt32) &&& (255 : Int32))), .unset] [(.int (159 : Int32)), (.int (128 : Int32)), (.int (((p0.toUInt32 >>> ((16 : Int32) &&& 31).toUInt32).toInt32) &&& (255 : Int32)))])) rfl (by rw [hml]; rfl) (argsL := [(.int (((p0.toUInt32 >>> ((16 : Int32) &&& 31).toUInt32).toInt32) &&& (255 : Int32))), (.int (128 : Int32)), (.int (159 : Int32))]) (rest := []) (lenOf own_pd0 rfl) rfl (by show 2 * 0 + _ ≤ _; exact Nat.le_of_eq rfl) (hb hby d2_91) (fun _ _ => ⟨rfl, e8, (by decide : 0 + 0 ≤ _), (by decide : 0 + 0 ≤ _)⟩)
        dsimp only [Pt.U, Pt.locs, Pt.cells, Pt.slots] at X12 l12 y12 z12 st12 hQ12
        subst l12 y12 z12
        obtain ⟨rfl, N12q, e12⟩ := hQ12
        have N13 := Fr.app N9 N12q
        refine Goes.by st12 ?_
        show Goes p.tables e below _ (T12.setTop (mkF m 94 #[.val (.int p0), .val (.int (((p0.toUInt32 >>> ((24 : Int32) &&& 31).toUInt32).toInt32) &&& (255 : Int32))), .val (.int (((p0.toUInt32 >>> ((16 : Int32) &&& 31).toUInt32).toInt32) &&& (255 : Int32))), .val (.int (((p0.toUInt32 >>> ((8 : Int32) &&& 31).toUInt32).toInt32) &&& (255 : Int32))), .unset] [(.int (f3 (((p0.toUInt32 >>> ((16 : Int32) &&& 31).toUInt32).toInt32) &&& (255 : Int32)) (128 : Int32) (159 : Int32)))]))
        refine Goes.by (B := T12.setTop (mkF m 133 #[.val (.int p0), .val (.int (((p0.toUInt32 >>> ((24 : Int32) &&& 31).toUInt32).toInt32) &&& (255 : Int32))), .val (.int (((p0.toUInt32 >>> ((16 : Int32) &&& 31).toUInt32).toInt32) &&& (255 : Int32))), .val (.int (((p0.toUInt32 >>> ((8 : Int32) &&& 31).toUInt32).toInt32) &&& (255 : Int32))), .val (.int (f3 (((p0.toUInt32 >>> ((16 : Int32) &&& 31).toUInt32).toInt32) &&& (255 : Int32)) (128 : Int32) (159 : Int32)))] [(.int (f3 (((p0.toUInt32 >>> ((16 : Int32) &&& 31).toUInt32).toInt32) &&& (255 : Int32)) (128 : Int32) (159 : Int32)))])) (fun t k => ?_) ?_
        · show Steps p.tables e below (T12.setTop (mkF m 94 #[.val (.int p0), .val (.int (((p0.toUInt32 >>> ((24 : Int32) &&& 31).toUInt32).toInt32) &&& (255 : Int32))), .val (.int (((p0.toUInt32 >>> ((16 : Int32) &&& 31).toUInt32).toInt32) &&& (255 : Int32))), .val (.int (((p0.toUInt32 >>> ((8 : Int32) &&& 31).toUInt32).toInt32) &&& (255 : Int32))), .unset] [(.int (f3 (((p0.toUInt32 >>> ((16 : Int32) &&& 31).toUInt32).toInt32) &&& (255 : Int32)) (128 : Int32) (159 : Int32)))])) t
          refine XS.istore X12.here hx rfl (hb hby d2_94) rfl (l' := #[.val (.int p0), .val (.int (((p0.toUInt32 >>> ((24 : Int32) &&& 31).toUInt32).toInt32) &&& (255 : Int32))), .val (.int (((p0.toUInt32 >>> ((16 : Int32) &&& 31).toUInt32).toInt32) &&& (255 : Int32))), .val (.int (((p0.toUInt32 >>> ((8 : Int32) &&& 31).toUInt32).toInt32) &&& (255 : Int32))), .val (.int (f3 (((p0.toUInt32 >>> ((16 : Int32) &&& 31).toUInt32).toInt32) &&& (255 : Int32)) (128 : Int32) (159 : Int32)))]) rfl ?_
          show Steps p.tables e below (T12.setTop (mkF m 96 #[.val (.int p0), .val (.int (((p0.toUInt32 >>> ((24 : Int32) &&& 31).toUInt32).toInt32) &&& (255 : Int32))), .val (.int (((p0.toUInt32 >>> ((16 : Int32) &&& 31).toUInt32).toInt32) &&& (255 : Int32))), .val (.int (((p0.toUInt32 >>> ((8 : Int32) &&& 31).toUInt32).toInt32) &&& (255 : Int32))), .val (.int (f3 (((p0.toUInt32 >>> ((16 : Int32) &&& 31).toUInt32).toInt32) &&& (255 : Int32)) (128 : Int32) (159 : Int32)))] [])) t
          refine XS.goto X12.here hx rfl (pc0 := 96) (pc' := 131) rfl (hb hby d2_96) (by decide) (by decide) ?_
          show Steps p.tables e below (T12.setTop (mkF m 131 #[.val (.int p0), .val (.int (((p0.toUInt32 >>> ((24 : Int32) &&& 31).toUInt32).toInt32) &&& (255 : Int32))), .val (.int (((p0.toUInt32 >>> ((16 : Int32) &&& 31).toUInt32).toInt32) &&& (255 : Int32))), .val (.int (((p0.toUInt32 >>> ((8 : Int32) &&& 31).toUInt32).toInt32) &&& (255 : Int32))), .val (.int (f3 (((p0.toUInt32 >>> ((16 : Int32) &&& 31).toUInt32).toInt32) &&& (255 : Int32)) (128 : Int32) (159 : Int32)))] [])) t
          refine XS.iload X12.here hx rfl (hb hby d2_131) rfl ?_
          exact k
        by_cases hc14 : (f3 (((p0.toUInt32 >>> ((16 : Int32) &&& 31).toUInt32).toInt32) &&& (255 : Int32)) (128 : Int32) (159 : Int32)) = (0 : Int32)
        · refine Goes.by (B := T12.setTop (mkF m 154 #[.val (.int p0), .val (.int (((p0.toUInt32 >>> ((24 : Int32) &&& 31).toUInt32).toInt32) &&& (255 : Int32))), .val (.int (((p0.toUInt32 >>> ((16 : Int32) &&& 31).toUInt32).toInt32) &&& (255 : Int32))), .val (.int (((p0.toUInt32 >>> ((8 : Int32) &&& 31).toUInt32).toInt32) &&& (255 : Int32))), .val (.int (f3 (((p0.toUInt32 >>> ((16 : Int32) &&& 31).toUInt32).toInt32) &&& (255 : Int32)) (128 : Int32) (159 : Int32)))] [(.int (0 : Int32))])) (fun t k => ?_) ?_
          · show Steps p.tables e below (T12.setTop (mkF m 133 #[.val (.int p0), .val (.int (((p0.toUInt32 >>> ((24 : Int32) &&& 31).toUInt32).toInt32) &&& (255 : Int32))), .val (.int (((p0.toUInt32 >>> ((16 : Int32) &&& 31).toUInt32).toInt32) &&& (255 : Int32))), .val (.int (((p0.toUInt32 >>> ((8 : Int32) &&& 31).toUInt32).toInt32) &&& (255 : Int32))), .val (.int (f3 (((p0.toUInt32 >>> ((16 : Int32) &&& 31).toUInt32).toInt32) &&& (255 : Int32)) (128 : Int32) (159 : Int32)))] [(.int (f3 (((p0.toUInt32 >>> ((16 : Int32) &&& 31).toUInt32).toInt32) &&& (255 : Int32)) (128 : Int32) (159 : Int32)))])) t
            refine XS.ifYes X12.here hx rfl (pc0 := 133) (pc' := 153) rfl (hb hby d2_133) rfl ((if0 _ _).trans (teq hc14).1) (by decide) (by decide) ?_
            show Steps p.tables e below (T12.setTop (mkF m 153 #[.val (.int p0), .val (.int (((p0.toUInt32 >>> ((24 : Int32) &&& 31).toUInt32).toInt32) &&& (255 : Int32))), .val (.int (((p0.toUInt32 >>> ((16 : Int32) &&& 31).toUInt32).toInt32) &&& (255 : Int32))), .val (.int (((p0.toUInt32 >>> ((8 : Int32) &&& 31).toUInt32).toInt32) &&& (255 : Int32))), .val (.int (f3 (((p0.toUInt32 >>> ((16 : Int32) &&& 31).toUInt32).toInt32) &&& (255 : Int32)) (128 : Int32) (159 : Int32)))] [])) t
            refine XS.iconst X12.here hx rfl (hb hby d2_153) ?_
            exact k
          obtain ⟨fs, hr, hrun, hended, hW, hsame⟩ := X12.leave (v := some (.int (0 : Int32))) (fun h => by rw [Bd.returns] at h; cases h)
          refine Goes.mk _ _ ?_ ⟨hrun, hended, _, _, rfl, ?_, ⟨_, rfl⟩, hW, hsame.mono (by decide) (by decide)⟩
          · exact retN X12 hx (t := .boolean) Bd.returns (by simp) (hb hby d2_154) hr
          · show Q2 Z p0 h0 n0 _ T12.heap _
            rw [e12]
            exact ⟨(by simp only [f2, if_neg hc1, if_pos hc10, if_pos hc11, if_pos hc14]), N13, rfl⟩
        · refine Goes.by (B := T12.setTop (mkF m 143 #[.val (.int p0), .val (.int (((p0.toUInt32 >>> ((24 : Int32) &&& 31).toUInt32).toInt32) &&& (255 : Int32))), .val (.int (((p0.toUInt32 >>> ((16 : Int32) &&& 31).toUInt32).toInt32) &&& (255 : Int32))), .val (.int (((p0.toUInt32 >>> ((8 : Int32) &&& 31).toUInt32).toInt32) &&& (255 : Int32))), .val (.int (f3 (((p0.toUInt32 >>> ((16 : Int32) &&& 31).toUInt32).toInt32) &&& (255 : Int32)) (128 : Int32) (159 : Int32)))] [(.int (191 : Int32)), (.int (128 : Int32)), (.int (((p0.toUInt32 >>> ((8 : Int32) &&& 31).toUInt32).toInt32) &&& (255 : Int32)))])) (fun t k => ?_) ?_
          · show Steps p.tables e below (T12.setTop (mkF m 133 #[.val (.int p0), .val (.int (((p0.toUInt32 >>> ((24 : Int32) &&& 31).toUInt32).toInt32) &&& (255 : Int32))), .val (.int (((p0.toUInt32 >>> ((16 : Int32) &&& 31).toUInt32).toInt32) &&& (255 : Int32))), .val (.int (((p0.toUInt32 >>> ((8 : Int32) &&& 31).toUInt32).toInt32) &&& (255 : Int32))), .val (.int (f3 (((p0.toUInt32 >>> ((16 : Int32) &&& 31).toUInt32).toInt32) &&& (255 : Int32)) (128 : Int32) (159 : Int32)))] [(.int (f3 (((p0.toUInt32 >>> ((16 : Int32) &&& 31).toUInt32).toInt32) &&& (255 : Int32)) (128 : Int32) (159 : Int32)))])) t
            refine XS.ifNo X12.here hx rfl (hb hby d2_133) rfl ((if0 _ _).trans (feq hc14).1) ?_
            show Steps p.tables e below (T12.setTop (mkF m 136 #[.val (.int p0), .val (.int (((p0.toUInt32 >>> ((24 : Int32) &&& 31).toUInt32).toInt32) &&& (255 : Int32))), .val (.int (((p0.toUInt32 >>> ((16 : Int32) &&& 31).toUInt32).toInt32) &&& (255 : Int32))), .val (.int (((p0.toUInt32 >>> ((8 : Int32) &&& 31).toUInt32).toInt32) &&& (255 : Int32))), .val (.int (f3 (((p0.toUInt32 >>> ((16 : Int32) &&& 31).toUInt32).toInt32) &&& (255 : Int32)) (128 : Int32) (159 : Int32)))] [])) t
            refine XS.iloadN X12.here hx rfl (hb hby d2_136) rfl ?_
            show Steps p.tables e below (T12.setTop (mkF m 137 #[.val (.int p0), .val (.int (((p0.toUInt32 >>> ((24 : Int32) &&& 31).toUInt32).toInt32) &&& (255 : Int32))), .val (.int (((p0.toUInt32 >>> ((16 : Int32) &&& 31).toUInt32).toInt32) &&& (255 : Int32))), .val (.int (((p0.toUInt32 >>> ((8 : Int32) &&& 31).toUInt32).toInt32) &&& (255 : Int32))), .val (.int (f3 (((p0.toUInt32 >>> ((16 : Int32) &&& 31).toUInt32).toInt32) &&& (255 : Int32)) (128 : Int32) (159 : Int32)))] [(.int (((p0.toUInt32 >>> ((8 : Int32) &&& 31).toUInt32).toInt32) &&& (255 : Int32)))])) t
            refine XS.sipush X12.here hx rfl (hb hby d2_137) ?_
            show Steps p.tables e below (T12.setTop (mkF m 140 #[.val (.int p0), .val (.int (((p0.toUInt32 >>> ((24 : Int32) &&& 31).toUInt32).toInt32) &&& (255 : Int32))), .val (.int (((p0.toUInt32 >>> ((16 : Int32) &&& 31).toUInt32).toInt32) &&& (255 : Int32))), .val (.int (((p0.toUInt32 >>> ((8 : Int32) &&& 31).toUInt32).toInt32) &&& (255 : Int32))), .val (.int (f3 (((p0.toUInt32 >>> ((16 : Int32) &&& 31).toUInt32).toInt32) &&& (255 : Int32)) (128 : Int32) (159 : Int32)))] [(.int (128 : Int32)), (.int (((p0.toUInt32 >>> ((8 : Int32) &&& 31).toUInt32).toInt32) &&& (255 : Int32)))])) t
            refine XS.sipush X12.here hx rfl (hb hby d2_140) ?_
            exact k
          obtain ⟨_, _, ⟨T15, L15, k15, n15⟩, -, X15, ⟨Lc15, hQ15, l15, y15, z15⟩, st15⟩ := Jvm.LawKit.callS X12 hx (y := (⟨"com/example/bare_octets/bareoctets/codec/WellFormedSequencesIsCommonThreeByteFormPinLaw", "inRange", "(III)Z"⟩ : MethodName)) hown (mvT hZ (hw _ (List.mem_of_getElem? (i := 10) rfl))) (mvT hZ (hw _ (List.mem_of_getElem? (i := 11) rfl))) (mvT hZ (hw _ (List.mem_of_getElem? (i := 8) rfl))) (mvT hZ (hw _ (List.mem_of_getElem? (i := 12) rfl))) (by decide) (backOf (W := 0) (rm3 l Z az hw [] (((p0.toUInt32 >>> ((8 : Int32) &&& 31).toUInt32).toInt32) &&& (255 : Int32)) (128 : Int32) (191 : Int32) h0 n0 Z0 ) hZ (hw _ (List.mem_of_getElem? (i := 12) rfl)) (hw _ (List.mem_of_getElem? (i := 8) rfl)) (by decide) (by decide)) (g := (mkF m 143 #[.val (.int p0), .val (.int (((p0.toUInt32 >>> ((24 : Int32) &&& 31).toUInt32).toInt32) &&& (255 : Int32))), .val (.int (((p0.toUInt32 >>> ((16 : Int32) &&& 31).toUInt32).toInt32) &&& (255 : Int32))), .val (.int (((p0.toUInt32 >>> ((8 : Int32) &&& 31).toUInt32).toInt32) &&& (255 : Int32))), .val (.int (f3 (((p0.toUInt32 >>> ((16 : Int32) &&& 31).toUInt32).toInt32) &&& (255 : Int32)) (128 : Int32) (159 : Int32)))] [(.int (191 : Int32)), (.int (128 : Int32)), (.int (((p0.toUInt32 >>> ((8 : Int32) &&& 31).toUInt32).toInt32) &&& (255 : Int32)))])) rfl (by rw [hml]; rfl) (argsL := [(.int (((p0.toUInt32 >>> ((8 : Int32) &&& 31).toUInt32).toInt32) &&& (255 : Int32))), (.int (128 : Int32)), (.int (191 : Int32))]) (rest := []) (lenOf own_pd0 rfl) rfl (by show 2 * 0 + _ ≤ _; exact Nat.le_of_eq rfl) (hb hby d2_143) (fun _ _ => ⟨rfl, e12, (by decide : 0 + 0 ≤ _), (by decide : 0 + 0 ≤ _)⟩)
          dsimp only [Pt.U, Pt.locs, Pt.cells, Pt.slots] at X15 l15 y15 z15 st15 hQ15
          subst l15 y15 z15
          obtain ⟨rfl, N15q, e15⟩ := hQ15
          have N16 := Fr.app N13 N15q
          refine Goes.by st15 ?_
          show Goes p.tables e below _ (T15.setTop (mkF m 146 #[.val (.int p0), .val (.int (((p0.toUInt32 >>> ((24 : Int32) &&& 31).toUInt32).toInt32) &&& (255 : Int32))), .val (.int (((p0.toUInt32 >>> ((16 : Int32) &&& 31).toUInt32).toInt32) &&& (255 : Int32))), .val (.int (((p0.toUInt32 >>> ((8 : Int32) &&& 31).toUInt32).toInt32) &&& (255 : Int32))), .val (.int (f3 (((p0.toUInt32 >>> ((16 : Int32) &&& 31).toUInt32).toInt32) &&& (255 : Int32)) (128 : Int32) (159 : Int32)))] [(.int (f3 (((p0.toUInt32 >>> ((8 : Int32) &&& 31).toUInt32).toInt32) &&& (255 : Int32)) (128 : Int32) (191 : Int32)))]))
          by_cases hc17 : (f3 (((p0.toUInt32 >>> ((8 : Int32) &&& 31).toUInt32).toInt32) &&& (255 : Int32)) (128 : Int32) (191 : Int32)) = (0 : Int32)
          · refine Goes.by (B := T15.setTop (mkF m 154 #[.val (.int p0), .val (.int (((p0.toUInt32 >>> ((24 : Int32) &&& 31).toUInt32).toInt32) &&& (255 : Int32))), .val (.int (((p0.toUInt32 >>> ((16 : Int32) &&& 31).toUInt32).toInt32) &&& (255 : Int32))), .val (.int (((p0.toUInt32 >>> ((8 : Int32) &&& 31).toUInt32).toInt32) &&& (255 : Int32))), .val (.int (f3 (((p0.toUInt32 >>> ((16 : Int32) &&& 31).toUInt32).toInt32) &&& (255 : Int32)) (128 : Int32) (159 : Int32)))] [(.int (0 : Int32))])) (fun t k => ?_) ?_
            · show Steps p.tables e below (T15.setTop (mkF m 146 #[.val (.int p0), .val (.int (((p0.toUInt32 >>> ((24 : Int32) &&& 31).toUInt32).toInt32) &&& (255 : Int32))), .val (.int (((p0.toUInt32 >>> ((16 : Int32) &&& 31).toUInt32).toInt32) &&& (255 : Int32))), .val (.int (((p0.toUInt32 >>> ((8 : Int32) &&& 31).toUInt32).toInt32) &&& (255 : Int32))), .val (.int (f3 (((p0.toUInt32 >>> ((16 : Int32) &&& 31).toUInt32).toInt32) &&& (255 : Int32)) (128 : Int32) (159 : Int32)))] [(.int (f3 (((p0.toUInt32 >>> ((8 : Int32) &&& 31).toUInt32).toInt32) &&& (255 : Int32)) (128 : Int32) (191 : Int32)))])) t
              refine XS.ifYes X15.here hx rfl (pc0 := 146) (pc' := 153) rfl (hb hby d2_146) rfl ((if0 _ _).trans (teq hc17).1) (by decide) (by decide) ?_
              show Steps p.tables e below (T15.setTop (mkF m 153 #[.val (.int p0), .val (.int (((p0.toUInt32 >>> ((24 : Int32) &&& 31).toUInt32).toInt32) &&& (255 : Int32))), .val (.int (((p0.toUInt32 >>> ((16 : Int32) &&& 31).toUInt32).toInt32) &&& (255 : Int32))), .val (.int (((p0.toUInt32 >>> ((8 : Int32) &&& 31).toUInt32).toInt32) &&& (255 : Int32))), .val (.int (f3 (((p0.toUInt32 >>> ((16 : Int32) &&& 31).toUInt32).toInt32) &&& (255 : Int32)) (128 : Int32) (159 : Int32)))] [])) t
              refine XS.iconst X15.here hx rfl (hb hby d2_153) ?_
              exact k
            obtain ⟨fs, hr, hrun, hended, hW, hsame⟩ := X15.leave (v := some (.int (0 : Int32))) (fun h => by rw [Bd.returns] at h; cases h)
            refine Goes.mk _ _ ?_ ⟨hrun, hended, _, _, rfl, ?_, ⟨_, rfl⟩, hW, hsame.mono (by decide) (by decide)⟩
            · exact retN X15 hx (t := .boolean) Bd.returns (by simp) (hb hby d2_154) hr
            · show Q2 Z p0 h0 n0 _ T15.heap _
              rw [e15]
              exact ⟨(by simp only [f2, if_neg hc1, if_pos hc10, if_pos hc11, if_neg hc14, if_pos hc17]), N16, rfl⟩
          · refine Goes.by (B := T15.setTop (mkF m 154 #[.val (.int p0), .val (.int (((p0.toUInt32 >>> ((24 : Int32) &&& 31).toUInt32).toInt32) &&& (255 : Int32))), .val (.int (((p0.toUInt32 >>> ((16 : Int32) &&& 31).toUInt32).toInt32) &&& (255 : Int32))), .val (.int (((p0.toUInt32 >>> ((8 : Int32) &&& 31).toUInt32).toInt32) &&& (255 : Int32))), .val (.int (f3 (((p0.toUInt32 >>> ((16 : Int32) &&& 31).toUInt32).toInt32) &&& (255 : Int32)) (128 : Int32) (159 : Int32)))] [(.int (1 : Int32))])) (fun t k => ?_) ?_
            · show Steps p.tables e below (T15.setTop (mkF m 146 #[.val (.int p0), .val (.int (((p0.toUInt32 >>> ((24 : Int32) &&& 31).toUInt32).toInt32) &&& (255 : Int32))), .val (.int (((p0.toUInt32 >>> ((16 : Int32) &&& 31).toUInt32).toInt32) &&& (255 : Int32))), .val (.int (((p0.toUInt32 >>> ((8 : Int32) &&& 31).toUInt32).toInt32) &&& (255 : Int32))), .val (.int (f3 (((p0.toUInt32 >>> ((16 : Int32) &&& 31).toUInt32).toInt32) &&& (255 : Int32)) (128 : Int32) (159 : Int32)))] [(.int (f3 (((p0.toUInt32 >>> ((8 : Int32) &&& 31).toUInt32).toInt32) &&& (255 : Int32)) (128 : Int32) (191 : Int32)))])) t
              refine XS.ifNo X15.here hx rfl (hb hby d2_146) rfl ((if0 _ _).trans (feq hc17).1) ?_
              show Steps p.tables e below (T15.setTop (mkF m 149 #[.val (.int p0), .val (.int (((p0.toUInt32 >>> ((24 : Int32) &&& 31).toUInt32).toInt32) &&& (255 : Int32))), .val (.int (((p0.toUInt32 >>> ((16 : Int32) &&& 31).toUInt32).toInt32) &&& (255 : Int32))), .val (.int (((p0.toUInt32 >>> ((8 : Int32) &&& 31).toUInt32).toInt32) &&& (255 : Int32))), .val (.int (f3 (((p0.toUInt32 >>> ((16 : Int32) &&& 31).toUInt32).toInt32) &&& (255 : Int32)) (128 : Int32) (159 : Int32)))] [])) t
              refine XS.iconst X15.here hx rfl (hb hby d2_149) ?_
              show Steps p.tables e below (T15.setTop (mkF m 150 #[.val (.int p0), .val (.int (((p0.toUInt32 >>> ((24 : Int32) &&& 31).toUInt32).toInt32) &&& (255 : Int32))), .val (.int (((p0.toUInt32 >>> ((16 : Int32) &&& 31).toUInt32).toInt32) &&& (255 : Int32))), .val (.int (((p0.toUInt32 >>> ((8 : Int32) &&& 31).toUInt32).toInt32) &&& (255 : Int32))), .val (.int (f3 (((p0.toUInt32 >>> ((16 : Int32) &&& 31).toUInt32).toInt32) &&& (255 : Int32)) (128 : Int32) (159 : Int32)))] [(.int (1 : Int32))])) t
              refine XS.goto X15.here hx rfl (pc0 := 150) (pc' := 154) rfl (hb hby d2_150) (by decide) (by decide) ?_
              exact k
            obtain ⟨fs, hr, hrun, hended, hW, hsame⟩ := X15.leave (v := some (.int (1 : Int32))) (fun h => by rw [Bd.returns] at h; cases h)
            refine Goes.mk _ _ ?_ ⟨hrun, hended, _, _, rfl, ?_, ⟨_, rfl⟩, hW, hsame.mono (by decide) (by decide)⟩
            · exact retN X15 hx (t := .boolean) Bd.returns (by simp) (hb hby d2_154) hr
            · show Q2 Z p0 h0 n0 _ T15.heap _
              rw [e15]
              exact ⟨(by simp only [f2, if_neg hc1, if_pos hc10, if_pos hc11, if_neg hc14, if_neg hc17]), N16, rfl⟩
      · refine Goes.by (B := T8.setTop (mkF m 103 #[.val (.int p0), .val (.int (((p0.toUInt32 >>> ((24 : Int32) &&& 31).toUInt32).toInt32) &&& (255 : Int32))), .val (.int (((p0.toUInt32 >>> ((16 : Int32) &&& 31).toUInt32).toInt32) &&& (255 : Int32))), .val (.int (((p0.toUInt32 >>> ((8 : Int32) &&& 31).toUInt32).toInt32) &&& (255 : Int32))), .unset] [(.int (238 : Int32)), (.int (((p0.toUInt32 >>> ((24 : Int32) &&& 31).toUInt32).toInt32) &&& (255 : Int32)))])) (fun t k => ?_) ?_
        · show Steps p.tables e below (T8.setTop (mkF m 81 #[.val (.int p0), .val (.int (((p0.toUInt32 >>> ((24 : Int32) &&& 31).toUInt32).toInt32) &&& (255 : Int32))), .val (.int (((p0.toUInt32 >>> ((16 : Int32) &&& 31).toUInt32).toInt32) &&& (255 : Int32))), .val (.int (((p0.toUInt32 >>> ((8 : Int32) &&& 31).toUInt32).toInt32) &&& (255 : Int32))), .unset] [(.int (237 : Int32)), (.int (((p0.toUInt32 >>> ((24 : Int32) &&& 31).toUInt32).toInt32) &&& (255 : Int32)))])) t
          refine XS.icmpYes X8.here hx rfl (pc0 := 81) (pc' := 99) rfl (hb hby d2_81) rfl (feq hc11).2 (by decide) (by decide) ?_
          show Steps p.tables e below (T8.setTop (mkF m 99 #[.val (.int p0), .val (.int (((p0.toUInt32 >>> ((24 : Int32) &&& 31).toUInt32).toInt32) &&& (255 : Int32))), .val (.int (((p0.toUInt32 >>> ((16 : Int32) &&& 31).toUInt32).toInt32) &&& (255 : Int32))), .val (.int (((p0.toUInt32 >>> ((8 : Int32) &&& 31).toUInt32).toInt32) &&& (255 : Int32))), .unset] [])) t
          refine XS.iloadN X8.here hx rfl (hb hby d2_99) rfl ?_
          show Steps p.tables e below (T8.setTop (mkF m 100 #[.val (.int p0), .val (.int (((p0.toUInt32 >>> ((24 : Int32) &&& 31).toUInt32).toInt32) &&& (255 : Int32))), .val (.int (((p0.toUInt32 >>> ((16 : Int32) &&& 31).toUInt32).toInt32) &&& (255 : Int32))), .val (.int (((p0.toUInt32 >>> ((8 : Int32) &&& 31).toUInt32).toInt32) &&& (255 : Int32))), .unset] [(.int (((p0.toUInt32 >>> ((24 : Int32) &&& 31).toUInt32).toInt32) &&& (255 : Int32)))])) t
          refine XS.sipush X8.here hx rfl (hb hby d2_100) ?_
          exact k
        by_cases hc18 : (((p0.toUInt32 >>> ((24 : Int32) &&& 31).toUInt32).toInt32) &&& (255 : Int32)) = (238 : Int32)
        · refine Goes.by (B := T8.setTop (mkF m 120 #[.val (.int p0), .val (.int (((p0.toUInt32 >>> ((24 : Int32) &&& 31).toUInt32).toInt32) &&& (255 : Int32))), .val (.int (((p0.toUInt32 >>> ((16 : Int32) &&& 31).toUInt32).toInt32) &&& (255 : Int32))), .val (.int (((p0.toUInt32 >>> ((8 : Int32) &&& 31).toUInt32).toInt32) &&& (255 : Int32))), .unset] [(.int (191 : Int32)), (.int (128 : Int32)), (.int (((p0.toUInt32 >>> ((16 : Int32) &&& 31).toUInt32).toInt32) &&& (255 : Int32)))])) (fun t k => ?_) ?_
          · show Steps p.tables e below (T8.setTop (mkF m 103 #[.val (.int p0), .val (.int (((p0.toUInt32 >>> ((24 : Int32) &&& 31).toUInt32).toInt32) &&& (255 : Int32))), .val (.int (((p0.toUInt32 >>> ((16 : Int32) &&& 31).toUInt32).toInt32) &&& (255 : Int32))), .val (.int (((p0.toUInt32 >>> ((8 : Int32) &&& 31).toUInt32).toInt32) &&& (255 : Int32))), .unset] [(.int (238 : Int32)), (.int (((p0.toUInt32 >>> ((24 : Int32) &&& 31).toUInt32).toInt32) &&& (255 : Int32)))])) t
            refine XS.icmpYes X8.here hx rfl (pc0 := 103) (pc' := 113) rfl (hb hby d2_103) rfl (teq hc18).1 (by decide) (by decide) ?_
            show Steps p.tables e below (T8.setTop (mkF m 113 #[.val (.int p0), .val (.int (((p0.toUInt32 >>> ((24 : Int32) &&& 31).toUInt32).toInt32) &&& (255 : Int32))), .val (.int (((p0.toUInt32 >>> ((16 : Int32) &&& 31).toUInt32).toInt32) &&& (255 : Int32))), .val (.int (((p0.toUInt32 >>> ((8 : Int32) &&& 31).toUInt32).toInt32) &&& (255 : Int32))), .unset] [])) t
            refine XS.iloadN X8.here hx rfl (hb hby d2_113) rfl ?_
            show Steps p.tables e below (T8.setTop (mkF m 114 #[.val (.int p0), .val (.int (((p0.toUInt32 >>> ((24 : Int32) &&& 31).toUInt32).toInt32) &&& (255 : Int32))), .val (.int (((p0.toUInt32 >>> ((16 : Int32) &&& 31).toUInt32).toInt32) &&& (255 : Int32))), .val (.int (((p0.toUInt32 >>> ((8 : Int32) &&& 31).toUInt32).toInt32) &&& (255 : Int32))), .unset] [(.int (((p0.toUInt32 >>> ((16 : Int32) &&& 31).toUInt32).toInt32) &&& (255 : Int32)))])) t
            refine XS.sipush X8.here hx rfl (hb hby d2_114) ?_
            show Steps p.tables e below (T8.setTop (mkF m 117 #[.val (.int p0), .val (.int (((p0.toUInt32 >>> ((24 : Int32) &&& 31).toUInt32).toInt32) &&& (255 : Int32))), .val (.int (((p0.toUInt32 >>> ((16 : Int32) &&& 31).toUInt32).toInt32) &&& (255 : Int32))), .val (.int (((p0.toUInt32 >>> ((8 : Int32) &&& 31).toUInt32).toInt32) &&& (255 : Int32))), .unset] [(.int (128 : Int32)), (.int (((p0.toUInt32 >>> ((16 : Int32) &&& 31).toUInt32).toInt32) &&& (255 : Int32)))])) t
            refine XS.sipush X8.here hx rfl (hb hby d2_117) ?_
            exact k
          obtain ⟨_, _, ⟨T19, L19, k19, n19⟩, -, X19, ⟨Lc19, hQ19, l19, y19, z19⟩, st19⟩ := Jvm.LawKit.callS X8 hx (y := (⟨"com/example/bare_octets/bareoctets/codec/WellFormedSequencesIsCommonThreeByteFormPinLaw", "inRange", "(III)Z"⟩ : MethodName)) hown (mvT hZ (hw _ (List.mem_of_getElem? (i := 10) rfl))) (mvT hZ (hw _ (List.mem_of_getElem? (i := 11) rfl))) (mvT hZ (hw _ (List.mem_of_getElem? (i := 8) rfl))) (mvT hZ (hw _ (List.mem_of_getElem? (i := 12) rfl))) (by decide) (backOf (W := 0) (rm3 l Z az hw [] (((p0.toUInt32 >>> ((16 : Int32) &&& 31).toUInt32).toInt32) &&& (255 : Int32)) (128 : Int32) (191 : Int32) h0 n0 Z0 ) hZ (hw _ (List.mem_of_getElem? (i := 12) rfl)) (hw _ (List.mem_of_getElem? (i := 8) rfl)) (by decide) (by decide)) (g := (mkF m 120 #[.val (.int p0), .val (.int (((p0.toUInt32 >>> ((24 : Int32) &&& 31).toUInt32).toInt32) &&& (255 : Int32))), .val (.int (((p0.toUInt32 >>> ((16 : Int32) &&& 31).toUInt32).toInt32) &&& (255 : Int32))), .val (.int (((p0.toUInt32 >>> ((8 : Int32) &&& 31).toUInt32).toInt32) &&& (255 : Int32))), .unset] [(.int (191 : Int32)), (.int (128 : Int32)), (.int (((p0.toUInt32 >>> ((16 : Int32) &&& 31).toUInt32).toInt32) &&& (255 : Int32)))])) rfl (by rw [hml]; rfl) (argsL := [(.int (((p0.toUInt32 >>> ((16 : Int32) &&& 31).toUInt32).toInt32) &&& (255 : Int32))), (.int (128 : Int32)), (.int (191 : Int32))]) (rest := []) (lenOf own_pd0 rfl) rfl (by show 2 * 0 + _ ≤ _; exact Nat.le_of_eq rfl) (hb hby d2_120) (fun _ _ => ⟨rfl, e8, (by decide : 0 + 0 ≤ _), (by decide : 0 + 0 ≤ _)⟩)
          dsimp only [Pt.U, Pt.locs, Pt.cells, Pt.slots] at X19 l19 y19 z19 st19 hQ19
          subst l19 y19 z19
          obtain ⟨rfl, N19q, e19⟩ := hQ19
          have N20 := Fr.app N9 N19q
          refine Goes.by st19 ?_
          show Goes p.tables e below _ (T19.setTop (mkF m 123 #[.val (.int p0), .val (.int (((p0.toUInt32 >>> ((24 : Int32) &&& 31).toUInt32).toInt32) &&& (255 : Int32))), .val (.int (((p0.toUInt32 >>> ((16 : Int32) &&& 31).toUInt32).toInt32) &&& (255 : Int32))), .val (.int (((p0.toUInt32 >>> ((8 : Int32) &&& 31).toUInt32).toInt32) &&& (255 : Int32))), .unset] [(.int (f3 (((p0.toUInt32 >>> ((16 : Int32) &&& 31).toUInt32).toInt32) &&& (255 : Int32)) (128 : Int32) (191 : Int32)))]))
          refine Goes.by (B := T19.setTop (mkF m 133 #[.val (.int p0), .val (.int (((p0.toUInt32 >>> ((24 : Int32) &&& 31).toUInt32).toInt32) &&& (255 : Int32))), .val (.int (((p0.toUInt32 >>> ((16 : Int32) &&& 31).toUInt32).toInt32) &&& (255 : Int32))), .val (.int (((p0.toUInt32 >>> ((8 : Int32) &&& 31).toUInt32).toInt32) &&& (255 : Int32))), .val (.int (f3 (((p0.toUInt32 >>> ((16 : Int32) &&& 31).toUInt32).toInt32) &&& (255 : Int32)) (128 : Int32) (191 : Int32)))] [(.int (f3 (((p0.toUInt32 >>> ((16 : Int32) &&& 31).toUInt32).toInt32) &&& (255 : Int32)) (128 : Int32) (191 : Int32)))])) (fun t k => ?_) ?_
          · show Steps p.tables e below (T19.setTop (mkF m 123 #[.val (.int p0), .val (.int (((p0.toUInt32 >>> ((24 : Int32) &&& 31).toUInt32).toInt32) &&& (255 : Int32))), .val (.int (((p0.toUInt32 >>> ((16 : Int32) &&& 31).toUInt32).toInt32) &&& (255 : Int32))), .val (.int (((p0.toUInt32 >>> ((8 : Int32) &&& 31).toUInt32).toInt32) &&& (255 : Int32))), .unset] [(.int (f3 (((p0.toUInt32 >>> ((16 : Int32) &&& 31).toUInt32).toInt32) &&& (255 : Int32)) (128 : Int32) (191 : Int32)))])) t
            refine XS.istore X19.here hx rfl (hb hby d2_123) rfl (l' := #[.val (.int p0), .val (.int (((p0.toUInt32 >>> ((24 : Int32) &&& 31).toUInt32).toInt32) &&& (255 : Int32))), .val (.int (((p0.toUInt32 >>> ((16 : Int32) &&& 31).toUInt32).toInt32) &&& (255 : Int32))), .val (.int (((p0.toUInt32 >>> ((8 : Int32) &&& 31).toUInt32).toInt32) &&& (255 : Int32))), .val (.int (f3 (((p0.toUInt32 >>> ((16 : Int32) &&& 31).toUInt32).toInt32) &&& (255 : Int32)) (128 : Int32) (191 : Int32)))]) rfl ?_
            show Steps p.tables e below (T19.setTop (mkF m 125 #[.val (.int p0), .val (.int (((p0.toUInt32 >>> ((24 : Int32) &&& 31).toUInt32).toInt32) &&& (255 : Int32))), .val (.int (((p0.toUInt32 >>> ((16 : Int32) &&& 31).toUInt32).toInt32) &&& (255 : Int32))), .val (.int (((p0.toUInt32 >>> ((8 : Int32) &&& 31).toUInt32).toInt32) &&& (255 : Int32))), .val (.int (f3 (((p0.toUInt32 >>> ((16 : Int32) &&& 31).toUInt32).toInt32) &&& (255 : Int32)) (128 : Int32) (191 : Int32)))] [])) t
            refine XS.goto X19.here hx rfl (pc0 := 125) (pc' := 131) rfl (hb hby d2_125) (by decide) (by decide) ?_
            show Steps p.tables e below (T19.setTop (mkF m 131 #[.val (.int p0), .val (.int (((p0.toUInt32 >>> ((24 : Int32) &&& 31).toUInt32).toInt32) &&& (255 : Int32))), .val (.int (((p0.toUInt32 >>> ((16 : Int32) &&& 31).toUInt32).toInt32) &&& (255 : Int32))), .val (.int (((p0.toUInt32 >>> ((8 : Int32) &&& 31).toUInt32).toInt32) &&& (255 : Int32))), .val (.int (f3 (((p0.toUInt32 >>> ((16 : Int32) &&& 31).toUInt32).toInt32) &&& (255 : Int32)) (128 : Int32) (191 : Int32)))] [])) t
            refine XS.iload X19.here hx rfl (hb hby d2_131) rfl ?_
            exact k
          by_cases hc21 : (f3 (((p0.toUInt32 >>> ((16 : Int32) &&& 31).toUInt32).toInt32) &&& (255 : Int32)) (128 : Int32) (191 : Int32)) = (0 : Int32)
          · refine Goes.by (B := T19.setTop (mkF m 154 #[.val (.int p0), .val (.int (((p0.toUInt32 >>> ((24 : Int32) &&& 31).toUInt32).toInt32) &&& (255 : Int32))), .val (.int (((p0.toUInt32 >>> ((16 : Int32) &&& 31).toUInt32).toInt32) &&& (255 : Int32))), .val (.int (((p0.toUInt32 >>> ((8 : Int32) &&& 31).toUInt32).toInt32) &&& (255 : Int32))), .val (.int (f3 (((p0.toUInt32 >>> ((16 : Int32) &&& 31).toUInt32).toInt32) &&& (255 : Int32)) (128 : Int32) (191 : Int32)))] [(.int (0 : Int32))])) (fun t k => ?_) ?_
            · show Steps p.tables e below (T19.setTop (mkF m 133 #[.val (.int p0), .val (.int (((p0.toUInt32 >>> ((24 : Int32) &&& 31).toUInt32).toInt32) &&& (255 : Int32))), .val (.int (((p0.toUInt32 >>> ((16 : Int32) &&& 31).toUInt32).toInt32) &&& (255 : Int32))), .val (.int (((p0.toUInt32 >>> ((8 : Int32) &&& 31).toUInt32).toInt32) &&& (255 : Int32))), .val (.int (f3 (((p0.toUInt32 >>> ((16 : Int32) &&& 31).toUInt32).toInt32) &&& (255 : Int32)) (128 : Int32) (191 : Int32)))] [(.int (f3 (((p0.toUInt32 >>> ((16 : Int32) &&& 31).toUInt32).toInt32) &&& (255 : Int32)) (128 : Int32) (191 : Int32)))])) t
              refine XS.ifYes X19.here hx rfl (pc0 := 133) (pc' := 153) rfl (hb hby d2_133) rfl ((if0 _ _).trans (teq hc21).1) (by decide) (by decide) ?_
              show Steps p.tables e below (T19.setTop (mkF m 153 #[.val (.int p0), .val (.int (((p0.toUInt32 >>> ((24 : Int32) &&& 31).toUInt32).toInt32) &&& (255 : Int32))), .val (.int (((p0.toUInt32 >>> ((16 : Int32) &&& 31).toUInt32).toInt32) &&& (255 : Int32))), .val (.int (((p0.toUInt32 >>> ((8 : Int32) &&& 31).toUInt32).toInt32) &&& (255 : Int32))), .val (.int (f3 (((p0.toUInt32 >>> ((16 : Int32) &&& 31).toUInt32).toInt32) &&& (255 : Int32)) (128 : Int32) (191 : Int32)))] [])) t
              refine XS.iconst X19.here hx rfl (hb hby d2_153) ?_
              exact k
            obtain ⟨fs, hr, hrun, hended, hW, hsame⟩ := X19.leave (v := some (.int (0 : Int32))) (fun h => by rw [Bd.returns] at h; cases h)
            refine Goes.mk _ _ ?_ ⟨hrun, hended, _, _, rfl, ?_, ⟨_, rfl⟩, hW, hsame.mono (by decide) (by decide)⟩
            · exact retN X19 hx (t := .boolean) Bd.returns (by simp) (hb hby d2_154) hr
            · show Q2 Z p0 h0 n0 _ T19.heap _
              rw [e19]
              exact ⟨(by simp only [f2, if_neg hc1, if_pos hc10, if_neg hc11, if_pos hc18, if_pos hc21]), N20, rfl⟩
          · refine Goes.by (B := T19.setTop (mkF m 143 #[.val (.int p0), .val (.int (((p0.toUInt32 >>> ((24 : Int32) &&& 31).toUInt32).toInt32) &&& (255 : Int32))), .val (.int (((p0.toUInt32 >>> ((16 : Int32) &&& 31).toUInt32).toInt32) &&& (255 : Int32))), .val (.int (((p0.toUInt32 >>> ((8 : Int32) &&& 31).toUInt32).toInt32) &&& (255 : Int32))), .val (.int (f3 (((p0.toUInt32 >>> ((16 : Int32) &&& 31).toUInt32).toInt32) &&& (255 : Int32)) (128 : Int32) (191 : Int32)))] [(.int (191 : Int32)), (.int (128 : Int32)), (.int (((p0.toUInt32 >>> ((8 : Int32) &&& 31).toUInt32).toInt32) &&& (255 : Int32)))])) (fun t k => ?_) ?_
            · show Steps p.tables e below (T19.setTop (mkF m 133 #[.val (.int p0), .val (.int (((p0.toUInt32 >>> ((24 : Int32) &&& 31).toUInt32).toInt32) &&& (255 : Int32))), .val (.int (((p0.toUInt32 >>> ((16 : Int32) &&& 31).toUInt32).toInt32) &&& (255 : Int32))), .val (.int (((p0.toUInt32 >>> ((8 : Int32) &&& 31).toUInt32).toInt32) &&& (255 : Int32))), .val (.int (f3 (((p0.toUInt32 >>> ((16 : Int32) &&& 31).toUInt32).toInt32) &&& (255 : Int32)) (128 : Int32) (191 : Int32)))] [(.int (f3 (((p0.toUInt32 >>> ((16 : Int32) &&& 31).toUInt32).toInt32) &&& (255 : Int32)) (128 : Int32) (191 : Int32)))])) t
              refine XS.ifNo X19.here hx rfl (hb hby d2_133) rfl ((if0 _ _).trans (feq hc21).1) ?_
              show Steps p.tables e below (T19.setTop (mkF m 136 #[.val (.int p0), .val (.int (((p0.toUInt32 >>> ((24 : Int32) &&& 31).toUInt32).toInt32) &&& (255 : Int32))), .val (.int (((p0.toUInt32 >>> ((16 : Int32) &&& 31).toUInt32).toInt32) &&& (255 : Int32))), .val (.int (((p0.toUInt32 >>> ((8 : Int32) &&& 31).toUInt32).toInt32) &&& (255 : Int32))), .val (.int (f3 (((p0.toUInt32 >>> ((16 : Int32) &&& 31).toUInt32).toInt32) &&& (255 : Int32)) (128 : Int32) (191 : Int32)))] [])) t
              refine XS.iloadN X19.here hx rfl (hb hby d2_136) rfl ?_
              show Steps p.tables e below (T19.setTop (mkF m 137 #[.val (.int p0), .val (.int (((p0.toUInt32 >>> ((24 : Int32) &&& 31).toUInt32).toInt32) &&& (255 : Int32))), .val (.int (((p0.toUInt32 >>> ((16 : Int32) &&& 31).toUInt32).toInt32) &&& (255 : Int32))), .val (.int (((p0.toUInt32 >>> ((8 : Int32) &&& 31).toUInt32).toInt32) &&& (255 : Int32))), .val (.int (f3 (((p0.toUInt32 >>> ((16 : Int32) &&& 31).toUInt32).toInt32) &&& (255 : Int32)) (128 : Int32) (191 : Int32)))] [(.int (((p0.toUInt32 >>> ((8 : Int32) &&& 31).toUInt32).toInt32) &&& (255 : Int32)))])) t
              refine XS.sipush X19.here hx rfl (hb hby d2_137) ?_
              show Steps p.tables e below (T19.setTop (mkF m 140 #[.val (.int p0), .val (.int (((p0.toUInt32 >>> ((24 : Int32) &&& 31).toUInt32).toInt32) &&& (255 : Int32))), .val (.int (((p0.toUInt32 >>> ((16 : Int32) &&& 31).toUInt32).toInt32) &&& (255 : Int32))), .val (.int (((p0.toUInt32 >>> ((8 : Int32) &&& 31).toUInt32).toInt32) &&& (255 : Int32))), .val (.int (f3 (((p0.toUInt32 >>> ((16 : Int32) &&& 31).toUInt32).toInt32) &&& (255 : Int32)) (128 : Int32) (191 : Int32)))] [(.int (128 : Int32)), (.int (((p0.toUInt32 >>> ((8 : Int32) &&& 31).toUInt32).toInt32) &&& (255 : Int32)))])) t
              refine XS.sipush X19.here hx rfl (hb hby d2_140) ?_
              exact k
            obtain ⟨_, _, ⟨T22, L22, k22, n22⟩, -, X22, ⟨Lc22, hQ22, l22, y22, z22⟩, st22⟩ := Jvm.LawKit.callS X19 hx (y := (⟨"com/example/bare_octets/bareoctets/codec/WellFormedSequencesIsCommonThreeByteFormPinLaw", "inRange", "(III)Z"⟩ : MethodName)) hown (mvT hZ (hw _ (List.mem_of_getElem? (i := 10) rfl))) (mvT hZ (hw _ (List.mem_of_getElem? (i := 11) rfl))) (mvT hZ (hw _ (List.mem_of_getElem? (i := 8) rfl))) (mvT hZ (hw _ (List.mem_of_getElem? (i := 12) rfl))) (by decide) (backOf (W := 0) (rm3 l Z az hw [] (((p0.toUInt32 >>> ((8 : Int32) &&& 31).toUInt32).toInt32) &&& (255 : Int32)) (128 : Int32) (191 : Int32) h0 n0 Z0 ) hZ (hw _ (List.mem_of_getElem? (i := 12) rfl)) (hw _ (List.mem_of_getElem? (i := 8) rfl)) (by decide) (by decide)) (g := (mkF m 143 #[.val (.int p0), .val (.int (((p0.toUInt32 >>> ((24 : Int32) &&& 31).toUInt32).toInt32) &&& (255 : Int32))), .val (.int (((p0.toUInt32 >>> ((16 : Int32) &&& 31).toUInt32).toInt32) &&& (255 : Int32))), .val (.int (((p0.toUInt32 >>> ((8 : Int32) &&& 31).toUInt32).toInt32) &&& (255 : Int32))), .val (.int (f3 (((p0.toUInt32 >>> ((16 : Int32) &&& 31).toUInt32).toInt32) &&& (255 : Int32)) (128 : Int32) (191 : Int32)))] [(.int (191 : Int32)), (.int (128 : Int32)), (.int (((p0.toUInt32 >>> ((8 : Int32) &&& 31).toUInt32).toInt32) &&& (255 : Int32)))])) rfl (by rw [hml]; rfl) (argsL := [(.int (((p0.toUInt32 >>> ((8 : Int32) &&& 31).toUInt32).toInt32) &&& (255 : Int32))), (.int (128 : Int32)), (.int (191 : Int32))]) (rest := []) (lenOf own_pd0 rfl) rfl (by show 2 * 0 + _ ≤ _; exact Nat.le_of_eq rfl) (hb hby d2_143) (fun _ _ => ⟨rfl, e19, (by decide : 0 + 0 ≤ _), (by decide : 0 + 0 ≤ _)⟩)
            dsimp only [Pt.U, Pt.locs, Pt.cells, Pt.slots] at X22 l22 y22 z22 st22 hQ22
            subst l22 y22 z22
            obtain ⟨rfl, N22q, e22⟩ := hQ22
            have N23 := Fr.app N20 N22q
            refine Goes.by st22 ?_
            show Goes p.tables e below _ (T22.setTop (mkF m 146 #[.val (.int p0), .val (.int (((p0.toUInt32 >>> ((24 : Int32) &&& 31).toUInt32).toInt32) &&& (255 : Int32))), .val (.int (((p0.toUInt32 >>> ((16 : Int32) &&& 31).toUInt32).toInt32) &&& (255 : Int32))), .val (.int (((p0.toUInt32 >>> ((8 : Int32) &&& 31).toUInt32).toInt32) &&& (255 : Int32))), .val (.int (f3 (((p0.toUInt32 >>> ((16 : Int32) &&& 31).toUInt32).toInt32) &&& (255 : Int32)) (128 : Int32) (191 : Int32)))] [(.int (f3 (((p0.toUInt32 >>> ((8 : Int32) &&& 31).toUInt32).toInt32) &&& (255 : Int32)) (128 : Int32) (191 : Int32)))]))
            by_cases hc24 : (f3 (((p0.toUInt32 >>> ((8 : Int32) &&& 31).toUInt32).toInt32) &&& (255 : Int32)) (128 : Int32) (191 : Int32)) = (0 : Int32)
            · refine Goes.by (B := T22.setTop (mkF m 154 #[.val (.int p0), .val (.int (((p0.toUInt32 >>> ((24 : Int32) &&& 31).toUInt32).toInt32) &&& (255 : Int32))), .val (.int (((p0.toUInt32 >>> ((16 : Int32) &&& 31).toUInt32).toInt32) &&& (255 : Int32))), .val (.int (((p0.toUInt32 >>> ((8 : Int32) &&& 31).toUInt32).toInt32) &&& (255 : Int32))), .val (.int (f3 (((p0.toUInt32 >>> ((16 : Int32) &&& 31).toUInt32).toInt32) &&& (255 : Int32)) (128 : Int32) (191 : Int32)))] [(.int (0 : Int32))])) (fun t k => ?_) ?_
              · show Steps p.tables e below (T22.setTop (mkF m 146 #[.val (.int p0), .val (.int (((p0.toUInt32 >>> ((24 : Int32) &&& 31).toUInt32).toInt32) &&& (255 : Int32))), .val (.int (((p0.toUInt32 >>> ((16 : Int32) &&& 31).toUInt32).toInt32) &&& (255 : Int32))), .val (.int (((p0.toUInt32 >>> ((8 : Int32) &&& 31).toUInt32).toInt32) &&& (255 : Int32))), .val (.int (f3 (((p0.toUInt32 >>> ((16 : Int32) &&& 31).toUInt32).toInt32) &&& (255 : Int32)) (128 : Int32) (191 : Int32)))] [(.int (f3 (((p0.toUInt32 >>> ((8 : Int32) &&& 31).toUInt32).toInt32) &&& (255 : Int32)) (128 : Int32) (191 : Int32)))])) t
                refine XS.ifYes X22.here hx rfl (pc0 := 146) (pc' := 153) rfl (hb hby d2_146) rfl ((if0 _ _).trans (teq hc24).1) (by decide) (by decide) ?_
                show Steps p.tables e below (T22.setTop (mkF m 153 #[.val (.int p0), .val (.int (((p0.toUInt32 >>> ((24 : Int32) &&& 31).toUInt32).toInt32) &&& (255 : Int32))), .val (.int (((p0.toUInt32 >>> ((16 : Int32) &&& 31).toUInt32).toInt32) &&& (255 : Int32))), .val (.int (((p0.toUInt32 >>> ((8 : Int32) &&& 31).toUInt32).toInt32) &&& (255 : Int32))), .val (.int (f3 (((p0.toUInt32 >>> ((16 : Int32) &&& 31).toUInt32).toInt32) &&& (255 : Int32)) (128 : Int32) (191 : Int32)))] [])) t
                refine XS.iconst X22.here hx rfl (hb hby d2_153) ?_
                exact k
              obtain ⟨fs, hr, hrun, hended, hW, hsame⟩ := X22.leave (v := some (.int (0 : Int32))) (fun h => by rw [Bd.returns] at h; cases h)
              refine Goes.mk _ _ ?_ ⟨hrun, hended, _, _, rfl, ?_, ⟨_, rfl⟩, hW, hsame.mono (by decide) (by decide)⟩
              · exact retN X22 hx (t := .boolean) Bd.returns (by simp) (hb hby d2_154) hr
              · show Q2 Z p0 h0 n0 _ T22.heap _
                rw [e22]
                exact ⟨(by simp only [f2, if_neg hc1, if_pos hc10, if_neg hc11, if_pos hc18, if_neg hc21, if_pos hc24]), N23, rfl⟩
            · refine Goes.by (B := T22.setTop (mkF m 154 #[.val (.int p0), .val (.int (((p0.toUInt32 >>> ((24 : Int32) &&& 31).toUInt32).toInt32) &&& (255 : Int32))), .val (.int (((p0.toUInt32 >>> ((16 : Int32) &&& 31).toUInt32).toInt32) &&& (255 : Int32))), .val (.int (((p0.toUInt32 >>> ((8 : Int32) &&& 31).toUInt32).toInt32) &&& (255 : Int32))), .val (.int (f3 (((p0.toUInt32 >>> ((16 : Int32) &&& 31).toUInt32).toInt32) &&& (255 : Int32)) (128 : Int32) (191 : Int32)))] [(.int (1 : Int32))])) (fun t k => ?_) ?_
              · show Steps p.tables e below (T22.setTop (mkF m 146 #[.val (.int p0), .val (.int (((p0.toUInt32 >>> ((24 : Int32) &&& 31).toUInt32).toInt32) &&& (255 : Int32))), .val (.int (((p0.toUInt32 >>> ((16 : Int32) &&& 31).toUInt32).toInt32) &&& (255 : Int32))), .val (.int (((p0.toUInt32 >>> ((8 : Int32) &&& 31).toUInt32).toInt32) &&& (255 : Int32))), .val (.int (f3 (((p0.toUInt32 >>> ((16 : Int32) &&& 31).toUInt32).toInt32) &&& (255 : Int32)) (128 : Int32) (191 : Int32)))] [(.int (f3 (((p0.toUInt32 >>> ((8 : Int32) &&& 31).toUInt32).toInt32) &&& (255 : Int32)) (128 : Int32) (191 : Int32)))])) t
                refine XS.ifNo X22.here hx rfl (hb hby d2_146) rfl ((if0 _ _).trans (feq hc24).1) ?_
                show Steps p.tables e below (T22.setTop (mkF m 149 #[.val (.int p0), .val (.int (((p0.toUInt32 >>> ((24 : Int32) &&& 31).toUInt32).toInt32) &&& (255 : Int32))), .val (.int (((p0.toUInt32 >>> ((16 : Int32) &&& 31).toUInt32).toInt32) &&& (255 : Int32))), .val (.int (((p0.toUInt32 >>> ((8 : Int32) &&& 31).toUInt32).toInt32) &&& (255 : Int32))), .val (.int (f3 (((p0.toUInt32 >>> ((16 : Int32) &&& 31).toUInt32).toInt32) &&& (255 : Int32)) (128 : Int32) (191 : Int32)))] [])) t
                refine XS.iconst X22.here hx rfl (hb hby d2_149) ?_
                show Steps p.tables e below (T22.setTop (mkF m 150 #[.val (.int p0), .val (.int (((p0.toUInt32 >>> ((24 : Int32) &&& 31).toUInt32).toInt32) &&& (255 : Int32))), .val (.int (((p0.toUInt32 >>> ((16 : Int32) &&& 31).toUInt32).toInt32) &&& (255 : Int32))), .val (.int (((p0.toUInt32 >>> ((8 : Int32) &&& 31).toUInt32).toInt32) &&& (255 : Int32))), .val (.int (f3 (((p0.toUInt32 >>> ((16 : Int32) &&& 31).toUInt32).toInt32) &&& (255 : Int32)) (128 : Int32) (191 : Int32)))] [(.int (1 : Int32))])) t
                refine XS.goto X22.here hx rfl (pc0 := 150) (pc' := 154) rfl (hb hby d2_150) (by decide) (by decide) ?_
                exact k
              obtain ⟨fs, hr, hrun, hended, hW, hsame⟩ := X22.leave (v := some (.int (1 : Int32))) (fun h => by rw [Bd.returns] at h; cases h)
              refine Goes.mk _ _ ?_ ⟨hrun, hended, _, _, rfl, ?_, ⟨_, rfl⟩, hW, hsame.mono (by decide) (by decide)⟩
              · exact retN X22 hx (t := .boolean) Bd.returns (by simp) (hb hby d2_154) hr
              · show Q2 Z p0 h0 n0 _ T22.heap _
                rw [e22]
                exact ⟨(by simp only [f2, if_neg hc1, if_pos hc10, if_neg hc11, if_pos hc18, if_neg hc21, if_neg hc24]), N23, rfl⟩
        · refine Goes.by (B := T8.setTop (mkF m 110 #[.val (.int p0), .val (.int (((p0.toUInt32 >>> ((24 : Int32) &&& 31).toUInt32).toInt32) &&& (255 : Int32))), .val (.int (((p0.toUInt32 >>> ((16 : Int32) &&& 31).toUInt32).toInt32) &&& (255 : Int32))), .val (.int (((p0.toUInt32 >>> ((8 : Int32) &&& 31).toUInt32).toInt32) &&& (255 : Int32))), .unset] [(.int (239 : Int32)), (.int (((p0.toUInt32 >>> ((24 : Int32) &&& 31).toUInt32).toInt32) &&& (255 : Int32)))])) (fun t k => ?_) ?_
          · show Steps p.tables e below (T8.setTop (mkF m 103 #[.val (.int p0), .val (.int (((p0.toUInt32 >>> ((24 : Int32) &&& 31).toUInt32).toInt32) &&& (255 : Int32))), .val (.int (((p0.toUInt32 >>> ((16 : Int32) &&& 31).toUInt32).toInt32) &&& (255 : Int32))), .val (.int (((p0.toUInt32 >>> ((8 : Int32) &&& 31).toUInt32).toInt32) &&& (255 : Int32))), .unset] [(.int (238 : Int32)), (.int (((p0.toUInt32 >>> ((24 : Int32) &&& 31).toUInt32).toInt32) &&& (255 : Int32)))])) t
            refine XS.icmpNo X8.here hx rfl (hb hby d2_103) rfl (feq hc18).1 ?_
            show Steps p.tables e below (T8.setTop (mkF m 106 #[.val (.int p0), .val (.int (((p0.toUInt32 >>> ((24 : Int32) &&& 31).toUInt32).toInt32) &&& (255 : Int32))), .val (.int (((p0.toUInt32 >>> ((16 : Int32) &&& 31).toUInt32).toInt32) &&& (255 : Int32))), .val (.int (((p0.toUInt32 >>> ((8 : Int32) &&& 31).toUInt32).toInt32) &&& (255 : Int32))), .unset] [])) t
            refine XS.iloadN X8.here hx rfl (hb hby d2_106) rfl ?_
            show Steps p.tables e below (T8.setTop (mkF m 107 #[.val (.int p0), .val (.int (((p0.toUInt32 >>> ((24 : Int32) &&& 31).toUInt32).toInt32) &&& (255 : Int32))), .val (.int (((p0.toUInt32 >>> ((16 : Int32) &&& 31).toUInt32).toInt32) &&& (255 : Int32))), .val (.int (((p0.toUInt32 >>> ((8 : Int32) &&& 31).toUInt32).toInt32) &&& (255 : Int32))), .unset] [(.int (((p0.toUInt32 >>> ((24 : Int32) &&& 31).toUInt32).toInt32) &&& (255 : Int32)))])) t
            refine XS.sipush X8.here hx rfl (hb hby d2_107) ?_
            exact k
          by_cases hc25 : (((p0.toUInt32 >>> ((24 : Int32) &&& 31).toUInt32).toInt32) &&& (255 : Int32)) = (239 : Int32)
          · refine Goes.by (B := T8.setTop (mkF m 120 #[.val (.int p0), .val (.int (((p0.toUInt32 >>> ((24 : Int32) &&& 31).toUInt32).toInt32) &&& (255 : Int32))), .val (.int (((p0.toUInt32 >>> ((16 : Int32) &&& 31).toUInt32).toInt32) &&& (255 : Int32))), .val (.int (((p0.toUInt32 >>> ((8 : Int32) &&& 31).toUInt32).toInt32) &&& (255 : Int32))), .unset] [(.int (191 : Int32)), (.int (128 : Int32)), (.int (((p0.toUInt32 >>> ((16 : Int32) &&& 31).toUInt32).toInt32) &&& (255 : Int32)))])) (fun t k => ?_) ?_
            · show Steps p.tables e below (T8.setTop (mkF m 110 #[.val (.int p0), .val (.int (((p0.toUInt32 >>> ((24 : Int32) &&& 31).toUInt32).toInt32) &&& (255 : Int32))), .val (.int (((p0.toUInt32 >>> ((16 : Int32) &&& 31).toUInt32).toInt32) &&& (255 : Int32))), .val (.int (((p0.toUInt32 >>> ((8 : Int32) &&& 31).toUInt32).toInt32) &&& (255 : Int32))), .unset] [(.int (239 : Int32)), (.int (((p0.toUInt32 >>> ((24 : Int32) &&& 31).toUInt32).toInt32) &&& (255 : Int32)))])) t
              refine XS.icmpNo X8.here hx rfl (hb hby d2_110) rfl (teq hc25).2 ?_
              show Steps p.tables e below (T8.setTop (mkF m 113 #[.val (.int p0), .val (.int (((p0.toUInt32 >>> ((24 : Int32) &&& 31).toUInt32).toInt32) &&& (255 : Int32))), .val (.int (((p0.toUInt32 >>> ((16 : Int32) &&& 31).toUInt32).toInt32) &&& (255 : Int32))), .val (.int (((p0.toUInt32 >>> ((8 : Int32) &&& 31).toUInt32).toInt32) &&& (255 : Int32))), .unset] [])) t
              refine XS.iloadN X8.here hx rfl (hb hby d2_113) rfl ?_
              show Steps p.tables e below (T8.setTop (mkF m 114 #[.val (.int p0), .val (.int (((p0.toUInt32 >>> ((24 : Int32) &&& 31).toUInt32).toInt32) &&& (255 : Int32))), .val (.int (((p0.toUInt32 >>> ((16 : Int32) &&& 31).toUInt32).toInt32) &&& (255 : Int32))), .val (.int (((p0.toUInt32 >>> ((8 : Int32) &&& 31).toUInt32).toInt32) &&& (255 : Int32))), .unset] [(.int (((p0.toUInt32 >>> ((16 : Int32) &&& 31).toUInt32).toInt32) &&& (255 : Int32)))])) t
              refine XS.sipush X8.here hx rfl (hb hby d2_114) ?_
              show Steps p.tables e below (T8.setTop (mkF m 117 #[.val (.int p0), .val (.int (((p0.toUInt32 >>> ((24 : Int32) &&& 31).toUInt32).toInt32) &&& (255 : Int32))), .val (.int (((p0.toUInt32 >>> ((16 : Int32) &&& 31).toUInt32).toInt32) &&& (255 : Int32))), .val (.int (((p0.toUInt32 >>> ((8 : Int32) &&& 31).toUInt32).toInt32) &&& (255 : Int32))), .unset] [(.int (128 : Int32)), (.int (((p0.toUInt32 >>> ((16 : Int32) &&& 31).toUInt32).toInt32) &&& (255 : Int32)))])) t
              refine XS.sipush X8.here hx rfl (hb hby d2_117) ?_
              exact k
            obtain ⟨_, _, ⟨T26, L26, k26, n26⟩, -, X26, ⟨Lc26, hQ26, l26, y26, z26⟩, st26⟩ := Jvm.LawKit.callS X8 hx (y := (⟨"com/example/bare_octets/bareoctets/codec/WellFormedSequencesIsCommonThreeByteFormPinLaw", "inRange", "(III)Z"⟩ : MethodName)) hown (mvT hZ (hw _ (List.mem_of_getElem? (i := 10) rfl))) (mvT hZ (hw _ (List.mem_of_getElem? (i := 11) rfl))) (mvT hZ (hw _ (List.mem_of_getElem? (i := 8) rfl))) (mvT hZ (hw _ (List.mem_of_getElem? (i := 12) rfl))) (by decide) (backOf (W := 0) (rm3 l Z az hw [] (((p0.toUInt32 >>> ((16 : Int32) &&& 31).toUInt32).toInt32) &&& (255 : Int32)) (128 : Int32) (191 : Int32) h0 n0 Z0 ) hZ (hw _ (List.mem_of_getElem? (i := 12) rfl)) (hw _ (List.mem_of_getElem? (i := 8) rfl)) (by decide) (by decide)) (g := (mkF m 120 #[.val (.int p0), .val (.int (((p0.toUInt32 >>> ((24 : Int32) &&& 31).toUInt32).toInt32) &&& (255 : Int32))), .val (.int (((p0.toUInt32 >>> ((16 : Int32) &&& 31).toUInt32).toInt32) &&& (255 : Int32))), .val (.int (((p0.toUInt32 >>> ((8 : Int32) &&& 31).toUInt32).toInt32) &&& (255 : Int32))), .unset] [(.int (191 : Int32)), (.int (128 : Int32)), (.int (((p0.toUInt32 >>> ((16 : Int32) &&& 31).toUInt32).toInt32) &&& (255 : Int32)))])) rfl (by rw [hml]; rfl) (argsL := [(.int (((p0.toUInt32 >>> ((16 : Int32) &&& 31).toUInt32).toInt32) &&& (255 : Int32))), (.int (128 : Int32)), (.int (191 : Int32))]) (rest := []) (lenOf own_pd0 rfl) rfl (by show 2 * 0 + _ ≤ _; exact Nat.le_of_eq rfl) (hb hby d2_120) (fun _ _ => ⟨rfl, e8, (by decide : 0 + 0 ≤ _), (by decide : 0 + 0 ≤ _)⟩)
            dsimp only [Pt.U, Pt.locs, Pt.cells, Pt.slots] at X26 l26 y26 z26 st26 hQ26
            subst l26 y26 z26
            obtain ⟨rfl, N26q, e26⟩ := hQ26
            have N27 := Fr.app N9 N26q
            refine Goes.by st26 ?_
            show Goes p.tables e below _ (T26.setTop (mkF m 123 #[.val (.int p0), .val (.int (((p0.toUInt32 >>> ((24 : Int32) &&& 31).toUInt32).toInt32) &&& (255 : Int32))), .val (.int (((p0.toUInt32 >>> ((16 : Int32) &&& 31).toUInt32).toInt32) &&& (255 : Int32))), .val (.int (((p0.toUInt32 >>> ((8 : Int32) &&& 31).toUInt32).toInt32) &&& (255 : Int32))), .unset] [(.int (f3 (((p0.toUInt32 >>> ((16 : Int32) &&& 31).toUInt32).toInt32) &&& (255 : Int32)) (128 : Int32) (191 : Int32)))]))
            refine Goes.by (B := T26.setTop (mkF m 133 #[.val (.int p0), .val (.int (((p0.toUInt32 >>> ((24 : Int32) &&& 31).toUInt32).toInt32) &&& (255 : Int32))), .val (.int (((p0.toUInt32 >>> ((16 : Int32) &&& 31).toUInt32).toInt32) &&& (255 : Int32))), .val (.int (((p0.toUInt32 >>> ((8 : Int32) &&& 31).toUInt32).toInt32) &&& (255 : Int32))), .val (.int (f3 (((p0.toUInt32 >>> ((16 : Int32) &&& 31).toUInt32).toInt32) &&& (255 : Int32)) (128 : Int32) (191 : Int32)))] [(.int (f3 (((p0.toUInt32 >>> ((16 : Int32) &&& 31).toUInt32).toInt32) &&& (255 : Int32)) (128 : Int32) (191 : Int32)))])) (fun t k => ?_) ?_
            · show Steps p.tables e below (T26.setTop (mkF m 123 #[.val (.int p0), .val (.int (((p0.toUInt32 >>> ((24 : Int32) &&& 31).toUInt32).toInt32) &&& (255 : Int32))), .val (.int (((p0.toUInt32 >>> ((16 : Int32) &&& 31).toUInt32).toInt32) &&& (255 : Int32))), .val (.int (((p0.toUInt32 >>> ((8 : Int32) &&& 31).toUInt32).toInt32) &&& (255 : Int32))), .unset] [(.int (f3 (((p0.toUInt32 >>> ((16 : Int32) &&& 31).toUInt32).toInt32) &&& (255 : Int32)) (128 : Int32) (191 : Int32)))])) t
              refine XS.istore X26.here hx rfl (hb hby d2_123) rfl (l' := #[.val (.int p0), .val (.int (((p0.toUInt32 >>> ((24 : Int32) &&& 31).toUInt32).toInt32) &&& (255 : Int32))), .val (.int (((p0.toUInt32 >>> ((16 : Int32) &&& 31).toUInt32).toInt32) &&& (255 : Int32))), .val (.int (((p0.toUInt32 >>> ((8 : Int32) &&& 31).toUInt32).toInt32) &&& (255 : Int32))), .val (.int (f3 (((p0.toUInt32 >>> ((16 : Int32) &&& 31).toUInt32).toInt32) &&& (255 : Int32)) (128 : Int32) (191 : Int32)))]) rfl ?_
              show Steps p.tables e below (T26.setTop (mkF m 125 #[.val (.int p0), .val (.int (((p0.toUInt32 >>> ((24 : Int32) &&& 31).toUInt32).toInt32) &&& (255 : Int32))), .val (.int (((p0.toUInt32 >>> ((16 : Int32) &&& 31).toUInt32).toInt32) &&& (255 : Int32))), .val (.int (((p0.toUInt32 >>> ((8 : Int32) &&& 31).toUInt32).toInt32) &&& (255 : Int32))), .val (.int (f3 (((p0.toUInt32 >>> ((16 : Int32) &&& 31).toUInt32).toInt32) &&& (255 : Int32)) (128 : Int32) (191 : Int32)))] [])) t
              refine XS.goto X26.here hx rfl (pc0 := 125) (pc' := 131) rfl (hb hby d2_125) (by decide) (by decide) ?_
              show Steps p.tables e below (T26.setTop (mkF m 131 #[.val (.int p0), .val (.int (((p0.toUInt32 >>> ((24 : Int32) &&& 31).toUInt32).toInt32) &&& (255 : Int32))), .val (.int (((p0.toUInt32 >>> ((16 : Int32) &&& 31).toUInt32).toInt32) &&& (255 : Int32))), .val (.int (((p0.toUInt32 >>> ((8 : Int32) &&& 31).toUInt32).toInt32) &&& (255 : Int32))), .val (.int (f3 (((p0.toUInt32 >>> ((16 : Int32) &&& 31).toUInt32).toInt32) &&& (255 : Int32)) (128 : Int32) (191 : Int32)))] [])) t
              refine XS.iload X26.here hx rfl (hb hby d2_131) rfl ?_
              exact k
            by_cases hc28 : (f3 (((p0.toUInt32 >>> ((16 : Int32) &&& 31).toUInt32).toInt32) &&& (255 : Int32)) (128 : Int32) (191 : Int32)) = (0 : Int32)
            · refine Goes.by (B := T26.setTop (mkF m 154 #[.val (.int p0), .val (.int (((p0.toUInt32 >>> ((24 : Int32) &&& 31).toUInt32).toInt32) &&& (255 : Int32))), .val (.int (((p0.toUInt32 >>> ((16 : Int32) &&& 31).toUInt32).toInt32) &&& (255 : Int32))), .val (.int (((p0.toUInt32 >>> ((8 : Int32) &&& 31).toUInt32).toInt32) &&& (255 : Int32))), .val (.int (f3 (((p0.toUInt32 >>> ((16 : Int32) &&& 31).toUInt32).toInt32) &&& (255 : Int32)) (128 : Int32) (191 : Int32)))] [(.int (0 : Int32))])) (fun t k => ?_) ?_
              · show Steps p.tables e below (T26.setTop (mkF m 133 #[.val (.int p0), .val (.int (((p0.toUInt32 >>> ((24 : Int32) &&& 31).toUInt32).toInt32) &&& (255 : Int32))), .val (.int (((p0.toUInt32 >>> ((16 : Int32) &&& 31).toUInt32).toInt32) &&& (255 : Int32))), .val (.int (((p0.toUInt32 >>> ((8 : Int32) &&& 31).toUInt32).toInt32) &&& (255 : Int32))), .val (.int (f3 (((p0.toUInt32 >>> ((16 : Int32) &&& 31).toUInt32).toInt32) &&& (255 : Int32)) (128 : Int32) (191 : Int32)))] [(.int (f3 (((p0.toUInt32 >>> ((16 : Int32) &&& 31).toUInt32).toInt32) &&& (255 : Int32)) (128 : Int32) (191 : Int32)))])) t
                refine XS.ifYes X26.here hx rfl (pc0 := 133) (pc' := 153) rfl (hb hby d2_133) rfl ((if0 _ _).trans (teq hc28).1) (by decide) (by decide) ?_
                show Steps p.tables e below (T26.setTop (mkF m 153 #[.val (.int p0), .val (.int (((p0.toUInt32 >>> ((24 : Int32) &&& 31).toUInt32).toInt32) &&& (255 : Int32))), .val (.int (((p0.toUInt32 >>> ((16 : Int32) &&& 31).toUInt32).toInt32) &&& (255 : Int32))), .val (.int (((p0.toUInt32 >>> ((8 : Int32) &&& 31).toUInt32).toInt32) &&& (255 : Int32))), .val (.int (f3 (((p0.toUInt32 >>> ((16 : Int32) &&& 31).toUInt32).toInt32) &&& (255 : Int32)) (128 : Int32) (191 : Int32)))] [])) t
                refine XS.iconst X26.here hx rfl (hb hby d2_153) ?_
                exact k
              obtain ⟨fs, hr, hrun, hended, hW, hsame⟩ := X26.leave (v := some (.int (0 : Int32))) (fun h => by rw [Bd.returns] at h; cases h)
              refine Goes.mk _ _ ?_ ⟨hrun, hended, _, _, rfl, ?_, ⟨_, rfl⟩, hW, hsame.mono (by decide) (by decide)⟩
              · exact retN X26 hx (t := .boolean) Bd.returns (by simp) (hb hby d2_154) hr
              · show Q2 Z p0 h0 n0 _ T26.heap _
                rw [e26]
                exact ⟨(by simp only [f2, if_neg hc1, if_pos hc10, if_neg hc11, if_neg hc18, if_pos hc25, if_pos hc28]), N27, rfl⟩
            · refine Goes.by (B := T26.setTop (mkF m 143 #[.val (.int p0), .val (.int (((p0.toUInt32 >>> ((24 : Int32) &&& 31).toUInt32).toInt32) &&& (255 : Int32))), .val (.int (((p0.toUInt32 >>> ((16 : Int32) &&& 31).toUInt32).toInt32) &&& (255 : Int32))), .val (.int (((p0.toUInt32 >>> ((8 : Int32) &&& 31).toUInt32).toInt32) &&& (255 : Int32))), .val (.int (f3 (((p0.toUInt32 >>> ((16 : Int32) &&& 31).toUInt32).toInt32) &&& (255 : Int32)) (128 : Int32) (191 : Int32)))] [(.int (191 : Int32)), (.int (128 : Int32)), (.int (((p0.toUInt32 >>> ((8 : Int32) &&& 31).toUInt32).toInt32) &&& (255 : Int32)))])) (fun t k => ?_) ?_
              · show Steps p.tables e below (T26.setTop (mkF m 133 #[.val (.int p0), .val (.int (((p0.toUInt32 >>> ((24 : Int32) &&& 31).toUInt32).toInt32) &&& (255 : Int32))), .val (.int (((p0.toUInt32 >>> ((16 : Int32) &&& 31).toUInt32).toInt32) &&& (255 : Int32))), .val (.int (((p0.toUInt32 >>> ((8 : Int32) &&& 31).toUInt32).toInt32) &&& (255 : Int32))), .val (.int (f3 (((p0.toUInt32 >>> ((16 : Int32) &&& 31).toUInt32).toInt32) &&& (255 : Int32)) (128 : Int32) (191 : Int32)))] [(.int (f3 (((p0.toUInt32 >>> ((16 : Int32) &&& 31).toUInt32).toInt32) &&& (255 : Int32)) (128 : Int32) (191 : Int32)))])) t
                refine XS.ifNo X26.here hx rfl (hb hby d2_133) rfl ((if0 _ _).trans (feq hc28).1) ?_
                show Steps p.tables e below (T26.setTop (mkF m 136 #[.val (.int p0), .val (.int (((p0.toUInt32 >>> ((24 : Int32) &&& 31).toUInt32).toInt32) &&& (255 : Int32))), .val (.int (((p0.toUInt32 >>> ((16 : Int32) &&& 31).toUInt32).toInt32) &&& (255 : Int32))), .val (.int (((p0.toUInt32 >>> ((8 : Int32) &&& 31).toUInt32).toInt32) &&& (255 : Int32))), .val (.int (f3 (((p0.toUInt32 >>> ((16 : Int32) &&& 31).toUInt32).toInt32) &&& (255 : Int32)) (128 : Int32) (191 : Int32)))] [])) t
                refine XS.iloadN X26.here hx rfl (hb hby d2_136) rfl ?_
                show Steps p.tables e below (T26.setTop (mkF m 137 #[.val (.int p0), .val (.int (((p0.toUInt32 >>> ((24 : Int32) &&& 31).toUInt32).toInt32) &&& (255 : Int32))), .val (.int (((p0.toUInt32 >>> ((16 : Int32) &&& 31).toUInt32).toInt32) &&& (255 : Int32))), .val (.int (((p0.toUInt32 >>> ((8 : Int32) &&& 31).toUInt32).toInt32) &&& (255 : Int32))), .val (.int (f3 (((p0.toUInt32 >>> ((16 : Int32) &&& 31).toUInt32).toInt32) &&& (255 : Int32)) (128 : Int32) (191 : Int32)))] [(.int (((p0.toUInt32 >>> ((8 : Int32) &&& 31).toUInt32).toInt32) &&& (255 : Int32)))])) t
                refine XS.sipush X26.here hx rfl (hb hby d2_137) ?_
                show Steps p.tables e below (T26.setTop (mkF m 140 #[.val (.int p0), .val (.int (((p0.toUInt32 >>> ((24 : Int32) &&& 31).toUInt32).toInt32) &&& (255 : Int32))), .val (.int (((p0.toUInt32 >>> ((16 : Int32) &&& 31).toUInt32).toInt32) &&& (255 : Int32))), .val (.int (((p0.toUInt32 >>> ((8 : Int32) &&& 31).toUInt32).toInt32) &&& (255 : Int32))), .val (.int (f3 (((p0.toUInt32 >>> ((16 : Int32) &&& 31).toUInt32).toInt32) &&& (255 : Int32)) (128 : Int32) (191 : Int32)))] [(.int (128 : Int32)), (.int (((p0.toUInt32 >>> ((8 : Int32) &&& 31).toUInt32).toInt32) &&& (255 : Int32)))])) t
                refine XS.sipush X26.here hx rfl (hb hby d2_140) ?_
                exact k
              obtain ⟨_, _, ⟨T29, L29, k29, n29⟩, -, X29, ⟨Lc29, hQ29, l29, y29, z29⟩, st29⟩ := Jvm.LawKit.callS X26 hx (y := (⟨"com/example/bare_octets/bareoctets/codec/WellFormedSequencesIsCommonThreeByteFormPinLaw", "inRange", "(III)Z"⟩ : MethodName)) hown (mvT hZ (hw _ (List.mem_of_getElem? (i := 10) rfl))) (mvT hZ (hw _ (List.mem_of_getElem? (i := 11) rfl))) (mvT hZ (hw _ (List.mem_of_getElem? (i := 8) rfl))) (mvT hZ (hw _ (List.mem_of_getElem? (i := 12) rfl))) (by decide) (backOf (W := 0) (rm3 l Z az hw [] (((p0.toUInt32 >>> ((8 : Int32) &&& 31).toUInt32).toInt32) &&& (255 : Int32)) (128 : Int32) (191 : Int32) h0 n0 Z0 ) hZ (hw _ (List.mem_of_getElem? (i := 12) rfl)) (hw _ (List.mem_of_getElem? (i := 8) rfl)) (by decide) (by decide)) (g := (mkF m 143 #[.val (.int p0), .val (.int (((p0.toUInt32 >>> ((24 : Int32) &&& 31).toUInt32).toInt32) &&& (255 : Int32))), .val (.int (((p0.toUInt32 >>> ((16 : Int32) &&& 31).toUInt32).toInt32) &&& (255 : Int32))), .val (.int (((p0.toUInt32 >>> ((8 : Int32) &&& 31).toUInt32).toInt32) &&& (255 : Int32))), .val (.int (f3 (((p0.toUInt32 >>> ((16 : Int32) &&& 31).toUInt32).toInt32) &&& (255 : Int32)) (128 : Int32) (191 : Int32)))] [(.int (191 : Int32)), (.int (128 : Int32)), (.int (((p0.toUInt32 >>> ((8 : Int32) &&& 31).toUInt32).toInt32) &&& (255 : Int32)))])) rfl (by rw [hml]; rfl) (argsL := [(.int (((p0.toUInt32 >>> ((8 : Int32) &&& 31).toUInt32).toInt32) &&& (255 : Int32))), (.int (128 : Int32)), (.int (191 : Int32))]) (rest := []) (lenOf own_pd0 rfl) rfl (by show 2 * 0 + _ ≤ _; exact Nat.le_of_eq rfl) (hb hby d2_143) (fun _ _ => ⟨rfl, e26, (by decide : 0 + 0 ≤ _), (by decide : 0 + 0 ≤ _)⟩)
              dsimp only [Pt.U, Pt.locs, Pt.cells, Pt.slots] at X29 l29 y29 z29 st29 hQ29
              subst l29 y29 z29
              obtain ⟨rfl, N29q, e29⟩ := hQ29
              have N30 := Fr.app N27 N29q
              refine Goes.by st29 ?_
              show Goes p.tables e below _ (T29.setTop (mkF m 146 #[.val (.int p0), .val (.int (((p0.toUInt32 >>> ((24 : Int32) &&& 31).toUInt32).toInt32) &&& (255 : Int32))), .val (.int (((p0.toUInt32 >>> ((16 : Int32) &&& 31).toUInt32).toInt32) &&& (255 : Int32))), .val (.int (((p0.toUInt32 >>> ((8 : Int32) &&& 31).toUInt32).toInt32) &&& (255 : Int32))), .val (.int (f3 (((p0.toUInt32 >>> ((16 : Int32) &&& 31).toUInt32).toInt32) &&& (255 : Int32)) (128 : Int32) (191 : Int32)))] [(.int (f3 (((p0.toUInt32 >>> ((8 : Int32) &&& 31).toUInt32).toInt32) &&& (255 : Int32)) (128 : Int32) (191 : Int32)))]))
              by_cases hc31 : (f3 (((p0.toUInt32 >>> ((8 : Int32) &&& 31).toUInt32).toInt32) &&& (255 : Int32)) (128 : Int32) (191 : Int32)) = (0 : Int32)
              · refine Goes.by (B := T29.setTop (mkF m 154 #[.val (.int p0), .val (.int (((p0.toUInt32 >>> ((24 : Int32) &&& 31).toUInt32).toInt32) &&& (255 : Int32))), .val (.int (((p0.toUInt32 >>> ((16 : Int32) &&& 31).toUInt32).toInt32) &&& (255 : Int32))), .val (.int (((p0.toUInt32 >>> ((8 : Int32) &&& 31).toUInt32).toInt32) &&& (255 : Int32))), .val (.int (f3 (((p0.toUInt32 >>> ((16 : Int32) &&& 31).toUInt32).toInt32) &&& (255 : Int32)) (128 : Int32) (191 : Int32)))] [(.int (0 : Int32))])) (fun t k => ?_) ?_
                · show Steps p.tables e below (T29.setTop (mkF m 146 #[.val (.int p0), .val (.int (((p0.toUInt32 >>> ((24 : Int32) &&& 31).toUInt32).toInt32) &&& (255 : Int32))), .val (.int (((p0.toUInt32 >>> ((16 : Int32) &&& 31).toUInt32).toInt32) &&& (255 : Int32))), .val (.int (((p0.toUInt32 >>> ((8 : Int32) &&& 31).toUInt32).toInt32) &&& (255 : Int32))), .val (.int (f3 (((p0.toUInt32 >>> ((16 : Int32) &&& 31).toUInt32).toInt32) &&& (255 : Int32)) (128 : Int32) (191 : Int32)))] [(.int (f3 (((p0.toUInt32 >>> ((8 : Int32) &&& 31).toUInt32).toInt32) &&& (255 : Int32)) (128 : Int32) (191 : Int32)))])) t
                  refine XS.ifYes X29.here hx rfl (pc0 := 146) (pc' := 153) rfl (hb hby d2_146) rfl ((if0 _ _).trans (teq hc31).1) (by decide) (by decide) ?_
                  show Steps p.tables e below (T29.setTop (mkF m 153 #[.val (.int p0), .val (.int (((p0.toUInt32 >>> ((24 : Int32) &&& 31).toUInt32).toInt32) &&& (255 : Int32))), .val (.int (((p0.toUInt32 >>> ((16 : Int32) &&& 31).toUInt32).toInt32) &&& (255 : Int32))), .val (.int (((p0.toUInt32 >>> ((8 : Int32) &&& 31).toUInt32).toInt32) &&& (255 : Int32))), .val (.int (f3 (((p0.toUInt32 >>> ((16 : Int32) &&& 31).toUInt32).toInt32) &&& (255 : Int32)) (128 : Int32) (191 : Int32)))] [])) t
                  refine XS.iconst X29.here hx rfl (hb hby d2_153) ?_
                  exact k
                obtain ⟨fs, hr, hrun, hended, hW, hsame⟩ := X29.leave (v := some (.int (0 : Int32))) (fun h => by rw [Bd.returns] at h; cases h)
                refine Goes.mk _ _ ?_ ⟨hrun, hended, _, _, rfl, ?_, ⟨_, rfl⟩, hW, hsame.mono (by decide) (by decide)⟩
                · exact retN X29 hx (t := .boolean) Bd.returns (by simp) (hb hby d2_154) hr
                · show Q2 Z p0 h0 n0 _ T29.heap _
                  rw [e29]
                  exact ⟨(by simp only [f2, if_neg hc1, if_pos hc10, if_neg hc11, if_neg hc18, if_pos hc25, if_neg hc28, if_pos hc31]), N30, rfl⟩
              · refine Goes.by (B := T29.setTop (mkF m 154 #[.val (.int p0), .val (.int (((p0.toUInt32 >>> ((24 : Int32) &&& 31).toUInt32).toInt32) &&& (255 : Int32))), .val (.int (((p0.toUInt32 >>> ((16 : Int32) &&& 31).toUInt32).toInt32) &&& (255 : Int32))), .val (.int (((p0.toUInt32 >>> ((8 : Int32) &&& 31).toUInt32).toInt32) &&& (255 : Int32))), .val (.int (f3 (((p0.toUInt32 >>> ((16 : Int32) &&& 31).toUInt32).toInt32) &&& (255 : Int32)) (128 : Int32) (191 : Int32)))] [(.int (1 : Int32))])) (fun t k => ?_) ?_
                · show Steps p.tables e below (T29.setTop (mkF m 146 #[.val (.int p0), .val (.int (((p0.toUInt32 >>> ((24 : Int32) &&& 31).toUInt32).toInt32) &&& (255 : Int32))), .val (.int (((p0.toUInt32 >>> ((16 : Int32) &&& 31).toUInt32).toInt32) &&& (255 : Int32))), .val (.int (((p0.toUInt32 >>> ((8 : Int32) &&& 31).toUInt32).toInt32) &&& (255 : Int32))), .val (.int (f3 (((p0.toUInt32 >>> ((16 : Int32) &&& 31).toUInt32).toInt32) &&& (255 : Int32)) (128 : Int32) (191 : Int32)))] [(.int (f3 (((p0.toUInt32 >>> ((8 : Int32) &&& 31).toUInt32).toInt32) &&& (255 : Int32)) (128 : Int32) (191 : Int32)))])) t
                  refine XS.ifNo X29.here hx rfl (hb hby d2_146) rfl ((if0 _ _).trans (feq hc31).1) ?_
                  show Steps p.tables e below (T29.setTop (mkF m 149 #[.val (.int p0), .val (.int (((p0.toUInt32 >>> ((24 : Int32) &&& 31).toUInt32).toInt32) &&& (255 : Int32))), .val (.int (((p0.toUInt32 >>> ((16 : Int32) &&& 31).toUInt32).toInt32) &&& (255 : Int32))), .val (.int (((p0.toUInt32 >>> ((8 : Int32) &&& 31).toUInt32).toInt32) &&& (255 : Int32))), .val (.int (f3 (((p0.toUInt32 >>> ((16 : Int32) &&& 31).toUInt32).toInt32) &&& (255 : Int32)) (128 : Int32) (191 : Int32)))] [])) t
                  refine XS.iconst X29.here hx rfl (hb hby d2_149) ?_
                  show Steps p.tables e below (T29.setTop (mkF m 150 #[.val (.int p0), .val (.int (((p0.toUInt32 >>> ((24 : Int32) &&& 31).toUInt32).toInt32) &&& (255 : Int32))), .val (.int (((p0.toUInt32 >>> ((16 : Int32) &&& 31).toUInt32).toInt32) &&& (255 : Int32))), .val (.int (((p0.toUInt32 >>> ((8 : Int32) &&& 31).toUInt32).toInt32) &&& (255 : Int32))), .val (.int (f3 (((p0.toUInt32 >>> ((16 : Int32) &&& 31).toUInt32).toInt32) &&& (255 : Int32)) (128 : Int32) (191 : Int32)))] [(.int (1 : Int32))])) t
                  refine XS.goto X29.here hx rfl (pc0 := 150) (pc' := 154) rfl (hb hby d2_150) (by decide) (by decide) ?_
                  exact k
                obtain ⟨fs, hr, hrun, hended, hW, hsame⟩ := X29.leave (v := some (.int (1 : Int32))) (fun h => by rw [Bd.returns] at h; cases h)
                refine Goes.mk _ _ ?_ ⟨hrun, hended, _, _, rfl, ?_, ⟨_, rfl⟩, hW, hsame.mono (by decide) (by decide)⟩
                · exact retN X29 hx (t := .boolean) Bd.returns (by simp) (hb hby d2_154) hr
                · show Q2 Z p0 h0 n0 _ T29.heap _
                  rw [e29]
                  exact ⟨(by simp only [f2, if_neg hc1, if_pos hc10, if_neg hc11, if_neg hc18, if_pos hc25, if_neg hc28, if_neg hc31]), N30, rfl⟩
          · refine Goes.by (B := T8.setTop (mkF m 154 #[.val (.int p0), .val (.int (((p0.toUInt32 >>> ((24 : Int32) &&& 31).toUInt32).toInt32) &&& (255 : Int32))), .val (.int (((p0.toUInt32 >>> ((16 : Int32) &&& 31).toUInt32).toInt32) &&& (255 : Int32))), .val (.int (((p0.toUInt32 >>> ((8 : Int32) &&& 31).toUInt32).toInt32) &&& (255 : Int32))), .val (.int (0 : Int32))] [(.int (0 : Int32))])) (fun t k => ?_) ?_
            · show Steps p.tables e below (T8.setTop (mkF m 110 #[.val (.int p0), .val (.int (((p0.toUInt32 >>> ((24 : Int32) &&& 31).toUInt32).toInt32) &&& (255 : Int32))), .val (.int (((p0.toUInt32 >>> ((16 : Int32) &&& 31).toUInt32).toInt32) &&& (255 : Int32))), .val (.int (((p0.toUInt32 >>> ((8 : Int32) &&& 31).toUInt32).toInt32) &&& (255 : Int32))), .unset] [(.int (239 : Int32)), (.int (((p0.toUInt32 >>> ((24 : Int32) &&& 31).toUInt32).toInt32) &&& (255 : Int32)))])) t
              refine XS.icmpYes X8.here hx rfl (pc0 := 110) (pc' := 128) rfl (hb hby d2_110) rfl (feq hc25).2 (by decide) (by decide) ?_
              show Steps p.tables e below (T8.setTop (mkF m 128 #[.val (.int p0), .val (.int (((p0.toUInt32 >>> ((24 : Int32) &&& 31).toUInt32).toInt32) &&& (255 : Int32))), .val (.int (((p0.toUInt32 >>> ((16 : Int32) &&& 31).toUInt32).toInt32) &&& (255 : Int32))), .val (.int (((p0.toUInt32 >>> ((8 : Int32) &&& 31).toUInt32).toInt32) &&& (255 : Int32))), .unset] [])) t
              refine XS.iconst X8.here hx rfl (hb hby d2_128) ?_
              show Steps p.tables e below (T8.setTop (mkF m 129 #[.val (.int p0), .val (.int (((p0.toUInt32 >>> ((24 : Int32) &&& 31).toUInt32).toInt32) &&& (255 : Int32))), .val (.int (((p0.toUInt32 >>> ((16 : Int32) &&& 31).toUInt32).toInt32) &&& (255 : Int32))), .val (.int (((p0.toUInt32 >>> ((8 : Int32) &&& 31).toUInt32).toInt32) &&& (255 : Int32))), .unset] [(.int (0 : Int32))])) t
              refine XS.istore X8.here hx rfl (hb hby d2_129) rfl (l' := #[.val (.int p0), .val (.int (((p0.toUInt32 >>> ((24 : Int32) &&& 31).toUInt32).toInt32) &&& (255 : Int32))), .val (.int (((p0.toUInt32 >>> ((16 : Int32) &&& 31).toUInt32).toInt32) &&& (255 : Int32))), .val (.int (((p0.toUInt32 >>> ((8 : Int32) &&& 31).toUInt32).toInt32) &&& (255 : Int32))), .val (.int (0 : Int32))]) rfl ?_
              show Steps p.tables e below (T8.setTop (mkF m 131 #[.val (.int p0), .val (.int (((p0.toUInt32 >>> ((24 : Int32) &&& 31).toUInt32).toInt32) &&& (255 : Int32))), .val (.int (((p0.toUInt32 >>> ((16 : Int32) &&& 31).toUInt32).toInt32) &&& (255 : Int32))), .val (.int (((p0.toUInt32 >>> ((8 : Int32) &&& 31).toUInt32).toInt32) &&& (255 : Int32))), .val (.int (0 : Int32))] [])) t
              refine XS.iload X8.here hx rfl (hb hby d2_131) rfl ?_
              show Steps p.tables e below (T8.setTop (mkF m 133 #[.val (.int p0), .val (.int (((p0.toUInt32 >>> ((24 : Int32) &&& 31).toUInt32).toInt32) &&& (255 : Int32))), .val (.int (((p0.toUInt32 >>> ((16 : Int32) &&& 31).toUInt32).toInt32) &&& (255 : Int32))), .val (.int (((p0.toUInt32 >>> ((8 : Int32) &&& 31).toUInt32).toInt32) &&& (255 : Int32))), .val (.int (0 : Int32))] [(.int (0 : Int32))])) t
              refine XS.ifYes X8.here hx rfl (pc0 := 133) (pc' := 153) rfl (hb hby d2_133) rfl ((if0 _ _).trans (teq (by decide : (0 : Int32) = (0 : Int32))).1) (by decide) (by decide) ?_
              show Steps p.tables e below (T8.setTop (mkF m 153 #[.val (.int p0), .val (.int (((p0.toUInt32 >>> ((24 : Int32) &&& 31).toUInt32).toInt32) &&& (255 : Int32))), .val (.int (((p0.toUInt32 >>> ((16 : Int32) &&& 31).toUInt32).toInt32) &&& (255 : Int32))), .val (.int (((p0.toUInt32 >>> ((8 : Int32) &&& 31).toUInt32).toInt32) &&& (255 : Int32))), .val (.int (0 : Int32))] [])) t
              refine XS.iconst X8.here hx rfl (hb hby d2_153) ?_
              exact k
            obtain ⟨fs, hr, hrun, hended, hW, hsame⟩ := X8.leave (v := some (.int (0 : Int32))) (fun h => by rw [Bd.returns] at h; cases h)
            refine Goes.mk _ _ ?_ ⟨hrun, hended, _, _, rfl, ?_, ⟨_, rfl⟩, hW, hsame.mono (by decide) (by decide)⟩
            · exact retN X8 hx (t := .boolean) Bd.returns (by simp) (hb hby d2_154) hr
            · show Q2 Z p0 h0 n0 _ T8.heap _
              rw [e8]
              exact ⟨(by simp only [f2, if_neg hc1, if_pos hc10, if_neg hc11, if_neg hc18, if_neg hc25]), N9, rfl⟩
    · refine Goes.by (B := T8.setTop (mkF m 69 #[.val (.int p0), .val (.int (((p0.toUInt32 >>> ((24 : Int32) &&& 31).toUInt32).toInt32) &&& (255 : Int32))), .val (.int (((p0.toUInt32 >>> ((16 : Int32) &&& 31).toUInt32).toInt32) &&& (255 : Int32))), .val (.int (((p0.toUInt32 >>> ((8 : Int32) &&& 31).toUInt32).toInt32) &&& (255 : Int32))), .unset] [(.int (191 : Int32)), (.int (128 : Int32)), (.int (((p0.toUInt32 >>> ((16 : Int32) &&& 31).toUInt32).toInt32) &&& (255 : Int32)))])) (fun t k => ?_) ?_
      · show Steps p.tables e below (T8.setTop (mkF m 59 #[.val (.int p0), .val (.int (((p0.toUInt32 >>> ((24 : Int32) &&& 31).toUInt32).toInt32) &&& (255 : Int32))), .val (.int (((p0.toUInt32 >>> ((16 : Int32) &&& 31).toUInt32).toInt32) &&& (255 : Int32))), .val (.int (((p0.toUInt32 >>> ((8 : Int32) &&& 31).toUInt32).toInt32) &&& (255 : Int32))), .unset] [(.int (f3 (((p0.toUInt32 >>> ((24 : Int32) &&& 31).toUInt32).toInt32) &&& (255 : Int32)) (225 : Int32) (236 : Int32)))])) t
        refine XS.ifNo X8.here hx rfl (hb hby d2_59) rfl ((if0 _ _).trans (feq hc10).1) ?_
        show Steps p.tables e below (T8.setTop (mkF m 62 #[.val (.int p0), .val (.int (((p0.toUInt32 >>> ((24 : Int32) &&& 31).toUInt32).toInt32) &&& (255 : Int32))), .val (.int (((p0.toUInt32 >>> ((16 : Int32) &&& 31).toUInt32).toInt32) &&& (255 : Int32))), .val (.int (((p0.toUInt32 >>> ((8 : Int32) &&& 31).toUInt32).toInt32) &&& (255 : Int32))), .unset] [])) t
        refine XS.iloadN X8.here hx rfl (hb hby d2_62) rfl ?_
        show Steps p.tables e below (T8.setTop (mkF m 63 #[.val (.int p0), .val (.int (((p0.toUInt32 >>> ((24 : Int32) &&& 31).toUInt32).toInt32) &&& (255 : Int32))), .val (.int (((p0.toUInt32 >>> ((16 : Int32) &&& 31).toUInt32).toInt32) &&& (255 : Int32))), .val (.int (((p0.toUInt32 >>> ((8 : Int32) &&& 31).toUInt32).toInt32) &&& (255 : Int32))), .unset] [(.int (((p0.toUInt32 >>> ((16 : Int32) &&& 31).toUInt32).toInt32) &&& (255 : Int32)))])) t
        refine XS.sipush X8.here hx rfl (hb hby d2_63) ?_
        show Steps p.tables e below (T8.setTop (mkF m 66 #[.val (.int p0), .val (.int (((p0.toUInt32 >>> ((24 : Int32) &&& 31).toUInt32).toInt32) &&& (255 : Int32))), .val (.int (((p0.toUInt32 >>> ((16 : Int32) &&& 31).toUInt32).toInt32) &&& (255 : Int32))), .val (.int (((p0.toUInt32 >>> ((8 : Int32) &&& 31).toUInt32).toInt32) &&& (255 : Int32))), .unset] [(.int (128 : Int32)), (.int (((p0.toUInt32 >>> ((16 : Int32) &&& 31).toUInt32).toInt32) &&& (255 : Int32)))])) t
        refine XS.sipush X8.here hx rfl (hb hby d2_66) ?_
        exact k
      obtain ⟨_, _, ⟨T32, L32, k32, n32⟩, -, X32, ⟨Lc32, hQ32, l32, y32, z32⟩, st32⟩ := Jvm.LawKit.callS X8 hx (y := (⟨"com/example/bare_octets/bareoctets/codec/WellFormedSequencesIsCommonThreeByteFormPinLaw", "inRange", "(III)Z"⟩ : MethodName)) hown (mvT hZ (hw _ (List.mem_of_getElem? (i := 10) rfl))) (mvT hZ (hw _ (List.mem_of_getElem? (i := 11) rfl))) (mvT hZ (hw _ (List.mem_of_getElem? (i := 8) rfl))) (mvT hZ (hw _ (List.mem_of_getElem? (i := 12) rfl))) (by decide) (backOf (W := 0) (rm3 l Z az hw [] (((p0.toUInt32 >>> ((16 : Int32) &&& 31).toUInt32).toInt32) &&& (255 : Int32)) (128 : Int32) (191 : Int32) h0 n0 Z0 ) hZ (hw _ (List.mem_of_getElem? (i := 12) rfl)) (hw _ (List.mem_of_getElem? (i := 8) rfl)) (by decide) (by decide)) (g := (mkF m 69 #[.val (.int p0), .val (.int (((p0.toUInt32 >>> ((24 : Int32) &&& 31).toUInt32).toInt32) &&& (255 : Int32))), .val (.int (((p0.toUInt32 >>> ((16 : Int32) &&& 31).toUInt32).toInt32) &&& (255 : Int32))), .val (.int (((p0.toUInt32 >>> ((8 : Int32) &&& 31).toUInt32).toInt32) &&& (255 : Int32))), .unset] [(.int (191 : Int32)), (.int (128 : Int32)), (.int (((p0.toUInt32 >>> ((16 : Int32) &&& 31).toUInt32).toInt32) &&& (255 : Int32)))])) rfl (by rw [hml]; rfl) (argsL := [(.int (((p0.toUInt32 >>> ((16 : Int32) &&& 31).toUInt32).toInt32) &&& (255 : Int32))), (.int (128 : Int32)), (.int (191 : Int32))]) (rest := []) (lenOf own_pd0 rfl) rfl (by show 2 * 0 + _ ≤ _; exact Nat.le_of_eq rfl) (hb hby d2_69) (fun _ _ => ⟨rfl, e8, (by decide : 0 + 0 ≤ _), (by decide : 0 + 0 ≤ _)⟩)
      dsimp only [Pt.U, Pt.locs, Pt.cells, Pt.slots] at X32 l32 y32 z32 st32 hQ32
      subst l32 y32 z32
      obtain ⟨rfl, N32q, e32⟩ := hQ32
      have N33 := Fr.app N9 N32q
      refine Goes.by st32 ?_
      show Goes p.tables e below _ (T32.setTop (mkF m 72 #[.val (.int p0), .val (.int (((p0.toUInt32 >>> ((24 : Int32) &&& 31).toUInt32).toInt32) &&& (255 : Int32))), .val (.int (((p0.toUInt32 >>> ((16 : Int32) &&& 31).toUInt32).toInt32) &&& (255 : Int32))), .val (.int (((p0.toUInt32 >>> ((8 : Int32) &&& 31).toUInt32).toInt32) &&& (255 : Int32))), .unset] [(.int (f3 (((p0.toUInt32 >>> ((16 : Int32) &&& 31).toUInt32).toInt32) &&& (255 : Int32)) (128 : Int32) (191 : Int32)))]))
      refine Goes.by (B := T32.setTop (mkF m 133 #[.val (.int p0), .val (.int (((p0.toUInt32 >>> ((24 : Int32) &&& 31).toUInt32).toInt32) &&& (255 : Int32))), .val (.int (((p0.toUInt32 >>> ((16 : Int32) &&& 31).toUInt32).toInt32) &&& (255 : Int32))), .val (.int (((p0.toUInt32 >>> ((8 : Int32) &&& 31).toUInt32).toInt32) &&& (255 : Int32))), .val (.int (f3 (((p0.toUInt32 >>> ((16 : Int32) &&& 31).toUInt32).toInt32) &&& (255 : Int32)) (128 : Int32) (191 : Int32)))] [(.int (f3 (((p0.toUInt32 >>> ((16 : Int32) &&& 31).toUInt32).toInt32) &&& (255 : Int32)) (128 : Int32) (191 : Int32)))])) (fun t k => ?_) ?_
      · show Steps p.tables e below (T32.setTop (mkF m 72 #[.val (.int p0), .val (.int (((p0.toUInt32 >>> ((24 : Int32) &&& 31).toUInt32).toInt32) &&& (255 : Int32))), .val (.int (((p0.toUInt32 >>> ((16 : Int32) &&& 31).toUInt32).toInt32) &&& (255 : Int32))), .val (.int (((p0.toUInt32 >>> ((8 : Int32) &&& 31).toUInt32).toInt32) &&& (255 : Int32))), .unset] [(.int (f3 (((p0.toUInt32 >>> ((16 : Int32) &&& 31).toUInt32).toInt32) &&& (255 : Int32)) (128 : Int32) (191 : Int32)))])) t
        refine XS.istore X32.here hx rfl (hb hby d2_72) rfl (l' := #[.val (.int p0), .val (.int (((p0.toUInt32 >>> ((24 : Int32) &&& 31).toUInt32).toInt32) &&& (255 : Int32))), .val (.int (((p0.toUInt32 >>> ((16 : Int32) &&& 31).toUInt32).toInt32) &&& (255 : Int32))), .val (.int (((p0.toUInt32 >>> ((8 : Int32) &&& 31).toUInt32).toInt32) &&& (255 : Int32))), .val (.int (f3 (((p0.toUInt32 >>> ((16 : Int32) &&& 31).toUInt32).toInt32) &&& (255 : Int32)) (128 : Int32) (191 : Int32)))]) rfl ?_
        show Steps p.tables e below (T32.setTop (mkF m 74 #[.val (.int p0), .val (.int (((p0.toUInt32 >>> ((24 : Int32) &&& 31).toUInt32).toInt32) &&& (255 : Int32))), .val (.int (((p0.toUInt32 >>> ((16 : Int32) &&& 31).toUInt32).toInt32) &&& (255 : Int32))), .val (.int (((p0.toUInt32 >>> ((8 : Int32) &&& 31).toUInt32).toInt32) &&& (255 : Int32))), .val (.int (f3 (((p0.toUInt32 >>> ((16 : Int32) &&& 31).toUInt32).toInt32) &&& (255 : Int32)) (128 : Int32) (191 : Int32)))] [])) t
        refine XS.goto X32.here hx rfl (pc0 := 74) (pc' := 131) rfl (hb hby d2_74) (by decide) (by decide) ?_
        show Steps p.tables e below (T32.setTop (mkF m 131 #[.val (.int p0), .val (.int (((p0.toUInt32 >>> ((24 : Int32) &&& 31).toUInt32).toInt32) &&& (255 : Int32))), .val (.int (((p0.toUInt32 >>> ((16 : Int32) &&& 31).toUInt32).toInt32) &&& (255 : Int32))), .val (.int (((p0.toUInt32 >>> ((8 : Int32) &&& 31).toUInt32).toInt32) &&& (255 : Int32))), .val (.int (f3 (((p0.toUInt32 >>> ((16 : Int32) &&& 31).toUInt32).toInt32) &&& (255 : Int32)) (128 : Int32) (191 : Int32)))] [])) t
        refine XS.iload X32.here hx rfl (hb hby d2_131) rfl ?_
        exact k
      by_cases hc34 : (f3 (((p0.toUInt32 >>> ((16 : Int32) &&& 31).toUInt32).toInt32) &&& (255 : Int32)) (128 : Int32) (191 : Int32)) = (0 : Int32)
      · refine Goes.by (B := T32.setTop (mkF m 154 #[.val (.int p0), .val (.int (((p0.toUInt32 >>> ((24 : Int32) &&& 31).toUInt32).toInt32) &&& (255 : Int32))), .val (.int (((p0.toUInt32 >>> ((16 : Int32) &&& 31).toUInt32).toInt32) &&& (255 : Int32))), .val (.int (((p0.toUInt32 >>> ((8 : Int32) &&& 31).toUInt32).toInt32) &&& (255 : Int32))), .val (.int (f3 (((p0.toUInt32 >>> ((16 : Int32) &&& 31).toUInt32).toInt32) &&& (255 : Int32)) (128 : Int32) (191 : Int32)))] [(.int (0 : Int32))])) (fun t k => ?_) ?_
        · show Steps p.tables e below (T32.setTop (mkF m 133 #[.val (.int p0), .val (.int (((p0.toUInt32 >>> ((24 : Int32) &&& 31).toUInt32).toInt32) &&& (255 : Int32))), .val (.int (((p0.toUInt32 >>> ((16 : Int32) &&& 31).toUInt32).toInt32) &&& (255 : Int32))), .val (.int (((p0.toUInt32 >>> ((8 : Int32) &&& 31).toUInt32).toInt32) &&& (255 : Int32))), .val (.int (f3 (((p0.toUInt32 >>> ((16 : Int32) &&& 31).toUInt32).toInt32) &&& (255 : Int32)) (128 : Int32) (191 : Int32)))] [(.int (f3 (((p0.toUInt32 >>> ((16 : Int32) &&& 31).toUInt32).toInt32) &&& (255 : Int32)) (128 : Int32) (191 : Int32)))])) t
          refine XS.ifYes X32.here hx rfl (pc0 := 133) (pc' := 153) rfl (hb hby d2_133) rfl ((if0 _ _).trans (teq hc34).1) (by decide) (by decide) ?_
          show Steps p.tables e below (T32.setTop (mkF m 153 #[.val (.int p0), .val (.int (((p0.toUInt32 >>> ((24 : Int32) &&& 31).toUInt32).toInt32) &&& (255 : Int32))), .val (.int (((p0.toUInt32 >>> ((16 : Int32) &&& 31).toUInt32).toInt32) &&& (255 : Int32))), .val (.int (((p0.toUInt32 >>> ((8 : Int32) &&& 31).toUInt32).toInt32) &&& (255 : Int32))), .val (.int (f3 (((p0.toUInt32 >>> ((16 : Int32) &&& 31).toUInt32).toInt32) &&& (255 : Int32)) (128 : Int32) (191 : Int32)))] [])) t
          refine XS.iconst X32.here hx rfl (hb hby d2_153) ?_
          exact k
        obtain ⟨fs, hr, hrun, hended, hW, hsame⟩ := X32.leave (v := some (.int (0 : Int32))) (fun h => by rw [Bd.returns] at h; cases h)
        refine Goes.mk _ _ ?_ ⟨hrun, hended, _, _, rfl, ?_, ⟨_, rfl⟩, hW, hsame.mono (by decide) (by decide)⟩
        · exact retN X32 hx (t := .boolean) Bd.returns (by simp) (hb hby d2_154) hr
        · show Q2 Z p0 h0 n0 _ T32.heap _
          rw [e32]
          exact ⟨(by simp only [f2, if_neg hc1, if_neg hc10, if_pos hc34]), N33, rfl⟩
      · refine Goes.by (B := T32.setTop (mkF m 143 #[.val (.int p0), .val (.int (((p0.toUInt32 >>> ((24 : Int32) &&& 31).toUInt32).toInt32) &&& (255 : Int32))), .val (.int (((p0.toUInt32 >>> ((16 : Int32) &&& 31).toUInt32).toInt32) &&& (255 : Int32))), .val (.int (((p0.toUInt32 >>> ((8 : Int32) &&& 31).toUInt32).toInt32) &&& (255 : Int32))), .val (.int (f3 (((p0.toUInt32 >>> ((16 : Int32) &&& 31).toUInt32).toInt32) &&& (255 : Int32)) (128 : Int32) (191 : Int32)))] [(.int (191 : Int32)), (.int (128 : Int32)), (.int (((p0.toUInt32 >>> ((8 : Int32) &&& 31).toUInt32).toInt32) &&& (255 : Int32)))])) (fun t k => ?_) ?_
        · show Steps p.tables e below (T32.setTop (mkF m 133 #[.val (.int p0), .val (.int (((p0.toUInt32 >>> ((24 : Int32) &&& 31).toUInt32).toInt32) &&& (255 : Int32))), .val (.int (((p0.toUInt32 >>> ((16 : Int32) &&& 31).toUInt32).toInt32) &&& (255 : Int32))), .val (.int (((p0.toUInt32 >>> ((8 : Int32) &&& 31).toUInt32).toInt32) &&& (255 : Int32))), .val (.int (f3 (((p0.toUInt32 >>> ((16 : Int32) &&& 31).toUInt32).toInt32) &&& (255 : Int32)) (128 : Int32) (191 : Int32)))] [(.int (f3 (((p0.toUInt32 >>> ((16 : Int32) &&& 31).toUInt32).toInt32) &&& (255 : Int32)) (128 : Int32) (191 : Int32)))])) t
          refine XS.ifNo X32.here hx rfl (hb hby d2_133) rfl ((if0 _ _).trans (feq hc34).1) ?_
          show Steps p.tables e below (T32.setTop (mkF m 136 #[.val (.int p0), .val (.int (((p0.toUInt32 >>> ((24 : Int32) &&& 31).toUInt32).toInt32) &&& (255 : Int32))), .val (.int (((p0.toUInt32 >>> ((16 : Int32) &&& 31).toUInt32).toInt32) &&& (255 : Int32))), .val (.int (((p0.toUInt32 >>> ((8 : Int32) &&& 31).toUInt32).toInt32) &&& (255 : Int32))), .val (.int (f3 (((p0.toUInt32 >>> ((16 : Int32) &&& 31).toUInt32).toInt32) &&& (255 : Int32)) (128 : Int32) (191 : Int32)))] [])) t
          refine XS.iloadN X32.here hx rfl (hb hby d2_136) rfl ?_
          show Steps p.tables e below (T32.setTop (mkF m 137 #[.val (.int p0), .val (.int (((p0.toUInt32 >>> ((24 : Int32) &&& 31).toUInt32).toInt32) &&& (255 : Int32))), .val (.int (((p0.toUInt32 >>> ((16 : Int32) &&& 31).toUInt32).toInt32) &&& (255 : Int32))), .val (.int (((p0.toUInt32 >>> ((8 : Int32) &&& 31).toUInt32).toInt32) &&& (255 : Int32))), .val (.int (f3 (((p0.toUInt32 >>> ((16 : Int32) &&& 31).toUInt32).toInt32) &&& (255 : Int32)) (128 : Int32) (191 : Int32)))] [(.int (((p0.toUInt32 >>> ((8 : Int32) &&& 31).toUInt32).toInt32) &&& (255 : Int32)))])) t
          refine XS.sipush X32.here hx rfl (hb hby d2_137) ?_
          show Steps p.tables e below (T32.setTop (mkF m 140 #[.val (.int p0), .val (.int (((p0.toUInt32 >>> ((24 : Int32) &&& 31).toUInt32).toInt32) &&& (255 : Int32))), .val (.int (((p0.toUInt32 >>> ((16 : Int32) &&& 31).toUInt32).toInt32) &&& (255 : Int32))), .val (.int (((p0.toUInt32 >>> ((8 : Int32) &&& 31).toUInt32).toInt32) &&& (255 : Int32))), .val (.int (f3 (((p0.toUInt32 >>> ((16 : Int32) &&& 31).toUInt32).toInt32) &&& (255 : Int32)) (128 : Int32) (191 : Int32)))] [(.int (128 : Int32)), (.int (((p0.toUInt32 >>> ((8 : Int32) &&& 31).toUInt32).toInt32) &&& (255 : Int32)))])) t
          refine XS.sipush X32.here hx rfl (hb hby d2_140) ?_
          exact k
        obtain ⟨_, _, ⟨T35, L35, k35, n35⟩, -, X35, ⟨Lc35, hQ35, l35, y35, z35⟩, st35⟩ := Jvm.LawKit.callS X32 hx (y := (⟨"com/example/bare_octets/bareoctets/codec/WellFormedSequencesIsCommonThreeByteFormPinLaw", "inRange", "(III)Z"⟩ : MethodName)) hown (mvT hZ (hw _ (List.mem_of_getElem? (i := 10) rfl))) (mvT hZ (hw _ (List.mem_of_getElem? (i := 11) rfl))) (mvT hZ (hw _ (List.mem_of_getElem? (i := 8) rfl))) (mvT hZ (hw _ (List.mem_of_getElem? (i := 12) rfl))) (by decide) (backOf (W := 0) (rm3 l Z az hw [] (((p0.toUInt32 >>> ((8 : Int32) &&& 31).toUInt32).toInt32) &&& (255 : Int32)) (128 : Int32) (191 : Int32) h0 n0 Z0 ) hZ (hw _ (List.mem_of_getElem? (i := 12) rfl)) (hw _ (List.mem_of_getElem? (i := 8) rfl)) (by decide) (by decide)) (g := (mkF m 143 #[.val (.int p0), .val (.int (((p0.toUInt32 >>> ((24 : Int32) &&& 31).toUInt32).toInt32) &&& (255 : Int32))), .val (.int (((p0.toUInt32 >>> ((16 : Int32) &&& 31).toUInt32).toInt32) &&& (255 : Int32))), .val (.int (((p0.toUInt32 >>> ((8 : Int32) &&& 31).toUInt32).toInt32) &&& (255 : Int32))), .val (.int (f3 (((p0.toUInt32 >>> ((16 : Int32) &&& 31).toUInt32).toInt32) &&& (255 : Int32)) (128 : Int32) (191 : Int32)))] [(.int (191 : Int32)), (.int (128 : Int32)), (.int (((p0.toUInt32 >>> ((8 : Int32) &&& 31).toUInt32).toInt32) &&& (255 : Int32)))])) rfl (by rw [hml]; rfl) (argsL := [(.int (((p0.toUInt32 >>> ((8 : Int32) &&& 31).toUInt32).toInt32) &&& (255 : Int32))), (.int (128 : Int32)), (.int (191 : Int32))]) (rest := []) (lenOf own_pd0 rfl) rfl (by show 2 * 0 + _ ≤ _; exact Nat.le_of_eq rfl) (hb hby d2_143) (fun _ _ => ⟨rfl, e32, (by decide : 0 + 0 ≤ _), (by decide : 0 + 0 ≤ _)⟩)
        dsimp only [Pt.U, Pt.locs, Pt.cells, Pt.slots] at X35 l35 y35 z35 st35 hQ35
        subst l35 y35 z35
        obtain ⟨rfl, N35q, e35⟩ := hQ35
        have N36 := Fr.app N33 N35q
        refine Goes.by st35 ?_
        show Goes p.tables e below _ (T35.setTop (mkF m 146 #[.val (.int p0), .val (.int (((p0.toUInt32 >>> ((24 : Int32) &&& 31).toUInt32).toInt32) &&& (255 : Int32))), .val (.int (((p0.toUInt32 >>> ((16 : Int32) &&& 31).toUInt32).toInt32) &&& (255 : Int32))), .val (.int (((p0.toUInt32 >>> ((8 : Int32) &&& 31).toUInt32).toInt32) &&& (255 : Int32))), .val (.int (f3 (((p0.toUInt32 >>> ((16 : Int32) &&& 31).toUInt32).toInt32) &&& (255 : Int32)) (128 : Int32) (191 : Int32)))] [(.int (f3 (((p0.toUInt32 >>> ((8 : Int32) &&& 31).toUInt32).toInt32) &&& (255 : Int32)) (128 : Int32) (191 : Int32)))]))
        by_cases hc37 : (f3 (((p0.toUInt32 >>> ((8 : Int32) &&& 31).toUInt32).toInt32) &&& (255 : Int32)) (128 : Int32) (191 : Int32)) = (0 : Int32)
        · refine Goes.by (B := T35.setTop (mkF m 154 #[.val (.int p0), .val (.int (((p0.toUInt32 >>> ((24 : Int32) &&& 31).toUInt32).toInt32) &&& (255 : Int32))), .val (.int (((p0.toUInt32 >>> ((16 : Int32) &&& 31).toUInt32).toInt32) &&& (255 : Int32))), .val (.int (((p0.toUInt32 >>> ((8 : Int32) &&& 31).toUInt32).toInt32) &&& (255 : Int32))), .val (.int (f3 (((p0.toUInt32 >>> ((16 : Int32) &&& 31).toUInt32).toInt32) &&& (255 : Int32)) (128 : Int32) (191 : Int32)))] [(.int (0 : Int32))])) (fun t k => ?_) ?_
          · show Steps p.tables e below (T35.setTop (mkF m 146 #[.val (.int p0), .val (.int (((p0.toUInt32 >>> ((24 : Int32) &&& 31).toUInt32).toInt32) &&& (255 : Int32))), .val (.int (((p0.toUInt32 >>> ((16 : Int32) &&& 31).toUInt32).toInt32) &&& (255 : Int32))), .val (.int (((p0.toUInt32 >>> ((8 : Int32) &&& 31).toUInt32).toInt32) &&& (255 : Int32))), .val (.int (f3 (((p0.toUInt32 >>> ((16 : Int32) &&& 31).toUInt32).toInt32) &&& (255 : Int32)) (128 : Int32) (191 : Int32)))] [(.int (f3 (((p0.toUInt32 >>> ((8 : Int32) &&& 31).toUInt32).toInt32) &&& (255 : Int32)) (128 : Int32) (191 : Int32)))])) t
            refine XS.ifYes X35.here hx rfl (pc0 := 146) (pc' := 153) rfl (hb hby d2_146) rfl ((if0 _ _).trans (teq hc37).1) (by decide) (by decide) ?_
            show Steps p.tables e below (T35.setTop (mkF m 153 #[.val (.int p0), .val (.int (((p0.toUInt32 >>> ((24 : Int32) &&& 31).toUInt32).toInt32) &&& (255 : Int32))), .val (.int (((p0.toUInt32 >>> ((16 : Int32) &&& 31).toUInt32).toInt32) &&& (255 : Int32))), .val (.int (((p0.toUInt32 >>> ((8 : Int32) &&& 31).toUInt32).toInt32) &&& (255 : Int32))), .val (.int (f3 (((p0.toUInt32 >>> ((16 : Int32) &&& 31).toUInt32).toInt32) &&& (255 : Int32)) (128 : Int32) (191 : Int32)))] [])) t
            refine XS.iconst X35.here hx rfl (hb hby d2_153) ?_
            exact k
          obtain ⟨fs, hr, hrun, hended, hW, hsame⟩ := X35.leave (v := some (.int (0 : Int32))) (fun h => by rw [Bd.returns] at h; cases h)
          refine Goes.mk _ _ ?_ ⟨hrun, hended, _, _, rfl, ?_, ⟨_, rfl⟩, hW, hsame.mono (by decide) (by decide)⟩
          · exact retN X35 hx (t := .boolean) Bd.returns (by simp) (hb hby d2_154) hr
          · show Q2 Z p0 h0 n0 _ T35.heap _
            rw [e35]
            exact ⟨(by simp only [f2, if_neg hc1, if_neg hc10, if_neg hc34, if_pos hc37]), N36, rfl⟩
        · refine Goes.by (B := T35.setTop (mkF m 154 #[.val (.int p0), .val (.int (((p0.toUInt32 >>> ((24 : Int32) &&& 31).toUInt32).toInt32) &&& (255 : Int32))), .val (.int (((p0.toUInt32 >>> ((16 : Int32) &&& 31).toUInt32).toInt32) &&& (255 : Int32))), .val (.int (((p0.toUInt32 >>> ((8 : Int32) &&& 31).toUInt32).toInt32) &&& (255 : Int32))), .val (.int (f3 (((p0.toUInt32 >>> ((16 : Int32) &&& 31).toUInt32).toInt32) &&& (255 : Int32)) (128 : Int32) (191 : Int32)))] [(.int (1 : Int32))])) (fun t k => ?_) ?_
          · show Steps p.tables e below (T35.setTop (mkF m 146 #[.val (.int p0), .val (.int (((p0.toUInt32 >>> ((24 : Int32) &&& 31).toUInt32).toInt32) &&& (255 : Int32))), .val (.int (((p0.toUInt32 >>> ((16 : Int32) &&& 31).toUInt32).toInt32) &&& (255 : Int32))), .val (.int (((p0.toUInt32 >>> ((8 : Int32) &&& 31).toUInt32).toInt32) &&& (255 : Int32))), .val (.int (f3 (((p0.toUInt32 >>> ((16 : Int32) &&& 31).toUInt32).toInt32) &&& (255 : Int32)) (128 : Int32) (191 : Int32)))] [(.int (f3 (((p0.toUInt32 >>> ((8 : Int32) &&& 31).toUInt32).toInt32) &&& (255 : Int32)) (128 : Int32) (191 : Int32)))])) t
            refine XS.ifNo X35.here hx rfl (hb hby d2_146) rfl ((if0 _ _).trans (feq hc37).1) ?_
            show Steps p.tables e below (T35.setTop (mkF m 149 #[.val (.int p0), .val (.int (((p0.toUInt32 >>> ((24 : Int32) &&& 31).toUInt32).toInt32) &&& (255 : Int32))), .val (.int (((p0.toUInt32 >>> ((16 : Int32) &&& 31).toUInt32).toInt32) &&& (255 : Int32))), .val (.int (((p0.toUInt32 >>> ((8 : Int32) &&& 31).toUInt32).toInt32) &&& (255 : Int32))), .val (.int (f3 (((p0.toUInt32 >>> ((16 : Int32) &&& 31).toUInt32).toInt32) &&& (255 : Int32)) (128 : Int32) (191 : Int32)))] [])) t
            refine XS.iconst X35.here hx rfl (hb hby d2_149) ?_
            show Steps p.tables e below (T35.setTop (mkF m 150 #[.val (.int p0), .val (.int (((p0.toUInt32 >>> ((24 : Int32) &&& 31).toUInt32).toInt32) &&& (255 : Int32))), .val (.int (((p0.toUInt32 >>> ((16 : Int32) &&& 31).toUInt32).toInt32) &&& (255 : Int32))), .val (.int (((p0.toUInt32 >>> ((8 : Int32) &&& 31).toUInt32).toInt32) &&& (255 : Int32))), .val (.int (f3 (((p0.toUInt32 >>> ((16 : Int32) &&& 31).toUInt32).toInt32) &&& (255 : Int32)) (128 : Int32) (191 : Int32)))] [(.int (1 : Int32))])) t
            refine XS.goto X35.here hx rfl (pc0 := 150) (pc' := 154) rfl (hb hby d2_150) (by decide) (by decide) ?_
            exact k
          obtain ⟨fs, hr, hrun, hended, hW, hsame⟩ := X35.leave (v := some (.int (1 : Int32))) (fun h => by rw [Bd.returns] at h; cases h)
          refine Goes.mk _ _ ?_ ⟨hrun, hended, _, _, rfl, ?_, ⟨_, rfl⟩, hW, hsame.mono (by decide) (by decide)⟩
          · exact retN X35 hx (t := .boolean) Bd.returns (by simp) (hb hby d2_154) hr
          · show Q2 Z p0 h0 n0 _ T35.heap _
            rw [e35]
            exact ⟨(by simp only [f2, if_neg hc1, if_neg hc10, if_neg hc34, if_neg hc37]), N36, rfl⟩
theorem own_ext32 {x y : Int32} (h : (x.toInt - y.toInt) % 4294967296 = 0) : x = y := by
  have h1 := rng32 x
  have h2 := rng32 y
  exact Int32.toInt_inj.mp (by omega)
theorem own_ext64 {x y : Int64} (h : (x.toInt - y.toInt) % 18446744073709551616 = 0) : x = y := by
  have h1 := rng64 x
  have h2 := rng64 y
  exact Int64.toInt_inj.mp (by omega)
theorem own_nat32 (x : Int32) : x.toBitVec.toNat < 4294967296 ∧ ((x.toInt = x.toBitVec.toNat ∧ x.toBitVec.toNat < 2147483648) ∨ (x.toInt = x.toBitVec.toNat - 4294967296 ∧ 2147483648 ≤ x.toBitVec.toNat)) := by
  have h := x.toBitVec.isLt
  refine ⟨h, ?_⟩
  have q : x.toInt = x.toBitVec.toInt := rfl
  rw [q, BitVec.toInt_eq_toNat_cond]
  split <;> omega
theorem own_ands (n m k : Nat) (V : Nat) : (n &&& m) = V ↔ ((n / 2 ^ k &&& m / 2 ^ k) = V / 2 ^ k ∧ (n % 2 ^ k &&& m % 2 ^ k) = V % 2 ^ k) := by
  rw [← Nat.and_div_two_pow, ← Nat.and_mod_two_pow]
  constructor
  · intro h; rw [h]; exact ⟨rfl, rfl⟩
  · intro ⟨h1, h2⟩
    rw [← Nat.div_add_mod (n &&& m) (2 ^ k), h1, h2, Nat.div_add_mod]
theorem own_tE : ∀ b : Fin 256, ((b.val &&& 240) = 224) ↔ (224 ≤ b.val ∧ b.val ≤ 239) := by decide +kernel
theorem own_tC : ∀ b : Fin 256, ((b.val &&& 192) = 128) ↔ (128 ≤ b.val ∧ b.val ≤ 191) := by decide +kernel
theorem own_maskN (n : Nat) (h : n < 4294967296) : ((n &&& 4039163904) = 3766517760) ↔ ((224 ≤ n / 16777216 ∧ n / 16777216 ≤ 239) ∧ (128 ≤ n / 65536 % 256 ∧ n / 65536 % 256 ≤ 191) ∧ (128 ≤ n / 256 % 256 ∧ n / 256 % 256 ≤ 191)) := by
  have e1 : n % 2 ^ 24 / 2 ^ 16 = n / 65536 % 256 := by omega
  have e2 : n % 2 ^ 24 % 2 ^ 16 / 2 ^ 8 = n / 256 % 256 := by omega
  have hE := own_tE ⟨n / 16777216, by omega⟩
  have hC1 := own_tC ⟨n / 65536 % 256, Nat.mod_lt _ (by decide)⟩
  have hC2 := own_tC ⟨n / 256 % 256, Nat.mod_lt _ (by decide)⟩
  dsimp only at hE hC1 hC2
  rw [own_ands n 4039163904 24 3766517760, own_ands (n % 2 ^ 24) (4039163904 % 2 ^ 24) 16 (3766517760 % 2 ^ 24), own_ands (n % 2 ^ 24 % 2 ^ 16) (4039163904 % 2 ^ 24 % 2 ^ 16) 8 (3766517760 % 2 ^ 24 % 2 ^ 16), e1, e2, ← hE, ← hC1, ← hC2]
  have z : (n % 2 ^ 24 % 2 ^ 16 % 2 ^ 8 &&& 4039163904 % 2 ^ 24 % 2 ^ 16 % 2 ^ 8) = 3766517760 % 2 ^ 24 % 2 ^ 16 % 2 ^ 8 := by
    show (n % 2 ^ 24 % 2 ^ 16 % 2 ^ 8 &&& 0) = 0
    exact Nat.and_zero _
  constructor
  · intro ⟨a, b, c, _⟩; exact ⟨a, b, c⟩
  · intro ⟨a, b, c⟩; exact ⟨a, b, c, z⟩
theorem own_mask (c : Int32) : ((c &&& (-255803392 : Int32)) = (-528449536 : Int32)) = ((224 ≤ c.toInt % 4294967296 / 16777216 ∧ c.toInt % 4294967296 / 16777216 ≤ 239) ∧ (128 ≤ c.toInt % 4294967296 / 65536 % 256 ∧ c.toInt % 4294967296 / 65536 % 256 ≤ 191) ∧ (128 ≤ c.toInt % 4294967296 / 256 % 256 ∧ c.toInt % 4294967296 / 256 % 256 ≤ 191)) := by
  have n1 := own_nat32 c
  have m := own_maskN c.toBitVec.toNat n1.1
  have e : c.toInt % 4294967296 = (c.toBitVec.toNat : Int) := by omega
  have q : ((c &&& (-255803392 : Int32)) = (-528449536 : Int32)) ↔ ((c.toBitVec.toNat &&& 4039163904) = 3766517760) := by
    constructor
    · intro h
      have := congrArg (fun z : Int32 => z.toBitVec.toNat) h
      have l : (c &&& (-255803392 : Int32)).toBitVec.toNat = (c.toBitVec.toNat &&& 4039163904) := by
        show (c.toBitVec &&& (-255803392 : Int32).toBitVec).toNat = _
        rw [BitVec.toNat_and]; rfl
      rw [← l]; exact this
    · intro h
      apply Int32.toBitVec_inj.mp
      apply BitVec.eq_of_toNat_eq
      show (c.toBitVec &&& (-255803392 : Int32).toBitVec).toNat = _
      rw [BitVec.toNat_and]; exact h
  apply propext
  rw [q, m, e]
  omega
theorem own_ir (x lo hi : Int32) : (f3 x lo hi = 0) = (x.toInt < lo.toInt ∨ hi.toInt < x.toInt) := by
  simp only [f3, Int32.lt_iff_toInt_lt]
  apply propext
  constructor
  · intro h
    split at h
    · exact Or.inl (by assumption)
    · split at h
      · exact Or.inr (by assumption)
      · exact absurd h (by decide)
  · intro h
    split
    · rfl
    · split
      · rfl
      · exfalso; omega
set_option maxHeartbeats 40000000 in
theorem own_law (c : Int32) : f1 c = f2 c := by
  have s16 := c_iushr c (16 : Int32) 16 (by decide) (by decide)
  have s24 := c_iushr c (24 : Int32) 24 (by decide) (by decide)
  have s8 := c_iushr c (8 : Int32) 8 (by decide) (by decide)
  have e8 : ((2 ^ 8 : Nat) : Int) = 256 := rfl
  have e16 : ((2 ^ 16 : Nat) : Int) = 65536 := rfl
  have e24 : ((2 ^ 24 : Nat) : Int) = 16777216 := rfl
  rw [e16] at s16
  rw [e24] at s24
  rw [e8] at s8
  have m0 := c_mask ((c.toUInt32 >>> ((24 : Int32) &&& 31).toUInt32).toInt32) (255 : Int32) 8 (by decide) (by decide)
  have m1 := c_mask ((c.toUInt32 >>> ((16 : Int32) &&& 31).toUInt32).toInt32) (255 : Int32) 8 (by decide) (by decide)
  have m2 := c_mask ((c.toUInt32 >>> ((8 : Int32) &&& 31).toUInt32).toInt32) (255 : Int32) 8 (by decide) (by decide)
  rw [e8, s24] at m0
  rw [e8, s16] at m1
  rw [e8, s8] at m2
  have e : ∀ k : Int32, (((c.toUInt32 >>> ((24 : Int32) &&& 31).toUInt32).toInt32 &&& (255 : Int32)) = k) = (((c.toUInt32 >>> ((24 : Int32) &&& 31).toUInt32).toInt32 &&& (255 : Int32)).toInt = k.toInt) := fun k => propext Int32.toInt_inj.symm
  have hl : (57504 : Int32).toInt = 57504 ∧ (60832 : Int32).toInt = 60832 ∧ (60928 : Int32).toInt = 60928 ∧ (224 : Int32).toInt = 224 ∧ (225 : Int32).toInt = 225 ∧ (236 : Int32).toInt = 236 ∧ (237 : Int32).toInt = 237 ∧ (238 : Int32).toInt = 238 ∧ (239 : Int32).toInt = 239 ∧ (160 : Int32).toInt = 160 ∧ (191 : Int32).toInt = 191 ∧ (128 : Int32).toInt = 128 ∧ (159 : Int32).toInt = 159 := by decide
  obtain ⟨l1, l2, l3, l4, l5, l6, l7, l8, l9, l10, l11, l12, l13⟩ := hl
  simp only [f1, f2, own_mask, own_ir, e, Int32.lt_iff_toInt_lt, s16, m0, m1, m2, l1, l2, l3, l4, l5, l6, l7, l8, l9, l10, l11, l12, l13]
  have hN : 0 ≤ c.toInt % 4294967296 ∧ c.toInt % 4294967296 < 4294967296 := by omega
  generalize c.toInt % 4294967296 = N at *
  clear e
  have b0 : N / 16777216 % 256 = N / 16777216 := by omega
  have w : N / 65536 = N / 16777216 * 256 + N / 65536 % 256 := by omega
  rw [b0]
  generalize N / 16777216 = x0 at *
  generalize N / 256 % 256 = x2 at *
  have hx : N / 65536 < x0 * 256 + 256 := by omega
  generalize N / 65536 % 256 = x1 at *
  rw [w]
  repeat' split
  all_goals first | rfl | (exfalso; omega)
theorem own_pd1 : parseMethodDescriptor "(I)Z" = some ⟨[.int], some .boolean⟩ := by decide +kernel
def Q0 (Z : State) (p0 : Int32) (p1 : Int32) (p2 : Int32) (p3 : Int32) (p4 : Int32) (h0 : Heap) (n0 : Nat) (v : Option Value) (h : Heap) (L : List Loc) : Prop := v = some (.int 1) ∧ Fr n0 L ∧ h = h0
theorem ef0 (m : MethodId) (x0 : Int32) (x1 : Int32) (x2 : Int32) (x3 : Int32) (x4 : Int32) : entryFrame m #[(.int x0), (.int x1), (.int x2), (.int x3), (.int x4)] maxLocals = mkF m 0 #[.val (.int x0), .val (.int x1), .val (.int x2), .val (.int x3), .val (.int x4), .unset, .unset, .unset, .unset] [] := by first | (simp [entryFrame, mkF, argsToLocals, Value.category, maxLocals]; done) | rfl
set_option maxRecDepth 65536 in
set_option maxHeartbeats 40000000 in
theorem rm0 (l : Launch) (Z : State) (az : Array Value) (hw : ∀ d ∈ tables_1, d.before az Z = true) (ws : List Jvm.Cond) (p0 : Int32) (p1 : Int32) (p2 : Int32) (p3 : Int32) (p4 : Int32) (h0 : Heap) (n0 : Nat) (Z0 : n0 ≤ h0.size) :
    MetFree l x (head1 (Jvm.Cond.code x code maxLocals ret :: ws) room_1) (fun a U => a = #[(.int p0), (.int p1), (.int p2), (.int p3), (.int p4)] ∧ Z.Warmed39 U.vm ∧ U.heap = h0) (fun _ _ _ _ _ => True) (fun _ U o U' => ∃ v L, o = .returned v ∧ Q0 Z p0 p1 p2 p3 p4 h0 n0 v U'.heap L ∧ FrameEnd U o U' L 0 0) := by
  refine MetFree.of_bodySF (plainFor_of_name own_pn_com_example_bare_octets_bareoctets_codec_WellFormedSequencesIsCommonThreeByteFormPinLaw) hisR ?_
  intro p e s m args below meth c s₁ Bd hml0 hP hK
  obtain ⟨rfl, hZ, hh⟩ := hP
  have hx := Bd.exec
  have hby := Bd.bytes
  have hml : c.maxLocals = 9 := hml0
  have hown : s.vm.findClass "com/example/bare_octets/bareoctets/codec/WellFormedSequencesIsCommonThreeByteFormPinLaw" = some m.cls := findClass_of_methodNamed Bd.named
  have hnm := (name_of_methodNamed Bd.named Bd.method).1
  have X0 : Stand p l e room_1 s m #[(.int p0), (.int p1), (.int p2), (.int p3), (.int p4)] below meth c s₁ [] 0 0 := Stand.of_body Bd
  have e0 : s₁.heap = h0 := by rw [← hh, Bd.state]; rfl
  have N0 := Fr.nil n0
  have Kp0 : Keep h0 h0 [] := Keep.refl _ _
  refine Goes.start ?_
  refine Goes.by (B := s₁.setTop (mkF m 0 #[.val (.int p0), .val (.int p1), .val (.int p2), .val (.int p3), .val (.int p4), .unset, .unset, .unset, .unset] [])) (fun t k => castTop (ef0 m p0 p1 p2 p3 p4) k) ?_
  refine Goes.by (B := s₁.setTop (mkF m 4 #[.val (.int p0), .val (.int p1), .val (.int p2), .val (.int p3), .val (.int p4), .unset, .unset, .unset, .unset] [(.int (p4 &&& (1 : Int32)))])) (fun t k => ?_) ?_
  · show Steps p.tables e below (s₁.setTop (mkF m 0 #[.val (.int p0), .val (.int p1), .val (.int p2), .val (.int p3), .val (.int p4), .unset, .unset, .unset, .unset] [])) t
    refine XS.iload X0.here hx rfl (hb hby at_0) rfl ?_
    show Steps p.tables e below (s₁.setTop (mkF m 2 #[.val (.int p0), .val (.int p1), .val (.int p2), .val (.int p3), .val (.int p4), .unset, .unset, .unset, .unset] [(.int p4)])) t
    refine XS.iconst X0.here hx rfl (hb hby at_2) ?_
    show Steps p.tables e below (s₁.setTop (mkF m 3 #[.val (.int p0), .val (.int p1), .val (.int p2), .val (.int p3), .val (.int p4), .unset, .unset, .unset, .unset] [(.int (1 : Int32)), (.int p4)])) t
    refine XS.iand X0.here hx rfl (hb hby at_3) rfl ?_
    exact k
  by_cases hc1 : (p4 &&& (1 : Int32)) = (0 : Int32)
  · refine Goes.by (B := s₁.setTop (mkF m 27 #[.val (.int p0), .val (.int p1), .val (.int p2), .val (.int p3), .val (.int p4), .unset, .val (.int ((224 : Int32) ||| (p1 &&& (31 : Int32)))), .unset, .unset] [(.int (p4 &&& (2 : Int32)))])) (fun t k => ?_) ?_
    · show Steps p.tables e below (s₁.setTop (mkF m 4 #[.val (.int p0), .val (.int p1), .val (.int p2), .val (.int p3), .val (.int p4), .unset, .unset, .unset, .unset] [(.int (p4 &&& (1 : Int32)))])) t
      refine XS.ifYes X0.here hx rfl (pc0 := 4) (pc' := 13) rfl (hb hby at_4) rfl ((if0 _ _).trans (teq hc1).1) (by decide) (by decide) ?_
      show Steps p.tables e below (s₁.setTop (mkF m 13 #[.val (.int p0), .val (.int p1), .val (.int p2), .val (.int p3), .val (.int p4), .unset, .unset, .unset, .unset] [])) t
      refine XS.sipush X0.here hx rfl (hb hby at_13) ?_
      show Steps p.tables e below (s₁.setTop (mkF m 16 #[.val (.int p0), .val (.int p1), .val (.int p2), .val (.int p3), .val (.int p4), .unset, .unset, .unset, .unset] [(.int (224 : Int32))])) t
      refine XS.iloadN X0.here hx rfl (hb hby at_16) rfl ?_
      show Steps p.tables e below (s₁.setTop (mkF m 17 #[.val (.int p0), .val (.int p1), .val (.int p2), .val (.int p3), .val (.int p4), .unset, .unset, .unset, .unset] [(.int p1), (.int (224 : Int32))])) t
      refine XS.bipush X0.here hx rfl (hb hby at_17) ?_
      show Steps p.tables e below (s₁.setTop (mkF m 19 #[.val (.int p0), .val (.int p1), .val (.int p2), .val (.int p3), .val (.int p4), .unset, .unset, .unset, .unset] [(.int (31 : Int32)), (.int p1), (.int (224 : Int32))])) t
      refine XS.iand X0.here hx rfl (hb hby at_19) rfl ?_
      show Steps p.tables e below (s₁.setTop (mkF m 20 #[.val (.int p0), .val (.int p1), .val (.int p2), .val (.int p3), .val (.int p4), .unset, .unset, .unset, .unset] [(.int (p1 &&& (31 : Int32))), (.int (224 : Int32))])) t
      refine XS.ior X0.here hx rfl (hb hby at_20) rfl ?_
      show Steps p.tables e below (s₁.setTop (mkF m 21 #[.val (.int p0), .val (.int p1), .val (.int p2), .val (.int p3), .val (.int p4), .unset, .unset, .unset, .unset] [(.int ((224 : Int32) ||| (p1 &&& (31 : Int32))))])) t
      refine XS.istore X0.here hx rfl (hb hby at_21) rfl (l' := #[.val (.int p0), .val (.int p1), .val (.int p2), .val (.int p3), .val (.int p4), .unset, .val (.int ((224 : Int32) ||| (p1 &&& (31 : Int32)))), .unset, .unset]) rfl ?_
      show Steps p.tables e below (s₁.setTop (mkF m 23 #[.val (.int p0), .val (.int p1), .val (.int p2), .val (.int p3), .val (.int p4), .unset, .val (.int ((224 : Int32) ||| (p1 &&& (31 : Int32)))), .unset, .unset] [])) t
      refine XS.iload X0.here hx rfl (hb hby at_23) rfl ?_
      show Steps p.tables e below (s₁.setTop (mkF m 25 #[.val (.int p0), .val (.int p1), .val (.int p2), .val (.int p3), .val (.int p4), .unset, .val (.int ((224 : Int32) ||| (p1 &&& (31 : Int32)))), .unset, .unset] [(.int p4)])) t
      refine XS.iconst X0.here hx rfl (hb hby at_25) ?_
      show Steps p.tables e below (s₁.setTop (mkF m 26 #[.val (.int p0), .val (.int p1), .val (.int p2), .val (.int p3), .val (.int p4), .unset, .val (.int ((224 : Int32) ||| (p1 &&& (31 : Int32)))), .unset, .unset] [(.int (2 : Int32)), (.int p4)])) t
      refine XS.iand X0.here hx rfl (hb hby at_26) rfl ?_
      exact k
    by_cases hc2 : (p4 &&& (2 : Int32)) = (0 : Int32)
    · refine Goes.by (B := s₁.setTop (mkF m 52 #[.val (.int p0), .val (.int p1), .val (.int p2), .val (.int p3), .val (.int p4), .unset, .val (.int ((224 : Int32) ||| (p1 &&& (31 : Int32)))), .val (.int (p2 &&& (255 : Int32))), .unset] [(.int (p4 &&& (4 : Int32)))])) (fun t k => ?_) ?_
      · show Steps p.tables e below (s₁.setTop (mkF m 27 #[.val (.int p0), .val (.int p1), .val (.int p2), .val (.int p3), .val (.int p4), .unset, .val (.int ((224 : Int32) ||| (p1 &&& (31 : Int32)))), .unset, .unset] [(.int (p4 &&& (2 : Int32)))])) t
        refine XS.ifYes X0.here hx rfl (pc0 := 27) (pc' := 41) rfl (hb hby at_27) rfl ((if0 _ _).trans (teq hc2).1) (by decide) (by decide) ?_
        show Steps p.tables e below (s₁.setTop (mkF m 41 #[.val (.int p0), .val (.int p1), .val (.int p2), .val (.int p3), .val (.int p4), .unset, .val (.int ((224 : Int32) ||| (p1 &&& (31 : Int32)))), .unset, .unset] [])) t
        refine XS.iloadN X0.here hx rfl (hb hby at_41) rfl ?_
        show Steps p.tables e below (s₁.setTop (mkF m 42 #[.val (.int p0), .val (.int p1), .val (.int p2), .val (.int p3), .val (.int p4), .unset, .val (.int ((224 : Int32) ||| (p1 &&& (31 : Int32)))), .unset, .unset] [(.int p2)])) t
        refine XS.sipush X0.here hx rfl (hb hby at_42) ?_
        show Steps p.tables e below (s₁.setTop (mkF m 45 #[.val (.int p0), .val (.int p1), .val (.int p2), .val (.int p3), .val (.int p4), .unset, .val (.int ((224 : Int32) ||| (p1 &&& (31 : Int32)))), .unset, .unset] [(.int (255 : Int32)), (.int p2)])) t
        refine XS.iand X0.here hx rfl (hb hby at_45) rfl ?_
        show Steps p.tables e below (s₁.setTop (mkF m 46 #[.val (.int p0), .val (.int p1), .val (.int p2), .val (.int p3), .val (.int p4), .unset, .val (.int ((224 : Int32) ||| (p1 &&& (31 : Int32)))), .unset, .unset] [(.int (p2 &&& (255 : Int32)))])) t
        refine XS.istore X0.here hx rfl (hb hby at_46) rfl (l' := #[.val (.int p0), .val (.int p1), .val (.int p2), .val (.int p3), .val (.int p4), .unset, .val (.int ((224 : Int32) ||| (p1 &&& (31 : Int32)))), .val (.int (p2 &&& (255 : Int32))), .unset]) rfl ?_
        show Steps p.tables e below (s₁.setTop (mkF m 48 #[.val (.int p0), .val (.int p1), .val (.int p2), .val (.int p3), .val (.int p4), .unset, .val (.int ((224 : Int32) ||| (p1 &&& (31 : Int32)))), .val (.int (p2 &&& (255 : Int32))), .unset] [])) t
        refine XS.iload X0.here hx rfl (hb hby at_48) rfl ?_
        show Steps p.tables e below (s₁.setTop (mkF m 50 #[.val (.int p0), .val (.int p1), .val (.int p2), .val (.int p3), .val (.int p4), .unset, .val (.int ((224 : Int32) ||| (p1 &&& (31 : Int32)))), .val (.int (p2 &&& (255 : Int32))), .unset] [(.int p4)])) t
        refine XS.iconst X0.here hx rfl (hb hby at_50) ?_
        show Steps p.tables e below (s₁.setTop (mkF m 51 #[.val (.int p0), .val (.int p1), .val (.int p2), .val (.int p3), .val (.int p4), .unset, .val (.int ((224 : Int32) ||| (p1 &&& (31 : Int32)))), .val (.int (p2 &&& (255 : Int32))), .unset] [(.int (4 : Int32)), (.int p4)])) t
        refine XS.iand X0.here hx rfl (hb hby at_51) rfl ?_
        exact k
      by_cases hc3 : (p4 &&& (4 : Int32)) = (0 : Int32)
      · refine Goes.by (B := s₁.setTop (mkF m 100 #[.val (.int p0), .val (.int p1), .val (.int p2), .val (.int p3), .val (.int p4), .val (.int ((((((224 : Int32) ||| (p1 &&& (31 : Int32))) <<< ((24 : Int32) &&& 31)) ||| ((p2 &&& (255 : Int32)) <<< ((16 : Int32) &&& 31))) ||| ((p3 &&& (255 : Int32)) <<< ((8 : Int32) &&& 31))) ||| (p0 &&& (255 : Int32)))), .val (.int ((224 : Int32) ||| (p1 &&& (31 : Int32)))), .val (.int (p2 &&& (255 : Int32))), .val (.int (p3 &&& (255 : Int32)))] [(.int ((((((224 : Int32) ||| (p1 &&& (31 : Int32))) <<< ((24 : Int32) &&& 31)) ||| ((p2 &&& (255 : Int32)) <<< ((16 : Int32) &&& 31))) ||| ((p3 &&& (255 : Int32)) <<< ((8 : Int32) &&& 31))) ||| (p0 &&& (255 : Int32))))])) (fun t k => ?_) ?_
        · show Steps p.tables e below (s₁.setTop (mkF m 52 #[.val (.int p0), .val (.int p1), .val (.int p2), .val (.int p3), .val (.int p4), .unset, .val (.int ((224 : Int32) ||| (p1 &&& (31 : Int32)))), .val (.int (p2 &&& (255 : Int32))), .unset] [(.int (p4 &&& (4 : Int32)))])) t
          refine XS.ifYes X0.here hx rfl (pc0 := 52) (pc' := 66) rfl (hb hby at_52) rfl ((if0 _ _).trans (teq hc3).1) (by decide) (by decide) ?_
          show Steps p.tables e below (s₁.setTop (mkF m 66 #[.val (.int p0), .val (.int p1), .val (.int p2), .val (.int p3), .val (.int p4), .unset, .val (.int ((224 : Int32) ||| (p1 &&& (31 : Int32)))), .val (.int (p2 &&& (255 : Int32))), .unset] [])) t
          refine XS.iloadN X0.here hx rfl (hb hby at_66) rfl ?_
          show Steps p.tables e below (s₁.setTop (mkF m 67 #[.val (.int p0), .val (.int p1), .val (.int p2), .val (.int p3), .val (.int p4), .unset, .val (.int ((224 : Int32) ||| (p1 &&& (31 : Int32)))), .val (.int (p2 &&& (255 : Int32))), .unset] [(.int p3)])) t
          refine XS.sipush X0.here hx rfl (hb hby at_67) ?_
          show Steps p.tables e below (s₁.setTop (mkF m 70 #[.val (.int p0), .val (.int p1), .val (.int p2), .val (.int p3), .val (.int p4), .unset, .val (.int ((224 : Int32) ||| (p1 &&& (31 : Int32)))), .val (.int (p2 &&& (255 : Int32))), .unset] [(.int (255 : Int32)), (.int p3)])) t
          refine XS.iand X0.here hx rfl (hb hby at_70) rfl ?_
          show Steps p.tables e below (s₁.setTop (mkF m 71 #[.val (.int p0), .val (.int p1), .val (.int p2), .val (.int p3), .val (.int p4), .unset, .val (.int ((224 : Int32) ||| (p1 &&& (31 : Int32)))), .val (.int (p2 &&& (255 : Int32))), .unset] [(.int (p3 &&& (255 : Int32)))])) t
          refine XS.istore X0.here hx rfl (hb hby at_71) rfl (l' := #[.val (.int p0), .val (.int p1), .val (.int p2), .val (.int p3), .val (.int p4), .unset, .val (.int ((224 : Int32) ||| (p1 &&& (31 : Int32)))), .val (.int (p2 &&& (255 : Int32))), .val (.int (p3 &&& (255 : Int32)))]) rfl ?_
          show Steps p.tables e below (s₁.setTop (mkF m 73 #[.val (.int p0), .val (.int p1), .val (.int p2), .val (.int p3), .val (.int p4), .unset, .val (.int ((224 : Int32) ||| (p1 &&& (31 : Int32)))), .val (.int (p2 &&& (255 : Int32))), .val (.int (p3 &&& (255 : Int32)))] [])) t
          refine XS.iload X0.here hx rfl (hb hby at_73) rfl ?_
          show Steps p.tables e below (s₁.setTop (mkF m 75 #[.val (.int p0), .val (.int p1), .val (.int p2), .val (.int p3), .val (.int p4), .unset, .val (.int ((224 : Int32) ||| (p1 &&& (31 : Int32)))), .val (.int (p2 &&& (255 : Int32))), .val (.int (p3 &&& (255 : Int32)))] [(.int ((224 : Int32) ||| (p1 &&& (31 : Int32))))])) t
          refine XS.bipush X0.here hx rfl (hb hby at_75) ?_
          show Steps p.tables e below (s₁.setTop (mkF m 77 #[.val (.int p0), .val (.int p1), .val (.int p2), .val (.int p3), .val (.int p4), .unset, .val (.int ((224 : Int32) ||| (p1 &&& (31 : Int32)))), .val (.int (p2 &&& (255 : Int32))), .val (.int (p3 &&& (255 : Int32)))] [(.int (24 : Int32)), (.int ((224 : Int32) ||| (p1 &&& (31 : Int32))))])) t
          refine XS.ishl X0.here hx rfl (hb hby at_77) rfl ?_
          show Steps p.tables e below (s₁.setTop (mkF m 78 #[.val (.int p0), .val (.int p1), .val (.int p2), .val (.int p3), .val (.int p4), .unset, .val (.int ((224 : Int32) ||| (p1 &&& (31 : Int32)))), .val (.int (p2 &&& (255 : Int32))), .val (.int (p3 &&& (255 : Int32)))] [(.int (((224 : Int32) ||| (p1 &&& (31 : Int32))) <<< ((24 : Int32) &&& 31)))])) t
          refine XS.iload X0.here hx rfl (hb hby at_78) rfl ?_
          show Steps p.tables e below (s₁.setTop (mkF m 80 #[.val (.int p0), .val (.int p1), .val (.int p2), .val (.int p3), .val (.int p4), .unset, .val (.int ((224 : Int32) ||| (p1 &&& (31 : Int32)))), .val (.int (p2 &&& (255 : Int32))), .val (.int (p3 &&& (255 : Int32)))] [(.int (p2 &&& (255 : Int32))), (.int (((224 : Int32) ||| (p1 &&& (31 : Int32))) <<< ((24 : Int32) &&& 31)))])) t
          refine XS.bipush X0.here hx rfl (hb hby at_80) ?_
          show Steps p.tables e below (s₁.setTop (mkF m 82 #[.val (.int p0), .val (.int p1), .val (.int p2), .val (.int p3), .val (.int p4), .unset, .val (.int ((224 : Int32) ||| (p1 &&& (31 : Int32)))), .val (.int (p2 &&& (255 : Int32))), .val (.int (p3 &&& (255 : Int32)))] [(.int (16 : Int32)), (.int (p2 &&& (255 : Int32))), (.int (((224 : Int32) ||| (p1 &&& (31 : Int32))) <<< ((24 : Int32) &&& 31)))])) t
          refine XS.ishl X0.here hx rfl (hb hby at_82) rfl ?_
          show Steps p.tables e below (s₁.setTop (mkF m 83 #[.val (.int p0), .val (.int p1), .val (.int p2), .val (.int p3), .val (.int p4), .unset, .val (.int ((224 : Int32) ||| (p1 &&& (31 : Int32)))), .val (.int (p2 &&& (255 : Int32))), .val (.int (p3 &&& (255 : Int32)))] [(.int ((p2 &&& (255 : Int32)) <<< ((16 : Int32) &&& 31))), (.int (((224 : Int32) ||| (p1 &&& (31 : Int32))) <<< ((24 : Int32) &&& 31)))])) t
          refine XS.ior X0.here hx rfl (hb hby at_83) rfl ?_
          show Steps p.tables e below (s₁.setTop (mkF m 84 #[.val (.int p0), .val (.int p1), .val (.int p2), .val (.int p3), .val (.int p4), .unset, .val (.int ((224 : Int32) ||| (p1 &&& (31 : Int32)))), .val (.int (p2 &&& (255 : Int32))), .val (.int (p3 &&& (255 : Int32)))] [(.int ((((224 : Int32) ||| (p1 &&& (31 : Int32))) <<< ((24 : Int32) &&& 31)) ||| ((p2 &&& (255 : Int32)) <<< ((16 : Int32) &&& 31))))])) t
          refine XS.iload X0.here hx rfl (hb hby at_84) rfl ?_
          show Steps p.tables e below (s₁.setTop (mkF m 86 #[.val (.int p0), .val (.int p1), .val (.int p2), .val (.int p3), .val (.int p4), .unset, .val (.int ((224 : Int32) ||| (p1 &&& (31 : Int32)))), .val (.int (p2 &&& (255 : Int32))), .val (.int (p3 &&& (255 : Int32)))] [(.int (p3 &&& (255 : Int32))), (.int ((((224 : Int32) ||| (p1 &&& (31 : Int32))) <<< ((24 : Int32) &&& 31)) ||| ((p2 &&& (255 : Int32)) <<< ((16 : Int32) &&& 31))))])) t
          refine XS.bipush X0.here hx rfl (hb hby at_86) ?_
          show Steps p.tables e below (s₁.setTop (mkF m 88 #[.val (.int p0), .val (.int p1), .val (.int p2), .val (.int p3), .val (.int p4), .unset, .val (.int ((224 : Int32) ||| (p1 &&& (31 : Int32)))), .val (.int (p2 &&& (255 : Int32))), .val (.int (p3 &&& (255 : Int32)))] [(.int (8 : Int32)), (.int (p3 &&& (255 : Int32))), (.int ((((224 : Int32) ||| (p1 &&& (31 : Int32))) <<< ((24 : Int32) &&& 31)) ||| ((p2 &&& (255 : Int32)) <<< ((16 : Int32) &&& 31))))])) t
          refine XS.ishl X0.here hx rfl (hb hby at_88) rfl ?_
          show Steps p.tables e below (s₁.setTop (mkF m 89 #[.val (.int p0), .val (.int p1), .val (.int p2), .val (.int p3), .val (.int p4), .unset, .val (.int ((224 : Int32) ||| (p1 &&& (31 : Int32)))), .val (.int (p2 &&& (255 : Int32))), .val (.int (p3 &&& (255 : Int32)))] [(.int ((p3 &&& (255 : Int32)) <<< ((8 : Int32) &&& 31))), (.int ((((224 : Int32) ||| (p1 &&& (31 : Int32))) <<< ((24 : Int32) &&& 31)) ||| ((p2 &&& (255 : Int32)) <<< ((16 : Int32) &&& 31))))])) t
          refine XS.ior X0.here hx rfl (hb hby at_89) rfl ?_
          show Steps p.tables e below (s₁.setTop (mkF m 90 #[.val (.int p0), .val (.int p1), .val (.int p2), .val (.int p3), .val (.int p4), .unset, .val (.int ((224 : Int32) ||| (p1 &&& (31 : Int32)))), .val (.int (p2 &&& (255 : Int32))), .val (.int (p3 &&& (255 : Int32)))] [(.int (((((224 : Int32) ||| (p1 &&& (31 : Int32))) <<< ((24 : Int32) &&& 31)) ||| ((p2 &&& (255 : Int32)) <<< ((16 : Int32) &&& 31))) ||| ((p3 &&& (255 : Int32)) <<< ((8 : Int32) &&& 31))))])) t
          refine XS.iloadN X0.here hx rfl (hb hby at_90) rfl ?_
          show Steps p.tables e below (s₁.setTop (mkF m 91 #[.val (.int p0), .val (.int p1), .val (.int p2), .val (.int p3), .val (.int p4), .unset, .val (.int ((224 : Int32) ||| (p1 &&& (31 : Int32)))), .val (.int (p2 &&& (255 : Int32))), .val (.int (p3 &&& (255 : Int32)))] [(.int p0), (.int (((((224 : Int32) ||| (p1 &&& (31 : Int32))) <<< ((24 : Int32) &&& 31)) ||| ((p2 &&& (255 : Int32)) <<< ((16 : Int32) &&& 31))) ||| ((p3 &&& (255 : Int32)) <<< ((8 : Int32) &&& 31))))])) t
          refine XS.sipush X0.here hx rfl (hb hby at_91) ?_
          show Steps p.tables e below (s₁.setTop (mkF m 94 #[.val (.int p0), .val (.int p1), .val (.int p2), .val (.int p3), .val (.int p4), .unset, .val (.int ((224 : Int32) ||| (p1 &&& (31 : Int32)))), .val (.int (p2 &&& (255 : Int32))), .val (.int (p3 &&& (255 : Int32)))] [(.int (255 : Int32)), (.int p0), (.int (((((224 : Int32) ||| (p1 &&& (31 : Int32))) <<< ((24 : Int32) &&& 31)) ||| ((p2 &&& (255 : Int32)) <<< ((16 : Int32) &&& 31))) ||| ((p3 &&& (255 : Int32)) <<< ((8 : Int32) &&& 31))))])) t
          refine XS.iand X0.here hx rfl (hb hby at_94) rfl ?_
          show Steps p.tables e below (s₁.setTop (mkF m 95 #[.val (.int p0), .val (.int p1), .val (.int p2), .val (.int p3), .val (.int p4), .unset, .val (.int ((224 : Int32) ||| (p1 &&& (31 : Int32)))), .val (.int (p2 &&& (255 : Int32))), .val (.int (p3 &&& (255 : Int32)))] [(.int (p0 &&& (255 : Int32))), (.int (((((224 : Int32) ||| (p1 &&& (31 : Int32))) <<< ((24 : Int32) &&& 31)) ||| ((p2 &&& (255 : Int32)) <<< ((16 : Int32) &&& 31))) ||| ((p3 &&& (255 : Int32)) <<< ((8 : Int32) &&& 31))))])) t
          refine XS.ior X0.here hx rfl (hb hby at_95) rfl ?_
          show Steps p.tables e below (s₁.setTop (mkF m 96 #[.val (.int p0), .val (.int p1), .val (.int p2), .val (.int p3), .val (.int p4), .unset, .val (.int ((224 : Int32) ||| (p1 &&& (31 : Int32)))), .val (.int (p2 &&& (255 : Int32))), .val (.int (p3 &&& (255 : Int32)))] [(.int ((((((224 : Int32) ||| (p1 &&& (31 : Int32))) <<< ((24 : Int32) &&& 31)) ||| ((p2 &&& (255 : Int32)) <<< ((16 : Int32) &&& 31))) ||| ((p3 &&& (255 : Int32)) <<< ((8 : Int32) &&& 31))) ||| (p0 &&& (255 : Int32))))])) t
          refine XS.istore X0.here hx rfl (hb hby at_96) rfl (l' := #[.val (.int p0), .val (.int p1), .val (.int p2), .val (.int p3), .val (.int p4), .val (.int ((((((224 : Int32) ||| (p1 &&& (31 : Int32))) <<< ((24 : Int32) &&& 31)) ||| ((p2 &&& (255 : Int32)) <<< ((16 : Int32) &&& 31))) ||| ((p3 &&& (255 : Int32)) <<< ((8 : Int32) &&& 31))) ||| (p0 &&& (255 : Int32)))), .val (.int ((224 : Int32) ||| (p1 &&& (31 : Int32)))), .val (.int (p2 &&& (255 : Int32))), .val (.int (p3 &&& (255 : Int32)))]) rfl ?_
          show Steps p.tables e below (s₁.setTop (mkF m 98 #[.val (.int p0), .val (.int p1), .val (.int p2), .val (.int p3), .val (.int p4), .val (.int ((((((224 : Int32) ||| (p1 &&& (31 : Int32))) <<< ((24 : Int32) &&& 31)) ||| ((p2 &&& (255 : Int32)) <<< ((16 : Int32) &&& 31))) ||| ((p3 &&& (255 : Int32)) <<< ((8 : Int32) &&& 31))) ||| (p0 &&& (255 : Int32)))), .val (.int ((224 : Int32) ||| (p1 &&& (31 : Int32)))), .val (.int (p2 &&& (255 : Int32))), .val (.int (p3 &&& (255 : Int32)))] [])) t
          refine XS.iload X0.here hx rfl (hb hby at_98) rfl ?_
          exact k
        obtain ⟨_, _, ⟨T4, L4, k4, n4⟩, -, X4, ⟨Lc4, hQ4, l4, y4, z4⟩, st4⟩ := Jvm.LawKit.callS X0 hx (y := (⟨"com/example/bare_octets/bareoctets/codec/WellFormedSequences", "isCommonThreeByteForm", "(I)Z"⟩ : MethodName)) hown (mvT hZ (hw _ (List.mem_of_getElem? (i := 0) rfl))) (mvT hZ (hw _ (List.mem_of_getElem? (i := 1) rfl))) (mvT hZ (hw _ (List.mem_of_getElem? (i := 2) rfl))) (mvT hZ (hw _ (List.mem_of_getElem? (i := 3) rfl))) (by decide) (backOf (W := 0) (rm1 l Z az hw [] ((((((224 : Int32) ||| (p1 &&& (31 : Int32))) <<< ((24 : Int32) &&& 31)) ||| ((p2 &&& (255 : Int32)) <<< ((16 : Int32) &&& 31))) ||| ((p3 &&& (255 : Int32)) <<< ((8 : Int32) &&& 31))) ||| (p0 &&& (255 : Int32))) h0 n0 Z0 ) hZ (hw _ (List.mem_of_getElem? (i := 3) rfl)) (hw _ (List.mem_of_getElem? (i := 2) rfl)) (by decide) (by decide)) (g := (mkF m 100 #[.val (.int p0), .val (.int p1), .val (.int p2), .val (.int p3), .val (.int p4), .val (.int ((((((224 : Int32) ||| (p1 &&& (31 : Int32))) <<< ((24 : Int32) &&& 31)) ||| ((p2 &&& (255 : Int32)) <<< ((16 : Int32) &&& 31))) ||| ((p3 &&& (255 : Int32)) <<< ((8 : Int32) &&& 31))) ||| (p0 &&& (255 : Int32)))), .val (.int ((224 : Int32) ||| (p1 &&& (31 : Int32)))), .val (.int (p2 &&& (255 : Int32))), .val (.int (p3 &&& (255 : Int32)))] [(.int ((((((224 : Int32) ||| (p1 &&& (31 : Int32))) <<< ((24 : Int32) &&& 31)) ||| ((p2 &&& (255 : Int32)) <<< ((16 : Int32) &&& 31))) ||| ((p3 &&& (255 : Int32)) <<< ((8 : Int32) &&& 31))) ||| (p0 &&& (255 : Int32))))])) rfl (by rw [hml]; rfl) (argsL := [(.int ((((((224 : Int32) ||| (p1 &&& (31 : Int32))) <<< ((24 : Int32) &&& 31)) ||| ((p2 &&& (255 : Int32)) <<< ((16 : Int32) &&& 31))) ||| ((p3 &&& (255 : Int32)) <<< ((8 : Int32) &&& 31))) ||| (p0 &&& (255 : Int32))))]) (rest := []) (lenOf own_pd1 rfl) rfl (by show 2 * 0 + _ ≤ _; exact Nat.le_of_eq rfl) (hb hby at_100) (fun _ _ => ⟨rfl, e0, (by decide : 0 + 0 ≤ _), (by decide : 0 + 0 ≤ _)⟩)
        dsimp only [Pt.U, Pt.locs, Pt.cells, Pt.slots] at X4 l4 y4 z4 st4 hQ4
        subst l4 y4 z4
        obtain ⟨rfl, N4q, e4⟩ := hQ4
        have N5 := Fr.app N0 N4q
        refine Goes.by st4 ?_
        show Goes p.tables e below _ (T4.setTop (mkF m 103 #[.val (.int p0), .val (.int p1), .val (.int p2), .val (.int p3), .val (.int p4), .val (.int ((((((224 : Int32) ||| (p1 &&& (31 : Int32))) <<< ((24 : Int32) &&& 31)) ||| ((p2 &&& (255 : Int32)) <<< ((16 : Int32) &&& 31))) ||| ((p3 &&& (255 : Int32)) <<< ((8 : Int32) &&& 31))) ||| (p0 &&& (255 : Int32)))), .val (.int ((224 : Int32) ||| (p1 &&& (31 : Int32)))), .val (.int (p2 &&& (255 : Int32))), .val (.int (p3 &&& (255 : Int32)))] [(.int (f1 ((((((224 : Int32) ||| (p1 &&& (31 : Int32))) <<< ((24 : Int32) &&& 31)) ||| ((p2 &&& (255 : Int32)) <<< ((16 : Int32) &&& 31))) ||| ((p3 &&& (255 : Int32)) <<< ((8 : Int32) &&& 31))) ||| (p0 &&& (255 : Int32)))))]))
        refine Goes.by (B := T4.setTop (mkF m 105 #[.val (.int p0), .val (.int p1), .val (.int p2), .val (.int p3), .val (.int p4), .val (.int ((((((224 : Int32) ||| (p1 &&& (31 : Int32))) <<< ((24 : Int32) &&& 31)) ||| ((p2 &&& (255 : Int32)) <<< ((16 : Int32) &&& 31))) ||| ((p3 &&& (255 : Int32)) <<< ((8 : Int32) &&& 31))) ||| (p0 &&& (255 : Int32)))), .val (.int ((224 : Int32) ||| (p1 &&& (31 : Int32)))), .val (.int (p2 &&& (255 : Int32))), .val (.int (p3 &&& (255 : Int32)))] [(.int ((((((224 : Int32) ||| (p1 &&& (31 : Int32))) <<< ((24 : Int32) &&& 31)) ||| ((p2 &&& (255 : Int32)) <<< ((16 : Int32) &&& 31))) ||| ((p3 &&& (255 : Int32)) <<< ((8 : Int32) &&& 31))) ||| (p0 &&& (255 : Int32)))), (.int (f1 ((((((224 : Int32) ||| (p1 &&& (31 : Int32))) <<< ((24 : Int32) &&& 31)) ||| ((p2 &&& (255 : Int32)) <<< ((16 : Int32) &&& 31))) ||| ((p3 &&& (255 : Int32)) <<< ((8 : Int32) &&& 31))) ||| (p0 &&& (255 : Int32)))))])) (fun t k => ?_) ?_
        · show Steps p.tables e below (T4.setTop (mkF m 103 #[.val (.int p0), .val (.int p1), .val (.int p2), .val (.int p3), .val (.int p4), .val (.int ((((((224 : Int32) ||| (p1 &&& (31 : Int32))) <<< ((24 : Int32) &&& 31)) ||| ((p2 &&& (255 : Int32)) <<< ((16 : Int32) &&& 31))) ||| ((p3 &&& (255 : Int32)) <<< ((8 : Int32) &&& 31))) ||| (p0 &&& (255 : Int32)))), .val (.int ((224 : Int32) ||| (p1 &&& (31 : Int32)))), .val (.int (p2 &&& (255 : Int32))), .val (.int (p3 &&& (255 : Int32)))] [(.int (f1 ((((((224 : Int32) ||| (p1 &&& (31 : Int32))) <<< ((24 : Int32) &&& 31)) ||| ((p2 &&& (255 : Int32)) <<< ((16 : Int32) &&& 31))) ||| ((p3 &&& (255 : Int32)) <<< ((8 : Int32) &&& 31))) ||| (p0 &&& (255 : Int32)))))])) t
          refine XS.iload X4.here hx rfl (hb hby at_103) rfl ?_
          exact k
        obtain ⟨_, _, ⟨T6, L6, k6, n6⟩, -, X6, ⟨Lc6, hQ6, l6, y6, z6⟩, st6⟩ := Jvm.LawKit.callS X4 hx (y := (⟨"com/example/bare_octets/bareoctets/codec/WellFormedSequencesIsCommonThreeByteFormPinLaw", "expected", "(I)Z"⟩ : MethodName)) hown (mvT hZ (hw _ (List.mem_of_getElem? (i := 6) rfl))) (mvT hZ (hw _ (List.mem_of_getElem? (i := 7) rfl))) (mvT hZ (hw _ (List.mem_of_getElem? (i := 8) rfl))) (mvT hZ (hw _ (List.mem_of_getElem? (i := 9) rfl))) (by decide) (backOf (W := 1) (rm2 l Z az hw [] ((((((224 : Int32) ||| (p1 &&& (31 : Int32))) <<< ((24 : Int32) &&& 31)) ||| ((p2 &&& (255 : Int32)) <<< ((16 : Int32) &&& 31))) ||| ((p3 &&& (255 : Int32)) <<< ((8 : Int32) &&& 31))) ||| (p0 &&& (255 : Int32))) h0 n0 Z0 ) hZ (hw _ (List.mem_of_getElem? (i := 9) rfl)) (hw _ (List.mem_of_getElem? (i := 8) rfl)) (by decide) (by decide)) (g := (mkF m 105 #[.val (.int p0), .val (.int p1), .val (.int p2), .val (.int p3), .val (.int p4), .val (.int ((((((224 : Int32) ||| (p1 &&& (31 : Int32))) <<< ((24 : Int32) &&& 31)) ||| ((p2 &&& (255 : Int32)) <<< ((16 : Int32) &&& 31))) ||| ((p3 &&& (255 : Int32)) <<< ((8 : Int32) &&& 31))) ||| (p0 &&& (255 : Int32)))), .val (.int ((224 : Int32) ||| (p1 &&& (31 : Int32)))), .val (.int (p2 &&& (255 : Int32))), .val (.int (p3 &&& (255 : Int32)))] [(.int ((((((224 : Int32) ||| (p1 &&& (31 : Int32))) <<< ((24 : Int32) &&& 31)) ||| ((p2 &&& (255 : Int32)) <<< ((16 : Int32) &&& 31))) ||| ((p3 &&& (255 : Int32)) <<< ((8 : Int32) &&& 31))) ||| (p0 &&& (255 : Int32)))), (.int (f1 ((((((224 : Int32) ||| (p1 &&& (31 : Int32))) <<< ((24 : Int32) &&& 31)) ||| ((p2 &&& (255 : Int32)) <<< ((16 : Int32) &&& 31))) ||| ((p3 &&& (255 : Int32)) <<< ((8 : Int32) &&& 31))) ||| (p0 &&& (255 : Int32)))))])) rfl (by rw [hml]; rfl) (argsL := [(.int ((((((224 : Int32) ||| (p1 &&& (31 : Int32))) <<< ((24 : Int32) &&& 31)) ||| ((p2 &&& (255 : Int32)) <<< ((16 : Int32) &&& 31))) ||| ((p3 &&& (255 : Int32)) <<< ((8 : Int32) &&& 31))) ||| (p0 &&& (255 : Int32))))]) (rest := [(.int (f1 ((((((224 : Int32) ||| (p1 &&& (31 : Int32))) <<< ((24 : Int32) &&& 31)) ||| ((p2 &&& (255 : Int32)) <<< ((16 : Int32) &&& 31))) ||| ((p3 &&& (255 : Int32)) <<< ((8 : Int32) &&& 31))) ||| (p0 &&& (255 : Int32)))))]) (lenOf own_pd1 rfl) rfl (by show 2 * 0 + _ ≤ _; exact Nat.le_of_eq rfl) (hb hby at_105) (fun _ _ => ⟨rfl, e4, (by decide : 0 + 0 ≤ _), (by decide : 0 + 0 ≤ _)⟩)
        dsimp only [Pt.U, Pt.locs, Pt.cells, Pt.slots] at X6 l6 y6 z6 st6 hQ6
        subst l6 y6 z6
        obtain ⟨rfl, N6q, e6⟩ := hQ6
        have N7 := Fr.app N5 N6q
        refine Goes.by st6 ?_
        show Goes p.tables e below _ (T6.setTop (mkF m 108 #[.val (.int p0), .val (.int p1), .val (.int p2), .val (.int p3), .val (.int p4), .val (.int ((((((224 : Int32) ||| (p1 &&& (31 : Int32))) <<< ((24 : Int32) &&& 31)) ||| ((p2 &&& (255 : Int32)) <<< ((16 : Int32) &&& 31))) ||| ((p3 &&& (255 : Int32)) <<< ((8 : Int32) &&& 31))) ||| (p0 &&& (255 : Int32)))), .val (.int ((224 : Int32) ||| (p1 &&& (31 : Int32)))), .val (.int (p2 &&& (255 : Int32))), .val (.int (p3 &&& (255 : Int32)))] [(.int (f2 ((((((224 : Int32) ||| (p1 &&& (31 : Int32))) <<< ((24 : Int32) &&& 31)) ||| ((p2 &&& (255 : Int32)) <<< ((16 : Int32) &&& 31))) ||| ((p3 &&& (255 : Int32)) <<< ((8 : Int32) &&& 31))) ||| (p0 &&& (255 : Int32))))), (.int (f1 ((((((224 : Int32) ||| (p1 &&& (31 : Int32))) <<< ((24 : Int32) &&& 31)) ||| ((p2 &&& (255 : Int32)) <<< ((16 : Int32) &&& 31))) ||| ((p3 &&& (255 : Int32)) <<< ((8 : Int32) &&& 31))) ||| (p0 &&& (255 : Int32)))))]))
        refine Goes.by (B := T6.setTop (mkF m 116 #[.val (.int p0), .val (.int p1), .val (.int p2), .val (.int p3), .val (.int p4), .val (.int ((((((224 : Int32) ||| (p1 &&& (31 : Int32))) <<< ((24 : Int32) &&& 31)) ||| ((p2 &&& (255 : Int32)) <<< ((16 : Int32) &&& 31))) ||| ((p3 &&& (255 : Int32)) <<< ((8 : Int32) &&& 31))) ||| (p0 &&& (255 : Int32)))), .val (.int ((224 : Int32) ||| (p1 &&& (31 : Int32)))), .val (.int (p2 &&& (255 : Int32))), .val (.int (p3 &&& (255 : Int32)))] [(.int (1 : Int32))])) (fun t k => ?_) ?_
        · show Steps p.tables e below (T6.setTop (mkF m 108 #[.val (.int p0), .val (.int p1), .val (.int p2), .val (.int p3), .val (.int p4), .val (.int ((((((224 : Int32) ||| (p1 &&& (31 : Int32))) <<< ((24 : Int32) &&& 31)) ||| ((p2 &&& (255 : Int32)) <<< ((16 : Int32) &&& 31))) ||| ((p3 &&& (255 : Int32)) <<< ((8 : Int32) &&& 31))) ||| (p0 &&& (255 : Int32)))), .val (.int ((224 : Int32) ||| (p1 &&& (31 : Int32)))), .val (.int (p2 &&& (255 : Int32))), .val (.int (p3 &&& (255 : Int32)))] [(.int (f2 ((((((224 : Int32) ||| (p1 &&& (31 : Int32))) <<< ((24 : Int32) &&& 31)) ||| ((p2 &&& (255 : Int32)) <<< ((16 : Int32) &&& 31))) ||| ((p3 &&& (255 : Int32)) <<< ((8 : Int32) &&& 31))) ||| (p0 &&& (255 : Int32))))), (.int (f1 ((((((224 : Int32) ||| (p1 &&& (31 : Int32))) <<< ((24 : Int32) &&& 31)) ||| ((p2 &&& (255 : Int32)) <<< ((16 : Int32) &&& 31))) ||| ((p3 &&& (255 : Int32)) <<< ((8 : Int32) &&& 31))) ||| (p0 &&& (255 : Int32)))))])) t
          refine XS.icmpNo X6.here hx rfl (hb hby at_108) rfl (teq (own_law _)).2 ?_
          show Steps p.tables e below (T6.setTop (mkF m 111 #[.val (.int p0), .val (.int p1), .val (.int p2), .val (.int p3), .val (.int p4), .val (.int ((((((224 : Int32) ||| (p1 &&& (31 : Int32))) <<< ((24 : Int32) &&& 31)) ||| ((p2 &&& (255 : Int32)) <<< ((16 : Int32) &&& 31))) ||| ((p3 &&& (255 : Int32)) <<< ((8 : Int32) &&& 31))) ||| (p0 &&& (255 : Int32)))), .val (.int ((224 : Int32) ||| (p1 &&& (31 : Int32)))), .val (.int (p2 &&& (255 : Int32))), .val (.int (p3 &&& (255 : Int32)))] [])) t
          refine XS.iconst X6.here hx rfl (hb hby at_111) ?_
          show Steps p.tables e below (T6.setTop (mkF m 112 #[.val (.int p0), .val (.int p1), .val (.int p2), .val (.int p3), .val (.int p4), .val (.int ((((((224 : Int32) ||| (p1 &&& (31 : Int32))) <<< ((24 : Int32) &&& 31)) ||| ((p2 &&& (255 : Int32)) <<< ((16 : Int32) &&& 31))) ||| ((p3 &&& (255 : Int32)) <<< ((8 : Int32) &&& 31))) ||| (p0 &&& (255 : Int32)))), .val (.int ((224 : Int32) ||| (p1 &&& (31 : Int32)))), .val (.int (p2 &&& (255 : Int32))), .val (.int (p3 &&& (255 : Int32)))] [(.int (1 : Int32))])) t
          refine XS.goto X6.here hx rfl (pc0 := 112) (pc' := 116) rfl (hb hby at_112) (by decide) (by decide) ?_
          exact k
        obtain ⟨fs, hr, hrun, hended, hW, hsame⟩ := X6.leave (v := some (.int (1 : Int32))) (fun h => by rw [Bd.returns] at h; cases h)
        refine Goes.mk _ _ ?_ ⟨hrun, hended, _, _, rfl, ?_, ⟨_, rfl⟩, hW, hsame.mono (by decide) (by decide)⟩
        · exact retN X6 hx (t := .boolean) Bd.returns (by simp) (hb hby at_116) hr
        · show Q0 Z p0 p1 p2 p3 p4 h0 n0 _ T6.heap _
          rw [e6]
          exact ⟨rfl, N7, rfl⟩
      · refine Goes.by (B := s₁.setTop (mkF m 100 #[.val (.int p0), .val (.int p1), .val (.int p2), .val (.int p3), .val (.int p4), .val (.int ((((((224 : Int32) ||| (p1 &&& (31 : Int32))) <<< ((24 : Int32) &&& 31)) ||| ((p2 &&& (255 : Int32)) <<< ((16 : Int32) &&& 31))) ||| (((128 : Int32) ||| (p3 &&& (63 : Int32))) <<< ((8 : Int32) &&& 31))) ||| (p0 &&& (255 : Int32)))), .val (.int ((224 : Int32) ||| (p1 &&& (31 : Int32)))), .val (.int (p2 &&& (255 : Int32))), .val (.int ((128 : Int32) ||| (p3 &&& (63 : Int32))))] [(.int ((((((224 : Int32) ||| (p1 &&& (31 : Int32))) <<< ((24 : Int32) &&& 31)) ||| ((p2 &&& (255 : Int32)) <<< ((16 : Int32) &&& 31))) ||| (((128 : Int32) ||| (p3 &&& (63 : Int32))) <<< ((8 : Int32) &&& 31))) ||| (p0 &&& (255 : Int32))))])) (fun t k => ?_) ?_
        · show Steps p.tables e below (s₁.setTop (mkF m 52 #[.val (.int p0), .val (.int p1), .val (.int p2), .val (.int p3), .val (.int p4), .unset, .val (.int ((224 : Int32) ||| (p1 &&& (31 : Int32)))), .val (.int (p2 &&& (255 : Int32))), .unset] [(.int (p4 &&& (4 : Int32)))])) t
          refine XS.ifNo X0.here hx rfl (hb hby at_52) rfl ((if0 _ _).trans (feq hc3).1) ?_
          show Steps p.tables e below (s₁.setTop (mkF m 55 #[.val (.int p0), .val (.int p1), .val (.int p2), .val (.int p3), .val (.int p4), .unset, .val (.int ((224 : Int32) ||| (p1 &&& (31 : Int32)))), .val (.int (p2 &&& (255 : Int32))), .unset] [])) t
          refine XS.sipush X0.here hx rfl (hb hby at_55) ?_
          show Steps p.tables e below (s₁.setTop (mkF m 58 #[.val (.int p0), .val (.int p1), .val (.int p2), .val (.int p3), .val (.int p4), .unset, .val (.int ((224 : Int32) ||| (p1 &&& (31 : Int32)))), .val (.int (p2 &&& (255 : Int32))), .unset] [(.int (128 : Int32))])) t
          refine XS.iloadN X0.here hx rfl (hb hby at_58) rfl ?_
          show Steps p.tables e below (s₁.setTop (mkF m 59 #[.val (.int p0), .val (.int p1), .val (.int p2), .val (.int p3), .val (.int p4), .unset, .val (.int ((224 : Int32) ||| (p1 &&& (31 : Int32)))), .val (.int (p2 &&& (255 : Int32))), .unset] [(.int p3), (.int (128 : Int32))])) t
          refine XS.bipush X0.here hx rfl (hb hby at_59) ?_
          show Steps p.tables e below (s₁.setTop (mkF m 61 #[.val (.int p0), .val (.int p1), .val (.int p2), .val (.int p3), .val (.int p4), .unset, .val (.int ((224 : Int32) ||| (p1 &&& (31 : Int32)))), .val (.int (p2 &&& (255 : Int32))), .unset] [(.int (63 : Int32)), (.int p3), (.int (128 : Int32))])) t
          refine XS.iand X0.here hx rfl (hb hby at_61) rfl ?_
          show Steps p.tables e below (s₁.setTop (mkF m 62 #[.val (.int p0), .val (.int p1), .val (.int p2), .val (.int p3), .val (.int p4), .unset, .val (.int ((224 : Int32) ||| (p1 &&& (31 : Int32)))), .val (.int (p2 &&& (255 : Int32))), .unset] [(.int (p3 &&& (63 : Int32))), (.int (128 : Int32))])) t
          refine XS.ior X0.here hx rfl (hb hby at_62) rfl ?_
          show Steps p.tables e below (s₁.setTop (mkF m 63 #[.val (.int p0), .val (.int p1), .val (.int p2), .val (.int p3), .val (.int p4), .unset, .val (.int ((224 : Int32) ||| (p1 &&& (31 : Int32)))), .val (.int (p2 &&& (255 : Int32))), .unset] [(.int ((128 : Int32) ||| (p3 &&& (63 : Int32))))])) t
          refine XS.goto X0.here hx rfl (pc0 := 63) (pc' := 71) rfl (hb hby at_63) (by decide) (by decide) ?_
          show Steps p.tables e below (s₁.setTop (mkF m 71 #[.val (.int p0), .val (.int p1), .val (.int p2), .val (.int p3), .val (.int p4), .unset, .val (.int ((224 : Int32) ||| (p1 &&& (31 : Int32)))), .val (.int (p2 &&& (255 : Int32))), .unset] [(.int ((128 : Int32) ||| (p3 &&& (63 : Int32))))])) t
          refine XS.istore X0.here hx rfl (hb hby at_71) rfl (l' := #[.val (.int p0), .val (.int p1), .val (.int p2), .val (.int p3), .val (.int p4), .unset, .val (.int ((224 : Int32) ||| (p1 &&& (31 : Int32)))), .val (.int (p2 &&& (255 : Int32))), .val (.int ((128 : Int32) ||| (p3 &&& (63 : Int32))))]) rfl ?_
          show Steps p.tables e below (s₁.setTop (mkF m 73 #[.val (.int p0), .val (.int p1), .val (.int p2), .val (.int p3), .val (.int p4), .unset, .val (.int ((224 : Int32) ||| (p1 &&& (31 : Int32)))), .val (.int (p2 &&& (255 : Int32))), .val (.int ((128 : Int32) ||| (p3 &&& (63 : Int32))))] [])) t
          refine XS.iload X0.here hx rfl (hb hby at_73) rfl ?_
          show Steps p.tables e below (s₁.setTop (mkF m 75 #[.val (.int p0), .val (.int p1), .val (.int p2), .val (.int p3), .val (.int p4), .unset, .val (.int ((224 : Int32) ||| (p1 &&& (31 : Int32)))), .val (.int (p2 &&& (255 : Int32))), .val (.int ((128 : Int32) ||| (p3 &&& (63 : Int32))))] [(.int ((224 : Int32) ||| (p1 &&& (31 : Int32))))])) t
          refine XS.bipush X0.here hx rfl (hb hby at_75) ?_
          show Steps p.tables e below (s₁.setTop (mkF m 77 #[.val (.int p0), .val (.int p1), .val (.int p2), .val (.int p3), .val (.int p4), .unset, .val (.int ((224 : Int32) ||| (p1 &&& (31 : Int32)))), .val (.int (p2 &&& (255 : Int32))), .val (.int ((128 : Int32) ||| (p3 &&& (63 : Int32))))] [(.int (24 : Int32)), (.int ((224 : Int32) ||| (p1 &&& (31 : Int32))))])) t
          refine XS.ishl X0.here hx rfl (hb hby at_77) rfl ?_
          show Steps p.tables e below (s₁.setTop (mkF m 78 #[.val (.int p0), .val (.int p1), .val (.int p2), .val (.int p3), .val (.int p4), .unset, .val (.int ((224 : Int32) ||| (p1 &&& (31 : Int32)))), .val (.int (p2 &&& (255 : Int32))), .val (.int ((128 : Int32) ||| (p3 &&& (63 : Int32))))] [(.int (((224 : Int32) ||| (p1 &&& (31 : Int32))) <<< ((24 : Int32) &&& 31)))])) t
          refine XS.iload X0.here hx rfl (hb hby at_78) rfl ?_
          show Steps p.tables e below (s₁.setTop (mkF m 80 #[.val (.int p0), .val (.int p1), .val (.int p2), .val (.int p3), .val (.int p4), .unset, .val (.int ((224 : Int32) ||| (p1 &&& (31 : Int32)))), .val (.int (p2 &&& (255 : Int32))), .val (.int ((128 : Int32) ||| (p3 &&& (63 : Int32))))] [(.int (p2 &&& (255 : Int32))), (.int (((224 : Int32) ||| (p1 &&& (31 : Int32))) <<< ((24 : Int32) &&& 31)))])) t
          refine XS.bipush X0.here hx rfl (hb hby at_80) ?_
          show Steps p.tables e below (s₁.setTop (mkF m 82 #[.val (.int p0), .val (.int p1), .val (.int p2), .val (.int p3), .val (.int p4), .unset, .val (.int ((224 : Int32) ||| (p1 &&& (31 : Int32)))), .val (.int (p2 &&& (255 : Int32))), .val (.int ((128 : Int32) ||| (p3 &&& (63 : Int32))))] [(.int (16 : Int32)), (.int (p2 &&& (255 : Int32))), (.int (((224 : Int32) ||| (p1 &&& (31 : Int32))) <<< ((24 : Int32) &&& 31)))])) t
          refine XS.ishl X0.here hx rfl (hb hby at_82) rfl ?_
          show Steps p.tables e below (s₁.setTop (mkF m 83 #[.val (.int p0), .val (.int p1), .val (.int p2), .val (.int p3), .val (.int p4), .unset, .val (.int ((224 : Int32) ||| (p1 &&& (31 : Int32)))), .val (.int (p2 &&& (255 : Int32))), .val (.int ((128 : Int32) ||| (p3 &&& (63 : Int32))))] [(.int ((p2 &&& (255 : Int32)) <<< ((16 : Int32) &&& 31))), (.int (((224 : Int32) ||| (p1 &&& (31 : Int32))) <<< ((24 : Int32) &&& 31)))])) t
          refine XS.ior X0.here hx rfl (hb hby at_83) rfl ?_
          show Steps p.tables e below (s₁.setTop (mkF m 84 #[.val (.int p0), .val (.int p1), .val (.int p2), .val (.int p3), .val (.int p4), .unset, .val (.int ((224 : Int32) ||| (p1 &&& (31 : Int32)))), .val (.int (p2 &&& (255 : Int32))), .val (.int ((128 : Int32) ||| (p3 &&& (63 : Int32))))] [(.int ((((224 : Int32) ||| (p1 &&& (31 : Int32))) <<< ((24 : Int32) &&& 31)) ||| ((p2 &&& (255 : Int32)) <<< ((16 : Int32) &&& 31))))])) t
          refine XS.iload X0.here hx rfl (hb hby at_84) rfl ?_
          show Steps p.tables e below (s₁.setTop (mkF m 86 #[.val (.int p0), .val (.int p1), .val (.int p2), .val (.int p3), .val (.int p4), .unset, .val (.int ((224 : Int32) ||| (p1 &&& (31 : Int32)))), .val (.int (p2 &&& (255 : Int32))), .val (.int ((128 : Int32) ||| (p3 &&& (63 : Int32))))] [(.int ((128 : Int32) ||| (p3 &&& (63 : Int32)))), (.int ((((224 : Int32) ||| (p1 &&& (31 : Int32))) <<< ((24 : Int32) &&& 31)) ||| ((p2 &&& (255 : Int32)) <<< ((16 : Int32) &&& 31))))])) t
          refine XS.bipush X0.here hx rfl (hb hby at_86) ?_
          show Steps p.tables e below (s₁.setTop (mkF m 88 #[.val (.int p0), .val (.int p1), .val (.int p2), .val (.int p3), .val (.int p4), .unset, .val (.int ((224 : Int32) ||| (p1 &&& (31 : Int32)))), .val (.int (p2 &&& (255 : Int32))), .val (.int ((128 : Int32) ||| (p3 &&& (63 : Int32))))] [(.int (8 : Int32)), (.int ((128 : Int32) ||| (p3 &&& (63 : Int32)))), (.int ((((224 : Int32) ||| (p1 &&& (31 : Int32))) <<< ((24 : Int32) &&& 31)) ||| ((p2 &&& (255 : Int32)) <<< ((16 : Int32) &&& 31))))])) t
          refine XS.ishl X0.here hx rfl (hb hby at_88) rfl ?_
          show Steps p.tables e below (s₁.setTop (mkF m 89 #[.val (.int p0), .val (.int p1), .val (.int p2), .val (.int p3), .val (.int p4), .unset, .val (.int ((224 : Int32) ||| (p1 &&& (31 : Int32)))), .val (.int (p2 &&& (255 : Int32))), .val (.int ((128 : Int32) ||| (p3 &&& (63 : Int32))))] [(.int (((128 : Int32) ||| (p3 &&& (63 : Int32))) <<< ((8 : Int32) &&& 31))), (.int ((((224 : Int32) ||| (p1 &&& (31 : Int32))) <<< ((24 : Int32) &&& 31)) ||| ((p2 &&& (255 : Int32)) <<< ((16 : Int32) &&& 31))))])) t
          refine XS.ior X0.here hx rfl (hb hby at_89) rfl ?_
          show Steps p.tables e below (s₁.setTop (mkF m 90 #[.val (.int p0), .val (.int p1), .val (.int p2), .val (.int p3), .val (.int p4), .unset, .val (.int ((224 : Int32) ||| (p1 &&& (31 : Int32)))), .val (.int (p2 &&& (255 : Int32))), .val (.int ((128 : Int32) ||| (p3 &&& (63 : Int32))))] [(.int (((((224 : Int32) ||| (p1 &&& (31 : Int32))) <<< ((24 : Int32) &&& 31)) ||| ((p2 &&& (255 : Int32)) <<< ((16 : Int32) &&& 31))) ||| (((128 : Int32) ||| (p3 &&& (63 : Int32))) <<< ((8 : Int32) &&& 31))))])) t
          refine XS.iloadN X0.here hx rfl (hb hby at_90) rfl ?_
          show Steps p.tables e below (s₁.setTop (mkF m 91 #[.val (.int p0), .val (.int p1), .val (.int p2), .val (.int p3), .val (.int p4), .unset, .val (.int ((224 : Int32) ||| (p1 &&& (31 : Int32)))), .val (.int (p2 &&& (255 : Int32))), .val (.int ((128 : Int32) ||| (p3 &&& (63 : Int32))))] [(.int p0), (.int (((((224 : Int32) ||| (p1 &&& (31 : Int32))) <<< ((24 : Int32) &&& 31)) ||| ((p2 &&& (255 : Int32)) <<< ((16 : Int32) &&& 31))) ||| (((128 : Int32) ||| (p3 &&& (63 : Int32))) <<< ((8 : Int32) &&& 31))))])) t
          refine XS.sipush X0.here hx rfl (hb hby at_91) ?_
          show Steps p.tables e below (s₁.setTop (mkF m 94 #[.val (.int p0), .val (.int p1), .val (.int p2), .val (.int p3), .val (.int p4), .unset, .val (.int ((224 : Int32) ||| (p1 &&& (31 : Int32)))), .val (.int (p2 &&& (255 : Int32))), .val (.int ((128 : Int32) ||| (p3 &&& (63 : Int32))))] [(.int (255 : Int32)), (.int p0), (.int (((((224 : Int32) ||| (p1 &&& (31 : Int32))) <<< ((24 : Int32) &&& 31)) ||| ((p2 &&& (255 : Int32)) <<< ((16 : Int32) &&& 31))) ||| (((128 : Int32) ||| (p3 &&& (63 : Int32))) <<< ((8 : Int32) &&& 31))))])) t
          refine XS.iand X0.here hx rfl (hb hby at_94) rfl ?_
          show Steps p.tables e below (s₁.setTop (mkF m 95 #[.val (.int p0), .val (.int p1), .val (.int p2), .val (.int p3), .val (.int p4), .unset, .val (.int ((224 : Int32) ||| (p1 &&& (31 : Int32)))), .val (.int (p2 &&& (255 : Int32))), .val (.int ((128 : Int32) ||| (p3 &&& (63 : Int32))))] [(.int (p0 &&& (255 : Int32))), (.int (((((224 : Int32) ||| (p1 &&& (31 : Int32))) <<< ((24 : Int32) &&& 31)) ||| ((p2 &&& (255 : Int32)) <<< ((16 : Int32) &&& 31))) ||| (((128 : Int32) ||| (p3 &&& (63 : Int32))) <<< ((8 : Int32) &&& 31))))])) t
          refine XS.ior X0.here hx rfl (hb hby at_95) rfl ?_
          show Steps p.tables e below (s₁.setTop (mkF m 96 #[.val (.int p0), .val (.int p1), .val (.int p2), .val (.int p3), .val (.int p4), .unset, .val (.int ((224 : Int32) ||| (p1 &&& (31 : Int32)))), .val (.int (p2 &&& (255 : Int32))), .val (.int ((128 : Int32) ||| (p3 &&& (63 : Int32))))] [(.int ((((((224 : Int32) ||| (p1 &&& (31 : Int32))) <<< ((24 : Int32) &&& 31)) ||| ((p2 &&& (255 : Int32)) <<< ((16 : Int32) &&& 31))) ||| (((128 : Int32) ||| (p3 &&& (63 : Int32))) <<< ((8 : Int32) &&& 31))) ||| (p0 &&& (255 : Int32))))])) t
          refine XS.istore X0.here hx rfl (hb hby at_96) rfl (l' := #[.val (.int p0), .val (.int p1), .val (.int p2), .val (.int p3), .val (.int p4), .val (.int ((((((224 : Int32) ||| (p1 &&& (31 : Int32))) <<< ((24 : Int32) &&& 31)) ||| ((p2 &&& (255 : Int32)) <<< ((16 : Int32) &&& 31))) ||| (((128 : Int32) ||| (p3 &&& (63 : Int32))) <<< ((8 : Int32) &&& 31))) ||| (p0 &&& (255 : Int32)))), .val (.int ((224 : Int32) ||| (p1 &&& (31 : Int32)))), .val (.int (p2 &&& (255 : Int32))), .val (.int ((128 : Int32) ||| (p3 &&& (63 : Int32))))]) rfl ?_
          show Steps p.tables e below (s₁.setTop (mkF m 98 #[.val (.int p0), .val (.int p1), .val (.int p2), .val (.int p3), .val (.int p4), .val (.int ((((((224 : Int32) ||| (p1 &&& (31 : Int32))) <<< ((24 : Int32) &&& 31)) ||| ((p2 &&& (255 : Int32)) <<< ((16 : Int32) &&& 31))) ||| (((128 : Int32) ||| (p3 &&& (63 : Int32))) <<< ((8 : Int32) &&& 31))) ||| (p0 &&& (255 : Int32)))), .val (.int ((224 : Int32) ||| (p1 &&& (31 : Int32)))), .val (.int (p2 &&& (255 : Int32))), .val (.int ((128 : Int32) ||| (p3 &&& (63 : Int32))))] [])) t
          refine XS.iload X0.here hx rfl (hb hby at_98) rfl ?_
          exact k
        obtain ⟨_, _, ⟨T8, L8, k8, n8⟩, -, X8, ⟨Lc8, hQ8, l8, y8, z8⟩, st8⟩ := Jvm.LawKit.callS X0 hx (y := (⟨"com/example/bare_octets/bareoctets/codec/WellFormedSequences", "isCommonThreeByteForm", "(I)Z"⟩ : MethodName)) hown (mvT hZ (hw _ (List.mem_of_getElem? (i := 0) rfl))) (mvT hZ (hw _ (List.mem_of_getElem? (i := 1) rfl))) (mvT hZ (hw _ (List.mem_of_getElem? (i := 2) rfl))) (mvT hZ (hw _ (List.mem_of_getElem? (i := 3) rfl))) (by decide) (backOf (W := 0) (rm1 l Z az hw [] ((((((224 : Int32) ||| (p1 &&& (31 : Int32))) <<< ((24 : Int32) &&& 31)) ||| ((p2 &&& (255 : Int32)) <<< ((16 : Int32) &&& 31))) ||| (((128 : Int32) ||| (p3 &&& (63 : Int32))) <<< ((8 : Int32) &&& 31))) ||| (p0 &&& (255 : Int32))) h0 n0 Z0 ) hZ (hw _ (List.mem_of_getElem? (i := 3) rfl)) (hw _ (List.mem_of_getElem? (i := 2) rfl)) (by decide) (by decide)) (g := (mkF m 100 #[.val (.int p0), .val (.int p1), .val (.int p2), .val (.int p3), .val (.int p4), .val (.int ((((((224 : Int32) ||| (p1 &&& (31 : Int32))) <<< ((24 : Int32) &&& 31)) ||| ((p2 &&& (255 : Int32)) <<< ((16 : Int32) &&& 31))) ||| (((128 : Int32) ||| (p3 &&& (63 : Int32))) <<< ((8 : Int32) &&& 31))) ||| (p0 &&& (255 : Int32)))), .val (.int ((224 : Int32) ||| (p1 &&& (31 : Int32)))), .val (.int (p2 &&& (255 : Int32))), .val (.int ((128 : Int32) ||| (p3 &&& (63 : Int32))))] [(.int ((((((224 : Int32) ||| (p1 &&& (31 : Int32))) <<< ((24 : Int32) &&& 31)) ||| ((p2 &&& (255 : Int32)) <<< ((16 : Int32) &&& 31))) ||| (((128 : Int32) ||| (p3 &&& (63 : Int32))) <<< ((8 : Int32) &&& 31))) ||| (p0 &&& (255 : Int32))))])) rfl (by rw [hml]; rfl) (argsL := [(.int ((((((224 : Int32) ||| (p1 &&& (31 : Int32))) <<< ((24 : Int32) &&& 31)) ||| ((p2 &&& (255 : Int32)) <<< ((16 : Int32) &&& 31))) ||| (((128 : Int32) ||| (p3 &&& (63 : Int32))) <<< ((8 : Int32) &&& 31))) ||| (p0 &&& (255 : Int32))))]) (rest := []) (lenOf own_pd1 rfl) rfl (by show 2 * 0 + _ ≤ _; exact Nat.le_of_eq rfl) (hb hby at_100) (fun _ _ => ⟨rfl, e0, (by decide : 0 + 0 ≤ _), (by decide : 0 + 0 ≤ _)⟩)
        dsimp only [Pt.U, Pt.locs, Pt.cells, Pt.slots] at X8 l8 y8 z8 st8 hQ8
        subst l8 y8 z8
        obtain ⟨rfl, N8q, e8⟩ := hQ8
        have N9 := Fr.app N0 N8q
        refine Goes.by st8 ?_
        show Goes p.tables e below _ (T8.setTop (mkF m 103 #[.val (.int p0), .val (.int p1), .val (.int p2), .val (.int p3), .val (.int p4), .val (.int ((((((224 : Int32) ||| (p1 &&& (31 : Int32))) <<< ((24 : Int32) &&& 31)) ||| ((p2 &&& (255 : Int32)) <<< ((16 : Int32) &&& 31))) ||| (((128 : Int32) ||| (p3 &&& (63 : Int32))) <<< ((8 : Int32) &&& 31))) ||| (p0 &&& (255 : Int32)))), .val (.int ((224 : Int32) ||| (p1 &&& (31 : Int32)))), .val (.int (p2 &&& (255 : Int32))), .val (.int ((128 : Int32) ||| (p3 &&& (63 : Int32))))] [(.int (f1 ((((((224 : Int32) ||| (p1 &&& (31 : Int32))) <<< ((24 : Int32) &&& 31)) ||| ((p2 &&& (255 : Int32)) <<< ((16 : Int32) &&& 31))) ||| (((128 : Int32) ||| (p3 &&& (63 : Int32))) <<< ((8 : Int32) &&& 31))) ||| (p0 &&& (255 : Int32)))))]))
        refine Goes.by (B := T8.setTop (mkF m 105 #[.val (.int p0), .val (.int p1), .val (.int p2), .val (.int p3), .val (.int p4), .val (.int ((((((224 : Int32) ||| (p1 &&& (31 : Int32))) <<< ((24 : Int32) &&& 31)) ||| ((p2 &&& (255 : Int32)) <<< ((16 : Int32) &&& 31))) ||| (((128 : Int32) ||| (p3 &&& (63 : Int32))) <<< ((8 : Int32) &&& 31))) ||| (p0 &&& (255 : Int32)))), .val (.int ((224 : Int32) ||| (p1 &&& (31 : Int32)))), .val (.int (p2 &&& (255 : Int32))), .val (.int ((128 : Int32) ||| (p3 &&& (63 : Int32))))] [(.int ((((((224 : Int32) ||| (p1 &&& (31 : Int32))) <<< ((24 : Int32) &&& 31)) ||| ((p2 &&& (255 : Int32)) <<< ((16 : Int32) &&& 31))) ||| (((128 : Int32) ||| (p3 &&& (63 : Int32))) <<< ((8 : Int32) &&& 31))) ||| (p0 &&& (255 : Int32)))), (.int (f1 ((((((224 : Int32) ||| (p1 &&& (31 : Int32))) <<< ((24 : Int32) &&& 31)) ||| ((p2 &&& (255 : Int32)) <<< ((16 : Int32) &&& 31))) ||| (((128 : Int32) ||| (p3 &&& (63 : Int32))) <<< ((8 : Int32) &&& 31))) ||| (p0 &&& (255 : Int32)))))])) (fun t k => ?_) ?_
        · show Steps p.tables e below (T8.setTop (mkF m 103 #[.val (.int p0), .val (.int p1), .val (.int p2), .val (.int p3), .val (.int p4), .val (.int ((((((224 : Int32) ||| (p1 &&& (31 : Int32))) <<< ((24 : Int32) &&& 31)) ||| ((p2 &&& (255 : Int32)) <<< ((16 : Int32) &&& 31))) ||| (((128 : Int32) ||| (p3 &&& (63 : Int32))) <<< ((8 : Int32) &&& 31))) ||| (p0 &&& (255 : Int32)))), .val (.int ((224 : Int32) ||| (p1 &&& (31 : Int32)))), .val (.int (p2 &&& (255 : Int32))), .val (.int ((128 : Int32) ||| (p3 &&& (63 : Int32))))] [(.int (f1 ((((((224 : Int32) ||| (p1 &&& (31 : Int32))) <<< ((24 : Int32) &&& 31)) ||| ((p2 &&& (255 : Int32)) <<< ((16 : Int32) &&& 31))) ||| (((128 : Int32) ||| (p3 &&& (63 : Int32))) <<< ((8 : Int32) &&& 31))) ||| (p0 &&& (255 : Int32)))))])) t
          refine XS.iload X8.here hx rfl (hb hby at_103) rfl ?_
          exact k
        obtain ⟨_, _, ⟨T10, L10, k10, n10⟩, -, X10, ⟨Lc10, hQ10, l10, y10, z10⟩, st10⟩ := Jvm.LawKit.callS X8 hx (y := (⟨"com/example/bare_octets/bareoctets/codec/WellFormedSequencesIsCommonThreeByteFormPinLaw", "expected", "(I)Z"⟩ : MethodName)) hown (mvT hZ (hw _ (List.mem_of_getElem? (i := 6) rfl))) (mvT hZ (hw _ (List.mem_of_getElem? (i := 7) rfl))) (mvT hZ (hw _ (List.mem_of_getElem? (i := 8) rfl))) (mvT hZ (hw _ (List.mem_of_getElem? (i := 9) rfl))) (by decide) (backOf (W := 1) (rm2 l Z az hw [] ((((((224 : Int32) ||| (p1 &&& (31 : Int32))) <<< ((24 : Int32) &&& 31)) ||| ((p2 &&& (255 : Int32)) <<< ((16 : Int32) &&& 31))) ||| (((128 : Int32) ||| (p3 &&& (63 : Int32))) <<< ((8 : Int32) &&& 31))) ||| (p0 &&& (255 : Int32))) h0 n0 Z0 ) hZ (hw _ (List.mem_of_getElem? (i := 9) rfl)) (hw _ (List.mem_of_getElem? (i := 8) rfl)) (by decide) (by decide)) (g := (mkF m 105 #[.val (.int p0), .val (.int p1), .val (.int p2), .val (.int p3), .val (.int p4), .val (.int ((((((224 : Int32) ||| (p1 &&& (31 : Int32))) <<< ((24 : Int32) &&& 31)) ||| ((p2 &&& (255 : Int32)) <<< ((16 : Int32) &&& 31))) ||| (((128 : Int32) ||| (p3 &&& (63 : Int32))) <<< ((8 : Int32) &&& 31))) ||| (p0 &&& (255 : Int32)))), .val (.int ((224 : Int32) ||| (p1 &&& (31 : Int32)))), .val (.int (p2 &&& (255 : Int32))), .val (.int ((128 : Int32) ||| (p3 &&& (63 : Int32))))] [(.int ((((((224 : Int32) ||| (p1 &&& (31 : Int32))) <<< ((24 : Int32) &&& 31)) ||| ((p2 &&& (255 : Int32)) <<< ((16 : Int32) &&& 31))) ||| (((128 : Int32) ||| (p3 &&& (63 : Int32))) <<< ((8 : Int32) &&& 31))) ||| (p0 &&& (255 : Int32)))), (.int (f1 ((((((224 : Int32) ||| (p1 &&& (31 : Int32))) <<< ((24 : Int32) &&& 31)) ||| ((p2 &&& (255 : Int32)) <<< ((16 : Int32) &&& 31))) ||| (((128 : Int32) ||| (p3 &&& (63 : Int32))) <<< ((8 : Int32) &&& 31))) ||| (p0 &&& (255 : Int32)))))])) rfl (by rw [hml]; rfl) (argsL := [(.int ((((((224 : Int32) ||| (p1 &&& (31 : Int32))) <<< ((24 : Int32) &&& 31)) ||| ((p2 &&& (255 : Int32)) <<< ((16 : Int32) &&& 31))) ||| (((128 : Int32) ||| (p3 &&& (63 : Int32))) <<< ((8 : Int32) &&& 31))) ||| (p0 &&& (255 : Int32))))]) (rest := [(.int (f1 ((((((224 : Int32) ||| (p1 &&& (31 : Int32))) <<< ((24 : Int32) &&& 31)) ||| ((p2 &&& (255 : Int32)) <<< ((16 : Int32) &&& 31))) ||| (((128 : Int32) ||| (p3 &&& (63 : Int32))) <<< ((8 : Int32) &&& 31))) ||| (p0 &&& (255 : Int32)))))]) (lenOf own_pd1 rfl) rfl (by show 2 * 0 + _ ≤ _; exact Nat.le_of_eq rfl) (hb hby at_105) (fun _ _ => ⟨rfl, e8, (by decide : 0 + 0 ≤ _), (by decide : 0 + 0 ≤ _)⟩)
        dsimp only [Pt.U, Pt.locs, Pt.cells, Pt.slots] at X10 l10 y10 z10 st10 hQ10
        subst l10 y10 z10
        obtain ⟨rfl, N10q, e10⟩ := hQ10
        have N11 := Fr.app N9 N10q
        refine Goes.by st10 ?_
        show Goes p.tables e below _ (T10.setTop (mkF m 108 #[.val (.int p0), .val (.int p1), .val (.int p2), .val (.int p3), .val (.int p4), .val (.int ((((((224 : Int32) ||| (p1 &&& (31 : Int32))) <<< ((24 : Int32) &&& 31)) ||| ((p2 &&& (255 : Int32)) <<< ((16 : Int32) &&& 31))) ||| (((128 : Int32) ||| (p3 &&& (63 : Int32))) <<< ((8 : Int32) &&& 31))) ||| (p0 &&& (255 : Int32)))), .val (.int ((224 : Int32) ||| (p1 &&& (31 : Int32)))), .val (.int (p2 &&& (255 : Int32))), .val (.int ((128 : Int32) ||| (p3 &&& (63 : Int32))))] [(.int (f2 ((((((224 : Int32) ||| (p1 &&& (31 : Int32))) <<< ((24 : Int32) &&& 31)) ||| ((p2 &&& (255 : Int32)) <<< ((16 : Int32) &&& 31))) ||| (((128 : Int32) ||| (p3 &&& (63 : Int32))) <<< ((8 : Int32) &&& 31))) ||| (p0 &&& (255 : Int32))))), (.int (f1 ((((((224 : Int32) ||| (p1 &&& (31 : Int32))) <<< ((24 : Int32) &&& 31)) ||| ((p2 &&& (255 : Int32)) <<< ((16 : Int32) &&& 31))) ||| (((128 : Int32) ||| (p3 &&& (63 : Int32))) <<< ((8 : Int32) &&& 31))) ||| (p0 &&& (255 : Int32)))))]))
        refine Goes.by (B := T10.setTop (mkF m 116 #[.val (.int p0), .val (.int p1), .val (.int p2), .val (.int p3), .val (.int p4), .val (.int ((((((224 : Int32) ||| (p1 &&& (31 : Int32))) <<< ((24 : Int32) &&& 31)) ||| ((p2 &&& (255 : Int32)) <<< ((16 : Int32) &&& 31))) ||| (((128 : Int32) ||| (p3 &&& (63 : Int32))) <<< ((8 : Int32) &&& 31))) ||| (p0 &&& (255 : Int32)))), .val (.int ((224 : Int32) ||| (p1 &&& (31 : Int32)))), .val (.int (p2 &&& (255 : Int32))), .val (.int ((128 : Int32) ||| (p3 &&& (63 : Int32))))] [(.int (1 : Int32))])) (fun t k => ?_) ?_
        · show Steps p.tables e below (T10.setTop (mkF m 108 #[.val (.int p0), .val (.int p1), .val (.int p2), .val (.int p3), .val (.int p4), .val (.int ((((((224 : Int32) ||| (p1 &&& (31 : Int32))) <<< ((24 : Int32) &&& 31)) ||| ((p2 &&& (255 : Int32)) <<< ((16 : Int32) &&& 31))) ||| (((128 : Int32) ||| (p3 &&& (63 : Int32))) <<< ((8 : Int32) &&& 31))) ||| (p0 &&& (255 : Int32)))), .val (.int ((224 : Int32) ||| (p1 &&& (31 : Int32)))), .val (.int (p2 &&& (255 : Int32))), .val (.int ((128 : Int32) ||| (p3 &&& (63 : Int32))))] [(.int (f2 ((((((224 : Int32) ||| (p1 &&& (31 : Int32))) <<< ((24 : Int32) &&& 31)) ||| ((p2 &&& (255 : Int32)) <<< ((16 : Int32) &&& 31))) ||| (((128 : Int32) ||| (p3 &&& (63 : Int32))) <<< ((8 : Int32) &&& 31))) ||| (p0 &&& (255 : Int32))))), (.int (f1 ((((((224 : Int32) ||| (p1 &&& (31 : Int32))) <<< ((24 : Int32) &&& 31)) ||| ((p2 &&& (255 : Int32)) <<< ((16 : Int32) &&& 31))) ||| (((128 : Int32) ||| (p3 &&& (63 : Int32))) <<< ((8 : Int32) &&& 31))) ||| (p0 &&& (255 : Int32)))))])) t
          refine XS.icmpNo X10.here hx rfl (hb hby at_108) rfl (teq (own_law _)).2 ?_
          show Steps p.tables e below (T10.setTop (mkF m 111 #[.val (.int p0), .val (.int p1), .val (.int p2), .val (.int p3), .val (.int p4), .val (.int ((((((224 : Int32) ||| (p1 &&& (31 : Int32))) <<< ((24 : Int32) &&& 31)) ||| ((p2 &&& (255 : Int32)) <<< ((16 : Int32) &&& 31))) ||| (((128 : Int32) ||| (p3 &&& (63 : Int32))) <<< ((8 : Int32) &&& 31))) ||| (p0 &&& (255 : Int32)))), .val (.int ((224 : Int32) ||| (p1 &&& (31 : Int32)))), .val (.int (p2 &&& (255 : Int32))), .val (.int ((128 : Int32) ||| (p3 &&& (63 : Int32))))] [])) t
          refine XS.iconst X10.here hx rfl (hb hby at_111) ?_
          show Steps p.tables e below (T10.setTop (mkF m 112 #[.val (.int p0), .val (.int p1), .val (.int p2), .val (.int p3), .val (.int p4), .val (.int ((((((224 : Int32) ||| (p1 &&& (31 : Int32))) <<< ((24 : Int32) &&& 31)) ||| ((p2 &&& (255 : Int32)) <<< ((16 : Int32) &&& 31))) ||| (((128 : Int32) ||| (p3 &&& (63 : Int32))) <<< ((8 : Int32) &&& 31))) ||| (p0 &&& (255 : Int32)))), .val (.int ((224 : Int32) ||| (p1 &&& (31 : Int32)))), .val (.int (p2 &&& (255 : Int32))), .val (.int ((128 : Int32) ||| (p3 &&& (63 : Int32))))] [(.int (1 : Int32))])) t
          refine XS.goto X10.here hx rfl (pc0 := 112) (pc' := 116) rfl (hb hby at_112) (by decide) (by decide) ?_
          exact k
        obtain ⟨fs, hr, hrun, hended, hW, hsame⟩ := X10.leave (v := some (.int (1 : Int32))) (fun h => by rw [Bd.returns] at h; cases h)
        refine Goes.mk _ _ ?_ ⟨hrun, hended, _, _, rfl, ?_, ⟨_, rfl⟩, hW, hsame.mono (by decide) (by decide)⟩
        · exact retN X10 hx (t := .boolean) Bd.returns (by simp) (hb hby at_116) hr
        · show Q0 Z p0 p1 p2 p3 p4 h0 n0 _ T10.heap _
          rw [e10]
          exact ⟨rfl, N11, rfl⟩
    · refine Goes.by (B := s₁.setTop (mkF m 52 #[.val (.int p0), .val (.int p1), .val (.int p2), .val (.int p3), .val (.int p4), .unset, .val (.int ((224 : Int32) ||| (p1 &&& (31 : Int32)))), .val (.int ((128 : Int32) ||| (p2 &&& (63 : Int32)))), .unset] [(.int (p4 &&& (4 : Int32)))])) (fun t k => ?_) ?_
      · show Steps p.tables e below (s₁.setTop (mkF m 27 #[.val (.int p0), .val (.int p1), .val (.int p2), .val (.int p3), .val (.int p4), .unset, .val (.int ((224 : Int32) ||| (p1 &&& (31 : Int32)))), .unset, .unset] [(.int (p4 &&& (2 : Int32)))])) t
        refine XS.ifNo X0.here hx rfl (hb hby at_27) rfl ((if0 _ _).trans (feq hc2).1) ?_
        show Steps p.tables e below (s₁.setTop (mkF m 30 #[.val (.int p0), .val (.int p1), .val (.int p2), .val (.int p3), .val (.int p4), .unset, .val (.int ((224 : Int32) ||| (p1 &&& (31 : Int32)))), .unset, .unset] [])) t
        refine XS.sipush X0.here hx rfl (hb hby at_30) ?_
        show Steps p.tables e below (s₁.setTop (mkF m 33 #[.val (.int p0), .val (.int p1), .val (.int p2), .val (.int p3), .val (.int p4), .unset, .val (.int ((224 : Int32) ||| (p1 &&& (31 : Int32)))), .unset, .unset] [(.int (128 : Int32))])) t
        refine XS.iloadN X0.here hx rfl (hb hby at_33) rfl ?_
        show Steps p.tables e below (s₁.setTop (mkF m 34 #[.val (.int p0), .val (.int p1), .val (.int p2), .val (.int p3), .val (.int p4), .unset, .val (.int ((224 : Int32) ||| (p1 &&& (31 : Int32)))), .unset, .unset] [(.int p2), (.int (128 : Int32))])) t
        refine XS.bipush X0.here hx rfl (hb hby at_34) ?_
        show Steps p.tables e below (s₁.setTop (mkF m 36 #[.val (.int p0), .val (.int p1), .val (.int p2), .val (.int p3), .val (.int p4), .unset, .val (.int ((224 : Int32) ||| (p1 &&& (31 : Int32)))), .unset, .unset] [(.int (63 : Int32)), (.int p2), (.int (128 : Int32))])) t
        refine XS.iand X0.here hx rfl (hb hby at_36) rfl ?_
        show Steps p.tables e below (s₁.setTop (mkF m 37 #[.val (.int p0), .val (.int p1), .val (.int p2), .val (.int p3), .val (.int p4), .unset, .val (.int ((224 : Int32) ||| (p1 &&& (31 : Int32)))), .unset, .unset] [(.int (p2 &&& (63 : Int32))), (.int (128 : Int32))])) t
        refine XS.ior X0.here hx rfl (hb hby at_37) rfl ?_
        show Steps p.tables e below (s₁.setTop (mkF m 38 #[.val (.int p0), .val (.int p1), .val (.int p2), .val (.int p3), .val (.int p4), .unset, .val (.int ((224 : Int32) ||| (p1 &&& (31 : Int32)))), .unset, .unset] [(.int ((128 : Int32) ||| (p2 &&& (63 : Int32))))])) t
        refine XS.goto X0.here hx rfl (pc0 := 38) (pc' := 46) rfl (hb hby at_38) (by decide) (by decide) ?_
        show Steps p.tables e below (s₁.setTop (mkF m 46 #[.val (.int p0), .val (.int p1), .val (.int p2), .val (.int p3), .val (.int p4), .unset, .val (.int ((224 : Int32) ||| (p1 &&& (31 : Int32)))), .unset, .unset] [(.int ((128 : Int32) ||| (p2 &&& (63 : Int32))))])) t
        refine XS.istore X0.here hx rfl (hb hby at_46) rfl (l' := #[.val (.int p0), .val (.int p1), .val (.int p2), .val (.int p3), .val (.int p4), .unset, .val (.int ((224 : Int32) ||| (p1 &&& (31 : Int32)))), .val (.int ((128 : Int32) ||| (p2 &&& (63 : Int32)))), .unset]) rfl ?_
        show Steps p.tables e below (s₁.setTop (mkF m 48 #[.val (.int p0), .val (.int p1), .val (.int p2), .val (.int p3), .val (.int p4), .unset, .val (.int ((224 : Int32) ||| (p1 &&& (31 : Int32)))), .val (.int ((128 : Int32) ||| (p2 &&& (63 : Int32)))), .unset] [])) t
        refine XS.iload X0.here hx rfl (hb hby at_48) rfl ?_
        show Steps p.tables e below (s₁.setTop (mkF m 50 #[.val (.int p0), .val (.int p1), .val (.int p2), .val (.int p3), .val (.int p4), .unset, .val (.int ((224 : Int32) ||| (p1 &&& (31 : Int32)))), .val (.int ((128 : Int32) ||| (p2 &&& (63 : Int32)))), .unset] [(.int p4)])) t
        refine XS.iconst X0.here hx rfl (hb hby at_50) ?_
        show Steps p.tables e below (s₁.setTop (mkF m 51 #[.val (.int p0), .val (.int p1), .val (.int p2), .val (.int p3), .val (.int p4), .unset, .val (.int ((224 : Int32) ||| (p1 &&& (31 : Int32)))), .val (.int ((128 : Int32) ||| (p2 &&& (63 : Int32)))), .unset] [(.int (4 : Int32)), (.int p4)])) t
        refine XS.iand X0.here hx rfl (hb hby at_51) rfl ?_
        exact k
      by_cases hc12 : (p4 &&& (4 : Int32)) = (0 : Int32)
      · refine Goes.by (B := s₁.setTop (mkF m 100 #[.val (.int p0), .val (.int p1), .val (.int p2), .val (.int p3), .val (.int p4), .val (.int ((((((224 : Int32) ||| (p1 &&& (31 : Int32))) <<< ((24 : Int32) &&& 31)) ||| (((128 : Int32) ||| (p2 &&& (63 : Int32))) <<< ((16 : Int32) &&& 31))) ||| ((p3 &&& (255 : Int32)) <<< ((8 : Int32) &&& 31))) ||| (p0 &&& (255 : Int32)))), .val (.int ((224 : Int32) ||| (p1 &&& (31 : Int32)))), .val (.int ((128 : Int32) ||| (p2 &&& (63 : Int32)))), .val (.int (p3 &&& (255 : Int32)))] [(.int ((((((224 : Int32) ||| (p1 &&& (31 : Int32))) <<< ((24 : Int32) &&& 31)) ||| (((128 : Int32) ||| (p2 &&& (63 : Int32))) <<< ((16 : Int32) &&& 31))) ||| ((p3 &&& (255 : Int32)) <<< ((8 : Int32) &&& 31))) ||| (p0 &&& (255 : Int32))))])) (fun t k => ?_) ?_
        · show Steps p.tables e below (s₁.setTop (mkF m 52 #[.val (.int p0), .val (.int p1), .val (.int p2), .val (.int p3), .val (.int p4), .unset, .val (.int ((224 : Int32) ||| (p1 &&& (31 : Int32)))), .val (.int ((128 : Int32) ||| (p2 &&& (63 : Int32)))), .unset] [(.int (p4 &&& (4 : Int32)))])) t
          refine XS.ifYes X0.here hx rfl (pc0 := 52) (pc' := 66) rfl (hb hby at_52) rfl ((if0 _ _).trans (teq hc12).1) (by decide) (by decide) ?_
          show Steps p.tables e below (s₁.setTop (mkF m 66 #[.val (.int p0), .val (.int p1), .val (.int p2), .val (.int p3), .val (.int p4), .unset, .val (.int ((224 : Int32) ||| (p1 &&& (31 : Int32)))), .val (.int ((128 : Int32) ||| (p2 &&& (63 : Int32)))), .unset] [])) t
          refine XS.iloadN X0.here hx rfl (hb hby at_66) rfl ?_
          show Steps p.tables e below (s₁.setTop (mkF m 67 #[.val (.int p0), .val (.int p1), .val (.int p2), .val (.int p3), .val (.int p4), .unset, .val (.int ((224 : Int32) ||| (p1 &&& (31 : Int32)))), .val (.int ((128 : Int32) ||| (p2 &&& (63 : Int32)))), .unset] [(.int p3)])) t
          refine XS.sipush X0.here hx rfl (hb hby at_67) ?_
          show Steps p.tables e below (s₁.setTop (mkF m 70 #[.val (.int p0), .val (.int p1), .val (.int p2), .val (.int p3), .val (.int p4), .unset, .val (.int ((224 : Int32) ||| (p1 &&& (31 : Int32)))), .val (.int ((128 : Int32) ||| (p2 &&& (63 : Int32)))), .unset] [(.int (255 : Int32)), (.int p3)])) t
          refine XS.iand X0.here hx rfl (hb hby at_70) rfl ?_
          show Steps p.tables e below (s₁.setTop (mkF m 71 #[.val (.int p0), .val (.int p1), .val (.int p2), .val (.int p3), .val (.int p4), .unset, .val (.int ((224 : Int32) ||| (p1 &&& (31 : Int32)))), .val (.int ((128 : Int32) ||| (p2 &&& (63 : Int32)))), .unset] [(.int (p3 &&& (255 : Int32)))])) t
          refine XS.istore X0.here hx rfl (hb hby at_71) rfl (l' := #[.val (.int p0), .val (.int p1), .val (.int p2), .val (.int p3), .val (.int p4), .unset, .val (.int ((224 : Int32) ||| (p1 &&& (31 : Int32)))), .val (.int ((128 : Int32) ||| (p2 &&& (63 : Int32)))), .val (.int (p3 &&& (255 : Int32)))]) rfl ?_
          show Steps p.tables e below (s₁.setTop (mkF m 73 #[.val (.int p0), .val (.int p1), .val (.int p2), .val (.int p3), .val (.int p4), .unset, .val (.int ((224 : Int32) ||| (p1 &&& (31 : Int32)))), .val (.int ((128 : Int32) ||| (p2 &&& (63 : Int32)))), .val (.int (p3 &&& (255 : Int32)))] [])) t
          refine XS.iload X0.here hx rfl (hb hby at_73) rfl ?_
          show Steps p.tables e below (s₁.setTop (mkF m 75 #[.val (.int p0), .val (.int p1), .val (.int p2), .val (.int p3), .val (.int p4), .unset, .val (.int ((224 : Int32) ||| (p1 &&& (31 : Int32)))), .val (.int ((128 : Int32) ||| (p2 &&& (63 : Int32)))), .val (.int (p3 &&& (255 : Int32)))] [(.int ((224 : Int32) ||| (p1 &&& (31 : Int32))))])) t
          refine XS.bipush X0.here hx rfl (hb hby at_75) ?_
          show Steps p.tables e below (s₁.setTop (mkF m 77 #[.val (.int p0), .val (.int p1), .val (.int p2), .val (.int p3), .val (.int p4), .unset, .val (.int ((224 : Int32) ||| (p1 &&& (31 : Int32)))), .val (.int ((128 : Int32) ||| (p2 &&& (63 : Int32)))), .val (.int (p3 &&& (255 : Int32)))] [(.int (24 : Int32)), (.int ((224 : Int32) ||| (p1 &&& (31 : Int32))))])) t
          refine XS.ishl X0.here hx rfl (hb hby at_77) rfl ?_
          show Steps p.tables e below (s₁.setTop (mkF m 78 #[.val (.int p0), .val (.int p1), .val (.int p2), .val (.int p3), .val (.int p4), .unset, .val (.int ((224 : Int32) ||| (p1 &&& (31 : Int32)))), .val (.int ((128 : Int32) ||| (p2 &&& (63 : Int32)))), .val (.int (p3 &&& (255 : Int32)))] [(.int (((224 : Int32) ||| (p1 &&& (31 : Int32))) <<< ((24 : Int32) &&& 31)))])) t
          refine XS.iload X0.here hx rfl (hb hby at_78) rfl ?_
          show Steps p.tables e below (s₁.setTop (mkF m 80 #[.val (.int p0), .val (.int p1), .val (.int p2), .val (.int p3), .val (.int p4), .unset, .val (.int ((224 : Int32) ||| (p1 &&& (31 : Int32)))), .val (.int ((128 : Int32) ||| (p2 &&& (63 : Int32)))), .val (.int (p3 &&& (255 : Int32)))] [(.int ((128 : Int32) ||| (p2 &&& (63 : Int32)))), (.int (((224 : Int32) ||| (p1 &&& (31 : Int32))) <<< ((24 : Int32) &&& 31)))])) t
          refine XS.bipush X0.here hx rfl (hb hby at_80) ?_
          show Steps p.tables e below (s₁.setTop (mkF m 82 #[.val (.int p0), .val (.int p1), .val (.int p2), .val (.int p3), .val (.int p4), .unset, .val (.int ((224 : Int32) ||| (p1 &&& (31 : Int32)))), .val (.int ((128 : Int32) ||| (p2 &&& (63 : Int32)))), .val (.int (p3 &&& (255 : Int32)))] [(.int (16 : Int32)), (.int ((128 : Int32) ||| (p2 &&& (63 : Int32)))), (.int (((224 : Int32) ||| (p1 &&& (31 : Int32))) <<< ((24 : Int32) &&& 31)))])) t
          refine XS.ishl X0.here hx rfl (hb hby at_82) rfl ?_
          show Steps p.tables e below (s₁.setTop (mkF m 83 #[.val (.int p0), .val (.int p1), .val (.int p2), .val (.int p3), .val (.int p4), .unset, .val (.int ((224 : Int32) ||| (p1 &&& (31 : Int32)))), .val (.int ((128 : Int32) ||| (p2 &&& (63 : Int32)))), .val (.int (p3 &&& (255 : Int32)))] [(.int (((128 : Int32) ||| (p2 &&& (63 : Int32))) <<< ((16 : Int32) &&& 31))), (.int (((224 : Int32) ||| (p1 &&& (31 : Int32))) <<< ((24 : Int32) &&& 31)))])) t
          refine XS.ior X0.here hx rfl (hb hby at_83) rfl ?_
          show Steps p.tables e below (s₁.setTop (mkF m 84 #[.val (.int p0), .val (.int p1), .val (.int p2), .val (.int p3), .val (.int p4), .unset, .val (.int ((224 : Int32) ||| (p1 &&& (31 : Int32)))), .val (.int ((128 : Int32) ||| (p2 &&& (63 : Int32)))), .val (.int (p3 &&& (255 : Int32)))] [(.int ((((224 : Int32) ||| (p1 &&& (31 : Int32))) <<< ((24 : Int32) &&& 31)) ||| (((128 : Int32) ||| (p2 &&& (63 : Int32))) <<< ((16 : Int32) &&& 31))))])) t
          refine XS.iload X0.here hx rfl (hb hby at_84) rfl ?_
          show Steps p.tables e below (s₁.setTop (mkF m 86 #[.val (.int p0), .val (.int p1), .val (.int p2), .val (.int p3), .val (.int p4), .unset, .val (.int ((224 : Int32) ||| (p1 &&& (31 : Int32)))), .val (.int ((128 : Int32) ||| (p2 &&& (63 : Int32)))), .val (.int (p3 &&& (255 : Int32)))] [(.int (p3 &&& (255 : Int32))), (.int ((((224 : Int32) ||| (p1 &&& (31 : Int32))) <<< ((24 : Int32) &&& 31)) ||| (((128 : Int32) ||| (p2 &&& (63 : Int32))) <<< ((16 : Int32) &&& 31))))])) t
          refine XS.bipush X0.here hx rfl (hb hby at_86) ?_
          show Steps p.tables e below (s₁.setTop (mkF m 88 #[.val (.int p0), .val (.int p1), .val (.int p2), .val (.int p3), .val (.int p4), .unset, .val (.int ((224 : Int32) ||| (p1 &&& (31 : Int32)))), .val (.int ((128 : Int32) ||| (p2 &&& (63 : Int32)))), .val (.int (p3 &&& (255 : Int32)))] [(.int (8 : Int32)), (.int (p3 &&& (255 : Int32))), (.int ((((224 : Int32) ||| (p1 &&& (31 : Int32))) <<< ((24 : Int32) &&& 31)) ||| (((128 : Int32) ||| (p2 &&& (63 : Int32))) <<< ((16 : Int32) &&& 31))))])) t
          refine XS.ishl X0.here hx rfl (hb hby at_88) rfl ?_
          show Steps p.tables e below (s₁.setTop (mkF m 89 #[.val (.int p0), .val (.int p1), .val (.int p2), .val (.int p3), .val (.int p4), .unset, .val (.int ((224 : Int32) ||| (p1 &&& (31 : Int32)))), .val (.int ((128 : Int32) ||| (p2 &&& (63 : Int32)))), .val (.int (p3 &&& (255 : Int32)))] [(.int ((p3 &&& (255 : Int32)) <<< ((8 : Int32) &&& 31))), (.int ((((224 : Int32) ||| (p1 &&& (31 : Int32))) <<< ((24 : Int32) &&& 31)) ||| (((128 : Int32) ||| (p2 &&& (63 : Int32))) <<< ((16 : Int32) &&& 31))))])) t
          refine XS.ior X0.here hx rfl (hb hby at_89) rfl ?_
          show Steps p.tables e below (s₁.setTop (mkF m 90 #[.val (.int p0), .val (.int p1), .val (.int p2), .val (.int p3), .val (.int p4), .unset, .val (.int ((224 : Int32) ||| (p1 &&& (31 : Int32)))), .val (.int ((128 : Int32) ||| (p2 &&& (63 : Int32)))), .val (.int (p3 &&& (255 : Int32)))] [(.int (((((224 : Int32) ||| (p1 &&& (31 : Int32))) <<< ((24 : Int32) &&& 31)) ||| (((128 : Int32) ||| (p2 &&& (63 : Int32))) <<< ((16 : Int32) &&& 31))) ||| ((p3 &&& (255 : Int32)) <<< ((8 : Int32) &&& 31))))])) t
          refine XS.iloadN X0.here hx rfl (hb hby at_90) rfl ?_
          show Steps p.tables e below (s₁.setTop (mkF m 91 #[.val (.int p0), .val (.int p1), .val (.int p2), .val (.int p3), .val (.int p4), .unset, .val (.int ((224 : Int32) ||| (p1 &&& (31 : Int32)))), .val (.int ((128 : Int32) ||| (p2 &&& (63 : Int32)))), .val (.int (p3 &&& (255 : Int32)))] [(.int p0), (.int (((((224 : Int32) ||| (p1 &&& (31 : Int32))) <<< ((24 : Int32) &&& 31)) ||| (((128 : Int32) ||| (p2 &&& (63 : Int32))) <<< ((16 : Int32) &&& 31))) ||| ((p3 &&& (255 : Int32)) <<< ((8 : Int32) &&& 31))))])) t
          refine XS.sipush X0.here hx rfl (hb hby at_91) ?_
          show Steps p.tables e below (s₁.setTop (mkF m 94 #[.val (.int p0), .val (.int p1), .val (.int p2), .val (.int p3), .val (.int p4), .unset, .val (.int ((224 : Int32) ||| (p1 &&& (31 : Int32)))), .val (.int ((128 : Int32) ||| (p2 &&& (63 : Int32)))), .val (.int (p3 &&& (255 : Int32)))] [(.int (255 : Int32)), (.int p0), (.int (((((224 : Int32) ||| (p1 &&& (31 : Int32))) <<< ((24 : Int32) &&& 31)) ||| (((128 : Int32) ||| (p2 &&& (63 : Int32))) <<< ((16 : Int32) &&& 31))) ||| ((p3 &&& (255 : Int32)) <<< ((8 : Int32) &&& 31))))])) t
          refine XS.iand X0.here hx rfl (hb hby at_94) rfl ?_
          show Steps p.tables e below (s₁.setTop (mkF m 95 #[.val (.int p0), .val (.int p1), .val (.int p2), .val (.int p3), .val (.int p4), .unset, .val (.int ((224 : Int32) ||| (p1 &&& (31 : Int32)))), .val (.int ((128 : Int32) ||| (p2 &&& (63 : Int32)))), .val (.int (p3 &&& (255 : Int32)))] [(.int (p0 &&& (255 : Int32))), (.int (((((224 : Int32) ||| (p1 &&& (31 : Int32))) <<< ((24 : Int32) &&& 31)) ||| (((128 : Int32) ||| (p2 &&& (63 : Int32))) <<< ((16 : Int32) &&& 31))) ||| ((p3 &&& (255 : Int32)) <<< ((8 : Int32) &&& 31))))])) t
          refine XS.ior X0.here hx rfl (hb hby at_95) rfl ?_
          show Steps p.tables e below (s₁.setTop (mkF m 96 #[.val (.int p0), .val (.int p1), .val (.int p2), .val (.int p3), .val (.int p4), .unset, .val (.int ((224 : Int32) ||| (p1 &&& (31 : Int32)))), .val (.int ((128 : Int32) ||| (p2 &&& (63 : Int32)))), .val (.int (p3 &&& (255 : Int32)))] [(.int ((((((224 : Int32) ||| (p1 &&& (31 : Int32))) <<< ((24 : Int32) &&& 31)) ||| (((128 : Int32) ||| (p2 &&& (63 : Int32))) <<< ((16 : Int32) &&& 31))) ||| ((p3 &&& (255 : Int32)) <<< ((8 : Int32) &&& 31))) ||| (p0 &&& (255 : Int32))))])) t
          refine XS.istore X0.here hx rfl (hb hby at_96) rfl (l' := #[.val (.int p0), .val (.int p1), .val (.int p2), .val (.int p3), .val (.int p4), .val (.int ((((((224 : Int32) ||| (p1 &&& (31 : Int32))) <<< ((24 : Int32) &&& 31)) ||| (((128 : Int32) ||| (p2 &&& (63 : Int32))) <<< ((16 : Int32) &&& 31))) ||| ((p3 &&& (255 : Int32)) <<< ((8 : Int32) &&& 31))) ||| (p0 &&& (255 : Int32)))), .val (.int ((224 : Int32) ||| (p1 &&& (31 : Int32)))), .val (.int ((128 : Int32) ||| (p2 &&& (63 : Int32)))), .val (.int (p3 &&& (255 : Int32)))]) rfl ?_
          show Steps p.tables e below (s₁.setTop (mkF m 98 #[.val (.int p0), .val (.int p1), .val (.int p2), .val (.int p3), .val (.int p4), .val (.int ((((((224 : Int32) ||| (p1 &&& (31 : Int32))) <<< ((24 : Int32) &&& 31)) ||| (((128 : Int32) ||| (p2 &&& (63 : Int32))) <<< ((16 : Int32) &&& 31))) ||| ((p3 &&& (255 : Int32)) <<< ((8 : Int32) &&& 31))) ||| (p0 &&& (255 : Int32)))), .val (.int ((224 : Int32) ||| (p1 &&& (31 : Int32)))), .val (.int ((128 : Int32) ||| (p2 &&& (63 : Int32)))), .val (.int (p3 &&& (255 : Int32)))] [])) t
          refine XS.iload X0.here hx rfl (hb hby at_98) rfl ?_
          exact k
        obtain ⟨_, _, ⟨T13, L13, k13, n13⟩, -, X13, ⟨Lc13, hQ13, l13, y13, z13⟩, st13⟩ := Jvm.LawKit.callS X0 hx (y := (⟨"com/example/bare_octets/bareoctets/codec/WellFormedSequences", "isCommonThreeByteForm", "(I)Z"⟩ : MethodName)) hown (mvT hZ (hw _ (List.mem_of_getElem? (i := 0) rfl))) (mvT hZ (hw _ (List.mem_of_getElem? (i := 1) rfl))) (mvT hZ (hw _ (List.mem_of_getElem? (i := 2) rfl))) (mvT hZ (hw _ (List.mem_of_getElem? (i := 3) rfl))) (by decide) (backOf (W := 0) (rm1 l Z az hw [] ((((((224 : Int32) ||| (p1 &&& (31 : Int32))) <<< ((24 : Int32) &&& 31)) ||| (((128 : Int32) ||| (p2 &&& (63 : Int32))) <<< ((16 : Int32) &&& 31))) ||| ((p3 &&& (255 : Int32)) <<< ((8 : Int32) &&& 31))) ||| (p0 &&& (255 : Int32))) h0 n0 Z0 ) hZ (hw _ (List.mem_of_getElem? (i := 3) rfl)) (hw _ (List.mem_of_getElem? (i := 2) rfl)) (by decide) (by decide)) (g := (mkF m 100 #[.val (.int p0), .val (.int p1), .val (.int p2), .val (.int p3), .val (.int p4), .val (.int ((((((224 : Int32) ||| (p1 &&& (31 : Int32))) <<< ((24 : Int32) &&& 31)) ||| (((128 : Int32) ||| (p2 &&& (63 : Int32))) <<< ((16 : Int32) &&& 31))) ||| ((p3 &&& (255 : Int32)) <<< ((8 : Int32) &&& 31))) ||| (p0 &&& (255 : Int32)))), .val (.int ((224 : Int32) ||| (p1 &&& (31 : Int32)))), .val (.int ((128 : Int32) ||| (p2 &&& (63 : Int32)))), .val (.int (p3 &&& (255 : Int32)))] [(.int ((((((224 : Int32) ||| (p1 &&& (31 : Int32))) <<< ((24 : Int32) &&& 31)) ||| (((128 : Int32) ||| (p2 &&& (63 : Int32))) <<< ((16 : Int32) &&& 31))) ||| ((p3 &&& (255 : Int32)) <<< ((8 : Int32) &&& 31))) ||| (p0 &&& (255 : Int32))))])) rfl (by rw [hml]; rfl) (argsL := [(.int ((((((224 : Int32) ||| (p1 &&& (31 : Int32))) <<< ((24 : Int32) &&& 31)) ||| (((128 : Int32) ||| (p2 &&& (63 : Int32))) <<< ((16 : Int32) &&& 31))) ||| ((p3 &&& (255 : Int32)) <<< ((8 : Int32) &&& 31))) ||| (p0 &&& (255 : Int32))))]) (rest := []) (lenOf own_pd1 rfl) rfl (by show 2 * 0 + _ ≤ _; exact Nat.le_of_eq rfl) (hb hby at_100) (fun _ _ => ⟨rfl, e0, (by decide : 0 + 0 ≤ _), (by decide : 0 + 0 ≤ _)⟩)
        dsimp only [Pt.U, Pt.locs, Pt.cells, Pt.slots] at X13 l13 y13 z13 st13 hQ13
        subst l13 y13 z13
        obtain ⟨rfl, N13q, e13⟩ := hQ13
        have N14 := Fr.app N0 N13q
        refine Goes.by st13 ?_
        show Goes p.tables e below _ (T13.setTop (mkF m 103 #[.val (.int p0), .val (.int p1), .val (.int p2), .val (.int p3), .val (.int p4), .val (.int ((((((224 : Int32) ||| (p1 &&& (31 : Int32))) <<< ((24 : Int32) &&& 31)) ||| (((128 : Int32) ||| (p2 &&& (63 : Int32))) <<< ((16 : Int32) &&& 31))) ||| ((p3 &&& (255 : Int32)) <<< ((8 : Int32) &&& 31))) ||| (p0 &&& (255 : Int32)))), .val (.int ((224 : Int32) ||| (p1 &&& (31 : Int32)))), .val (.int ((128 : Int32) ||| (p2 &&& (63 : Int32)))), .val (.int (p3 &&& (255 : Int32)))] [(.int (f1 ((((((224 : Int32) ||| (p1 &&& (31 : Int32))) <<< ((24 : Int32) &&& 31)) ||| (((128 : Int32) ||| (p2 &&& (63 : Int32))) <<< ((16 : Int32) &&& 31))) ||| ((p3 &&& (255 : Int32)) <<< ((8 : Int32) &&& 31))) ||| (p0 &&& (255 : Int32)))))]))
        refine Goes.by (B := T13.setTop (mkF m 105 #[.val (.int p0), .val (.int p1), .val (.int p2), .val (.int p3), .val (.int p4), .val (.int ((((((224 : Int32) ||| (p1 &&& (31 : Int32))) <<< ((24 : Int32) &&& 31)) ||| (((128 : Int32) ||| (p2 &&& (63 : Int32))) <<< ((16 : Int32) &&& 31))) ||| ((p3 &&& (255 : Int32)) <<< ((8 : Int32) &&& 31))) ||| (p0 &&& (255 : Int32)))), .val (.int ((224 : Int32) ||| (p1 &&& (31 : Int32)))), .val (.int ((128 : Int32) ||| (p2 &&& (63 : Int32)))), .val (.int (p3 &&& (255 : Int32)))] [(.int ((((((224 : Int32) ||| (p1 &&& (31 : Int32))) <<< ((24 : Int32) &&& 31)) ||| (((128 : Int32) ||| (p2 &&& (63 : Int32))) <<< ((16 : Int32) &&& 31))) ||| ((p3 &&& (255 : Int32)) <<< ((8 : Int32) &&& 31))) ||| (p0 &&& (255 : Int32)))), (.int (f1 ((((((224 : Int32) ||| (p1 &&& (31 : Int32))) <<< ((24 : Int32) &&& 31)) ||| (((128 : Int32) ||| (p2 &&& (63 : Int32))) <<< ((16 : Int32) &&& 31))) ||| ((p3 &&& (255 : Int32)) <<< ((8 : Int32) &&& 31))) ||| (p0 &&& (255 : Int32)))))])) (fun t k => ?_) ?_
        · show Steps p.tables e below (T13.setTop (mkF m 103 #[.val (.int p0), .val (.int p1), .val (.int p2), .val (.int p3), .val (.int p4), .val (.int ((((((224 : Int32) ||| (p1 &&& (31 : Int32))) <<< ((24 : Int32) &&& 31)) ||| (((128 : Int32) ||| (p2 &&& (63 : Int32))) <<< ((16 : Int32) &&& 31))) ||| ((p3 &&& (255 : Int32)) <<< ((8 : Int32) &&& 31))) ||| (p0 &&& (255 : Int32)))), .val (.int ((224 : Int32) ||| (p1 &&& (31 : Int32)))), .val (.int ((128 : Int32) ||| (p2 &&& (63 : Int32)))), .val (.int (p3 &&& (255 : Int32)))] [(.int (f1 ((((((224 : Int32) ||| (p1 &&& (31 : Int32))) <<< ((24 : Int32) &&& 31)) ||| (((128 : Int32) ||| (p2 &&& (63 : Int32))) <<< ((16 : Int32) &&& 31))) ||| ((p3 &&& (255 : Int32)) <<< ((8 : Int32) &&& 31))) ||| (p0 &&& (255 : Int32)))))])) t
          refine XS.iload X13.here hx rfl (hb hby at_103) rfl ?_
          exact k
        obtain ⟨_, _, ⟨T15, L15, k15, n15⟩, -, X15, ⟨Lc15, hQ15, l15, y15, z15⟩, st15⟩ := Jvm.LawKit.callS X13 hx (y := (⟨"com/example/bare_octets/bareoctets/codec/WellFormedSequencesIsCommonThreeByteFormPinLaw", "expected", "(I)Z"⟩ : MethodName)) hown (mvT hZ (hw _ (List.mem_of_getElem? (i := 6) rfl))) (mvT hZ (hw _ (List.mem_of_getElem? (i := 7) rfl))) (mvT hZ (hw _ (List.mem_of_getElem? (i := 8) rfl))) (mvT hZ (hw _ (List.mem_of_getElem? (i := 9) rfl))) (by decide) (backOf (W := 1) (rm2 l Z az hw [] ((((((224 : Int32) ||| (p1 &&& (31 : Int32))) <<< ((24 : Int32) &&& 31)) ||| (((128 : Int32) ||| (p2 &&& (63 : Int32))) <<< ((16 : Int32) &&& 31))) ||| ((p3 &&& (255 : Int32)) <<< ((8 : Int32) &&& 31))) ||| (p0 &&& (255 : Int32))) h0 n0 Z0 ) hZ (hw _ (List.mem_of_getElem? (i := 9) rfl)) (hw _ (List.mem_of_getElem? (i := 8) rfl)) (by decide) (by decide)) (g := (mkF m 105 #[.val (.int p0), .val (.int p1), .val (.int p2), .val (.int p3), .val (.int p4), .val (.int ((((((224 : Int32) ||| (p1 &&& (31 : Int32))) <<< ((24 : Int32) &&& 31)) ||| (((128 : Int32) ||| (p2 &&& (63 : Int32))) <<< ((16 : Int32) &&& 31))) ||| ((p3 &&& (255 : Int32)) <<< ((8 : Int32) &&& 31))) ||| (p0 &&& (255 : Int32)))), .val (.int ((224 : Int32) ||| (p1 &&& (31 : Int32)))), .val (.int ((128 : Int32) ||| (p2 &&& (63 : Int32)))), .val (.int (p3 &&& (255 : Int32)))] [(.int ((((((224 : Int32) ||| (p1 &&& (31 : Int32))) <<< ((24 : Int32) &&& 31)) ||| (((128 : Int32) ||| (p2 &&& (63 : Int32))) <<< ((16 : Int32) &&& 31))) ||| ((p3 &&& (255 : Int32)) <<< ((8 : Int32) &&& 31))) ||| (p0 &&& (255 : Int32)))), (.int (f1 ((((((224 : Int32) ||| (p1 &&& (31 : Int32))) <<< ((24 : Int32) &&& 31)) ||| (((128 : Int32) ||| (p2 &&& (63 : Int32))) <<< ((16 : Int32) &&& 31))) ||| ((p3 &&& (255 : Int32)) <<< ((8 : Int32) &&& 31))) ||| (p0 &&& (255 : Int32)))))])) rfl (by rw [hml]; rfl) (argsL := [(.int ((((((224 : Int32) ||| (p1 &&& (31 : Int32))) <<< ((24 : Int32) &&& 31)) ||| (((128 : Int32) ||| (p2 &&& (63 : Int32))) <<< ((16 : Int32) &&& 31))) ||| ((p3 &&& (255 : Int32)) <<< ((8 : Int32) &&& 31))) ||| (p0 &&& (255 : Int32))))]) (rest := [(.int (f1 ((((((224 : Int32) ||| (p1 &&& (31 : Int32))) <<< ((24 : Int32) &&& 31)) ||| (((128 : Int32) ||| (p2 &&& (63 : Int32))) <<< ((16 : Int32) &&& 31))) ||| ((p3 &&& (255 : Int32)) <<< ((8 : Int32) &&& 31))) ||| (p0 &&& (255 : Int32)))))]) (lenOf own_pd1 rfl) rfl (by show 2 * 0 + _ ≤ _; exact Nat.le_of_eq rfl) (hb hby at_105) (fun _ _ => ⟨rfl, e13, (by decide : 0 + 0 ≤ _), (by decide : 0 + 0 ≤ _)⟩)
        dsimp only [Pt.U, Pt.locs, Pt.cells, Pt.slots] at X15 l15 y15 z15 st15 hQ15
        subst l15 y15 z15
        obtain ⟨rfl, N15q, e15⟩ := hQ15
        have N16 := Fr.app N14 N15q
        refine Goes.by st15 ?_
        show Goes p.tables e below _ (T15.setTop (mkF m 108 #[.val (.int p0), .val (.int p1), .val (.int p2), .val (.int p3), .val (.int p4), .val (.int ((((((224 : Int32) ||| (p1 &&& (31 : Int32))) <<< ((24 : Int32) &&& 31)) ||| (((128 : Int32) ||| (p2 &&& (63 : Int32))) <<< ((16 : Int32) &&& 31))) ||| ((p3 &&& (255 : Int32)) <<< ((8 : Int32) &&& 31))) ||| (p0 &&& (255 : Int32)))), .val (.int ((224 : Int32) ||| (p1 &&& (31 : Int32)))), .val (.int ((128 : Int32) ||| (p2 &&& (63 : Int32)))), .val (.int (p3 &&& (255 : Int32)))] [(.int (f2 ((((((224 : Int32) ||| (p1 &&& (31 : Int32))) <<< ((24 : Int32) &&& 31)) ||| (((128 : Int32) ||| (p2 &&& (63 : Int32))) <<< ((16 : Int32) &&& 31))) ||| ((p3 &&& (255 : Int32)) <<< ((8 : Int32) &&& 31))) ||| (p0 &&& (255 : Int32))))), (.int (f1 ((((((224 : Int32) ||| (p1 &&& (31 : Int32))) <<< ((24 : Int32) &&& 31)) ||| (((128 : Int32) ||| (p2 &&& (63 : Int32))) <<< ((16 : Int32) &&& 31))) ||| ((p3 &&& (255 : Int32)) <<< ((8 : Int32) &&& 31))) ||| (p0 &&& (255 : Int32)))))]))
        refine Goes.by (B := T15.setTop (mkF m 116 #[.val (.int p0), .val (.int p1), .val (.int p2), .val (.int p3), .val (.int p4), .val (.int ((((((224 : Int32) ||| (p1 &&& (31 : Int32))) <<< ((24 : Int32) &&& 31)) ||| (((128 : Int32) ||| (p2 &&& (63 : Int32))) <<< ((16 : Int32) &&& 31))) ||| ((p3 &&& (255 : Int32)) <<< ((8 : Int32) &&& 31))) ||| (p0 &&& (255 : Int32)))), .val (.int ((224 : Int32) ||| (p1 &&& (31 : Int32)))), .val (.int ((128 : Int32) ||| (p2 &&& (63 : Int32)))), .val (.int (p3 &&& (255 : Int32)))] [(.int (1 : Int32))])) (fun t k => ?_) ?_
        · show Steps p.tables e below (T15.setTop (mkF m 108 #[.val (.int p0), .val (.int p1), .val (.int p2), .val (.int p3), .val (.int p4), .val (.int ((((((224 : Int32) ||| (p1 &&& (31 : Int32))) <<< ((24 : Int32) &&& 31)) ||| (((128 : Int32) ||| (p2 &&& (63 : Int32))) <<< ((16 : Int32) &&& 31))) ||| ((p3 &&& (255 : Int32)) <<< ((8 : Int32) &&& 31))) ||| (p0 &&& (255 : Int32)))), .val (.int ((224 : Int32) ||| (p1 &&& (31 : Int32)))), .val (.int ((128 : Int32) ||| (p2 &&& (63 : Int32)))), .val (.int (p3 &&& (255 : Int32)))] [(.int (f2 ((((((224 : Int32) ||| (p1 &&& (31 : Int32))) <<< ((24 : Int32) &&& 31)) ||| (((128 : Int32) ||| (p2 &&& (63 : Int32))) <<< ((16 : Int32) &&& 31))) ||| ((p3 &&& (255 : Int32)) <<< ((8 : Int32) &&& 31))) ||| (p0 &&& (255 : Int32))))), (.int (f1 ((((((224 : Int32) ||| (p1 &&& (31 : Int32))) <<< ((24 : Int32) &&& 31)) ||| (((128 : Int32) ||| (p2 &&& (63 : Int32))) <<< ((16 : Int32) &&& 31))) ||| ((p3 &&& (255 : Int32)) <<< ((8 : Int32) &&& 31))) ||| (p0 &&& (255 : Int32)))))])) t
          refine XS.icmpNo X15.here hx rfl (hb hby at_108) rfl (teq (own_law _)).2 ?_
          show Steps p.tables e below (T15.setTop (mkF m 111 #[.val (.int p0), .val (.int p1), .val (.int p2), .val (.int p3), .val (.int p4), .val (.int ((((((224 : Int32) ||| (p1 &&& (31 : Int32))) <<< ((24 : Int32) &&& 31)) ||| (((128 : Int32) ||| (p2 &&& (63 : Int32))) <<< ((16 : Int32) &&& 31))) ||| ((p3 &&& (255 : Int32)) <<< ((8 : Int32) &&& 31))) ||| (p0 &&& (255 : Int32)))), .val (.int ((224 : Int32) ||| (p1 &&& (31 : Int32)))), .val (.int ((128 : Int32) ||| (p2 &&& (63 : Int32)))), .val (.int (p3 &&& (255 : Int32)))] [])) t
          refine XS.iconst X15.here hx rfl (hb hby at_111) ?_
          show Steps p.tables e below (T15.setTop (mkF m 112 #[.val (.int p0), .val (.int p1), .val (.int p2), .val (.int p3), .val (.int p4), .val (.int ((((((224 : Int32) ||| (p1 &&& (31 : Int32))) <<< ((24 : Int32) &&& 31)) ||| (((128 : Int32) ||| (p2 &&& (63 : Int32))) <<< ((16 : Int32) &&& 31))) ||| ((p3 &&& (255 : Int32)) <<< ((8 : Int32) &&& 31))) ||| (p0 &&& (255 : Int32)))), .val (.int ((224 : Int32) ||| (p1 &&& (31 : Int32)))), .val (.int ((128 : Int32) ||| (p2 &&& (63 : Int32)))), .val (.int (p3 &&& (255 : Int32)))] [(.int (1 : Int32))])) t
          refine XS.goto X15.here hx rfl (pc0 := 112) (pc' := 116) rfl (hb hby at_112) (by decide) (by decide) ?_
          exact k
        obtain ⟨fs, hr, hrun, hended, hW, hsame⟩ := X15.leave (v := some (.int (1 : Int32))) (fun h => by rw [Bd.returns] at h; cases h)
        refine Goes.mk _ _ ?_ ⟨hrun, hended, _, _, rfl, ?_, ⟨_, rfl⟩, hW, hsame.mono (by decide) (by decide)⟩
        · exact retN X15 hx (t := .boolean) Bd.returns (by simp) (hb hby at_116) hr
        · show Q0 Z p0 p1 p2 p3 p4 h0 n0 _ T15.heap _
          rw [e15]
          exact ⟨rfl, N16, rfl⟩
      · refine Goes.by (B := s₁.setTop (mkF m 100 #[.val (.int p0), .val (.int p1), .val (.int p2), .val (.int p3), .val (.int p4), .val (.int ((((((224 : Int32) ||| (p1 &&& (31 : Int32))) <<< ((24 : Int32) &&& 31)) ||| (((128 : Int32) ||| (p2 &&& (63 : Int32))) <<< ((16 : Int32) &&& 31))) ||| (((128 : Int32) ||| (p3 &&& (63 : Int32))) <<< ((8 : Int32) &&& 31))) ||| (p0 &&& (255 : Int32)))), .val (.int ((224 : Int32) ||| (p1 &&& (31 : Int32)))), .val (.int ((128 : Int32) ||| (p2 &&& (63 : Int32)))), .val (.int ((128 : Int32) ||| (p3 &&& (63 : Int32))))] [(.int ((((((224 : Int32) ||| (p1 &&& (31 : Int32))) <<< ((24 : Int32) &&& 31)) ||| (((128 : Int32) ||| (p2 &&& (63 : Int32))) <<< ((16 : Int32) &&& 31))) ||| (((128 : Int32) ||| (p3 &&& (63 : Int32))) <<< ((8 : Int32) &&& 31))) ||| (p0 &&& (255 : Int32))))])) (fun t k => ?_) ?_
        · show Steps p.tables e below (s₁.setTop (mkF m 52 #[.val (.int p0), .val (.int p1), .val (.int p2), .val (.int p3), .val (.int p4), .unset, .val (.int ((224 : Int32) ||| (p1 &&& (31 : Int32)))), .val (.int ((128 : Int32) ||| (p2 &&& (63 : Int32)))), .unset] [(.int (p4 &&& (4 : Int32)))])) t
          refine XS.ifNo X0.here hx rfl (hb hby at_52) rfl ((if0 _ _).trans (feq hc12).1) ?_
          show Steps p.tables e below (s₁.setTop (mkF m 55 #[.val (.int p0), .val (.int p1), .val (.int p2), .val (.int p3), .val (.int p4), .unset, .val (.int ((224 : Int32) ||| (p1 &&& (31 : Int32)))), .val (.int ((128 : Int32) ||| (p2 &&& (63 : Int32)))), .unset] [])) t
          refine XS.sipush X0.here hx rfl (hb hby at_55) ?_
          show Steps p.tables e below (s₁.setTop (mkF m 58 #[.val (.int p0), .val (.int p1), .val (.int p2), .val (.int p3), .val (.int p4), .unset, .val (.int ((224 : Int32) ||| (p1 &&& (31 : Int32)))), .val (.int ((128 : Int32) ||| (p2 &&& (63 : Int32)))), .unset] [(.int (128 : Int32))])) t
          refine XS.iloadN X0.here hx rfl (hb hby at_58) rfl ?_
          show Steps p.tables e below (s₁.setTop (mkF m 59 #[.val (.int p0), .val (.int p1), .val (.int p2), .val (.int p3), .val (.int p4), .unset, .val (.int ((224 : Int32) ||| (p1 &&& (31 : Int32)))), .val (.int ((128 : Int32) ||| (p2 &&& (63 : Int32)))), .unset] [(.int p3), (.int (128 : Int32))])) t
          refine XS.bipush X0.here hx rfl (hb hby at_59) ?_
          show Steps p.tables e below (s₁.setTop (mkF m 61 #[.val (.int p0), .val (.int p1), .val (.int p2), .val (.int p3), .val (.int p4), .unset, .val (.int ((224 : Int32) ||| (p1 &&& (31 : Int32)))), .val (.int ((128 : Int32) ||| (p2 &&& (63 : Int32)))), .unset] [(.int (63 : Int32)), (.int p3), (.int (128 : Int32))])) t
          refine XS.iand X0.here hx rfl (hb hby at_61) rfl ?_
          show Steps p.tables e below (s₁.setTop (mkF m 62 #[.val (.int p0), .val (.int p1), .val (.int p2), .val (.int p3), .val (.int p4), .unset, .val (.int ((224 : Int32) ||| (p1 &&& (31 : Int32)))), .val (.int ((128 : Int32) ||| (p2 &&& (63 : Int32)))), .unset] [(.int (p3 &&& (63 : Int32))), (.int (128 : Int32))])) t
          refine XS.ior X0.here hx rfl (hb hby at_62) rfl ?_
          show Steps p.tables e below (s₁.setTop (mkF m 63 #[.val (.int p0), .val (.int p1), .val (.int p2), .val (.int p3), .val (.int p4), .unset, .val (.int ((224 : Int32) ||| (p1 &&& (31 : Int32)))), .val (.int ((128 : Int32) ||| (p2 &&& (63 : Int32)))), .unset] [(.int ((128 : Int32) ||| (p3 &&& (63 : Int32))))])) t
          refine XS.goto X0.here hx rfl (pc0 := 63) (pc' := 71) rfl (hb hby at_63) (by decide) (by decide) ?_
          show Steps p.tables e below (s₁.setTop (mkF m 71 #[.val (.int p0), .val (.int p1), .val (.int p2), .val (.int p3), .val (.int p4), .unset, .val (.int ((224 : Int32) ||| (p1 &&& (31 : Int32)))), .val (.int ((128 : Int32) ||| (p2 &&& (63 : Int32)))), .unset] [(.int ((128 : Int32) ||| (p3 &&& (63 : Int32))))])) t
          refine XS.istore X0.here hx rfl (hb hby at_71) rfl (l' := #[.val (.int p0), .val (.int p1), .val (.int p2), .val (.int p3), .val (.int p4), .unset, .val (.int ((224 : Int32) ||| (p1 &&& (31 : Int32)))), .val (.int ((128 : Int32) ||| (p2 &&& (63 : Int32)))), .val (.int ((128 : Int32) ||| (p3 &&& (63 : Int32))))]) rfl ?_
          show Steps p.tables e below (s₁.setTop (mkF m 73 #[.val (.int p0), .val (.int p1), .val (.int p2), .val (.int p3), .val (.int p4), .unset, .val (.int ((224 : Int32) ||| (p1 &&& (31 : Int32)))), .val (.int ((128 : Int32) ||| (p2 &&& (63 : Int32)))), .val (.int ((128 : Int32) ||| (p3 &&& (63 : Int32))))] [])) t
          refine XS.iload X0.here hx rfl (hb hby at_73) rfl ?_
          show Steps p.tables e below (s₁.setTop (mkF m 75 #[.val (.int p0), .val (.int p1), .val (.int p2), .val (.int p3), .val (.int p4), .unset, .val (.int ((224 : Int32) ||| (p1 &&& (31 : Int32)))), .val (.int ((128 : Int32) ||| (p2 &&& (63 : Int32)))), .val (.int ((128 : Int32) ||| (p3 &&& (63 : Int32))))] [(.int ((224 : Int32) ||| (p1 &&& (31 : Int32))))])) t
          refine XS.bipush X0.here hx rfl (hb hby at_75) ?_
          show Steps p.tables e below (s₁.setTop (mkF m 77 #[.val (.int p0), .val (.int p1), .val (.int p2), .val (.int p3), .val (.int p4), .unset, .val (.int ((224 : Int32) ||| (p1 &&& (31 : Int32)))), .val (.int ((128 : Int32) ||| (p2 &&& (63 : Int32)))), .val (.int ((128 : Int32) ||| (p3 &&& (63 : Int32))))] [(.int (24 : Int32)), (.int ((224 : Int32) ||| (p1 &&& (31 : Int32))))])) t
          refine XS.ishl X0.here hx rfl (hb hby at_77) rfl ?_
          show Steps p.tables e below (s₁.setTop (mkF m 78 #[.val (.int p0), .val (.int p1), .val (.int p2), .val (.int p3), .val (.int p4), .unset, .val (.int ((224 : Int32) ||| (p1 &&& (31 : Int32)))), .val (.int ((128 : Int32) ||| (p2 &&& (63 : Int32)))), .val (.int ((128 : Int32) ||| (p3 &&& (63 : Int32))))] [(.int (((224 : Int32) ||| (p1 &&& (31 : Int32))) <<< ((24 : Int32) &&& 31)))])) t
          refine XS.iload X0.here hx rfl (hb hby at_78) rfl ?_
          show Steps p.tables e below (s₁.setTop (mkF m 80 #[.val (.int p0), .val (.int p1), .val (.int p2), .val (.int p3), .val (.int p4), .unset, .val (.int ((224 : Int32) ||| (p1 &&& (31 : Int32)))), .val (.int ((128 : Int32) ||| (p2 &&& (63 : Int32)))), .val (.int ((128 : Int32) ||| (p3 &&& (63 : Int32))))] [(.int ((128 : Int32) ||| (p2 &&& (63 : Int32)))), (.int (((224 : Int32) ||| (p1 &&& (31 : Int32))) <<< ((24 : Int32) &&& 31)))])) t
          refine XS.bipush X0.here hx rfl (hb hby at_80) ?_
          show Steps p.tables e below (s₁.setTop (mkF m 82 #[.val (.int p0), .val (.int p1), .val (.int p2), .val (.int p3), .val (.int p4), .unset, .val (.int ((224 : Int32) ||| (p1 &&& (31 : Int32)))), .val (.int ((128 : Int32) ||| (p2 &&& (63 : Int32)))), .val (.int ((128 : Int32) ||| (p3 &&& (63 : Int32))))] [(.int (16 : Int32)), (.int ((128 : Int32) ||| (p2 &&& (63 : Int32)))), (.int (((224 : Int32) ||| (p1 &&& (31 : Int32))) <<< ((24 : Int32) &&& 31)))])) t
          refine XS.ishl X0.here hx rfl (hb hby at_82) rfl ?_
          show Steps p.tables e below (s₁.setTop (mkF m 83 #[.val (.int p0), .val (.int p1), .val (.int p2), .val (.int p3), .val (.int p4), .unset, .val (.int ((224 : Int32) ||| (p1 &&& (31 : Int32)))), .val (.int ((128 : Int32) ||| (p2 &&& (63 : Int32)))), .val (.int ((128 : Int32) ||| (p3 &&& (63 : Int32))))] [(.int (((128 : Int32) ||| (p2 &&& (63 : Int32))) <<< ((16 : Int32) &&& 31))), (.int (((224 : Int32) ||| (p1 &&& (31 : Int32))) <<< ((24 : Int32) &&& 31)))])) t
          refine XS.ior X0.here hx rfl (hb hby at_83) rfl ?_
          show Steps p.tables e below (s₁.setTop (mkF m 84 #[.val (.int p0), .val (.int p1), .val (.int p2), .val (.int p3), .val (.int p4), .unset, .val (.int ((224 : Int32) ||| (p1 &&& (31 : Int32)))), .val (.int ((128 : Int32) ||| (p2 &&& (63 : Int32)))), .val (.int ((128 : Int32) ||| (p3 &&& (63 : Int32))))] [(.int ((((224 : Int32) ||| (p1 &&& (31 : Int32))) <<< ((24 : Int32) &&& 31)) ||| (((128 : Int32) ||| (p2 &&& (63 : Int32))) <<< ((16 : Int32) &&& 31))))])) t
          refine XS.iload X0.here hx rfl (hb hby at_84) rfl ?_
          show Steps p.tables e below (s₁.setTop (mkF m 86 #[.val (.int p0), .val (.int p1), .val (.int p2), .val (.int p3), .val (.int p4), .unset, .val (.int ((224 : Int32) ||| (p1 &&& (31 : Int32)))), .val (.int ((128 : Int32) ||| (p2 &&& (63 : Int32)))), .val (.int ((128 : Int32) ||| (p3 &&& (63 : Int32))))] [(.int ((128 : Int32) ||| (p3 &&& (63 : Int32)))), (.int ((((224 : Int32) ||| (p1 &&& (31 : Int32))) <<< ((24 : Int32) &&& 31)) ||| (((128 : Int32) ||| (p2 &&& (63 : Int32))) <<< ((16 : Int32) &&& 31))))])) t
          refine XS.bipush X0.here hx rfl (hb hby at_86) ?_
          show Steps p.tables e below (s₁.setTop (mkF m 88 #[.val (.int p0), .val (.int p1), .val (.int p2), .val (.int p3), .val (.int p4), .unset, .val (.int ((224 : Int32) ||| (p1 &&& (31 : Int32)))), .val (.int ((128 : Int32) ||| (p2 &&& (63 : Int32)))), .val (.int ((128 : Int32) ||| (p3 &&& (63 : Int32))))] [(.int (8 : Int32)), (.int ((128 : Int32) ||| (p3 &&& (63 : Int32)))), (.int ((((224 : Int32) ||| (p1 &&& (31 : Int32))) <<< ((24 : Int32) &&& 31)) ||| (((128 : Int32) ||| (p2 &&& (63 : Int32))) <<< ((16 : Int32) &&& 31))))])) t
          refine XS.ishl X0.here hx rfl (hb hby at_88) rfl ?_
          show Steps p.tables e below (s₁.setTop (mkF m 89 #[.val (.int p0), .val (.int p1), .val (.int p2), .val (.int p3), .val (.int p4), .unset, .val (.int ((224 : Int32) ||| (p1 &&& (31 : Int32)))), .val (.int ((128 : Int32) ||| (p2 &&& (63 : Int32)))), .val (.int ((128 : Int32) ||| (p3 &&& (63 : Int32))))] [(.int (((128 : Int32) ||| (p3 &&& (63 : Int32))) <<< ((8 : Int32) &&& 31))), (.int ((((224 : Int32) ||| (p1 &&& (31 : Int32))) <<< ((24 : Int32) &&& 31)) ||| (((128 : Int32) ||| (p2 &&& (63 : Int32))) <<< ((16 : Int32) &&& 31))))])) t
          refine XS.ior X0.here hx rfl (hb hby at_89) rfl ?_
          show Steps p.tables e below (s₁.setTop (mkF m 90 #[.val (.int p0), .val (.int p1), .val (.int p2), .val (.int p3), .val (.int p4), .unset, .val (.int ((224 : Int32) ||| (p1 &&& (31 : Int32)))), .val (.int ((128 : Int32) ||| (p2 &&& (63 : Int32)))), .val (.int ((128 : Int32) ||| (p3 &&& (63 : Int32))))] [(.int (((((224 : Int32) ||| (p1 &&& (31 : Int32))) <<< ((24 : Int32) &&& 31)) ||| (((128 : Int32) ||| (p2 &&& (63 : Int32))) <<< ((16 : Int32) &&& 31))) ||| (((128 : Int32) ||| (p3 &&& (63 : Int32))) <<< ((8 : Int32) &&& 31))))])) t
          refine XS.iloadN X0.here hx rfl (hb hby at_90) rfl ?_
          show Steps p.tables e below (s₁.setTop (mkF m 91 #[.val (.int p0), .val (.int p1), .val (.int p2), .val (.int p3), .val (.int p4), .unset, .val (.int ((224 : Int32) ||| (p1 &&& (31 : Int32)))), .val (.int ((128 : Int32) ||| (p2 &&& (63 : Int32)))), .val (.int ((128 : Int32) ||| (p3 &&& (63 : Int32))))] [(.int p0), (.int (((((224 : Int32) ||| (p1 &&& (31 : Int32))) <<< ((24 : Int32) &&& 31)) ||| (((128 : Int32) ||| (p2 &&& (63 : Int32))) <<< ((16 : Int32) &&& 31))) ||| (((128 : Int32) ||| (p3 &&& (63 : Int32))) <<< ((8 : Int32) &&& 31))))])) t
          refine XS.sipush X0.here hx rfl (hb hby at_91) ?_
          show Steps p.tables e below (s₁.setTop (mkF m 94 #[.val (.int p0), .val (.int p1), .val (.int p2), .val (.int p3), .val (.int p4), .unset, .val (.int ((224 : Int32) ||| (p1 &&& (31 : Int32)))), .val (.int ((128 : Int32) ||| (p2 &&& (63 : Int32)))), .val (.int ((128 : Int32) ||| (p3 &&& (63 : Int32))))] [(.int (255 : Int32)), (.int p0), (.int (((((224 : Int32) ||| (p1 &&& (31 : Int32))) <<< ((24 : Int32) &&& 31)) ||| (((128 : Int32) ||| (p2 &&& (63 : Int32))) <<< ((16 : Int32) &&& 31))) ||| (((128 : Int32) ||| (p3 &&& (63 : Int32))) <<< ((8 : Int32) &&& 31))))])) t
          refine XS.iand X0.here hx rfl (hb hby at_94) rfl ?_
          show Steps p.tables e below (s₁.setTop (mkF m 95 #[.val (.int p0), .val (.int p1), .val (.int p2), .val (.int p3), .val (.int p4), .unset, .val (.int ((224 : Int32) ||| (p1 &&& (31 : Int32)))), .val (.int ((128 : Int32) ||| (p2 &&& (63 : Int32)))), .val (.int ((128 : Int32) ||| (p3 &&& (63 : Int32))))] [(.int (p0 &&& (255 : Int32))), (.int (((((224 : Int32) ||| (p1 &&& (31 : Int32))) <<< ((24 : Int32) &&& 31)) ||| (((128 : Int32) ||| (p2 &&& (63 : Int32))) <<< ((16 : Int32) &&& 31))) ||| (((128 : Int32) ||| (p3 &&& (63 : Int32))) <<< ((8 : Int32) &&& 31))))])) t
          refine XS.ior X0.here hx rfl (hb hby at_95) rfl ?_
          show Steps p.tables e below (s₁.setTop (mkF m 96 #[.val (.int p0), .val (.int p1), .val (.int p2), .val (.int p3), .val (.int p4), .unset, .val (.int ((224 : Int32) ||| (p1 &&& (31 : Int32)))), .val (.int ((128 : Int32) ||| (p2 &&& (63 : Int32)))), .val (.int ((128 : Int32) ||| (p3 &&& (63 : Int32))))] [(.int ((((((224 : Int32) ||| (p1 &&& (31 : Int32))) <<< ((24 : Int32) &&& 31)) ||| (((128 : Int32) ||| (p2 &&& (63 : Int32))) <<< ((16 : Int32) &&& 31))) ||| (((128 : Int32) ||| (p3 &&& (63 : Int32))) <<< ((8 : Int32) &&& 31))) ||| (p0 &&& (255 : Int32))))])) t
          refine XS.istore X0.here hx rfl (hb hby at_96) rfl (l' := #[.val (.int p0), .val (.int p1), .val (.int p2), .val (.int p3), .val (.int p4), .val (.int ((((((224 : Int32) ||| (p1 &&& (31 : Int32))) <<< ((24 : Int32) &&& 31)) ||| (((128 : Int32) ||| (p2 &&& (63 : Int32))) <<< ((16 : Int32) &&& 31))) ||| (((128 : Int32) ||| (p3 &&& (63 : Int32))) <<< ((8 : Int32) &&& 31))) ||| (p0 &&& (255 : Int32)))), .val (.int ((224 : Int32) ||| (p1 &&& (31 : Int32)))), .val (.int ((128 : Int32) ||| (p2 &&& (63 : Int32)))), .val (.int ((128 : Int32) ||| (p3 &&& (63 : Int32))))]) rfl ?_
          show Steps p.tables e below (s₁.setTop (mkF m 98 #[.val (.int p0), .val (.int p1), .val (.int p2), .val (.int p3), .val (.int p4), .val (.int ((((((224 : Int32) ||| (p1 &&& (31 : Int32))) <<< ((24 : Int32) &&& 31)) ||| (((128 : Int32) ||| (p2 &&& (63 : Int32))) <<< ((16 : Int32) &&& 31))) ||| (((128 : Int32) ||| (p3 &&& (63 : Int32))) <<< ((8 : Int32) &&& 31))) ||| (p0 &&& (255 : Int32)))), .val (.int ((224 : Int32) ||| (p1 &&& (31 : Int32)))), .val (.int ((128 : Int32) ||| (p2 &&& (63 : Int32)))), .val (.int ((128 : Int32) ||| (p3 &&& (63 : Int32))))] [])) t
          refine XS.iload X0.here hx rfl (hb hby at_98) rfl ?_
          exact k
        obtain ⟨_, _, ⟨T17, L17, k17, n17⟩, -, X17, ⟨Lc17, hQ17, l17, y17, z17⟩, st17⟩ := Jvm.LawKit.callS X0 hx (y := (⟨"com/example/bare_octets/bareoctets/codec/WellFormedSequences", "isCommonThreeByteForm", "(I)Z"⟩ : MethodName)) hown (mvT hZ (hw _ (List.mem_of_getElem? (i := 0) rfl))) (mvT hZ (hw _ (List.mem_of_getElem? (i := 1) rfl))) (mvT hZ (hw _ (List.mem_of_getElem? (i := 2) rfl))) (mvT hZ (hw _ (List.mem_of_getElem? (i := 3) rfl))) (by decide) (backOf (W := 0) (rm1 l Z az hw [] ((((((224 : Int32) ||| (p1 &&& (31 : Int32))) <<< ((24 : Int32) &&& 31)) ||| (((128 : Int32) ||| (p2 &&& (63 : Int32))) <<< ((16 : Int32) &&& 31))) ||| (((128 : Int32) ||| (p3 &&& (63 : Int32))) <<< ((8 : Int32) &&& 31))) ||| (p0 &&& (255 : Int32))) h0 n0 Z0 ) hZ (hw _ (List.mem_of_getElem? (i := 3) rfl)) (hw _ (List.mem_of_getElem? (i := 2) rfl)) (by decide) (by decide)) (g := (mkF m 100 #[.val (.int p0), .val (.int p1), .val (.int p2), .val (.int p3), .val (.int p4), .val (.int ((((((224 : Int32) ||| (p1 &&& (31 : Int32))) <<< ((24 : Int32) &&& 31)) ||| (((128 : Int32) ||| (p2 &&& (63 : Int32))) <<< ((16 : Int32) &&& 31))) ||| (((128 : Int32) ||| (p3 &&& (63 : Int32))) <<< ((8 : Int32) &&& 31))) ||| (p0 &&& (255 : Int32)))), .val (.int ((224 : Int32) ||| (p1 &&& (31 : Int32)))), .val (.int ((128 : Int32) ||| (p2 &&& (63 : Int32)))), .val (.int ((128 : Int32) ||| (p3 &&& (63 : Int32))))] [(.int ((((((224 : Int32) ||| (p1 &&& (31 : Int32))) <<< ((24 : Int32) &&& 31)) ||| (((128 : Int32) ||| (p2 &&& (63 : Int32))) <<< ((16 : Int32) &&& 31))) ||| (((128 : Int32) ||| (p3 &&& (63 : Int32))) <<< ((8 : Int32) &&& 31))) ||| (p0 &&& (255 : Int32))))])) rfl (by rw [hml]; rfl) (argsL := [(.int ((((((224 : Int32) ||| (p1 &&& (31 : Int32))) <<< ((24 : Int32) &&& 31)) ||| (((128 : Int32) ||| (p2 &&& (63 : Int32))) <<< ((16 : Int32) &&& 31))) ||| (((128 : Int32) ||| (p3 &&& (63 : Int32))) <<< ((8 : Int32) &&& 31))) ||| (p0 &&& (255 : Int32))))]) (rest := []) (lenOf own_pd1 rfl) rfl (by show 2 * 0 + _ ≤ _; exact Nat.le_of_eq rfl) (hb hby at_100) (fun _ _ => ⟨rfl, e0, (by decide : 0 + 0 ≤ _), (by decide : 0 + 0 ≤ _)⟩)
        dsimp only [Pt.U, Pt.locs, Pt.cells, Pt.slots] at X17 l17 y17 z17 st17 hQ17
        subst l17 y17 z17
        obtain ⟨rfl, N17q, e17⟩ := hQ17
        have N18 := Fr.app N0 N17q
        refine Goes.by st17 ?_
        show Goes p.tables e below _ (T17.setTop (mkF m 103 #[.val (.int p0), .val (.int p1), .val (.int p2), .val (.int p3), .val (.int p4), .val (.int ((((((224 : Int32) ||| (p1 &&& (31 : Int32))) <<< ((24 : Int32) &&& 31)) ||| (((128 : Int32) ||| (p2 &&& (63 : Int32))) <<< ((16 : Int32) &&& 31))) ||| (((128 : Int32) ||| (p3 &&& (63 : Int32))) <<< ((8 : Int32) &&& 31))) ||| (p0 &&& (255 : Int32)))), .val (.int ((224 : Int32) ||| (p1 &&& (31 : Int32)))), .val (.int ((128 : Int32) ||| (p2 &&& (63 : Int32)))), .val (.int ((128 : Int32) ||| (p3 &&& (63 : Int32))))] [(.int (f1 ((((((224 : Int32) ||| (p1 &&& (31 : Int32))) <<< ((24 : Int32) &&& 31)) ||| (((128 : Int32) ||| (p2 &&& (63 : Int32))) <<< ((16 : Int32) &&& 31))) ||| (((128 : Int32) ||| (p3 &&& (63 : Int32))) <<< ((8 : Int32) &&& 31))) ||| (p0 &&& (255 : Int32)))))]))
        refine Goes.by (B := T17.setTop (mkF m 105 #[.val (.int p0), .val (.int p1), .val (.int p2), .val (.int p3), .val (.int p4), .val (.int ((((((224 : Int32) ||| (p1 &&& (31 : Int32))) <<< ((24 : Int32) &&& 31)) ||| (((128 : Int32) ||| (p2 &&& (63 : Int32))) <<< ((16 : Int32) &&& 31))) ||| (((128 : Int32) ||| (p3 &&& (63 : Int32))) <<< ((8 : Int32) &&& 31))) ||| (p0 &&& (255 : Int32)))), .val (.int ((224 : Int32) ||| (p1 &&& (31 : Int32)))), .val (.int ((128 : Int32) ||| (p2 &&& (63 : Int32)))), .val (.int ((128 : Int32) ||| (p3 &&& (63 : Int32))))] [(.int ((((((224 : Int32) ||| (p1 &&& (31 : Int32))) <<< ((24 : Int32) &&& 31)) ||| (((128 : Int32) ||| (p2 &&& (63 : Int32))) <<< ((16 : Int32) &&& 31))) ||| (((128 : Int32) ||| (p3 &&& (63 : Int32))) <<< ((8 : Int32) &&& 31))) ||| (p0 &&& (255 : Int32)))), (.int (f1 ((((((224 : Int32) ||| (p1 &&& (31 : Int32))) <<< ((24 : Int32) &&& 31)) ||| (((128 : Int32) ||| (p2 &&& (63 : Int32))) <<< ((16 : Int32) &&& 31))) ||| (((128 : Int32) ||| (p3 &&& (63 : Int32))) <<< ((8 : Int32) &&& 31))) ||| (p0 &&& (255 : Int32)))))])) (fun t k => ?_) ?_
        · show Steps p.tables e below (T17.setTop (mkF m 103 #[.val (.int p0), .val (.int p1), .val (.int p2), .val (.int p3), .val (.int p4), .val (.int ((((((224 : Int32) ||| (p1 &&& (31 : Int32))) <<< ((24 : Int32) &&& 31)) ||| (((128 : Int32) ||| (p2 &&& (63 : Int32))) <<< ((16 : Int32) &&& 31))) ||| (((128 : Int32) ||| (p3 &&& (63 : Int32))) <<< ((8 : Int32) &&& 31))) ||| (p0 &&& (255 : Int32)))), .val (.int ((224 : Int32) ||| (p1 &&& (31 : Int32)))), .val (.int ((128 : Int32) ||| (p2 &&& (63 : Int32)))), .val (.int ((128 : Int32) ||| (p3 &&& (63 : Int32))))] [(.int (f1 ((((((224 : Int32) ||| (p1 &&& (31 : Int32))) <<< ((24 : Int32) &&& 31)) ||| (((128 : Int32) ||| (p2 &&& (63 : Int32))) <<< ((16 : Int32) &&& 31))) ||| (((128 : Int32) ||| (p3 &&& (63 : Int32))) <<< ((8 : Int32) &&& 31))) ||| (p0 &&& (255 : Int32)))))])) t
          refine XS.iload X17.here hx rfl (hb hby at_103) rfl ?_
          exact k
        obtain ⟨_, _, ⟨T19, L19, k19, n19⟩, -, X19, ⟨Lc19, hQ19, l19, y19, z19⟩, st19⟩ := Jvm.LawKit.callS X17 hx (y := (⟨"com/example/bare_octets/bareoctets/codec/WellFormedSequencesIsCommonThreeByteFormPinLaw", "expected", "(I)Z"⟩ : MethodName)) hown (mvT hZ (hw _ (List.mem_of_getElem? (i := 6) rfl))) (mvT hZ (hw _ (List.mem_of_getElem? (i := 7) rfl))) (mvT hZ (hw _ (List.mem_of_getElem? (i := 8) rfl))) (mvT hZ (hw _ (List.mem_of_getElem? (i := 9) rfl))) (by decide) (backOf (W := 1) (rm2 l Z az hw [] ((((((224 : Int32) ||| (p1 &&& (31 : Int32))) <<< ((24 : Int32) &&& 31)) ||| (((128 : Int32) ||| (p2 &&& (63 : Int32))) <<< ((16 : Int32) &&& 31))) ||| (((128 : Int32) ||| (p3 &&& (63 : Int32))) <<< ((8 : Int32) &&& 31))) ||| (p0 &&& (255 : Int32))) h0 n0 Z0 ) hZ (hw _ (List.mem_of_getElem? (i := 9) rfl)) (hw _ (List.mem_of_getElem? (i := 8) rfl)) (by decide) (by decide)) (g := (mkF m 105 #[.val (.int p0), .val (.int p1), .val (.int p2), .val (.int p3), .val (.int p4), .val (.int ((((((224 : Int32) ||| (p1 &&& (31 : Int32))) <<< ((24 : Int32) &&& 31)) ||| (((128 : Int32) ||| (p2 &&& (63 : Int32))) <<< ((16 : Int32) &&& 31))) ||| (((128 : Int32) ||| (p3 &&& (63 : Int32))) <<< ((8 : Int32) &&& 31))) ||| (p0 &&& (255 : Int32)))), .val (.int ((224 : Int32) ||| (p1 &&& (31 : Int32)))), .val (.int ((128 : Int32) ||| (p2 &&& (63 : Int32)))), .val (.int ((128 : Int32) ||| (p3 &&& (63 : Int32))))] [(.int ((((((224 : Int32) ||| (p1 &&& (31 : Int32))) <<< ((24 : Int32) &&& 31)) ||| (((128 : Int32) ||| (p2 &&& (63 : Int32))) <<< ((16 : Int32) &&& 31))) ||| (((128 : Int32) ||| (p3 &&& (63 : Int32))) <<< ((8 : Int32) &&& 31))) ||| (p0 &&& (255 : Int32)))), (.int (f1 ((((((224 : Int32) ||| (p1 &&& (31 : Int32))) <<< ((24 : Int32) &&& 31)) ||| (((128 : Int32) ||| (p2 &&& (63 : Int32))) <<< ((16 : Int32) &&& 31))) ||| (((128 : Int32) ||| (p3 &&& (63 : Int32))) <<< ((8 : Int32) &&& 31))) ||| (p0 &&& (255 : Int32)))))])) rfl (by rw [hml]; rfl) (argsL := [(.int ((((((224 : Int32) ||| (p1 &&& (31 : Int32))) <<< ((24 : Int32) &&& 31)) ||| (((128 : Int32) ||| (p2 &&& (63 : Int32))) <<< ((16 : Int32) &&& 31))) ||| (((128 : Int32) ||| (p3 &&& (63 : Int32))) <<< ((8 : Int32) &&& 31))) ||| (p0 &&& (255 : Int32))))]) (rest := [(.int (f1 ((((((224 : Int32) ||| (p1 &&& (31 : Int32))) <<< ((24 : Int32) &&& 31)) ||| (((128 : Int32) ||| (p2 &&& (63 : Int32))) <<< ((16 : Int32) &&& 31))) ||| (((128 : Int32) ||| (p3 &&& (63 : Int32))) <<< ((8 : Int32) &&& 31))) ||| (p0 &&& (255 : Int32)))))]) (lenOf own_pd1 rfl) rfl (by show 2 * 0 + _ ≤ _; exact Nat.le_of_eq rfl) (hb hby at_105) (fun _ _ => ⟨rfl, e17, (by decide : 0 + 0 ≤ _), (by decide : 0 + 0 ≤ _)⟩)
        dsimp only [Pt.U, Pt.locs, Pt.cells, Pt.slots] at X19 l19 y19 z19 st19 hQ19
        subst l19 y19 z19
        obtain ⟨rfl, N19q, e19⟩ := hQ19
        have N20 := Fr.app N18 N19q
        refine Goes.by st19 ?_
        show Goes p.tables e below _ (T19.setTop (mkF m 108 #[.val (.int p0), .val (.int p1), .val (.int p2), .val (.int p3), .val (.int p4), .val (.int ((((((224 : Int32) ||| (p1 &&& (31 : Int32))) <<< ((24 : Int32) &&& 31)) ||| (((128 : Int32) ||| (p2 &&& (63 : Int32))) <<< ((16 : Int32) &&& 31))) ||| (((128 : Int32) ||| (p3 &&& (63 : Int32))) <<< ((8 : Int32) &&& 31))) ||| (p0 &&& (255 : Int32)))), .val (.int ((224 : Int32) ||| (p1 &&& (31 : Int32)))), .val (.int ((128 : Int32) ||| (p2 &&& (63 : Int32)))), .val (.int ((128 : Int32) ||| (p3 &&& (63 : Int32))))] [(.int (f2 ((((((224 : Int32) ||| (p1 &&& (31 : Int32))) <<< ((24 : Int32) &&& 31)) ||| (((128 : Int32) ||| (p2 &&& (63 : Int32))) <<< ((16 : Int32) &&& 31))) ||| (((128 : Int32) ||| (p3 &&& (63 : Int32))) <<< ((8 : Int32) &&& 31))) ||| (p0 &&& (255 : Int32))))), (.int (f1 ((((((224 : Int32) ||| (p1 &&& (31 : Int32))) <<< ((24 : Int32) &&& 31)) ||| (((128 : Int32) ||| (p2 &&& (63 : Int32))) <<< ((16 : Int32) &&& 31))) ||| (((128 : Int32) ||| (p3 &&& (63 : Int32))) <<< ((8 : Int32) &&& 31))) ||| (p0 &&& (255 : Int32)))))]))
        refine Goes.by (B := T19.setTop (mkF m 116 #[.val (.int p0), .val (.int p1), .val (.int p2), .val (.int p3), .val (.int p4), .val (.int ((((((224 : Int32) ||| (p1 &&& (31 : Int32))) <<< ((24 : Int32) &&& 31)) ||| (((128 : Int32) ||| (p2 &&& (63 : Int32))) <<< ((16 : Int32) &&& 31))) ||| (((128 : Int32) ||| (p3 &&& (63 : Int32))) <<< ((8 : Int32) &&& 31))) ||| (p0 &&& (255 : Int32)))), .val (.int ((224 : Int32) ||| (p1 &&& (31 : Int32)))), .val (.int ((128 : Int32) ||| (p2 &&& (63 : Int32)))), .val (.int ((128 : Int32) ||| (p3 &&& (63 : Int32))))] [(.int (1 : Int32))])) (fun t k => ?_) ?_
        · show Steps p.tables e below (T19.setTop (mkF m 108 #[.val (.int p0), .val (.int p1), .val (.int p2), .val (.int p3), .val (.int p4), .val (.int ((((((224 : Int32) ||| (p1 &&& (31 : Int32))) <<< ((24 : Int32) &&& 31)) ||| (((128 : Int32) ||| (p2 &&& (63 : Int32))) <<< ((16 : Int32) &&& 31))) ||| (((128 : Int32) ||| (p3 &&& (63 : Int32))) <<< ((8 : Int32) &&& 31))) ||| (p0 &&& (255 : Int32)))), .val (.int ((224 : Int32) ||| (p1 &&& (31 : Int32)))), .val (.int ((128 : Int32) ||| (p2 &&& (63 : Int32)))), .val (.int ((128 : Int32) ||| (p3 &&& (63 : Int32))))] [(.int (f2 ((((((224 : Int32) ||| (p1 &&& (31 : Int32))) <<< ((24 : Int32) &&& 31)) ||| (((128 : Int32) ||| (p2 &&& (63 : Int32))) <<< ((16 : Int32) &&& 31))) ||| (((128 : Int32) ||| (p3 &&& (63 : Int32))) <<< ((8 : Int32) &&& 31))) ||| (p0 &&& (255 : Int32))))), (.int (f1 ((((((224 : Int32) ||| (p1 &&& (31 : Int32))) <<< ((24 : Int32) &&& 31)) ||| (((128 : Int32) ||| (p2 &&& (63 : Int32))) <<< ((16 : Int32) &&& 31))) ||| (((128 : Int32) ||| (p3 &&& (63 : Int32))) <<< ((8 : Int32) &&& 31))) ||| (p0 &&& (255 : Int32)))))])) t
          refine XS.icmpNo X19.here hx rfl (hb hby at_108) rfl (teq (own_law _)).2 ?_
          show Steps p.tables e below (T19.setTop (mkF m 111 #[.val (.int p0), .val (.int p1), .val (.int p2), .val (.int p3), .val (.int p4), .val (.int ((((((224 : Int32) ||| (p1 &&& (31 : Int32))) <<< ((24 : Int32) &&& 31)) ||| (((128 : Int32) ||| (p2 &&& (63 : Int32))) <<< ((16 : Int32) &&& 31))) ||| (((128 : Int32) ||| (p3 &&& (63 : Int32))) <<< ((8 : Int32) &&& 31))) ||| (p0 &&& (255 : Int32)))), .val (.int ((224 : Int32) ||| (p1 &&& (31 : Int32)))), .val (.int ((128 : Int32) ||| (p2 &&& (63 : Int32)))), .val (.int ((128 : Int32) ||| (p3 &&& (63 : Int32))))] [])) t
          refine XS.iconst X19.here hx rfl (hb hby at_111) ?_
          show Steps p.tables e below (T19.setTop (mkF m 112 #[.val (.int p0), .val (.int p1), .val (.int p2), .val (.int p3), .val (.int p4), .val (.int ((((((224 : Int32) ||| (p1 &&& (31 : Int32))) <<< ((24 : Int32) &&& 31)) ||| (((128 : Int32) ||| (p2 &&& (63 : Int32))) <<< ((16 : Int32) &&& 31))) ||| (((128 : Int32) ||| (p3 &&& (63 : Int32))) <<< ((8 : Int32) &&& 31))) ||| (p0 &&& (255 : Int32)))), .val (.int ((224 : Int32) ||| (p1 &&& (31 : Int32)))), .val (.int ((128 : Int32) ||| (p2 &&& (63 : Int32)))), .val (.int ((128 : Int32) ||| (p3 &&& (63 : Int32))))] [(.int (1 : Int32))])) t
          refine XS.goto X19.here hx rfl (pc0 := 112) (pc' := 116) rfl (hb hby at_112) (by decide) (by decide) ?_
          exact k
        obtain ⟨fs, hr, hrun, hended, hW, hsame⟩ := X19.leave (v := some (.int (1 : Int32))) (fun h => by rw [Bd.returns] at h; cases h)
        refine Goes.mk _ _ ?_ ⟨hrun, hended, _, _, rfl, ?_, ⟨_, rfl⟩, hW, hsame.mono (by decide) (by decide)⟩
        · exact retN X19 hx (t := .boolean) Bd.returns (by simp) (hb hby at_116) hr
        · show Q0 Z p0 p1 p2 p3 p4 h0 n0 _ T19.heap _
          rw [e19]
          exact ⟨rfl, N20, rfl⟩
  · refine Goes.by (B := s₁.setTop (mkF m 100 #[.val (.int p0), .val (.int p1), .val (.int p2), .val (.int p3), .val (.int p4), .val (.int p0), .unset, .unset, .unset] [(.int p0)])) (fun t k => ?_) ?_
    · show Steps p.tables e below (s₁.setTop (mkF m 4 #[.val (.int p0), .val (.int p1), .val (.int p2), .val (.int p3), .val (.int p4), .unset, .unset, .unset, .unset] [(.int (p4 &&& (1 : Int32)))])) t
      refine XS.ifNo X0.here hx rfl (hb hby at_4) rfl ((if0 _ _).trans (feq hc1).1) ?_
      show Steps p.tables e below (s₁.setTop (mkF m 7 #[.val (.int p0), .val (.int p1), .val (.int p2), .val (.int p3), .val (.int p4), .unset, .unset, .unset, .unset] [])) t
      refine XS.iloadN X0.here hx rfl (hb hby at_7) rfl ?_
      show Steps p.tables e below (s₁.setTop (mkF m 8 #[.val (.int p0), .val (.int p1), .val (.int p2), .val (.int p3), .val (.int p4), .unset, .unset, .unset, .unset] [(.int p0)])) t
      refine XS.istore X0.here hx rfl (hb hby at_8) rfl (l' := #[.val (.int p0), .val (.int p1), .val (.int p2), .val (.int p3), .val (.int p4), .val (.int p0), .unset, .unset, .unset]) rfl ?_
      show Steps p.tables e below (s₁.setTop (mkF m 10 #[.val (.int p0), .val (.int p1), .val (.int p2), .val (.int p3), .val (.int p4), .val (.int p0), .unset, .unset, .unset] [])) t
      refine XS.goto X0.here hx rfl (pc0 := 10) (pc' := 98) rfl (hb hby at_10) (by decide) (by decide) ?_
      show Steps p.tables e below (s₁.setTop (mkF m 98 #[.val (.int p0), .val (.int p1), .val (.int p2), .val (.int p3), .val (.int p4), .val (.int p0), .unset, .unset, .unset] [])) t
      refine XS.iload X0.here hx rfl (hb hby at_98) rfl ?_
      exact k
    obtain ⟨_, _, ⟨T21, L21, k21, n21⟩, -, X21, ⟨Lc21, hQ21, l21, y21, z21⟩, st21⟩ := Jvm.LawKit.callS X0 hx (y := (⟨"com/example/bare_octets/bareoctets/codec/WellFormedSequences", "isCommonThreeByteForm", "(I)Z"⟩ : MethodName)) hown (mvT hZ (hw _ (List.mem_of_getElem? (i := 0) rfl))) (mvT hZ (hw _ (List.mem_of_getElem? (i := 1) rfl))) (mvT hZ (hw _ (List.mem_of_getElem? (i := 2) rfl))) (mvT hZ (hw _ (List.mem_of_getElem? (i := 3) rfl))) (by decide) (backOf (W := 0) (rm1 l Z az hw [] p0 h0 n0 Z0 ) hZ (hw _ (List.mem_of_getElem? (i := 3) rfl)) (hw _ (List.mem_of_getElem? (i := 2) rfl)) (by decide) (by decide)) (g := (mkF m 100 #[.val (.int p0), .val (.int p1), .val (.int p2), .val (.int p3), .val (.int p4), .val (.int p0), .unset, .unset, .unset] [(.int p0)])) rfl (by rw [hml]; rfl) (argsL := [(.int p0)]) (rest := []) (lenOf own_pd1 rfl) rfl (by show 2 * 0 + _ ≤ _; exact Nat.le_of_eq rfl) (hb hby at_100) (fun _ _ => ⟨rfl, e0, (by decide : 0 + 0 ≤ _), (by decide : 0 + 0 ≤ _)⟩)
    dsimp only [Pt.U, Pt.locs, Pt.cells, Pt.slots] at X21 l21 y21 z21 st21 hQ21
    subst l21 y21 z21
    obtain ⟨rfl, N21q, e21⟩ := hQ21
    have N22 := Fr.app N0 N21q
    refine Goes.by st21 ?_
    show Goes p.tables e below _ (T21.setTop (mkF m 103 #[.val (.int p0), .val (.int p1), .val (.int p2), .val (.int p3), .val (.int p4), .val (.int p0), .unset, .unset, .unset] [(.int (f1 p0))]))
    refine Goes.by (B := T21.setTop (mkF m 105 #[.val (.int p0), .val (.int p1), .val (.int p2), .val (.int p3), .val (.int p4), .val (.int p0), .unset, .unset, .unset] [(.int p0), (.int (f1 p0))])) (fun t k => ?_) ?_
    · show Steps p.tables e below (T21.setTop (mkF m 103 #[.val (.int p0), .val (.int p1), .val (.int p2), .val (.int p3), .val (.int p4), .val (.int p0), .unset, .unset, .unset] [(.int (f1 p0))])) t
      refine XS.iload X21.here hx rfl (hb hby at_103) rfl ?_
      exact k
    obtain ⟨_, _, ⟨T23, L23, k23, n23⟩, -, X23, ⟨Lc23, hQ23, l23, y23, z23⟩, st23⟩ := Jvm.LawKit.callS X21 hx (y := (⟨"com/example/bare_octets/bareoctets/codec/WellFormedSequencesIsCommonThreeByteFormPinLaw", "expected", "(I)Z"⟩ : MethodName)) hown (mvT hZ (hw _ (List.mem_of_getElem? (i := 6) rfl))) (mvT hZ (hw _ (List.mem_of_getElem? (i := 7) rfl))) (mvT hZ (hw _ (List.mem_of_getElem? (i := 8) rfl))) (mvT hZ (hw _ (List.mem_of_getElem? (i := 9) rfl))) (by decide) (backOf (W := 1) (rm2 l Z az hw [] p0 h0 n0 Z0 ) hZ (hw _ (List.mem_of_getElem? (i := 9) rfl)) (hw _ (List.mem_of_getElem? (i := 8) rfl)) (by decide) (by decide)) (g := (mkF m 105 #[.val (.int p0), .val (.int p1), .val (.int p2), .val (.int p3), .val (.int p4), .val (.int p0), .unset, .unset, .unset] [(.int p0), (.int (f1 p0))])) rfl (by rw [hml]; rfl) (argsL := [(.int p0)]) (rest := [(.int (f1 p0))]) (lenOf own_pd1 rfl) rfl (by show 2 * 0 + _ ≤ _; exact Nat.le_of_eq rfl) (hb hby at_105) (fun _ _ => ⟨rfl, e21, (by decide : 0 + 0 ≤ _), (by decide : 0 + 0 ≤ _)⟩)
    dsimp only [Pt.U, Pt.locs, Pt.cells, Pt.slots] at X23 l23 y23 z23 st23 hQ23
    subst l23 y23 z23
    obtain ⟨rfl, N23q, e23⟩ := hQ23
    have N24 := Fr.app N22 N23q
    refine Goes.by st23 ?_
    show Goes p.tables e below _ (T23.setTop (mkF m 108 #[.val (.int p0), .val (.int p1), .val (.int p2), .val (.int p3), .val (.int p4), .val (.int p0), .unset, .unset, .unset] [(.int (f2 p0)), (.int (f1 p0))]))
    refine Goes.by (B := T23.setTop (mkF m 116 #[.val (.int p0), .val (.int p1), .val (.int p2), .val (.int p3), .val (.int p4), .val (.int p0), .unset, .unset, .unset] [(.int (1 : Int32))])) (fun t k => ?_) ?_
    · show Steps p.tables e below (T23.setTop (mkF m 108 #[.val (.int p0), .val (.int p1), .val (.int p2), .val (.int p3), .val (.int p4), .val (.int p0), .unset, .unset, .unset] [(.int (f2 p0)), (.int (f1 p0))])) t
      refine XS.icmpNo X23.here hx rfl (hb hby at_108) rfl (teq (own_law _)).2 ?_
      show Steps p.tables e below (T23.setTop (mkF m 111 #[.val (.int p0), .val (.int p1), .val (.int p2), .val (.int p3), .val (.int p4), .val (.int p0), .unset, .unset, .unset] [])) t
      refine XS.iconst X23.here hx rfl (hb hby at_111) ?_
      show Steps p.tables e below (T23.setTop (mkF m 112 #[.val (.int p0), .val (.int p1), .val (.int p2), .val (.int p3), .val (.int p4), .val (.int p0), .unset, .unset, .unset] [(.int (1 : Int32))])) t
      refine XS.goto X23.here hx rfl (pc0 := 112) (pc' := 116) rfl (hb hby at_112) (by decide) (by decide) ?_
      exact k
    obtain ⟨fs, hr, hrun, hended, hW, hsame⟩ := X23.leave (v := some (.int (1 : Int32))) (fun h => by rw [Bd.returns] at h; cases h)
    refine Goes.mk _ _ ?_ ⟨hrun, hended, _, _, rfl, ?_, ⟨_, rfl⟩, hW, hsame.mono (by decide) (by decide)⟩
    · exact retN X23 hx (t := .boolean) Bd.returns (by simp) (hb hby at_116) hr
    · show Q0 Z p0 p1 p2 p3 p4 h0 n0 _ T23.heap _
      rw [e23]
      exact ⟨rfl, N24, rfl⟩
set_option maxRecDepth 65536 in
set_option maxHeartbeats 40000000 in
theorem comes_1 {Post : Tables → Env → Array Value → State → Outcome → State → Prop} (hpost : ∀ tb e args s v u, (limb_1_1.after args s (.returned v) u = true ∧ limb_1_2.after args s (.returned v) u = true ∧ True) → FrameEnd s (.returned v) u (Jvm.fieldLocs frame_1_writes args s ++ Jvm.arrayLocs frame_1_arrays args s ++ Jvm.staticLocs frame_1_statics s) 0 0 → Post tb e args s (.returned v) u) :
    ArmFor flags0 classFile x code maxLocals ret World_1 tables_1 room_1 Calls_1 rest_1 Pre_1 Post := by
  intro l hfl _ _ p e ha hc hk s m args below hf hA hF happ hP
  obtain ⟨hcalls, hrest, hpre⟩ := hP
  obtain ⟨-, -, -, hnamed, -, -, -, hat⟩ := (Spec.applies_iff hf).mp happ
  obtain ⟨hg, hn⟩ := and_e (Cond.before_iff.mp (show (Jvm.Cond.and given_1 narrow_1).before args s = true from hpre))
  obtain ⟨gg1, gg2⟩ := and_e hg
  obtain ⟨gg3, gg4⟩ := and_e gg2
  obtain ⟨gg5, gg6⟩ := and_e gg4
  obtain ⟨gg7, gg8⟩ := and_e gg6
  obtain ⟨gg9, gg10⟩ := and_e gg8
  obtain ⟨w0, w1, w2, w3, w4, rfl⟩ : ∃ w0 w1 w2 w3 w4 : Value, args = #[w0, w1, w2, w3, w4] := by
    have hs : args.size = 5 := by simpa [Cond.value, given_1] using gg1
    obtain ⟨L⟩ := args
    match L, hs with
    | [w0, w1, w2, w3, w4], _ => exact ⟨w0, w1, w2, w3, w4, rfl⟩
  have hw := fun d (hd : d ∈ tables_1) => atoms_spec (ws := Jvm.Cond.code x code maxLocals ret :: tables_1) hat d (List.mem_cons_of_mem _ hd)
  have hfit : Fit s := fun {y c} hc i hi => by
    obtain ⟨ha, rfl⟩ := Array.getElem?_eq_some_iff.mp hc
    have q := List.all_eq_true.mp ((Array.all_eq_true_iff_forall_mem.mp hF) _ (Array.getElem_mem ha)) i (List.mem_range.mpr hi)
    simpa [Array.getElem?_eq_getElem hi] using q
  obtain ⟨i0, ei0⟩ := is_v gg3
  obtain rfl : w0 = (.int i0) := Option.some.inj ei0
  obtain ⟨i1, ei1⟩ := is_v gg5
  obtain rfl : w1 = (.int i1) := Option.some.inj ei1
  obtain ⟨i2, ei2⟩ := is_v gg7
  obtain rfl : w2 = (.int i2) := Option.some.inj ei2
  obtain ⟨i3, ei3⟩ := is_v gg9
  obtain rfl : w3 = (.int i3) := Option.some.inj ei3
  obtain ⟨i4, ei4⟩ := is_v gg10
  obtain rfl : w4 = (.int i4) := Option.some.inj ei4
  obtain ⟨n, o, h1, h2, h3, _, L, rfl, ⟨rfl, N, -⟩, hq⟩ := rm0 l s _ hw tables_1 i0 i1 i2 i3 i4 s.heap s.heap.size (Nat.le_refl _)  p e ha hc hk s m _ below hf ((Spec.applies_iff_loose hf).mp happ).1 ⟨rfl, State.Warmed39.refl s, rfl⟩ trivial
  refine ⟨n, _, h1, h2, h3, hpost _ _ _ _ _ _ ⟨Cond.after_iff.mpr rfl, Cond.after_iff.mpr (eq_i res_at (Term.int_eval (1)) rfl), trivial⟩ ⟨hq.1, hq.2.1, (hq.2.2.sift fun y hy => Or.inr (N y hy)).mono (by decide) (by decide)⟩⟩
theorem main_1_1 : Claimed_1_1 := comes_1 fun _ _ _ _ _ _ h hF => ⟨h.1, hF⟩
theorem main_1_2 : Claimed_1_2 := comes_1 fun _ _ _ _ _ _ h hF => ⟨h.2.1, hF⟩
end Jvm.Pilot.@@N@@
namespace Jvm.Pilot.@@N@@
open Jvm Jvm.ClassFile Sem Op Lib Jvm.Free Jvm.Stand Jvm.Pilot.@@N@@.Jvm.D
/-! MADE BY PROGRAM (witnessworld.py) out of the Statement's table words and the real class files: 9 classes; the members and pool entries that the words name. The judged class is class 1, her method 1. -/
namespace start1
open Jvm.ClassFile
def u (s : String) : CpInfo := .utf8 (stringToUtf16 s)
/-- a pool by its gaps: so many unusable entries, then the entry; so many at the end -/
def gap : Nat → List CpInfo → List CpInfo
  | 0, r => r
  | n + 1, r => .unusable :: gap n r
def poolList (es : List (Nat × CpInfo)) (last : Nat) : List CpInfo := es.foldr (fun e r => gap e.1 (e.2 :: r)) (gap last [])
def pool (es : List (Nat × CpInfo)) (last : Nat) : Array CpInfo := ⟨poolList es last⟩
def fileOf (pool : Array CpInfo) (this : Nat) (attrs : Array Attribute := #[]) (ms : Array MethodInfo := #[]) (fl : Nat := 33) (sup : Nat := 0) (ifs : Array Nat := #[]) (fds : Array FieldInfo := #[]) : ClassFile where
  minorVersion := 0
  majorVersion := 65
  constantPool := pool
  accessFlags := fl
  thisClass := this
  superClass := sup
  interfaces := ifs
  fields := fds
  methods := ms
  attributes := attrs
def plain (name : String) (sup : Option ClassId) : Class where
  name := name
  kind := .ordinary
  loader := none
  accessFlags := 33
  super := sup
  interfaces := #[]
  cf := none
  fields := #[]
  methods := #[]
  instanceTypes := #[]
  staticTypes := #[]
  resolved := #[]
  callSites := []
  init := .initialized
  statics := none
  mirror := none

def pool0 : Array CpInfo := pool [(5, u "<init>"), (0, u "()V"), (1, .class_ 10), (1, u "java/lang/Object")] 113

def k0m0 : Method := { name := "<init>", desc := "()V", sig := { parameters := [], returnType := none }, accessFlags := 1, code := none }
/-- java/lang/Object -/
def k0 : Class := { plain "java/lang/Object" none with
  accessFlags := 33
  interfaces := #[]
  cf := some (fileOf pool0 8 #[] #[{ accessFlags := 1, nameIndex := 5, descriptorIndex := 6, attributes := #[] }] 33 0 #[] #[])
  fields := #[]
  methods := #[k0m0]
  instanceTypes := #[]
  staticTypes := #[]
  resolved := Array.replicate 124 none
  statics := none }

def pool1 : Array CpInfo := pool [(2, .class_ 4), (1, u "java/lang/Object"), (0, u "<init>"), (0, u "()V"), (0, .methodref 8 9), (0, .class_ 10), (0, .nameAndType 11 12), (0, u "com/example/bare_octets/bareoctets/codec/WellFormedSequences"), (0, u "isCommonThreeByteForm"), (0, u "(I)Z"), (0, .methodref 14 15), (0, .class_ 16), (0, .nameAndType 17 12), (0, u "com/example/bare_octets/bareoctets/codec/WellFormedSequencesIsCommonThreeByteFormPinLaw"), (0, u "expected"), (0, .methodref 14 19), (0, .nameAndType 20 21), (0, u "inRange"), (0, u "(III)Z"), (2, u "law"), (0, u "(IIIII)Z")] 3

def k1m0 : Method := { name := "<init>", desc := "()V", sig := { parameters := [], returnType := none }, accessFlags := 1, code := none }
def k1c1 : Code := { maxStack := 3, maxLocals := 9, code := code, exceptionTable := #[], attributes := #[] }
def k1m1 : Method := { name := "law", desc := "(IIIII)Z", sig := { parameters := [.int, .int, .int, .int, .int], returnType := some .boolean }, accessFlags := 9, code := some k1c1 }
def k1c2 : Code := { maxStack := 2, maxLocals := 3, code := method_3_code, exceptionTable := #[], attributes := #[] }
def k1m2 : Method := { name := "inRange", desc := "(III)Z", sig := { parameters := [.int, .int, .int], returnType := some .boolean }, accessFlags := 10, code := some k1c2 }
def k1c3 : Code := { maxStack := 3, maxLocals := 5, code := method_4_code, exceptionTable := #[], attributes := #[] }
def k1m3 : Method := { name := "expected", desc := "(I)Z", sig := { parameters := [.int], returnType := some .boolean }, accessFlags := 10, code := some k1c3 }
/-- com/example/bare_octets/bareoctets/codec/WellFormedSequencesIsCommonThreeByteFormPinLaw -/
def k1 : Class := { plain "com/example/bare_octets/bareoctets/codec/WellFormedSequencesIsCommonThreeByteFormPinLaw" (some 0) with
  accessFlags := 49
  interfaces := #[]
  cf := some (fileOf pool1 14 #[] #[{ accessFlags := 1, nameIndex := 5, descriptorIndex := 6, attributes := #[] }, { accessFlags := 9, nameIndex := 24, descriptorIndex := 25, attributes := #[] }, { accessFlags := 10, nameIndex := 20, descriptorIndex := 21, attributes := #[] }, { accessFlags := 10, nameIndex := 17, descriptorIndex := 12, attributes := #[] }] 49 2 #[] #[])
  fields := #[]
  methods := #[k1m0, k1m1, k1m2, k1m3]
  instanceTypes := #[]
  staticTypes := #[]
  resolved := Array.replicate 29 none
  statics := none }

def pool2 : Array CpInfo := pool [(2, .class_ 4), (1, u "java/lang/Object"), (3, .class_ 10), (1, u "com/example/bare_octets/bareoctets/codec/WellFormedSequences"), (0, u "surrogateForms"), (0, u "Z"), (2, u "nulInTwoBytes"), (2, u "surrogatesPair"), (90, u "(I)Z"), (7, u "isCommonThreeByteForm"), (35, .integer 4039163904), (0, .integer 3766517760), (0, .integer 57504), (0, .integer 60832), (0, .integer 60928), (6, u "LITTLE_ENDIAN_LONGS"), (0, u "Ljava/lang/invoke/VarHandle;"), (7, u "BIG_ENDIAN_INTS"), (4, u "BIG_ENDIAN_CHARS"), (42, u "LONGEST"), (0, u "I"), (2, u "SURROGATE_LEAD"), (0, u "B"), (1, u "FIRST_SURROGATE_SECOND"), (1, u "FIRST_LOW_SURROGATE_SECOND"), (1, u "HIGH_BITS"), (0, u "J"), (0, u "LANE_HIGH_BITS")] 12

def k2c0 : Code := { maxStack := 2, maxLocals := 2, code := prog_20_method_28_code, exceptionTable := #[], attributes := #[] }
def k2m0 : Method := { name := "isCommonThreeByteForm", desc := "(I)Z", sig := { parameters := [.int], returnType := some .boolean }, accessFlags := 8, code := some k2c0 }
/-- com/example/bare_octets/bareoctets/codec/WellFormedSequences -/
def k2 : Class := { plain "com/example/bare_octets/bareoctets/codec/WellFormedSequences" (some 0) with
  accessFlags := 49
  interfaces := #[]
  cf := some (fileOf pool2 8 #[] #[{ accessFlags := 8, nameIndex := 117, descriptorIndex := 109, attributes := #[] }] 49 2 #[] #[{ accessFlags := 25, nameIndex := 221, descriptorIndex := 222, attributes := #[] }, { accessFlags := 26, nameIndex := 225, descriptorIndex := 226, attributes := #[] }, { accessFlags := 26, nameIndex := 228, descriptorIndex := 222, attributes := #[] }, { accessFlags := 26, nameIndex := 230, descriptorIndex := 222, attributes := #[] }, { accessFlags := 26, nameIndex := 164, descriptorIndex := 165, attributes := #[] }, { accessFlags := 26, nameIndex := 173, descriptorIndex := 165, attributes := #[] }, { accessFlags := 26, nameIndex := 178, descriptorIndex := 165, attributes := #[] }, { accessFlags := 26, nameIndex := 232, descriptorIndex := 233, attributes := #[] }, { accessFlags := 26, nameIndex := 234, descriptorIndex := 233, attributes := #[] }, { accessFlags := 18, nameIndex := 11, descriptorIndex := 12, attributes := #[] }, { accessFlags := 18, nameIndex := 15, descriptorIndex := 12, attributes := #[] }, { accessFlags := 18, nameIndex := 18, descriptorIndex := 12, attributes := #[] }])
  fields := #[{ name := "LONGEST", type := .int, accessFlags := 25, slot := 0, constantValue := 0 }, { name := "SURROGATE_LEAD", type := .byte, accessFlags := 26, slot := 1, constantValue := 0 }, { name := "FIRST_SURROGATE_SECOND", type := .int, accessFlags := 26, slot := 2, constantValue := 0 }, { name := "FIRST_LOW_SURROGATE_SECOND", type := .int, accessFlags := 26, slot := 3, constantValue := 0 }, { name := "LITTLE_ENDIAN_LONGS", type := (.object "java/lang/invoke/VarHandle"), accessFlags := 26, slot := 4, constantValue := 0 }, { name := "BIG_ENDIAN_INTS", type := (.object "java/lang/invoke/VarHandle"), accessFlags := 26, slot := 5, constantValue := 0 }, { name := "BIG_ENDIAN_CHARS", type := (.object "java/lang/invoke/VarHandle"), accessFlags := 26, slot := 6, constantValue := 0 }, { name := "HIGH_BITS", type := .long, accessFlags := 26, slot := 7, constantValue := 0 }, { name := "LANE_HIGH_BITS", type := .long, accessFlags := 26, slot := 8, constantValue := 0 }, { name := "surrogateForms", type := .boolean, accessFlags := 18, slot := 0, constantValue := 0 }, { name := "nulInTwoBytes", type := .boolean, accessFlags := 18, slot := 1, constantValue := 0 }, { name := "surrogatesPair", type := .boolean, accessFlags := 18, slot := 2, constantValue := 0 }]
  methods := #[k2m0]
  instanceTypes := #[.boolean, .boolean, .boolean]
  staticTypes := #[.int, .byte, .int, .int, (.object "java/lang/invoke/VarHandle"), (.object "java/lang/invoke/VarHandle"), (.object "java/lang/invoke/VarHandle"), .long, .long]
  resolved := Array.replicate 247 none
  statics := none }

def pool3 : Array CpInfo := pool [(1, u "java/lang/Cloneable"), (0, .class_ 1), (0, u "java/lang/Object"), (0, .class_ 3)] 3

/-- java/lang/Cloneable -/
def k3 : Class := { plain "java/lang/Cloneable" (some 0) with
  accessFlags := 1537
  interfaces := #[]
  cf := some (fileOf pool3 2 #[] #[] 1537 4 #[] #[])
  fields := #[]
  methods := #[]
  instanceTypes := #[]
  staticTypes := #[]
  resolved := Array.replicate 8 none
  statics := none }

def pool4 : Array CpInfo := pool [(1, u "java/io/Serializable"), (0, .class_ 1), (0, u "java/lang/Object"), (0, .class_ 3)] 3

/-- java/io/Serializable -/
def k4 : Class := { plain "java/io/Serializable" (some 0) with
  accessFlags := 1537
  interfaces := #[]
  cf := some (fileOf pool4 2 #[] #[] 1537 4 #[] #[])
  fields := #[]
  methods := #[]
  instanceTypes := #[]
  staticTypes := #[]
  resolved := Array.replicate 8 none
  statics := none }

/-- the primitive byte -/
def k5 : Class := { plain "byte" none with kind := .primitive 'B', accessFlags := 0x411 }
/-- [B -/
def k6 : Class := { plain "[B" (some 0) with kind := .array 5 .byte, interfaces := #[3, 4], accessFlags := 1041 }

/-- the primitive int -/
def k7 : Class := { plain "int" none with kind := .primitive 'I', accessFlags := 0x411 }
/-- [I -/
def k8 : Class := { plain "[I" (some 0) with kind := .array 7 .int, interfaces := #[3, 4], accessFlags := 1041 }

def heap : Heap := #[]
def classes : Array Class := #[k0, k1, k2, k3, k4, k5, k6, k7, k8]
def interned : List (Array UInt16 × Addr) := []
def slotsUsed : Nat := 0
def theMethod : MethodId := ⟨1, 1⟩
def args0 : Array Value := #[.int 5, .int 7, .int 5, .int 5, .int 5]
def aboutOver (below : List Frame) : State where
  vm := { classes := classes, interned := interned.toArray }
  heap := heap
  slotsUsed := slotsUsed
  threads := #[{ frames := .invoking theMethod args0 :: below }]
def below0 : List Frame := [.native { method := ⟨0, 0⟩, args := #[] }]
def about1 : State := aboutOver below0
def p0 : Program := .bare "" "" ""
def e0 : Env := launch0.env 0 0 0
theorem w_frames : about1.frames = Frame.invoking theMethod args0 :: below0 := rfl
set_option maxRecDepth 65536 in
theorem w_args : argsFit about1.vm theMethod args0 = true := by decide +kernel
set_option maxRecDepth 65536 in
theorem w_heap : heapFits about1 = true := by decide +kernel
set_option maxRecDepth 65536 in
theorem w_runnable : about1.curStatus? = some .runnable := by decide +kernel
set_option maxRecDepth 65536 in
theorem w_alone : about1.alone = true := by decide +kernel
set_option maxRecDepth 65536 in
theorem w_named : about1.methodNamed? x = some theMethod := by decide +kernel
set_option maxRecDepth 65536 in
theorem w_hears : about1.hears theMethod below0 = true := by decide +kernel
set_option maxRecDepth 65536 in
theorem w_ripe : about1.ripe theMethod args0 below0 = true := by decide +kernel
theorem w_running : about1.status = .running := rfl
set_option maxRecDepth 65536 in
theorem w_room : about1.hasRoom e0.platform room_1 = true :=
  launch0.hasRoom_least _ room_1 (by decide +kernel) (by decide +kernel) (by decide +kernel) (by decide +kernel) (by decide +kernel) (by decide +kernel)
theorem allAtoms_all (ts : List Jvm.Cond) (a : Array Jvm.Value) (st : Jvm.State) : (allAtoms ts).before a st = ts.all (fun c => c.before a st) := by
  induction ts with
  | nil => rfl
  | cons c t ih =>
    show (Jvm.Cond.and c (allAtoms t)).before a st = _
    rw [Jvm.Cond.before_and, ih, List.all_cons]
def words1 : List Jvm.Cond := Jvm.Cond.code x code maxLocals ret :: tables_1
/-- a 'code' word, met by the world's own term for the bytes: nothing is compared byte by byte -/
theorem code_word {y : MethodName} {bytes : ByteArray} {mx : Nat} {rt : Option FieldType} {a : Array Value} {s : State} {m : MethodId} {meth : Method} {c : Code} (h1 : s.methodNamed? y = some m) (h2 : s.vm.method? m = some meth) (h3 : meth.code = some c) (h4 : c.code = bytes)
    (h5 : (c.maxLocals == mx && c.exceptionTable.isEmpty && decide (c.maxStack ≤ mostOperands) && decide (meth.sig.returnType = rt) && !meth.locks && decide (parseMethodDescriptor y.desc = some meth.sig)) = true) : (Jvm.Cond.code y bytes mx rt).before a s = true := by
  simp only [Bool.and_eq_true, beq_iff_eq, Bool.not_eq_true', decide_eq_true_eq] at h5
  obtain ⟨⟨⟨⟨⟨g1, g2⟩, g3⟩, g4⟩, g5⟩, g6⟩ := h5
  simp [Cond.before, Cond.holds, Cond.value, h1, h2, h3, h4, g1, g2, g3, g4, g5, g6]
def isCode : Jvm.Cond → Bool
  | .code _ _ _ _ => true
  | _ => false
theorem all_split {L : List Jvm.Cond} {P : Jvm.Cond → Bool} (h1 : L.all (fun c => isCode c || P c) = true) (h2 : ∀ c ∈ L.filter isCode, P c = true) : L.all P = true := by
  refine List.all_eq_true.mpr fun c hc => ?_
  have h := List.all_eq_true.mp h1 c hc
  rcases Bool.eq_false_or_eq_true (isCode c) with hi | hi
  · exact h2 c (List.mem_filter.mpr ⟨hc, hi⟩)
  · simpa [hi] using h
set_option maxRecDepth 65536 in
theorem w_c0 : (Jvm.Cond.code x code maxLocals ret).before args0 about1 = true := code_word (m := ⟨1, 1⟩) (meth := k1m1) (c := k1c1) (by decide +kernel) rfl rfl rfl (by decide +kernel)
set_option maxRecDepth 65536 in
theorem w_c1 : (Jvm.Cond.code ({ cls := "com/example/bare_octets/bareoctets/codec/WellFormedSequences", name := "isCommonThreeByteForm", desc := "(I)Z" } : Jvm.MethodName) prog_20_method_28_code (2 : Nat) (Option.some Jvm.ClassFile.FieldType.boolean)).before args0 about1 = true := code_word (m := ⟨2, 0⟩) (meth := k2m0) (c := k2c0) (by decide +kernel) rfl rfl rfl (by decide +kernel)
set_option maxRecDepth 65536 in
theorem w_c2 : (Jvm.Cond.code ({ cls := "com/example/bare_octets/bareoctets/codec/WellFormedSequencesIsCommonThreeByteFormPinLaw", name := "expected", desc := "(I)Z" } : Jvm.MethodName) method_4_code (5 : Nat) (Option.some Jvm.ClassFile.FieldType.boolean)).before args0 about1 = true := code_word (m := ⟨1, 3⟩) (meth := k1m3) (c := k1c3) (by decide +kernel) rfl rfl rfl (by decide +kernel)
set_option maxRecDepth 65536 in
theorem w_c3 : (Jvm.Cond.code ({ cls := "com/example/bare_octets/bareoctets/codec/WellFormedSequencesIsCommonThreeByteFormPinLaw", name := "inRange", desc := "(III)Z" } : Jvm.MethodName) method_3_code (3 : Nat) (Option.some Jvm.ClassFile.FieldType.boolean)).before args0 about1 = true := code_word (m := ⟨1, 2⟩) (meth := k1m2) (c := k1c2) (by decide +kernel) rfl rfl rfl (by decide +kernel)
def codes1 : List Jvm.Cond := [Jvm.Cond.code x code maxLocals ret, Jvm.Cond.code ({ cls := "com/example/bare_octets/bareoctets/codec/WellFormedSequences", name := "isCommonThreeByteForm", desc := "(I)Z" } : Jvm.MethodName) prog_20_method_28_code (2 : Nat) (Option.some Jvm.ClassFile.FieldType.boolean), Jvm.Cond.code ({ cls := "com/example/bare_octets/bareoctets/codec/WellFormedSequencesIsCommonThreeByteFormPinLaw", name := "expected", desc := "(I)Z" } : Jvm.MethodName) method_4_code (5 : Nat) (Option.some Jvm.ClassFile.FieldType.boolean), Jvm.Cond.code ({ cls := "com/example/bare_octets/bareoctets/codec/WellFormedSequencesIsCommonThreeByteFormPinLaw", name := "inRange", desc := "(III)Z" } : Jvm.MethodName) method_3_code (3 : Nat) (Option.some Jvm.ClassFile.FieldType.boolean)]
set_option maxRecDepth 65536 in
theorem codes_eq : words1.filter isCode = codes1 := rfl
theorem w_codes : ∀ c ∈ words1.filter isCode, c.before args0 about1 = true := by
  rw [codes_eq]
  intro c hc
  simp only [codes1, List.mem_cons, List.not_mem_nil, or_false] at hc
  rcases hc with rfl | rfl | rfl | rfl
  · exact w_c0
  · exact w_c1
  · exact w_c2
  · exact w_c3
set_option maxRecDepth 65536 in
theorem w_t1 : words1.all (fun c => isCode c || c.before args0 about1) = true := by decide +kernel
theorem w_tables : (allAtoms (Jvm.Cond.code x code maxLocals ret :: tables_1)).before args0 about1 = true := by
  rw [allAtoms_all]
  show words1.all (fun c => c.before args0 about1) = true
  refine all_split ?_ w_codes
  rw [w_t1]
set_option maxRecDepth 65536 in
theorem w_case : (Jvm.Cond.and given_1 narrow_1).before args0 about1 = true := by decide +kernel
theorem w_applies : (headSpec (Jvm.Cond.code x code maxLocals ret :: tables_1) room_1).applies x e0.platform about1 = true :=
  (Spec.applies_iff w_frames).mpr ⟨w_running, w_runnable, w_alone, w_named, w_hears, w_ripe, w_room, w_tables⟩
theorem atStart : AtStart classFile x code maxLocals ret World_1 tables_1 room_1 Calls_1 rest_1 Pre_1 launch0 p0 e0 about1 theMethod args0 below0 :=
  ⟨lists_1, trivial, launch0.admits_env _ _ _, launch0.least_env, fairChoices_fair.cas, fairChoices_fair.clock, w_frames, w_args, w_heap, w_applies, trivial, trivial, w_case⟩
end start1
theorem witness_1 : WitnessClaimed_1 := ⟨start1.p0, start1.e0, start1.about1, start1.theMethod, start1.args0, start1.below0, start1.atStart⟩
end Jvm.Pilot.@@N@@
